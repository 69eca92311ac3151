import JvmDerived
import JvmDerived.Pilot.@@N@@Statement
import JvmDerived.Pilot.@@N@@Code
set_option linter.unusedVariables false
set_option linter.unusedSimpArgs false
namespace Jvm.Pilot.@@N@@
open Jvm Jvm.ClassFile Sem Op Lib Jvm.Free Jvm.Stand Jvm.LawKit Jvm.RoadKit Bundle Jvm.Pilot.@@N@@.Jvm.D
section OwnKit
variable {p : Program} {l : Launch} {e : Env} {R : Room} {s : State} {m : MethodId} {args : Array Value} {below : List Frame} {meth : Method} {c : Code} {T : State} {locs : List Loc} {cells slots : Nat} {Z : State} {a0 : Array Value} {h : Heap} {W : State → Prop} {pc q : Nat} {Ls : Array Slot} {St : List Value}
/-- the run comes from S to an end of which W holds -/
def Go (p : Program) (e : Env) (below : List Frame) (W : State → Prop) (S : State) : Prop := ∃ U, Steps p.tables e below S U ∧ W U
theorem Go.on {S S' : State} (k : ∀ t, Steps p.tables e below S' t → Steps p.tables e below S t) (h : Go p e below W S') : Go p e below W S := by
  obtain ⟨U, h1, h2⟩ := h; exact ⟨U, k U h1, h2⟩
/-- what a body must leave -/
def Wd (s : State) (below : List Frame) (Q : Option Value → Heap → List Loc → Prop) (k n : Nat) (U : State) : Prop := U.status = .running ∧ ∃ v, Ended U below (.returned v) ∧ ∃ L, Q v U.heap L ∧ FrameEnd s (.returned v) U L k n
/-- a body's contract: from the heap h0 and the arguments as' it returns as Q says -/
def Con (l : Launch) (Z : State) (h0 : Heap) (y : MethodName) (bytes : ByteArray) (ml : Nat) (ret : Option FieldType) (rm : Room) (as' : Array Value) (Q : Option Value → Heap → List Loc → Prop) : Prop :=
  ∀ ws : List Jvm.Cond, MetFree l y (head1 (Jvm.Cond.code y bytes ml ret :: ws) rm) (fun a U => a = as' ∧ Z.Warmed39 U.vm ∧ U.heap = h0) (fun _ _ _ _ _ => True) (fun _ U o U' => ∃ v L, o = .returned v ∧ Q v U'.heap L ∧ FrameEnd U o U' L rm.cells rm.slots)
/-- it returns V and touches nothing -/
def Pur (V : Option Value) (h0 : Heap) (v : Option Value) (h : Heap) (L : List Loc) : Prop := v = V ∧ L = [] ∧ h = h0
theorem con_of {h0 : Heap} {y : MethodName} {bytes : ByteArray} {ml : Nat} {ret : Option FieldType} {rm : Room} {as' : Array Value} {Q : Option Value → Heap → List Loc → Prop} (hpl : plainFor y = true) {Ls : Array Slot}
    (hef : ∀ m : MethodId, entryFrame m as' ml = mkF m 0 Ls [])
    (body : ∀ (p : Program) (e : Env) (s : State) (m : MethodId) (below : List Frame) (meth : Method) (c : Code) (s₁ : State), p.tables.exec = Jvm.exec → Z.Warmed39 s.vm → c.code = bytes → c.maxLocals = ml → meth.sig.returnType = ret → meth.locks = false → meth.name = y.name → s.vm.findClass y.cls = some m.cls →
      Stand p l e rm s m as' below meth c s₁ [] 0 0 → s₁.heap = h0 → Go p e below (Wd s below Q rm.cells rm.slots) (s₁.setTop (mkF m 0 Ls []))) : Con l Z h0 y bytes ml ret rm as' Q := by
  intro ws
  refine MetFree.of_bodySF hpl hisR ?_
  intro p e s m args below meth c s₁ Bd hml0 hP hK
  obtain ⟨rfl, hZ, hh⟩ := hP
  obtain ⟨U, h1, h2, v, h3, L, h4, h5⟩ := body p e s m below meth c s₁ Bd.exec hZ Bd.bytes hml0 Bd.returns Bd.notSynchronized (name_of_methodNamed Bd.named Bd.method).1 (findClass_of_methodNamed Bd.named) (Stand.of_body Bd) (by rw [← hh, Bd.state]; rfl)
  rw [← hef] at h1
  exact ⟨U, _, h1, h2, h3, v, L, rfl, h4, h5⟩
theorem g_leave (X : Stand p l e R s m args below meth c T locs cells slots) {v : Option Value} (hv : meth.sig.returnType = none → v = none) (hlk : meth.locks = false) {S : State} {Q : Option Value → Heap → List Loc → Prop} {k n : Nat}
    (st : ∀ fs, (∀ (f : JFrame) (acts : List Action), f.method = m → f.locked = none → f.entered = [] → (doReturn e (T.setTop f) acts v).1 = T.setFrames fs) → Steps p.tables e below S (T.setFrames fs))
    (hQ : Q v T.heap locs) (hk : cells ≤ k) (hn : slots ≤ n) : Go p e below (Wd s below Q k n) S := by
  obtain ⟨fs, hr, hrun, hended, hW, hsame⟩ := X.leave (v := v) hv hlk
  exact ⟨_, st fs hr, hrun, v, hended, locs, hQ, ⟨_, rfl⟩, hW, hsame.mono hk hn⟩
section Leaves
variable {Q : Option Value → Heap → List Loc → Prop} {k n : Nat}
theorem g_retZ (X : Stand p l e R s m args below meth c T locs cells slots) (hx : p.tables.exec = Jvm.exec) {t : FieldType} {z : Int32} (hret : meth.sig.returnType = some t) (hlk : meth.locks = false) (hd : decode c.code pc = .ok (.ireturn, 1)) (ht : t = .int ∨ t = .boolean ∨ t = .byte ∨ t = .char ∨ t = .short) (hn' : narrow t (.int z) = .int z)
    (hQ : Q (some (.int z)) T.heap locs) (hk : cells ≤ k) (hn : slots ≤ n) : Go p e below (Wd s below Q k n) (T.setTop (mkF m pc Ls (.int z :: St))) :=
  g_leave X (fun h => by rw [hret] at h; cases h) hlk (fun fs hr => retOut X hx hret hn' (Or.inl ⟨rfl, ht, z, rfl⟩) hd hr) hQ hk hn
theorem g_retI (X : Stand p l e R s m args below meth c T locs cells slots) (hx : p.tables.exec = Jvm.exec) {z : Int32} (hret : meth.sig.returnType = some .int) (hlk : meth.locks = false) (hd : decode c.code pc = .ok (.ireturn, 1))
    (hQ : Q (some (.int z)) T.heap locs) (hk : cells ≤ k) (hn : slots ≤ n) : Go p e below (Wd s below Q k n) (T.setTop (mkF m pc Ls (.int z :: St))) :=
  g_retZ X hx hret hlk hd (Or.inl rfl) rfl hQ hk hn
theorem g_retB (X : Stand p l e R s m args below meth c T locs cells slots) (hx : p.tables.exec = Jvm.exec) {z : Int32} (hret : meth.sig.returnType = some .boolean) (hlk : meth.locks = false) (hd : decode c.code pc = .ok (.ireturn, 1)) (hz : z = 0 ∨ z = 1)
    (hQ : Q (some (.int z)) T.heap locs) (hk : cells ≤ k) (hn : slots ≤ n) : Go p e below (Wd s below Q k n) (T.setTop (mkF m pc Ls (.int z :: St))) :=
  g_retZ X hx hret hlk hd (Or.inr (Or.inl rfl)) (by rcases hz with rfl | rfl <;> rfl) hQ hk hn
theorem g_retJ (X : Stand p l e R s m args below meth c T locs cells slots) (hx : p.tables.exec = Jvm.exec) {z : Int64} (hret : meth.sig.returnType = some .long) (hlk : meth.locks = false) (hd : decode c.code pc = .ok (.lreturn, 1))
    (hQ : Q (some (.long z)) T.heap locs) (hk : cells ≤ k) (hn : slots ≤ n) : Go p e below (Wd s below Q k n) (T.setTop (mkF m pc Ls (.long z :: St))) :=
  g_leave X (fun h => by rw [hret] at h; cases h) hlk (fun fs hr => retOut X hx hret rfl (Or.inr (Or.inl ⟨rfl, rfl, z, rfl⟩)) hd hr) hQ hk hn
theorem g_retA (X : Stand p l e R s m args below meth c T locs cells slots) (hx : p.tables.exec = Jvm.exec) {t : FieldType} {w : Value} (hret : meth.sig.returnType = some t) (hlk : meth.locks = false) (hd : decode c.code pc = .ok (.areturn, 1)) (ht : t.isReference = true) (hw : w.isRef = true) (hn' : narrow t w = w)
    (hQ : Q (some w) T.heap locs) (hk : cells ≤ k) (hn : slots ≤ n) : Go p e below (Wd s below Q k n) (T.setTop (mkF m pc Ls (w :: St))) :=
  g_leave X (fun h => by rw [hret] at h; cases h) hlk (fun fs hr => retOut X hx hret hn' (Or.inr (Or.inr (Or.inr (Or.inr ⟨rfl, ht, hw⟩)))) hd hr) hQ hk hn
theorem g_retV (X : Stand p l e R s m args below meth c T locs cells slots) (hx : p.tables.exec = Jvm.exec) (hret : meth.sig.returnType = none) (hlk : meth.locks = false) (hd : decode c.code pc = .ok (.return_, 1))
    (hQ : Q none T.heap locs) (hk : cells ≤ k) (hn : slots ≤ n) : Go p e below (Wd s below Q k n) (T.setTop (mkF m pc Ls [])) :=
  g_leave X (fun _ => rfl) hlk (fun fs hr => X.returnOut hx hret hd hr) hQ hk hn
end Leaves
section Plain
theorem g_iload (X : Stand p l e R s m args below meth c T locs cells slots) (hx : p.tables.exec = Jvm.exec) {k : Nat} {v : Int32} (hd : decode c.code pc = .ok (.iload k, 2)) (hl : Ls[k]? = some (.val (.int v))) (hq : pc + 2 = q) (G : Go p e below W (T.setTop (mkF m q Ls (.int v :: St)))) : Go p e below W (T.setTop (mkF m pc Ls St)) := by
  subst hq; exact G.on fun t k' => XS.iload X.here hx rfl hd hl k'
theorem g_lload (X : Stand p l e R s m args below meth c T locs cells slots) (hx : p.tables.exec = Jvm.exec) {k : Nat} {v : Int64} (hd : decode c.code pc = .ok (.lload k, 2)) (hl : Ls[k]? = some (.val (.long v))) (hq : pc + 2 = q) (G : Go p e below W (T.setTop (mkF m q Ls (.long v :: St)))) : Go p e below W (T.setTop (mkF m pc Ls St)) := by
  subst hq; exact G.on fun t k' => XS.lload X.here hx rfl hd hl k'
theorem g_aload (X : Stand p l e R s m args below meth c T locs cells slots) (hx : p.tables.exec = Jvm.exec) {k : Nat} {v : Value} (hd : decode c.code pc = .ok (.aload k, 2)) (hl : Ls[k]? = some (.val v)) (hv : v.isRef = true) (hq : pc + 2 = q) (G : Go p e below W (T.setTop (mkF m q Ls (v :: St)))) : Go p e below W (T.setTop (mkF m pc Ls St)) := by
  subst hq; exact G.on fun t k' => XS.aload X.here hx rfl hd hl hv k'
theorem g_istore (X : Stand p l e R s m args below meth c T locs cells slots) (hx : p.tables.exec = Jvm.exec) {k : Nat} {x : Int32} {L' : Array Slot} (hd : decode c.code pc = .ok (.istore k, 2)) (hl : storeLocals Ls k (.int x) = some L') (hq : pc + 2 = q) (G : Go p e below W (T.setTop (mkF m q L' St))) : Go p e below W (T.setTop (mkF m pc Ls (.int x :: St))) := by
  subst hq; exact G.on fun t k' => XS.istore X.here hx rfl hd rfl hl k'
theorem g_lstore (X : Stand p l e R s m args below meth c T locs cells slots) (hx : p.tables.exec = Jvm.exec) {k : Nat} {x : Int64} {L' : Array Slot} (hd : decode c.code pc = .ok (.lstore k, 2)) (hl : storeLocals Ls k (.long x) = some L') (hq : pc + 2 = q) (G : Go p e below W (T.setTop (mkF m q L' St))) : Go p e below W (T.setTop (mkF m pc Ls (.long x :: St))) := by
  subst hq; exact G.on fun t k' => XS.lstore X.here hx rfl hd rfl hl k'
theorem g_astore (X : Stand p l e R s m args below meth c T locs cells slots) (hx : p.tables.exec = Jvm.exec) {k : Nat} {x : Value} {L' : Array Slot} (hd : decode c.code pc = .ok (.astore k, 2)) (hv : x.isRef = true) (hl : storeLocals Ls k x = some L') (hq : pc + 2 = q) (G : Go p e below W (T.setTop (mkF m q L' St))) : Go p e below W (T.setTop (mkF m pc Ls (x :: St))) := by
  subst hq; exact G.on fun t k' => XS.astore X.here hx rfl hd rfl hv hl k'
theorem g_iloadN (X : Stand p l e R s m args below meth c T locs cells slots) (hx : p.tables.exec = Jvm.exec) {k : Fin 4} {v : Int32} (hd : decode c.code pc = .ok (.iload_n k, 1)) (hl : Ls[k.val]? = some (.val (.int v))) (hq : pc + 1 = q) (G : Go p e below W (T.setTop (mkF m q Ls (.int v :: St)))) : Go p e below W (T.setTop (mkF m pc Ls St)) := by
  subst hq; exact G.on fun t k' => XS.iloadN X.here hx rfl hd hl k'
theorem g_lloadN (X : Stand p l e R s m args below meth c T locs cells slots) (hx : p.tables.exec = Jvm.exec) {k : Fin 4} {v : Int64} (hd : decode c.code pc = .ok (.lload_n k, 1)) (hl : Ls[k.val]? = some (.val (.long v))) (hq : pc + 1 = q) (G : Go p e below W (T.setTop (mkF m q Ls (.long v :: St)))) : Go p e below W (T.setTop (mkF m pc Ls St)) := by
  subst hq; exact G.on fun t k' => XS.lloadN X.here hx rfl hd hl k'
theorem g_aloadN (X : Stand p l e R s m args below meth c T locs cells slots) (hx : p.tables.exec = Jvm.exec) {k : Fin 4} {v : Value} (hd : decode c.code pc = .ok (.aload_n k, 1)) (hl : Ls[k.val]? = some (.val v)) (hv : v.isRef = true) (hq : pc + 1 = q) (G : Go p e below W (T.setTop (mkF m q Ls (v :: St)))) : Go p e below W (T.setTop (mkF m pc Ls St)) := by
  subst hq; exact G.on fun t k' => XS.aloadN X.here hx rfl hd hl hv k'
theorem g_istoreN (X : Stand p l e R s m args below meth c T locs cells slots) (hx : p.tables.exec = Jvm.exec) {k : Fin 4} {x : Int32} {L' : Array Slot} (hd : decode c.code pc = .ok (.istore_n k, 1)) (hl : storeLocals Ls k.val (.int x) = some L') (hq : pc + 1 = q) (G : Go p e below W (T.setTop (mkF m q L' St))) : Go p e below W (T.setTop (mkF m pc Ls (.int x :: St))) := by
  subst hq; exact G.on fun t k' => XS.istoreN X.here hx rfl hd rfl hl k'
theorem g_lstoreN (X : Stand p l e R s m args below meth c T locs cells slots) (hx : p.tables.exec = Jvm.exec) {k : Fin 4} {x : Int64} {L' : Array Slot} (hd : decode c.code pc = .ok (.lstore_n k, 1)) (hl : storeLocals Ls k.val (.long x) = some L') (hq : pc + 1 = q) (G : Go p e below W (T.setTop (mkF m q L' St))) : Go p e below W (T.setTop (mkF m pc Ls (.long x :: St))) := by
  subst hq; exact G.on fun t k' => XS.lstoreN X.here hx rfl hd rfl hl k'
theorem g_astoreN (X : Stand p l e R s m args below meth c T locs cells slots) (hx : p.tables.exec = Jvm.exec) {k : Fin 4} {x : Value} {L' : Array Slot} (hd : decode c.code pc = .ok (.astore_n k, 1)) (hv : x.isRef = true) (hl : storeLocals Ls k.val x = some L') (hq : pc + 1 = q) (G : Go p e below W (T.setTop (mkF m q L' St))) : Go p e below W (T.setTop (mkF m pc Ls (x :: St))) := by
  subst hq; exact G.on fun t k' => XS.astoreN X.here hx rfl hd rfl hv hl k'
theorem g_iconst (X : Stand p l e R s m args below meth c T locs cells slots) (hx : p.tables.exec = Jvm.exec) {i : Int} {n : Int32} (hd : decode c.code pc = .ok (.iconst i, 1)) (hn : Int32.ofInt i = n) (hq : pc + 1 = q) (G : Go p e below W (T.setTop (mkF m q Ls (.int n :: St)))) : Go p e below W (T.setTop (mkF m pc Ls St)) := by
  subst hq; subst hn; exact G.on fun t k' => XS.iconst X.here hx rfl hd k'
theorem g_bipush (X : Stand p l e R s m args below meth c T locs cells slots) (hx : p.tables.exec = Jvm.exec) {i : Int} {n : Int32} (hd : decode c.code pc = .ok (.bipush i, 2)) (hn : (Int8.ofInt i).toInt32 = n) (hq : pc + 2 = q) (G : Go p e below W (T.setTop (mkF m q Ls (.int n :: St)))) : Go p e below W (T.setTop (mkF m pc Ls St)) := by
  subst hq; subst hn; exact G.on fun t k' => XS.bipush X.here hx rfl hd k'
theorem g_sipush (X : Stand p l e R s m args below meth c T locs cells slots) (hx : p.tables.exec = Jvm.exec) {i : Int} {n : Int32} (hd : decode c.code pc = .ok (.sipush i, 3)) (hn : (Int16.ofInt i).toInt32 = n) (hq : pc + 3 = q) (G : Go p e below W (T.setTop (mkF m q Ls (.int n :: St)))) : Go p e below W (T.setTop (mkF m pc Ls St)) := by
  subst hq; subst hn; exact G.on fun t k' => XS.sipush X.here hx rfl hd k'
theorem g_lconst (X : Stand p l e R s m args below meth c T locs cells slots) (hx : p.tables.exec = Jvm.exec) {i : Fin 2} {n : Int64} (hd : decode c.code pc = .ok (.lconst i, 1)) (hn : Int64.ofNat i = n) (hq : pc + 1 = q) (G : Go p e below W (T.setTop (mkF m q Ls (.long n :: St)))) : Go p e below W (T.setTop (mkF m pc Ls St)) := by
  subst hq; subst hn; exact G.on fun t k' => XS.lconst X.here hx rfl hd k'
theorem g_aconst_null (X : Stand p l e R s m args below meth c T locs cells slots) (hx : p.tables.exec = Jvm.exec)  (hd : decode c.code pc = .ok (.aconst_null, 1)) (hq : pc + 1 = q) (G : Go p e below W (T.setTop (mkF m q Ls (.null :: St)))) : Go p e below W (T.setTop (mkF m pc Ls St)) := by
  subst hq; exact G.on fun t k' => XS.aconstNull X.here hx rfl hd k'
theorem g_iadd (X : Stand p l e R s m args below meth c T locs cells slots) (hx : p.tables.exec = Jvm.exec) {x y z : Int32} (hd : decode c.code pc = .ok (.iadd, 1)) (hz : x + y = z) (hq : pc + 1 = q) (G : Go p e below W (T.setTop (mkF m q Ls (.int z :: St)))) : Go p e below W (T.setTop (mkF m pc Ls (.int y :: .int x :: St))) := by
  subst hq; subst hz; exact G.on fun t k' => XS.iadd X.here hx rfl hd rfl k'
theorem g_isub (X : Stand p l e R s m args below meth c T locs cells slots) (hx : p.tables.exec = Jvm.exec) {x y z : Int32} (hd : decode c.code pc = .ok (.isub, 1)) (hz : x - y = z) (hq : pc + 1 = q) (G : Go p e below W (T.setTop (mkF m q Ls (.int z :: St)))) : Go p e below W (T.setTop (mkF m pc Ls (.int y :: .int x :: St))) := by
  subst hq; subst hz; exact G.on fun t k' => XS.isub X.here hx rfl hd rfl k'
theorem g_imul (X : Stand p l e R s m args below meth c T locs cells slots) (hx : p.tables.exec = Jvm.exec) {x y z : Int32} (hd : decode c.code pc = .ok (.imul, 1)) (hz : x * y = z) (hq : pc + 1 = q) (G : Go p e below W (T.setTop (mkF m q Ls (.int z :: St)))) : Go p e below W (T.setTop (mkF m pc Ls (.int y :: .int x :: St))) := by
  subst hq; subst hz; exact G.on fun t k' => XS.imul X.here hx rfl hd rfl k'
theorem g_iand (X : Stand p l e R s m args below meth c T locs cells slots) (hx : p.tables.exec = Jvm.exec) {x y z : Int32} (hd : decode c.code pc = .ok (.iand, 1)) (hz : x &&& y = z) (hq : pc + 1 = q) (G : Go p e below W (T.setTop (mkF m q Ls (.int z :: St)))) : Go p e below W (T.setTop (mkF m pc Ls (.int y :: .int x :: St))) := by
  subst hq; subst hz; exact G.on fun t k' => XS.iand X.here hx rfl hd rfl k'
theorem g_ior (X : Stand p l e R s m args below meth c T locs cells slots) (hx : p.tables.exec = Jvm.exec) {x y z : Int32} (hd : decode c.code pc = .ok (.ior, 1)) (hz : x ||| y = z) (hq : pc + 1 = q) (G : Go p e below W (T.setTop (mkF m q Ls (.int z :: St)))) : Go p e below W (T.setTop (mkF m pc Ls (.int y :: .int x :: St))) := by
  subst hq; subst hz; exact G.on fun t k' => XS.ior X.here hx rfl hd rfl k'
theorem g_ixor (X : Stand p l e R s m args below meth c T locs cells slots) (hx : p.tables.exec = Jvm.exec) {x y z : Int32} (hd : decode c.code pc = .ok (.ixor, 1)) (hz : x ^^^ y = z) (hq : pc + 1 = q) (G : Go p e below W (T.setTop (mkF m q Ls (.int z :: St)))) : Go p e below W (T.setTop (mkF m pc Ls (.int y :: .int x :: St))) := by
  subst hq; subst hz; exact G.on fun t k' => XS.ixor X.here hx rfl hd rfl k'
theorem g_ishl (X : Stand p l e R s m args below meth c T locs cells slots) (hx : p.tables.exec = Jvm.exec) {x y z : Int32} (hd : decode c.code pc = .ok (.ishl, 1)) (hz : x <<< (y &&& 31) = z) (hq : pc + 1 = q) (G : Go p e below W (T.setTop (mkF m q Ls (.int z :: St)))) : Go p e below W (T.setTop (mkF m pc Ls (.int y :: .int x :: St))) := by
  subst hq; subst hz; exact G.on fun t k' => XS.ishl X.here hx rfl hd rfl k'
theorem g_ishr (X : Stand p l e R s m args below meth c T locs cells slots) (hx : p.tables.exec = Jvm.exec) {x y z : Int32} (hd : decode c.code pc = .ok (.ishr, 1)) (hz : x >>> (y &&& 31) = z) (hq : pc + 1 = q) (G : Go p e below W (T.setTop (mkF m q Ls (.int z :: St)))) : Go p e below W (T.setTop (mkF m pc Ls (.int y :: .int x :: St))) := by
  subst hq; subst hz; exact G.on fun t k' => XS.ishr X.here hx rfl hd rfl k'
theorem g_iushr (X : Stand p l e R s m args below meth c T locs cells slots) (hx : p.tables.exec = Jvm.exec) {x y z : Int32} (hd : decode c.code pc = .ok (.iushr, 1)) (hz : (x.toUInt32 >>> (y &&& 31).toUInt32).toInt32 = z) (hq : pc + 1 = q) (G : Go p e below W (T.setTop (mkF m q Ls (.int z :: St)))) : Go p e below W (T.setTop (mkF m pc Ls (.int y :: .int x :: St))) := by
  subst hq; subst hz; exact G.on fun t k' => XS.iushr X.here hx rfl hd rfl k'
theorem g_irem (X : Stand p l e R s m args below meth c T locs cells slots) (hx : p.tables.exec = Jvm.exec) {x y z : Int32} (hd : decode c.code pc = .ok (.irem, 1)) (hy : y ≠ 0) (hz : x % y = z) (hq : pc + 1 = q) (G : Go p e below W (T.setTop (mkF m q Ls (.int z :: St)))) : Go p e below W (T.setTop (mkF m pc Ls (.int y :: .int x :: St))) := by
  subst hq; subst hz; exact G.on fun t k' => iremM X hx rfl hd rfl hy k'
theorem g_ladd (X : Stand p l e R s m args below meth c T locs cells slots) (hx : p.tables.exec = Jvm.exec) {x y z : Int64} (hd : decode c.code pc = .ok (.ladd, 1)) (hz : x + y = z) (hq : pc + 1 = q) (G : Go p e below W (T.setTop (mkF m q Ls (.long z :: St)))) : Go p e below W (T.setTop (mkF m pc Ls (.long y :: .long x :: St))) := by
  subst hq; subst hz; exact G.on fun t k' => XS.ladd X.here hx rfl hd rfl k'
theorem g_lsub (X : Stand p l e R s m args below meth c T locs cells slots) (hx : p.tables.exec = Jvm.exec) {x y z : Int64} (hd : decode c.code pc = .ok (.lsub, 1)) (hz : x - y = z) (hq : pc + 1 = q) (G : Go p e below W (T.setTop (mkF m q Ls (.long z :: St)))) : Go p e below W (T.setTop (mkF m pc Ls (.long y :: .long x :: St))) := by
  subst hq; subst hz; exact G.on fun t k' => XS.lsub X.here hx rfl hd rfl k'
theorem g_land (X : Stand p l e R s m args below meth c T locs cells slots) (hx : p.tables.exec = Jvm.exec) {x y z : Int64} (hd : decode c.code pc = .ok (.land, 1)) (hz : x &&& y = z) (hq : pc + 1 = q) (G : Go p e below W (T.setTop (mkF m q Ls (.long z :: St)))) : Go p e below W (T.setTop (mkF m pc Ls (.long y :: .long x :: St))) := by
  subst hq; subst hz; exact G.on fun t k' => XS.land X.here hx rfl hd rfl k'
theorem g_lor (X : Stand p l e R s m args below meth c T locs cells slots) (hx : p.tables.exec = Jvm.exec) {x y z : Int64} (hd : decode c.code pc = .ok (.lor, 1)) (hz : x ||| y = z) (hq : pc + 1 = q) (G : Go p e below W (T.setTop (mkF m q Ls (.long z :: St)))) : Go p e below W (T.setTop (mkF m pc Ls (.long y :: .long x :: St))) := by
  subst hq; subst hz; exact G.on fun t k' => XS.lor X.here hx rfl hd rfl k'
theorem g_lxor (X : Stand p l e R s m args below meth c T locs cells slots) (hx : p.tables.exec = Jvm.exec) {x y z : Int64} (hd : decode c.code pc = .ok (.lxor, 1)) (hz : x ^^^ y = z) (hq : pc + 1 = q) (G : Go p e below W (T.setTop (mkF m q Ls (.long z :: St)))) : Go p e below W (T.setTop (mkF m pc Ls (.long y :: .long x :: St))) := by
  subst hq; subst hz; exact G.on fun t k' => XS.lxor X.here hx rfl hd rfl k'
theorem g_lshl (X : Stand p l e R s m args below meth c T locs cells slots) (hx : p.tables.exec = Jvm.exec) {x z : Int64} {y : Int32} (hd : decode c.code pc = .ok (.lshl, 1)) (hz : x <<< (y &&& 0x3f).toInt64 = z) (hq : pc + 1 = q) (G : Go p e below W (T.setTop (mkF m q Ls (.long z :: St)))) : Go p e below W (T.setTop (mkF m pc Ls (.int y :: .long x :: St))) := by
  subst hq; subst hz; exact G.on fun t k' => XS.lshl X.here hx rfl hd rfl k'
theorem g_lshr (X : Stand p l e R s m args below meth c T locs cells slots) (hx : p.tables.exec = Jvm.exec) {x z : Int64} {y : Int32} (hd : decode c.code pc = .ok (.lshr, 1)) (hz : x >>> (y &&& 0x3f).toInt64 = z) (hq : pc + 1 = q) (G : Go p e below W (T.setTop (mkF m q Ls (.long z :: St)))) : Go p e below W (T.setTop (mkF m pc Ls (.int y :: .long x :: St))) := by
  subst hq; subst hz; exact G.on fun t k' => XS.lshr X.here hx rfl hd rfl k'
theorem g_lushr (X : Stand p l e R s m args below meth c T locs cells slots) (hx : p.tables.exec = Jvm.exec) {x z : Int64} {y : Int32} (hd : decode c.code pc = .ok (.lushr, 1)) (hz : (x.toUInt64 >>> (y &&& 0x3f).toInt64.toUInt64).toInt64 = z) (hq : pc + 1 = q) (G : Go p e below W (T.setTop (mkF m q Ls (.long z :: St)))) : Go p e below W (T.setTop (mkF m pc Ls (.int y :: .long x :: St))) := by
  subst hq; subst hz; exact G.on fun t k' => XS.lushr X.here hx rfl hd rfl k'
theorem g_lcmp (X : Stand p l e R s m args below meth c T locs cells slots) (hx : p.tables.exec = Jvm.exec) {x y : Int64} {z : Int32} (hd : decode c.code pc = .ok (.lcmp, 1)) (hz : lcmpW x y = z) (hq : pc + 1 = q) (G : Go p e below W (T.setTop (mkF m q Ls (.int z :: St)))) : Go p e below W (T.setTop (mkF m pc Ls (.long y :: .long x :: St))) := by
  subst hq; subst hz; exact G.on fun t k' => XS.lcmp X.here hx rfl hd rfl k'
theorem g_i2l (X : Stand p l e R s m args below meth c T locs cells slots) (hx : p.tables.exec = Jvm.exec) {x : Int32} {z : Int64} (hd : decode c.code pc = .ok (.i2l, 1)) (hz : x.toInt64 = z) (hq : pc + 1 = q) (G : Go p e below W (T.setTop (mkF m q Ls (.long z :: St)))) : Go p e below W (T.setTop (mkF m pc Ls (.int x :: St))) := by
  subst hq; subst hz; exact G.on fun t k' => XS.i2l X.here hx rfl hd rfl k'
theorem g_l2i (X : Stand p l e R s m args below meth c T locs cells slots) (hx : p.tables.exec = Jvm.exec) {x : Int64} {z : Int32} (hd : decode c.code pc = .ok (.l2i, 1)) (hz : x.toInt32 = z) (hq : pc + 1 = q) (G : Go p e below W (T.setTop (mkF m q Ls (.int z :: St)))) : Go p e below W (T.setTop (mkF m pc Ls (.long x :: St))) := by
  subst hq; subst hz; exact G.on fun t k' => XS.l2i X.here hx rfl hd rfl k'
theorem g_i2b (X : Stand p l e R s m args below meth c T locs cells slots) (hx : p.tables.exec = Jvm.exec) {x : Int32} {z : Int32} (hd : decode c.code pc = .ok (.i2b, 1)) (hz : x.toInt8.toInt32 = z) (hq : pc + 1 = q) (G : Go p e below W (T.setTop (mkF m q Ls (.int z :: St)))) : Go p e below W (T.setTop (mkF m pc Ls (.int x :: St))) := by
  subst hq; subst hz; exact G.on fun t k' => XS.i2b X.here hx rfl hd rfl k'
theorem g_i2c (X : Stand p l e R s m args below meth c T locs cells slots) (hx : p.tables.exec = Jvm.exec) {x : Int32} {z : Int32} (hd : decode c.code pc = .ok (.i2c, 1)) (hz : x.toUInt32.toUInt16.toUInt32.toInt32 = z) (hq : pc + 1 = q) (G : Go p e below W (T.setTop (mkF m q Ls (.int z :: St)))) : Go p e below W (T.setTop (mkF m pc Ls (.int x :: St))) := by
  subst hq; subst hz; exact G.on fun t k' => XS.i2c X.here hx rfl hd rfl k'
theorem g_ineg (X : Stand p l e R s m args below meth c T locs cells slots) (hx : p.tables.exec = Jvm.exec) {x : Int32} {z : Int32} (hd : decode c.code pc = .ok (.ineg, 1)) (hz : -x = z) (hq : pc + 1 = q) (G : Go p e below W (T.setTop (mkF m q Ls (.int z :: St)))) : Go p e below W (T.setTop (mkF m pc Ls (.int x :: St))) := by
  subst hq; subst hz; exact G.on fun t k' => XS.ineg X.here hx rfl hd rfl k'
theorem g_dup (X : Stand p l e R s m args below meth c T locs cells slots) (hx : p.tables.exec = Jvm.exec) {x : Value} (hd : decode c.code pc = .ok (.dup, 1)) (hc : x.category = 1) (hq : pc + 1 = q) (G : Go p e below W (T.setTop (mkF m q Ls (x :: x :: St)))) : Go p e below W (T.setTop (mkF m pc Ls (x :: St))) := by
  subst hq; exact G.on fun t k' => XS.dup X.here hx rfl hd rfl hc k'
theorem g_pop (X : Stand p l e R s m args below meth c T locs cells slots) (hx : p.tables.exec = Jvm.exec) {x : Value} (hd : decode c.code pc = .ok (.pop, 1)) (hc : x.category = 1) (hq : pc + 1 = q) (G : Go p e below W (T.setTop (mkF m q Ls St))) : Go p e below W (T.setTop (mkF m pc Ls (x :: St))) := by
  subst hq; exact G.on fun t k' => XS.pop X.here hx rfl hd rfl hc k'
theorem g_dup_x1 (X : Stand p l e R s m args below meth c T locs cells slots) (hx : p.tables.exec = Jvm.exec) {x y : Value} (hd : decode c.code pc = .ok (.dup_x1, 1)) (hc : x.category = 1) (hc2 : y.category = 1) (hq : pc + 1 = q) (G : Go p e below W (T.setTop (mkF m q Ls (x :: y :: x :: St)))) : Go p e below W (T.setTop (mkF m pc Ls (x :: y :: St))) := by
  subst hq; exact G.on fun t k' => XS.dupX1 X.here hx rfl hd rfl hc hc2 k'
theorem g_iinc (X : Stand p l e R s m args below meth c T locs cells slots) (hx : p.tables.exec = Jvm.exec) {k : Nat} {cst : Int} {x z : Int32} {L' : Array Slot} (hd : decode c.code pc = .ok (.iinc k cst, 3)) (hl : Ls[k]? = some (.val (.int x))) (hz : x + Int32.ofInt cst = z) (hl' : storeLocals Ls k (.int z) = some L') (hq : pc + 3 = q) (G : Go p e below W (T.setTop (mkF m q L' St))) : Go p e below W (T.setTop (mkF m pc Ls St)) := by
  subst hq; subst hz; exact G.on fun t k' => XS.iinc X.here hx rfl hd hl hl' k'
theorem g_goto (X : Stand p l e R s m args below meth c T locs cells slots) (hx : p.tables.exec = Jvm.exec) {o : Int} (hd : decode c.code pc = .ok (.goto o, 3)) (ho : 0 ≤ (pc : Int) + o) (hq : ((pc : Int) + o).toNat = q) (G : Go p e below W (T.setTop (mkF m q Ls St))) : Go p e below W (T.setTop (mkF m pc Ls St)) :=
  G.on fun t k' => XS.goto X.here hx rfl rfl hd ho hq k'
end Plain
section Branches
variable {q2 : Nat}
theorem g_icmp (X : Stand p l e R s m args below meth c T locs cells slots) (hx : p.tables.exec = Jvm.exec) {cd : ClassFile.Cond} {x y : Int32} {o : Int} (hd : decode c.code pc = .ok (.if_icmp cd o, 3)) (ho : 0 ≤ (pc : Int) + o) (hq : ((pc : Int) + o).toNat = q) (hq2 : pc + 3 = q2)
    (Gy : if_icmp.holds cd x y = true → Go p e below W (T.setTop (mkF m q Ls St))) (Gn : if_icmp.holds cd x y = false → Go p e below W (T.setTop (mkF m q2 Ls St))) : Go p e below W (T.setTop (mkF m pc Ls (.int y :: .int x :: St))) := by
  subst hq2
  cases hc : if_icmp.holds cd x y with
  | true => exact (Gy hc).on fun t k => XS.icmpYes X.here hx rfl rfl hd rfl hc ho hq k
  | false => exact (Gn hc).on fun t k => XS.icmpNo X.here hx rfl hd rfl hc k
theorem g_if0 (X : Stand p l e R s m args below meth c T locs cells slots) (hx : p.tables.exec = Jvm.exec) {cd : ClassFile.Cond} {x : Int32} {o : Int} (hd : decode c.code pc = .ok (.ifCond cd o, 3)) (ho : 0 ≤ (pc : Int) + o) (hq : ((pc : Int) + o).toNat = q) (hq2 : pc + 3 = q2)
    (Gy : if_icmp.holds cd x 0 = true → Go p e below W (T.setTop (mkF m q Ls St))) (Gn : if_icmp.holds cd x 0 = false → Go p e below W (T.setTop (mkF m q2 Ls St))) : Go p e below W (T.setTop (mkF m pc Ls (.int x :: St))) := by
  subst hq2
  cases hc : if_icmp.holds cd x 0 with
  | true => exact (Gy hc).on fun t k => XS.ifYes X.here hx rfl rfl hd rfl ((if0 _ _).trans hc) ho hq k
  | false => exact (Gn hc).on fun t k => XS.ifNo X.here hx rfl hd rfl ((if0 _ _).trans hc) k
theorem g_icmp_eq (X : Stand p l e R s m args below meth c T locs cells slots) (hx : p.tables.exec = Jvm.exec) {x y : Int32} {o : Int} (hd : decode c.code pc = .ok (.if_icmp .eq o, 3)) (ho : 0 ≤ (pc : Int) + o) (hq : ((pc : Int) + o).toNat = q) (hq2 : pc + 3 = q2) (Gy : x = y → Go p e below W (T.setTop (mkF m q Ls St))) (Gn : ¬ x = y → Go p e below W (T.setTop (mkF m q2 Ls St))) : Go p e below W (T.setTop (mkF m pc Ls (.int y :: .int x :: St))) :=
  g_icmp X hx hd ho hq hq2 (fun h => Gy (by simpa [if_icmp.holds] using h)) (fun h => Gn (by simpa [if_icmp.holds] using h))
theorem g_if_eq (X : Stand p l e R s m args below meth c T locs cells slots) (hx : p.tables.exec = Jvm.exec) {x : Int32} {o : Int} (hd : decode c.code pc = .ok (.ifCond .eq o, 3)) (ho : 0 ≤ (pc : Int) + o) (hq : ((pc : Int) + o).toNat = q) (hq2 : pc + 3 = q2) (Gy : x = (0 : Int32) → Go p e below W (T.setTop (mkF m q Ls St))) (Gn : ¬ x = (0 : Int32) → Go p e below W (T.setTop (mkF m q2 Ls St))) : Go p e below W (T.setTop (mkF m pc Ls (.int x :: St))) :=
  g_if0 X hx hd ho hq hq2 (fun h => Gy (by simpa [if_icmp.holds] using h)) (fun h => Gn (by simpa [if_icmp.holds] using h))
theorem g_icmp_ne (X : Stand p l e R s m args below meth c T locs cells slots) (hx : p.tables.exec = Jvm.exec) {x y : Int32} {o : Int} (hd : decode c.code pc = .ok (.if_icmp .ne o, 3)) (ho : 0 ≤ (pc : Int) + o) (hq : ((pc : Int) + o).toNat = q) (hq2 : pc + 3 = q2) (Gy : ¬ x = y → Go p e below W (T.setTop (mkF m q Ls St))) (Gn : x = y → Go p e below W (T.setTop (mkF m q2 Ls St))) : Go p e below W (T.setTop (mkF m pc Ls (.int y :: .int x :: St))) :=
  g_icmp X hx hd ho hq hq2 (fun h => Gy (by simpa [if_icmp.holds] using h)) (fun h => Gn (by simpa [if_icmp.holds] using h))
theorem g_if_ne (X : Stand p l e R s m args below meth c T locs cells slots) (hx : p.tables.exec = Jvm.exec) {x : Int32} {o : Int} (hd : decode c.code pc = .ok (.ifCond .ne o, 3)) (ho : 0 ≤ (pc : Int) + o) (hq : ((pc : Int) + o).toNat = q) (hq2 : pc + 3 = q2) (Gy : ¬ x = (0 : Int32) → Go p e below W (T.setTop (mkF m q Ls St))) (Gn : x = (0 : Int32) → Go p e below W (T.setTop (mkF m q2 Ls St))) : Go p e below W (T.setTop (mkF m pc Ls (.int x :: St))) :=
  g_if0 X hx hd ho hq hq2 (fun h => Gy (by simpa [if_icmp.holds] using h)) (fun h => Gn (by simpa [if_icmp.holds] using h))
theorem g_icmp_lt (X : Stand p l e R s m args below meth c T locs cells slots) (hx : p.tables.exec = Jvm.exec) {x y : Int32} {o : Int} (hd : decode c.code pc = .ok (.if_icmp .lt o, 3)) (ho : 0 ≤ (pc : Int) + o) (hq : ((pc : Int) + o).toNat = q) (hq2 : pc + 3 = q2) (Gy : x < y → Go p e below W (T.setTop (mkF m q Ls St))) (Gn : ¬ x < y → Go p e below W (T.setTop (mkF m q2 Ls St))) : Go p e below W (T.setTop (mkF m pc Ls (.int y :: .int x :: St))) :=
  g_icmp X hx hd ho hq hq2 (fun h => Gy (by simpa [if_icmp.holds] using h)) (fun h => Gn (by simpa [if_icmp.holds] using h))
theorem g_if_lt (X : Stand p l e R s m args below meth c T locs cells slots) (hx : p.tables.exec = Jvm.exec) {x : Int32} {o : Int} (hd : decode c.code pc = .ok (.ifCond .lt o, 3)) (ho : 0 ≤ (pc : Int) + o) (hq : ((pc : Int) + o).toNat = q) (hq2 : pc + 3 = q2) (Gy : x < (0 : Int32) → Go p e below W (T.setTop (mkF m q Ls St))) (Gn : ¬ x < (0 : Int32) → Go p e below W (T.setTop (mkF m q2 Ls St))) : Go p e below W (T.setTop (mkF m pc Ls (.int x :: St))) :=
  g_if0 X hx hd ho hq hq2 (fun h => Gy (by simpa [if_icmp.holds] using h)) (fun h => Gn (by simpa [if_icmp.holds] using h))
theorem g_icmp_ge (X : Stand p l e R s m args below meth c T locs cells slots) (hx : p.tables.exec = Jvm.exec) {x y : Int32} {o : Int} (hd : decode c.code pc = .ok (.if_icmp .ge o, 3)) (ho : 0 ≤ (pc : Int) + o) (hq : ((pc : Int) + o).toNat = q) (hq2 : pc + 3 = q2) (Gy : ¬ x < y → Go p e below W (T.setTop (mkF m q Ls St))) (Gn : x < y → Go p e below W (T.setTop (mkF m q2 Ls St))) : Go p e below W (T.setTop (mkF m pc Ls (.int y :: .int x :: St))) :=
  g_icmp X hx hd ho hq hq2 (fun h => Gy (by simpa [if_icmp.holds] using h)) (fun h => Gn (by simpa [if_icmp.holds] using h))
theorem g_if_ge (X : Stand p l e R s m args below meth c T locs cells slots) (hx : p.tables.exec = Jvm.exec) {x : Int32} {o : Int} (hd : decode c.code pc = .ok (.ifCond .ge o, 3)) (ho : 0 ≤ (pc : Int) + o) (hq : ((pc : Int) + o).toNat = q) (hq2 : pc + 3 = q2) (Gy : ¬ x < (0 : Int32) → Go p e below W (T.setTop (mkF m q Ls St))) (Gn : x < (0 : Int32) → Go p e below W (T.setTop (mkF m q2 Ls St))) : Go p e below W (T.setTop (mkF m pc Ls (.int x :: St))) :=
  g_if0 X hx hd ho hq hq2 (fun h => Gy (by simpa [if_icmp.holds] using h)) (fun h => Gn (by simpa [if_icmp.holds] using h))
theorem g_icmp_gt (X : Stand p l e R s m args below meth c T locs cells slots) (hx : p.tables.exec = Jvm.exec) {x y : Int32} {o : Int} (hd : decode c.code pc = .ok (.if_icmp .gt o, 3)) (ho : 0 ≤ (pc : Int) + o) (hq : ((pc : Int) + o).toNat = q) (hq2 : pc + 3 = q2) (Gy : y < x → Go p e below W (T.setTop (mkF m q Ls St))) (Gn : ¬ y < x → Go p e below W (T.setTop (mkF m q2 Ls St))) : Go p e below W (T.setTop (mkF m pc Ls (.int y :: .int x :: St))) :=
  g_icmp X hx hd ho hq hq2 (fun h => Gy (by simpa [if_icmp.holds] using h)) (fun h => Gn (by simpa [if_icmp.holds] using h))
theorem g_if_gt (X : Stand p l e R s m args below meth c T locs cells slots) (hx : p.tables.exec = Jvm.exec) {x : Int32} {o : Int} (hd : decode c.code pc = .ok (.ifCond .gt o, 3)) (ho : 0 ≤ (pc : Int) + o) (hq : ((pc : Int) + o).toNat = q) (hq2 : pc + 3 = q2) (Gy : (0 : Int32) < x → Go p e below W (T.setTop (mkF m q Ls St))) (Gn : ¬ (0 : Int32) < x → Go p e below W (T.setTop (mkF m q2 Ls St))) : Go p e below W (T.setTop (mkF m pc Ls (.int x :: St))) :=
  g_if0 X hx hd ho hq hq2 (fun h => Gy (by simpa [if_icmp.holds] using h)) (fun h => Gn (by simpa [if_icmp.holds] using h))
theorem g_icmp_le (X : Stand p l e R s m args below meth c T locs cells slots) (hx : p.tables.exec = Jvm.exec) {x y : Int32} {o : Int} (hd : decode c.code pc = .ok (.if_icmp .le o, 3)) (ho : 0 ≤ (pc : Int) + o) (hq : ((pc : Int) + o).toNat = q) (hq2 : pc + 3 = q2) (Gy : ¬ y < x → Go p e below W (T.setTop (mkF m q Ls St))) (Gn : y < x → Go p e below W (T.setTop (mkF m q2 Ls St))) : Go p e below W (T.setTop (mkF m pc Ls (.int y :: .int x :: St))) :=
  g_icmp X hx hd ho hq hq2 (fun h => Gy (by simpa [if_icmp.holds] using h)) (fun h => Gn (by simpa [if_icmp.holds] using h))
theorem g_if_le (X : Stand p l e R s m args below meth c T locs cells slots) (hx : p.tables.exec = Jvm.exec) {x : Int32} {o : Int} (hd : decode c.code pc = .ok (.ifCond .le o, 3)) (ho : 0 ≤ (pc : Int) + o) (hq : ((pc : Int) + o).toNat = q) (hq2 : pc + 3 = q2) (Gy : ¬ (0 : Int32) < x → Go p e below W (T.setTop (mkF m q Ls St))) (Gn : (0 : Int32) < x → Go p e below W (T.setTop (mkF m q2 Ls St))) : Go p e below W (T.setTop (mkF m pc Ls (.int x :: St))) :=
  g_if0 X hx hd ho hq hq2 (fun h => Gy (by simpa [if_icmp.holds] using h)) (fun h => Gn (by simpa [if_icmp.holds] using h))
theorem g_acmpEq (X : Stand p l e R s m args below meth c T locs cells slots) (hx : p.tables.exec = Jvm.exec) {x y : Value} (h1 : x.isRef = true) (h2 : y.isRef = true) {o : Int} (hd : decode c.code pc = .ok (.if_acmp .eq o, 3)) (ho : 0 ≤ (pc : Int) + o) (hq : ((pc : Int) + o).toNat = q) (hq2 : pc + 3 = q2)
    (Gy : x = y → Go p e below W (T.setTop (mkF m q Ls St))) (Gn : ¬ x = y → Go p e below W (T.setTop (mkF m q2 Ls St))) : Go p e below W (T.setTop (mkF m pc Ls (y :: x :: St))) := by
  by_cases hc : x = y
  · exact (Gy hc).on fun t k => Jvm.RoadKit.acmp X hx rfl h1 h2 (pc0 := pc) (same := true) rfl hd rfl (decide_eq_true hc) ho (by simp [acV, hq]) k
  · exact (Gn hc).on fun t k => Jvm.RoadKit.acmp X hx rfl h1 h2 (pc0 := pc) (same := false) rfl hd rfl (decide_eq_false hc) ho (by simp [acV, hq2]) k
theorem g_acmpNe (X : Stand p l e R s m args below meth c T locs cells slots) (hx : p.tables.exec = Jvm.exec) {x y : Value} (h1 : x.isRef = true) (h2 : y.isRef = true) {o : Int} (hd : decode c.code pc = .ok (.if_acmp .ne o, 3)) (ho : 0 ≤ (pc : Int) + o) (hq : ((pc : Int) + o).toNat = q) (hq2 : pc + 3 = q2)
    (Gy : ¬ x = y → Go p e below W (T.setTop (mkF m q Ls St))) (Gn : x = y → Go p e below W (T.setTop (mkF m q2 Ls St))) : Go p e below W (T.setTop (mkF m pc Ls (y :: x :: St))) := by
  by_cases hc : x = y
  · exact (Gn hc).on fun t k => Jvm.RoadKit.acmp X hx rfl h1 h2 (pc0 := pc) (same := true) rfl hd rfl (decide_eq_true hc) ho (by simp [acV, hq2]) k
  · exact (Gy hc).on fun t k => Jvm.RoadKit.acmp X hx rfl h1 h2 (pc0 := pc) (same := false) rfl hd rfl (decide_eq_false hc) ho (by simp [acV, hq]) k
theorem g_ifnullY (X : Stand p l e R s m args below meth c T locs cells slots) (hx : p.tables.exec = Jvm.exec) {o : Int} (hd : decode c.code pc = .ok (.ifnull o, 3)) (ho : 0 ≤ (pc : Int) + o) (hq : ((pc : Int) + o).toNat = q) (G : Go p e below W (T.setTop (mkF m q Ls St))) : Go p e below W (T.setTop (mkF m pc Ls (.null :: St))) :=
  G.on fun t k => XS.ifnullYes X.here hx rfl rfl hd rfl ho hq k
theorem g_ifnullN (X : Stand p l e R s m args below meth c T locs cells slots) (hx : p.tables.exec = Jvm.exec) {o : Int} {b : Addr} (hd : decode c.code pc = .ok (.ifnull o, 3)) (hq : pc + 3 = q) (G : Go p e below W (T.setTop (mkF m q Ls St))) : Go p e below W (T.setTop (mkF m pc Ls (.ref b :: St))) := by
  subst hq; exact G.on fun t k => XS.ifnullNo X.here hx rfl hd rfl k
theorem g_ifnonnullN (X : Stand p l e R s m args below meth c T locs cells slots) (hx : p.tables.exec = Jvm.exec) {o : Int} (hd : decode c.code pc = .ok (.ifnonnull o, 3)) (hq : pc + 3 = q) (G : Go p e below W (T.setTop (mkF m q Ls St))) : Go p e below W (T.setTop (mkF m pc Ls (.null :: St))) := by
  subst hq; exact G.on fun t k => XS.ifnonnullNo X.here hx rfl hd rfl k
theorem g_ifnonnullY (X : Stand p l e R s m args below meth c T locs cells slots) (hx : p.tables.exec = Jvm.exec) {o : Int} {b : Addr} (hd : decode c.code pc = .ok (.ifnonnull o, 3)) (ho : 0 ≤ (pc : Int) + o) (hq : ((pc : Int) + o).toNat = q) (G : Go p e below W (T.setTop (mkF m q Ls St))) : Go p e below W (T.setTop (mkF m pc Ls (.ref b :: St))) :=
  G.on fun t k => XS.ifnonnullYes X.here hx rfl rfl hd rfl ho hq k
end Branches
section HeapSteps
theorem g_ldcI (X : Stand p l e R s m args below meth c T locs cells slots) (hx : p.tables.exec = Jvm.exec) (hZ : Z.Warmed39 s.vm) {own : String} {index : Nat} {v : Int32} (hown : s.vm.findClass own = some m.cls) (w : (Jvm.Cond.constant own index v).before a0 Z = true) (hd : decode c.code pc = .ok (.ldc index, 2)) (hq : pc + 2 = q)
    (G : Go p e below W (T.setTop (mkF m q Ls (.int v :: St)))) : Go p e below W (T.setTop (mkF m pc Ls St)) := by
  subst hq; exact G.on fun t k => X.ldcInt hx hown (mvT hZ w) (g := mkF m pc Ls St) rfl hd t k
theorem g_ldcJ (X : Stand p l e R s m args below meth c T locs cells slots) (hx : p.tables.exec = Jvm.exec) (hZ : Z.Warmed39 s.vm) {own : String} {index : Nat} {v : Int64} (hown : s.vm.findClass own = some m.cls) (w : (Jvm.Cond.constantLong own index v).before a0 Z = true) (hd : decode c.code pc = .ok (.ldc2_w index, 3)) (hq : pc + 3 = q)
    (G : Go p e below W (T.setTop (mkF m q Ls (.long v :: St)))) : Go p e below W (T.setTop (mkF m pc Ls St)) := by
  subst hq; exact G.on fun t k => X.ldc2Long hx hown (mvT hZ w) (g := mkF m pc Ls St) rfl hd t k
theorem g_getF (X : Stand p l e R s m args below meth c T locs cells slots) (hx : p.tables.exec = Jvm.exec) (hZ : Z.Warmed39 s.vm) {own R0 O n d : String} {index : Nat} (hown : s.vm.findClass own = some m.cls) (w : (Jvm.Cond.fieldLink own index R0 n d).before a0 Z = true) (via : Via Z R0 O n d)
    (eT : T.heap = h) {a : Addr} {v : Value} (F : Fld Z h a O n d v) (hd : decode c.code pc = .ok (.getfield index, 3)) (hq : pc + 3 = q)
    (G : ∀ T', Stand p l e R s m args below meth c T' locs cells slots → T'.heap = h → Go p e below W (T'.setTop (mkF m q Ls (v :: St)))) : Go p e below W (T.setTop (mkF m pc Ls (.ref a :: St))) := by
  subst hq
  obtain ⟨T', X', e', st⟩ := getF X hx hZ hown (host := "") (Or.inl w) via eT F (g := mkF m pc Ls (.ref a :: St)) rfl rfl hd
  exact (G T' X' e').on st
theorem g_getS (X : Stand p l e R s m args below meth c T locs cells slots) (hx : p.tables.exec = Jvm.exec) (hZ : Z.Warmed39 s.vm) {own R0 O n d : String} {index : Nat} (hown : s.vm.findClass own = some m.cls) (w : (Jvm.Cond.fieldLink own index R0 n d).before a0 Z = true) (via : Via Z R0 O n d)
    (eT : T.heap = h) {v : Value} (F : Sta Z h O n d v) (hd : decode c.code pc = .ok (.getstatic index, 3)) (hq : pc + 3 = q)
    (G : ∀ T', Stand p l e R s m args below meth c T' locs cells slots → T'.heap = h → Go p e below W (T'.setTop (mkF m q Ls (v :: St)))) : Go p e below W (T.setTop (mkF m pc Ls St)) := by
  subst hq
  obtain ⟨T', X', e', st⟩ := getS2 X hx hZ hown (host := "") (Or.inl w) via eT F (g := mkF m pc Ls St) rfl hd
  exact (G T' X' e').on st
theorem g_putF (X : Stand p l e R s m args below meth c T locs cells slots) (hx : p.tables.exec = Jvm.exec) (hZ : Z.Warmed39 s.vm) {own R0 O n d C : String} {index kk : Nat} {ty : FieldType} (hown : s.vm.findClass own = some m.cls) (w : (Jvm.Cond.fieldLink own index R0 n d).before a0 Z = true) (via : Via Z R0 O n d)
    (eT : T.heap = h) {a : Addr} {v old : Value} (F : Fld Z h a O n d old) (E : Exa Z h a C) (L : (Jvm.Cond.lays C O n d).before a0 Z = true ∨ ((Jvm.Cond.laysFinal C O n d).before a0 Z = true ∧ own = O ∧ meth.name = "<init>")) (wi : (Jvm.Cond.instantiable C kk).before a0 Z = true)
    (hty : parseFieldDescriptor d = some ty) (hn : narrow ty v = v) (hf : fits ty v = true) (hd : decode c.code pc = .ok (.putfield index, 3)) (hq : pc + 3 = q)
    (G : ∀ T' h', Stand p l e R s m args below meth c T' (locs ++ [⟨a, Jvm.RoadKit.slotOf Z O n d⟩]) cells slots → T'.heap = h' → Wr h h' a (Jvm.RoadKit.slotOf Z O n d) v → Go p e below W (T'.setTop (mkF m q Ls St))) : Go p e below W (T.setTop (mkF m pc Ls (v :: .ref a :: St))) := by
  subst hq
  obtain ⟨T', h', X', e', W', st⟩ := putF X hx hZ hown (host := "") (Or.inl w) via eT F E L wi hty hn hf (g := mkF m pc Ls (v :: .ref a :: St)) rfl rfl hd
  exact (G T' h' X' e' W').on st
theorem g_new (X : Stand p l e R s m args below meth c T locs cells slots) (hx : p.tables.exec = Jvm.exec) (hZ : Z.Warmed39 s.vm) {own C : String} {index n : Nat} (hown : s.vm.findClass own = some m.cls) (w : (Jvm.Cond.classLink own index C).before a0 Z = true) (wi : (Jvm.Cond.instantiable C n).before a0 Z = true) (wz : (Jvm.Cond.initialized C).before a0 Z = true) (eT : T.heap = h)
    (hd : decode c.code pc = .ok (.new index, 3)) (hc : cells + 1 ≤ R.cells) (hl : slots + n ≤ R.slots) (hq : pc + 3 = q)
    (G : ∀ T' h' b, b = h.size → Stand p l e R s m args below meth c T' locs (cells + 1) (slots + n) → T'.heap = h' → Ext h h' → Exa Z h' b C → (∀ {O nm d : String} {ty : FieldType}, Laid Z a0 C O nm d → parseFieldDescriptor d = some ty → Fld Z h' b O nm d (defaultValue ty)) → Go p e below W (T'.setTop (mkF m q Ls (.ref b :: St)))) :
    Go p e below W (T.setTop (mkF m pc Ls St)) := by
  subst hq
  obtain ⟨T', h', X', e', E', A', D', -, st⟩ := newO X hx hZ hown w wi wz eT (g := mkF m pc Ls St) rfl hd hc hl
  exact (G T' h' _ rfl X' e' E' A' D').on st
theorem g_newP (X : Stand p l e R s m args below meth c T locs cells slots) (hx : p.tables.exec = Jvm.exec) (hZ : Z.Warmed39 s.vm) {aty : ArrayType} (w : (Jvm.Cond.arrayClass (newarray.typeOf aty)).before a0 Z = true) (eT : T.heap = h) (hd : decode c.code pc = .ok (.newarray aty, 2)) {n : Int32} (hn : ¬ n < 0) {cap : Nat} (hcap : n.toNatClampNeg ≤ cap) (hb : cap * 8 ≤ 536870912) (hc : cells + 1 ≤ R.cells) (hl : slots + cap ≤ R.slots) (hq : pc + 2 = q)
    (G : ∀ T' h' cA b, b = h.size → Stand p l e R s m args below meth c T' locs (cells + 1) (slots + cap) → T'.heap = h' → Ext h h' → Arr Z h' b (newA cA (newarray.typeOf aty) n) (newarray.typeOf aty) → Go p e below W (T'.setTop (mkF m q Ls (.ref b :: St)))) :
    Go p e below W (T.setTop (mkF m pc Ls (.int n :: St))) := by
  subst hq
  obtain ⟨T', h', cA, X', e', E', A', st⟩ := newP X hx hZ w eT (g := mkF m pc Ls (.int n :: St)) rfl hd rfl hn hcap hb hc hl
  exact (G T' h' cA _ rfl X' e' E' A').on st
theorem g_initO (X : Stand p l e R s m args below meth c T locs cells slots) (hx : p.tables.exec = Jvm.exec) (hZ : Z.Warmed39 s.vm) {own : String} {idx : Nat} (hown : s.vm.findClass own = some m.cls) (w1 : (Jvm.Cond.methodLink own idx Lib.objectInit).before a0 Z = true) (w2 : (Jvm.Cond.instanceMethod Lib.objectInit).before a0 Z = true)
    (w3 : (Jvm.Cond.code Lib.objectInit ⟨#[0xb1]⟩ 1 none).before a0 Z = true) (eT : T.heap = h) (hsz : Ls.size = c.maxLocals) {a : Addr} (hd : decode c.code pc = .ok (.invokespecial idx, 3)) (hf : 1 ≤ R.frames) (hl : (St.map fun v => v.category).sum + 12 ≤ R.locals) (hq : pc + 3 = q)
    (G : ∀ T', Stand p l e R s m args below meth c T' locs cells slots → T'.heap = h → Go p e below W (T'.setTop (mkF m q Ls St))) : Go p e below W (T.setTop (mkF m pc Ls (.ref a :: St))) := by
  subst hq
  obtain ⟨T', X', e', st⟩ := initO X hx hZ hown w1 w2 w3 eT (g := mkF m pc Ls (.ref a :: St)) rfl hsz rfl hd hf (W := (St.map fun v => v.category).sum) (by simp) hl
  exact (G T' X' e').on st
end HeapSteps
section Calls
variable {y z : MethodName} {bytes : ByteArray} {ml : Nat} {ret r : Option FieldType} {rm : Room} {as' : Array Value} {Q : Option Value → Heap → List Loc → Prop} {own C : String} {index : Nat} {ps : List FieldType}
theorem g_pure {V : Option Value} {rest : List Value} (h1 : rm.cells = 0) (h2 : rm.slots = 0) (G : ∀ T', Stand p l e R s m args below meth c T' locs cells slots → T'.heap = h → Go p e below W (T'.setTop (mkF m q Ls (V.toList ++ rest)))) :
    ∀ v T' L, Stand p l e R s m args below meth c T' (locs ++ L) (cells + rm.cells) (slots + rm.slots) → Pur V h v T'.heap L → Go p e below W (T'.setTop (mkF m q Ls (v.toList ++ rest))) := by
  intro v T' L X' hQ
  obtain ⟨rfl, rfl, e'⟩ := hQ
  rw [h1, h2, List.append_nil] at X'
  exact G T' X' e'
theorem g_callS (X : Stand p l e R s m args below meth c T locs cells slots) (hx : p.tables.exec = Jvm.exec) (hZ : Z.Warmed39 s.vm) (hown : s.vm.findClass own = some m.cls) (w1 : (Jvm.Cond.methodLink own index y).before a0 Z = true) (w2 : (Jvm.Cond.static y).before a0 Z = true) (w3 : (Jvm.Cond.initialized y.cls).before a0 Z = true) (w4 : (Jvm.Cond.code y bytes ml ret).before a0 Z = true)
    (hy : y.cls ≠ "java/lang/invoke/MethodHandle" ∧ y.cls ≠ "java/lang/invoke/VarHandle") (eT : T.heap = h) (hM : Con l Z h y bytes ml ret rm as' Q) (hsz : Ls.size = c.maxLocals) {argsL rest : List Value} (hst : St = argsL.reverse ++ rest) (has : argsL.toArray = as') (hpd : parseMethodDescriptor y.desc = some ⟨ps, r⟩) (hln : argsL.length = ps.length)
    (hf : rm.frames + 1 ≤ R.frames) (hl : (rest.map fun v => v.category).sum + (ml + 11) + rm.locals ≤ R.locals) (hc : cells + rm.cells ≤ R.cells) (hs : slots + rm.slots ≤ R.slots) (hd : decode c.code pc = .ok (.invokestatic index, 3)) (hq : pc + 3 = q)
    (G : ∀ v T' L, Stand p l e R s m args below meth c T' (locs ++ L) (cells + rm.cells) (slots + rm.slots) → Q v T'.heap L → Go p e below W (T'.setTop (mkF m q Ls (v.toList ++ rest)))) : Go p e below W (T.setTop (mkF m pc Ls St)) := by
  subst hq has
  obtain ⟨v, _, ⟨T', L', k', n'⟩, -, X', ⟨L, hQ, l', y', z'⟩, st⟩ := Jvm.LawKit.callS X hx hown (mvT hZ w1) (mvT hZ w2) (mvT hZ w3) (mvT hZ w4) hy (backOf (W := (rest.map fun v => v.category).sum) (hM []) hZ w4 w3 hf hl) (g := mkF m pc Ls St) rfl hsz (argsL := argsL) (rest := rest) (lenOf hpd hln) hst (by simp) hd (fun _ _ => ⟨rfl, eT, hc, hs⟩)
  dsimp only [Pt.U, Pt.locs, Pt.cells, Pt.slots] at X' l' y' z' st hQ
  subst l' y' z'
  exact (G v T' L X' hQ).on st
theorem g_callV (X : Stand p l e R s m args below meth c T locs cells slots) (hx : p.tables.exec = Jvm.exec) (hZ : Z.Warmed39 s.vm) (hown : s.vm.findClass own = some m.cls) (w1 : (Jvm.Cond.methodLink own index y).before a0 Z = true) (w2 : (Jvm.Cond.declares y).before a0 Z = true) (w3 : (Jvm.Cond.selects C y z).before a0 Z = true) (w4 : (Jvm.Cond.instanceMethod z).before a0 Z = true) (w5 : (Jvm.Cond.code z bytes ml ret).before a0 Z = true) (w6 : (Jvm.Cond.initialized z.cls).before a0 Z = true)
    (hnf : NotFace s y) (hy : y.cls ≠ "java/lang/invoke/MethodHandle" ∧ y.cls ≠ "java/lang/invoke/VarHandle") (eT : T.heap = h) {b : Addr} (E : Exa Z h b C) (hM : Con l Z h z bytes ml ret rm as' Q) (hsz : Ls.size = c.maxLocals) {argsL rest : List Value} (hst : St = argsL.reverse ++ .ref b :: rest) (has : (Value.ref b :: argsL).toArray = as') (hpd : parseMethodDescriptor y.desc = some ⟨ps, r⟩) (hln : argsL.length = ps.length)
    (hf : rm.frames + 1 ≤ R.frames) (hl : (rest.map fun v => v.category).sum + (ml + 11) + rm.locals ≤ R.locals) (hc : cells + rm.cells ≤ R.cells) (hs : slots + rm.slots ≤ R.slots) (hd : decode c.code pc = .ok (.invokevirtual index, 3)) (hq : pc + 3 = q)
    (G : ∀ v T' L, Stand p l e R s m args below meth c T' (locs ++ L) (cells + rm.cells) (slots + rm.slots) → Q v T'.heap L → Go p e below W (T'.setTop (mkF m q Ls (v.toList ++ rest)))) : Go p e below W (T.setTop (mkF m pc Ls St)) := by
  subst hq has
  obtain ⟨cq, kq, qa, qb, qc⟩ := isOf hZ eT E
  obtain ⟨v, _, ⟨T', L', k', n'⟩, -, X', ⟨L, hQ, l', y', z'⟩, st⟩ := X.virtualBack hx hown (mvT hZ w1) (mvT hZ w2) hnf (mvT hZ w3) (mvT hZ w4) hy (backOf (W := (rest.map fun v => v.category).sum) (hM []) hZ w5 w6 hf hl) qa qc (g := mkF m pc Ls St) rfl hsz (Steps.refl _) (argsL := argsL) (rest := rest) (lenOf hpd hln) hst (by simp) hd (fun _ _ => ⟨rfl, eT, hc, hs⟩)
  dsimp only [Pt.U, Pt.locs, Pt.cells, Pt.slots] at X' l' y' z' st hQ
  subst l' y' z'
  exact (G v T' L X' hQ).on fun t k => st.trans k
theorem g_callI (X : Stand p l e R s m args below meth c T locs cells slots) (hx : p.tables.exec = Jvm.exec) (hZ : Z.Warmed39 s.vm) (hown : s.vm.findClass own = some m.cls) (hnm : y.name = "<init>") (w1 : (Jvm.Cond.methodLink own index y).before a0 Z = true) (w2 : (Jvm.Cond.instanceMethod y).before a0 Z = true) (w3 : (Jvm.Cond.code y bytes ml none).before a0 Z = true) (w4 : (Jvm.Cond.initialized y.cls).before a0 Z = true)
    (hy : y.cls ≠ "java/lang/invoke/MethodHandle" ∧ y.cls ≠ "java/lang/invoke/VarHandle") (eT : T.heap = h) {b : Addr} (hM : Con l Z h y bytes ml none rm as' Q) (hsz : Ls.size = c.maxLocals) {argsL rest : List Value} (hst : St = argsL.reverse ++ .ref b :: rest) (has : (Value.ref b :: argsL).toArray = as') (hpd : parseMethodDescriptor y.desc = some ⟨ps, r⟩) (hln : argsL.length = ps.length)
    (hf : rm.frames + 1 ≤ R.frames) (hl : (rest.map fun v => v.category).sum + (ml + 11) + rm.locals ≤ R.locals) (hc : cells + rm.cells ≤ R.cells) (hs : slots + rm.slots ≤ R.slots) (hd : decode c.code pc = .ok (.invokespecial index, 3)) (hq : pc + 3 = q)
    (G : ∀ v T' L, Stand p l e R s m args below meth c T' (locs ++ L) (cells + rm.cells) (slots + rm.slots) → Q v T'.heap L → Go p e below W (T'.setTop (mkF m q Ls (v.toList ++ rest)))) : Go p e below W (T.setTop (mkF m pc Ls St)) := by
  subst hq has
  obtain ⟨v, _, ⟨T', L', k', n'⟩, -, X', ⟨L, hQ, l', y', z'⟩, st⟩ := X.specialBack hx (y := y) hnm hown (mvT hZ w1) (mvT hZ w2) (mvT hZ w3) hy (backOf (W := (rest.map fun v => v.category).sum) (hM []) hZ w3 w4 hf hl) (g := mkF m pc Ls St) rfl hsz (Steps.refl _) (a := b) (argsL := argsL) (rest := rest) (lenOf hpd hln) hst (by simp) hd (fun _ _ => ⟨rfl, eT, hc, hs⟩)
  dsimp only [Pt.U, Pt.locs, Pt.cells, Pt.slots] at X' l' y' z' st hQ
  subst l' y' z'
  exact (G v T' L X' hQ).on fun t k => st.trans k
end Calls
end OwnKit
section OwnMore
theorem own_sta_keep {Z : State} {h h' : Heap} {C n d : String} {w : Value} {ws : List Addr} (F : Sta Z h C n d w) (K : Keep h h' ws) (hn : ∀ x ∈ ws, ∀ cell : Cell, h[x]? = some cell → cell.vm.isStatics = false) : Sta Z h' C n d w := by
  obtain ⟨cf, i, k, f, st, cell, h1, h2, h3, h4, h5, h6, h7⟩ := F
  exact ⟨cf, i, k, f, st, cell, h1, h2, h3, h4, K.2.1 _ _ h5 (fun q => by rw [hn _ q _ h5] at h6; cases h6), h6, h7⟩
theorem own_cat1 {v : Value} (h : v.isRef = true) : v.category = 1 := by cases v <;> first | rfl | cases h
theorem own_nar {C : String} {v : Value} (h : v.isRef = true) : narrow (.object C) v = v := by cases v <;> first | rfl | cases h
theorem own_fit {C : String} {v : Value} (h : v.isRef = true) : fits (.object C) v = true := by cases v <;> first | rfl | cases h
theorem own_noref {a b : Addr} (h : ¬ a = b) : ¬ (Value.ref a = Value.ref b) := fun q => h (Value.ref.inj q)
end OwnMore
section OwnStart
variable {args : Array Value} {s : State}
theorem own_fldI {t : Term} {C n d : String} {k : Int32} {a : Addr} (ev : t.eval args s none [] s = some (.ref a)) (hh : (Jvm.Cond.eq (Term.field t C n d) (Term.int k)).value args s none s [] = some true) : Fld s s.heap a C n d (.int k) := by
  obtain ⟨x, y, e1, e2, k1, k2⟩ := cmp_v (Or.inl hh)
  obtain rfl : y = .int k := (Option.some.inj ((Term.int_eval k).symm.trans e2)).symm
  obtain ⟨z, rfl⟩ := k2
  have q : z = k := by simpa [Cond.value, e1, e2] using hh
  subst q
  exact Fld.start ((fld_at ev).symm.trans e1)
theorem own_fldJ {t : Term} {C n d : String} {k : Int64} {a : Addr} (ev : t.eval args s none [] s = some (.ref a)) (hh : (Jvm.Cond.eq (Term.field t C n d) (Term.long k)).value args s none s [] = some true) : Fld s s.heap a C n d (.long k) := by
  obtain ⟨x, y, e1, e2, k1, k2⟩ := cmp_v (Or.inl hh)
  obtain rfl : y = .long k := (Option.some.inj ((long_at k).symm.trans e2)).symm
  obtain ⟨z, rfl⟩ := k2
  have q : z = k := by simpa [Cond.value, e1, e2] using hh
  subst q
  exact Fld.start ((fld_at ev).symm.trans e1)
end OwnStart
section OwnArr
variable {p : Program} {l : Launch} {e : Env} {R : Room} {s : State} {m : MethodId} {args : Array Value} {below : List Frame} {meth : Method} {c : Code} {T : State} {locs : List Loc} {cells slots : Nat} {Z : State} {a0 : Array Value} {h h' : Heap} {W : State → Prop} {pc q : Nat} {Ls : Array Slot} {St : List Value} {ty : FieldType} {n : Nat} {f g : Nat → Value} {a b : Addr} {sl : Nat} {v : Value}
/-- the array at a: of ty, n places, place i holds f i -/
def Af (Z : State) (h : Heap) (a : Addr) (ty : FieldType) (n : Nat) (f : Nat → Value) : Prop := ∃ cl : Cell, Arr Z h a cl ty ∧ cl.slots.size = n ∧ ∀ i, i < n → cl.slots[i]? = some (f i)
theorem Af.lt (F : Af Z h a ty n f) : a < h.size := by obtain ⟨c, A, -⟩ := F; exact A.lt
theorem Af.ext (F : Af Z h a ty n f) (E : Ext h h') : Af Z h' a ty n f := by obtain ⟨c, A, r⟩ := F; exact ⟨c, A.ext E, r⟩
theorem Af.other (F : Af Z h b ty n f) (W : Wr h h' a sl v) (q : b ≠ a) : Af Z h' b ty n f := by obtain ⟨c, A, r⟩ := F; exact ⟨c, A.other W q, r⟩
theorem Af.keep {ws : List Addr} (F : Af Z h a ty n f) (K : Keep h h' ws) (q : a ∉ ws) : Af Z h' a ty n f := by obtain ⟨c, A, r⟩ := F; exact ⟨c, ⟨K.2.1 a c A.1 q, A.2⟩, r⟩
theorem Af.nostat (F : Af Z h a ty n f) : ∀ cell : Cell, h[a]? = some cell → cell.vm.isStatics = false := by
  obtain ⟨c, A, -⟩ := F; exact A.nostat
theorem Af.congr (F : Af Z h a ty n f) (q : ∀ i, i < n → f i = g i) : Af Z h a ty n g := by
  obtain ⟨c, A, s1, s2⟩ := F; exact ⟨c, A, s1, fun i hi => by rw [← q i hi]; exact s2 i hi⟩
theorem Af.fresh {k : ClassId} {z : Int32} (A : Arr Z h a (newA k ty z) ty) : Af Z h a ty z.toNatClampNeg (fun _ => defaultValue ty) := ⟨_, A, sz_new _ _ _, fun i hi => by simp [newA, hi]⟩
theorem Af.set (F : Af Z h a ty n f) {j : Nat} (W : Wr h h' a j v) (hj : j < n) : Af Z h' a ty n (fun i => if i = j then v else f i) := by
  obtain ⟨c, A, s1, s2⟩ := F
  refine ⟨c.setSlot j v, A.same W, by rw [sz_set]; exact s1, fun i hi => ?_⟩
  show (c.slots.setIfInBounds j v)[i]? = some (if i = j then v else f i)
  by_cases hij : i = j
  · subst hij; rw [if_pos rfl, Array.getElem?_setIfInBounds_self_of_lt (by rw [s1]; exact hj)]
  · rw [if_neg hij, Array.getElem?_setIfInBounds_ne (Ne.symm hij)]; exact s2 i hi
theorem Af.size_eq {n' : Nat} (F : Af Z h a ty n f) (q : n = n') : Af Z h a ty n' f := q ▸ F
theorem g_len (X : Stand p l e R s m args below meth c T locs cells slots) (hx : p.tables.exec = Jvm.exec) (hZ : Z.Warmed39 s.vm) (eT : T.heap = h) (V : Af Z h a ty n f) {z : Int32} (hz : n.toInt32 = z) (hd : decode c.code pc = .ok (.arraylength, 1)) (hq : pc + 1 = q)
    (G : Go p e below W (T.setTop (mkF m q Ls (.int z :: St)))) : Go p e below W (T.setTop (mkF m pc Ls (.ref a :: St))) := by
  obtain ⟨cl, A, s1, s2⟩ := V
  subst hq hz
  exact G.on fun t k => X.arraylength hx (by rw [eT]; exact A.1) (State.isArrayOf_alike hZ.alike A.2.1) (g := mkF m pc Ls (.ref a :: St)) rfl rfl hd t (by rw [s1]; exact k)
section Loads
variable {j : Int32}
theorem own_in {cl : Cell} (s1 : cl.slots.size = n) (h0 : ¬ j < 0) (h1 : j.toNatClampNeg < n) : ¬ (j < 0 ∨ cl.slots.size ≤ j.toNatClampNeg) := fun q => q.elim h0 fun r => absurd h1 (by omega)
theorem g_iaload (X : Stand p l e R s m args below meth c T locs cells slots) (hx : p.tables.exec = Jvm.exec) (hZ : Z.Warmed39 s.vm) (eT : T.heap = h) (V : Af Z h a .int n f) (h0 : ¬ j < 0) (h1 : j.toNatClampNeg < n) (hv : f j.toNatClampNeg = v) (hd : decode c.code pc = .ok (.iaload, 1)) (hq : pc + 1 = q)
    (G : Go p e below W (T.setTop (mkF m q Ls (v :: St)))) : Go p e below W (T.setTop (mkF m pc Ls (.int j :: .ref a :: St))) := by
  obtain ⟨cl, A, s1, s2⟩ := V
  subst hq hv
  exact G.on fun t k => X.iaload hx (by rw [eT]; exact A.1) (State.isArrayOf_alike hZ.alike A.2.1) A.2.2 (own_in s1 h0 h1) (s2 _ h1) (g := mkF m pc Ls (.int j :: .ref a :: St)) rfl rfl hd t k
theorem g_laload (X : Stand p l e R s m args below meth c T locs cells slots) (hx : p.tables.exec = Jvm.exec) (hZ : Z.Warmed39 s.vm) (eT : T.heap = h) (V : Af Z h a .long n f) (h0 : ¬ j < 0) (h1 : j.toNatClampNeg < n) (hv : f j.toNatClampNeg = v) (hd : decode c.code pc = .ok (.laload, 1)) (hq : pc + 1 = q)
    (G : Go p e below W (T.setTop (mkF m q Ls (v :: St)))) : Go p e below W (T.setTop (mkF m pc Ls (.int j :: .ref a :: St))) := by
  obtain ⟨cl, A, s1, s2⟩ := V
  subst hq hv
  exact G.on fun t k => X.laload hx (by rw [eT]; exact A.1) (State.isArrayOf_alike hZ.alike A.2.1) A.2.2 (own_in s1 h0 h1) (s2 _ h1) (g := mkF m pc Ls (.int j :: .ref a :: St)) rfl rfl hd t k
theorem g_baload (X : Stand p l e R s m args below meth c T locs cells slots) (hx : p.tables.exec = Jvm.exec) (hZ : Z.Warmed39 s.vm) (eT : T.heap = h) (V : Af Z h a .byte n f) (h0 : ¬ j < 0) (h1 : j.toNatClampNeg < n) (hv : f j.toNatClampNeg = v) (hd : decode c.code pc = .ok (.baload, 1)) (hq : pc + 1 = q)
    (G : Go p e below W (T.setTop (mkF m q Ls (v :: St)))) : Go p e below W (T.setTop (mkF m pc Ls (.int j :: .ref a :: St))) := by
  obtain ⟨cl, A, s1, s2⟩ := V
  subst hq hv
  exact G.on fun t k => X.baloadBytes hx (by rw [eT]; exact A.1) (State.isArrayOf_alike hZ.alike A.2.1) A.2.2 (own_in s1 h0 h1) (s2 _ h1) (g := mkF m pc Ls (.int j :: .ref a :: St)) rfl rfl hd t k
theorem g_aaload (X : Stand p l e R s m args below meth c T locs cells slots) (hx : p.tables.exec = Jvm.exec) (hZ : Z.Warmed39 s.vm) (eT : T.heap = h) (V : Af Z h a ty n f) (hty : ty.isReference = true) (h0 : ¬ j < 0) (h1 : j.toNatClampNeg < n) (hv : f j.toNatClampNeg = v) (hd : decode c.code pc = .ok (.aaload, 1)) (hq : pc + 1 = q)
    (G : Go p e below W (T.setTop (mkF m q Ls (v :: St)))) : Go p e below W (T.setTop (mkF m pc Ls (.int j :: .ref a :: St))) := by
  obtain ⟨cl, A, s1, s2⟩ := V
  subst hq hv
  exact G.on fun t k => X.aaload hx (by rw [eT]; exact A.1) (State.isArrayOf_alike hZ.alike A.2.1) hty A.2.2 (own_in s1 h0 h1) (s2 _ h1) (g := mkF m pc Ls (.int j :: .ref a :: St)) rfl rfl hd t k
theorem g_bastore (X : Stand p l e R s m args below meth c T locs cells slots) (hx : p.tables.exec = Jvm.exec) (hZ : Z.Warmed39 s.vm) (eT : T.heap = h) (V : Af Z h a .byte n f) {x y : Int32} (h0 : ¬ j < 0) (h1 : j.toNatClampNeg < n) (hy : nar .byte x = y) (hd : decode c.code pc = .ok (.bastore, 1)) (hq : pc + 1 = q)
    (G : ∀ T' h', Stand p l e R s m args below meth c T' (locs ++ [⟨a, j.toNatClampNeg⟩]) cells slots → T'.heap = h' → Wr h h' a j.toNatClampNeg (.int y) → Af Z h' a .byte n (fun i => if i = j.toNatClampNeg then .int y else f i) → Go p e below W (T'.setTop (mkF m q Ls St))) : Go p e below W (T.setTop (mkF m pc Ls (.int x :: .int j :: .ref a :: St))) := by
  have V' := V
  obtain ⟨cl, A, s1, s2⟩ := V
  subst hq hy
  obtain ⟨T', h', X', e', W', st⟩ := stB X hx hZ eT A (own_in s1 h0 h1) (g := mkF m pc Ls (.int x :: .int j :: .ref a :: St)) rfl rfl hd
  exact (G T' h' X' e' W' (V'.set W' h1)).on st
theorem g_lastore (X : Stand p l e R s m args below meth c T locs cells slots) (hx : p.tables.exec = Jvm.exec) (hZ : Z.Warmed39 s.vm) (eT : T.heap = h) (V : Af Z h a .long n f) {x : Int64} (h0 : ¬ j < 0) (h1 : j.toNatClampNeg < n) (hd : decode c.code pc = .ok (.lastore, 1)) (hq : pc + 1 = q)
    (G : ∀ T' h', Stand p l e R s m args below meth c T' (locs ++ [⟨a, j.toNatClampNeg⟩]) cells slots → T'.heap = h' → Wr h h' a j.toNatClampNeg (.long x) → Af Z h' a .long n (fun i => if i = j.toNatClampNeg then .long x else f i) → Go p e below W (T'.setTop (mkF m q Ls St))) : Go p e below W (T.setTop (mkF m pc Ls (.long x :: .int j :: .ref a :: St))) := by
  have V' := V
  obtain ⟨cl, A, s1, s2⟩ := V
  subst hq
  obtain ⟨T', h', X', e', W', st⟩ := stJ X hx hZ eT A (own_in s1 h0 h1) (g := mkF m pc Ls (.long x :: .int j :: .ref a :: St)) rfl rfl hd
  exact (G T' h' X' e' W' (V'.set W' h1)).on st
theorem g_iastore (X : Stand p l e R s m args below meth c T locs cells slots) (hx : p.tables.exec = Jvm.exec) (hZ : Z.Warmed39 s.vm) (eT : T.heap = h) (V : Af Z h a .int n f) {x : Int32} (h0 : ¬ j < 0) (h1 : j.toNatClampNeg < n) (hd : decode c.code pc = .ok (.iastore, 1)) (hq : pc + 1 = q)
    (G : ∀ T' h', Stand p l e R s m args below meth c T' (locs ++ [⟨a, j.toNatClampNeg⟩]) cells slots → T'.heap = h' → Wr h h' a j.toNatClampNeg (.int x) → Af Z h' a .int n (fun i => if i = j.toNatClampNeg then .int x else f i) → Go p e below W (T'.setTop (mkF m q Ls St))) : Go p e below W (T.setTop (mkF m pc Ls (.int x :: .int j :: .ref a :: St))) := by
  have V' := V
  obtain ⟨cl, A, s1, s2⟩ := V
  subst hq
  obtain ⟨T', h', X', e', W', st⟩ := stI X hx hZ eT A (own_in s1 h0 h1) (g := mkF m pc Ls (.int x :: .int j :: .ref a :: St)) rfl rfl hd
  exact (G T' h' X' e' W' (V'.set W' h1)).on st
theorem g_aastore (X : Stand p l e R s m args below meth c T locs cells slots) (hx : p.tables.exec = Jvm.exec) (hZ : Z.Warmed39 s.vm) (eT : T.heap = h) (V : Af Z h a ty n f) (hty : ty.isReference = true) (h0 : ¬ j < 0) (h1 : j.toNatClampNeg < n) (F : Sto Z h a v) (hd : decode c.code pc = .ok (.aastore, 1)) (hq : pc + 1 = q)
    (G : ∀ T' h', Stand p l e R s m args below meth c T' (locs ++ [⟨a, j.toNatClampNeg⟩]) cells slots → T'.heap = h' → Wr h h' a j.toNatClampNeg v → Af Z h' a ty n (fun i => if i = j.toNatClampNeg then v else f i) → Go p e below W (T'.setTop (mkF m q Ls St))) : Go p e below W (T.setTop (mkF m pc Ls (v :: .int j :: .ref a :: St))) := by
  have V' := V
  obtain ⟨cl, A, s1, s2⟩ := V
  subst hq
  obtain ⟨T', h', X', e', W', st⟩ := stR X hx hZ eT A (own_in s1 h0 h1) hty F (g := mkF m pc Ls (v :: .int j :: .ref a :: St)) rfl rfl hd
  exact (G T' h' X' e' W' (V'.set W' h1)).on st
end Loads
theorem g_newR (X : Stand p l e R s m args below meth c T locs cells slots) (hx : p.tables.exec = Jvm.exec) (hZ : Z.Warmed39 s.vm) {own C : String} {index : Nat} (hown : s.vm.findClass own = some m.cls) (w1 : (Jvm.Cond.classLink own index C).before a0 Z = true) (w2 : (Jvm.Cond.arrayOver (.object C)).before a0 Z = true) (eT : T.heap = h) (hd : decode c.code pc = .ok (.anewarray index, 3)) {z : Int32} (hn : ¬ z < 0) {cap : Nat} (hcap : z.toNatClampNeg ≤ cap) (hb : cap * 8 ≤ 536870912) (hc : cells + 1 ≤ R.cells) (hl : slots + cap ≤ R.slots) (hq : pc + 3 = q)
    (G : ∀ T' h' cA b, b = h.size → Stand p l e R s m args below meth c T' locs (cells + 1) (slots + cap) → T'.heap = h' → Ext h h' → Arr Z h' b (newA cA (.object C) z) (.object C) → Ovr Z cA C → Go p e below W (T'.setTop (mkF m q Ls (.ref b :: St)))) :
    Go p e below W (T.setTop (mkF m pc Ls (.int z :: St))) := by
  subst hq
  obtain ⟨T', h', cA, X', e', E', A', O', st⟩ := newR X hx hZ hown w1 w2 eT (g := mkF m pc Ls (.int z :: St)) rfl hd rfl hn hcap hb hc hl
  exact (G T' h' cA _ rfl X' e' E' A' O').on st
/-- an array over C takes an object of C; carried over steps -/
def Ov (Z : State) (h : Heap) (a : Addr) (C : String) : Prop := ∃ cl : Cell, Arr Z h a cl (.object C) ∧ Ovr Z cl.cls C
theorem Ov.sto {C : String} {y : Addr} (O : Ov Z h a C) (I : Ins Z h y C true) : Sto Z h a (.ref y) := by obtain ⟨cl, A, o⟩ := O; exact Sto.of A o I
theorem Ov.fresh {k : ClassId} {z : Int32} {C : String} (A : Arr Z h a (newA k (.object C) z) (.object C)) (O : Ovr Z k C) : Ov Z h a C := ⟨_, A, O⟩
theorem Ov.ext {C : String} (O : Ov Z h a C) (E : Ext h h') : Ov Z h' a C := by obtain ⟨cl, A, o⟩ := O; exact ⟨cl, A.ext E, o⟩
theorem Ov.wr {C : String} (O : Ov Z h a C) (W : Wr h h' b sl v) : Ov Z h' a C := by
  obtain ⟨cl, A, o⟩ := O
  by_cases q : a = b
  · subst q; exact ⟨_, A.same W, o⟩
  · exact ⟨cl, A.other W q, o⟩
end OwnArr
section OwnCase
variable {args : Array Value} {s : State} {t : Term} {a : Addr} {cl : Cell} {ty : FieldType}
theorem own_lenN {k : Int32} (A : Arr s s.heap a cl ty) (ev : t.eval args s none [] s = some (.ref a)) (hh : (Jvm.Cond.eq (Term.length t) (Term.int k)).value args s none s [] = some true) : cl.slots.size = k.toNatClampNeg := by
  have ha := A.fin (Vm.Alike.refl _)
  obtain ⟨x, y, e1, e2, -, -⟩ := cmp_v (Or.inl hh)
  have hlt : cl.slots.size < 2 ^ 31 := by
    by_cases q : cl.slots.size < 2 ^ 31
    · exact q
    · exfalso
      simp only [Term.eval, ev, ha, Option.bind_eq_bind, Option.bind_some, if_neg q] at e1
      cases e1
  have e3 := len_f ev ha hlt
  have q : cl.slots.size.toInt32 = k := by simpa [Cond.value, e3, Term.int_eval] using hh
  rw [← q]
  have := len_toInt hlt
  simp only [Int32.toNatClampNeg, this]
  omega
theorem own_el {j k : Int32} (A : Arr s s.heap a cl ty) (ev : t.eval args s none [] s = some (.ref a)) (hh : (Jvm.Cond.eq (Term.elem t (Term.int j)) (Term.int k)).value args s none s [] = some true) : cl.slots[j.toNatClampNeg]? = some (.int k) := by
  obtain ⟨x, y, e1, e2, k1, k2⟩ := cmp_v (Or.inl hh)
  obtain rfl : y = .int k := (Option.some.inj ((Term.int_eval k).symm.trans e2)).symm
  obtain ⟨z, rfl⟩ := k2
  have q : z = k := by simpa [Cond.value, e1, e2] using hh
  subst q
  exact (elem_in e1 ev (Term.int_eval j) A.1).2
theorem own_index {i : Nat} {o : Option Outcome} : (Term.index 0).eval args s o [i] s = some (.int i.toInt32) := rfl
theorem own_elx {i : Nat} (hi : i < 2 ^ 31) (A : Arr s s.heap a cl ty) (ev : t.eval args s none [i] s = some (.ref a)) (hh : (Jvm.Cond.eq (Term.elem t (Term.index 0)) (Term.index 0)).value args s none s [i] = some true) : cl.slots[i]? = some (.int (Int32.ofNat i)) := by
  obtain ⟨x, y, e1, e2, k1, k2⟩ := cmp_v (Or.inl hh)
  obtain rfl : y = .int i.toInt32 := (Option.some.inj (own_index.symm.trans e2)).symm
  obtain ⟨z, rfl⟩ := k2
  have q : z = i.toInt32 := by simpa [Cond.value, e1, e2] using hh
  subst q
  have r := (elem_in e1 ev own_index A.1).2
  have : i.toInt32.toNatClampNeg = i := by simp [Int32.toNatClampNeg, len_toInt hi]
  rw [this] at r
  exact r
end OwnCase
section OwnCase2
variable {args : Array Value} {s : State} {t : Term} {a : Addr} {cl : Cell} {ty : FieldType} {n : Nat}
theorem own_allx (hn : n ≤ 2 ^ 31) (A : Arr s s.heap a cl ty) (L : cl.slots.size = n) (ev : t.eval args s none [] s = some (.ref a)) (ev' : ∀ i, t.eval args s none [i] s = some (.ref a)) (hh : (Jvm.Cond.all t (Jvm.Cond.eq (Term.elem t (Term.index 0)) (Term.index 0))).value args s none s [] = some true) (i : Nat) (hi : i < n) : cl.slots[i]? = some (.int (Int32.ofNat i)) :=
  own_elx (Nat.lt_of_lt_of_le hi hn) A (ev' i) (Cond.all_elim ev (A.fin (Vm.Alike.refl _)) hh i (by rw [L]; exact hi))
theorem own_ally {k : Int32} (hn : n ≤ 2 ^ 31) (A : Arr s s.heap a cl ty) (L : cl.slots.size = n) (ev : t.eval args s none [] s = some (.ref a)) (ev' : ∀ i, t.eval args s none [i] s = some (.ref a)) (hh : (Jvm.Cond.all t (Jvm.Cond.or (Jvm.Cond.lt (Term.index 0) (Term.int k)) (Jvm.Cond.eq (Term.elem t (Term.index 0)) (Term.index 0)))).value args s none s [] = some true) (i : Nat) (hi : i < n) (hk : k.toInt ≤ i) : cl.slots[i]? = some (.int (Int32.ofNat i)) := by
  have h := Cond.all_elim ev (A.fin (Vm.Alike.refl _)) hh i (by rw [L]; exact hi)
  have hi' : i < 2 ^ 31 := Nat.lt_of_lt_of_le hi hn
  have hf : (Jvm.Cond.lt (Term.index 0) (Term.int k)).value args s none s [i] = some false := by
    have q : ¬ i.toInt32 < k := by rw [Int32.lt_iff_toInt_lt, len_toInt hi']; omega
    simp [Cond.value, Term.index_eval, Term.int_eval, q]
  rw [Cond.or_of_right hf] at h
  exact own_elx hi' A (ev' i) h
end OwnCase2
section OwnWide
variable {p : Program} {l : Launch} {e : Env} {R : Room} {s : State} {m : MethodId} {args : Array Value} {below : List Frame} {meth : Method} {c : Code} {T : State} {locs : List Loc} {cells slots : Nat} {Z : State} {a0 : Array Value} {h : Heap} {W : State → Prop} {pc q : Nat} {Ls : Array Slot} {St : List Value} {vm0 : Vm} {k0 : Nat}
/-- what a body that may intern must leave -/
def WdW (s : State) (below : List Frame) (Q : Option Value → Heap → List Loc → Prop) (k n : Nat) (U : State) : Prop := U.status = .running ∧ ∃ v, Ended U below (.returned v) ∧ ∃ L, Q v U.heap L ∧ ReturnedEndW s (.returned v) U L k n
def ConW (l : Launch) (Z : State) (h0 : Heap) (y : MethodName) (bytes : ByteArray) (ml : Nat) (ret : Option FieldType) (rm : Room) (as' : Array Value) (Q : Option Value → Heap → List Loc → Prop) : Prop :=
  ∀ ws : List Jvm.Cond, MetFree l y (head1 (Jvm.Cond.code y bytes ml ret :: ws) rm) (fun a U => a = as' ∧ Z.Warmed39 U.vm ∧ U.heap = h0) (fun _ _ _ _ _ => True) (fun _ U o U' => ∃ v L, o = .returned v ∧ Q v U'.heap L ∧ ReturnedEndW U o U' L rm.cells rm.slots)
theorem con_ofW {h0 : Heap} {y : MethodName} {bytes : ByteArray} {ml : Nat} {ret : Option FieldType} {rm : Room} {as' : Array Value} {Q : Option Value → Heap → List Loc → Prop} (hpl : plainFor y = true) {Ls : Array Slot}
    (hef : ∀ m : MethodId, entryFrame m as' ml = mkF m 0 Ls [])
    (body : ∀ (p : Program) (e : Env) (s : State) (m : MethodId) (below : List Frame) (meth : Method) (c : Code) (s₁ : State) (vm0 : Vm) (k0 : Nat), p.tables.exec = Jvm.exec → Z.Warmed39 (s.setVm vm0).vm → c.code = bytes → c.maxLocals = ml → meth.sig.returnType = ret → meth.locks = false → meth.name = y.name → (s.setVm vm0).vm.findClass y.cls = some m.cls →
      Stand p l e rm (s.setVm vm0) m as' below meth c s₁ [] 0 0 → s₁.heap = h0 → s.Since vm0 k0 → k0 ≤ h0.size → Go p e below (WdW s below Q rm.cells rm.slots) (s₁.setTop (mkF m 0 Ls []))) : ConW l Z h0 y bytes ml ret rm as' Q := by
  intro ws
  refine MetFree.of_bodySF hpl hisR ?_
  intro p e s m args below meth c s₁ Bd hml0 hP hK
  obtain ⟨rfl, hZ, hh⟩ := hP
  obtain ⟨U, h1, h2, v, h3, L, h4, h5⟩ := body p e s m below meth c s₁ s.vm 0 Bd.exec hZ Bd.bytes hml0 Bd.returns Bd.notSynchronized (name_of_methodNamed Bd.named Bd.method).1 (findClass_of_methodNamed Bd.named) (Stand.of_body Bd) (by rw [← hh, Bd.state]; rfl) ((State.WarmedH.refl s).since 0) (Nat.zero_le _)
  rw [← hef] at h1
  exact ⟨U, _, h1, h2, h3, v, L, rfl, h4, h5⟩
theorem g_leaveW (X : Stand p l e R (s.setVm vm0) m args below meth c T locs cells slots) (hS : s.Since vm0 k0) (hk0 : k0 ≤ T.heap.size) {v : Option Value} (hv : meth.sig.returnType = none → v = none) (hlk : meth.locks = false) {S : State} {Q : Option Value → Heap → List Loc → Prop} {k n : Nat}
    (st : ∀ fs, (∀ (f : JFrame) (acts : List Action), f.method = m → f.locked = none → f.entered = [] → (doReturn e (T.setTop f) acts v).1 = T.setFrames fs) → Steps p.tables e below S (T.setFrames fs))
    (hQ : Q v T.heap locs) (hk : cells ≤ k) (hn : slots ≤ n) : Go p e below (WdW s below Q k n) S := by
  obtain ⟨fs, hr, hrun, hended, hE⟩ := X.leaveW hS hk0 (v := v) hv hlk
  exact ⟨_, st fs hr, hrun, v, hended, locs, hQ, hE.1, hE.2.1, hE.2.2.1, hE.2.2.2.mono hk hn⟩
section LeavesW
variable {Q : Option Value → Heap → List Loc → Prop} {k n : Nat}
theorem g_retBW (X : Stand p l e R (s.setVm vm0) m args below meth c T locs cells slots) (hS : s.Since vm0 k0) (hk0 : k0 ≤ T.heap.size) (hx : p.tables.exec = Jvm.exec) {z : Int32} (hret : meth.sig.returnType = some .boolean) (hlk : meth.locks = false) (hd : decode c.code pc = .ok (.ireturn, 1)) (hz : z = 0 ∨ z = 1)
    (hQ : Q (some (.int z)) T.heap locs) (hk : cells ≤ k) (hn : slots ≤ n) : Go p e below (WdW s below Q k n) (T.setTop (mkF m pc Ls (.int z :: St))) :=
  g_leaveW X hS hk0 (fun h => by rw [hret] at h; cases h) hlk (fun fs hr => retOut X hx hret (by rcases hz with rfl | rfl <;> rfl) (Or.inl ⟨rfl, Or.inr (Or.inl rfl), z, rfl⟩) hd hr) hQ hk hn
theorem g_retVW (X : Stand p l e R (s.setVm vm0) m args below meth c T locs cells slots) (hS : s.Since vm0 k0) (hk0 : k0 ≤ T.heap.size) (hx : p.tables.exec = Jvm.exec) (hret : meth.sig.returnType = none) (hlk : meth.locks = false) (hd : decode c.code pc = .ok (.return_, 1))
    (hQ : Q none T.heap locs) (hk : cells ≤ k) (hn : slots ≤ n) : Go p e below (WdW s below Q k n) (T.setTop (mkF m pc Ls [])) :=
  g_leaveW X hS hk0 (fun _ => rfl) hlk (fun fs hr => X.returnOut hx hret hd hr) hQ hk hn
theorem g_retAW (X : Stand p l e R (s.setVm vm0) m args below meth c T locs cells slots) (hS : s.Since vm0 k0) (hk0 : k0 ≤ T.heap.size) (hx : p.tables.exec = Jvm.exec) {t : FieldType} {w : Value} (hret : meth.sig.returnType = some t) (hlk : meth.locks = false) (hd : decode c.code pc = .ok (.areturn, 1)) (ht : t.isReference = true) (hw : w.isRef = true) (hn' : narrow t w = w)
    (hQ : Q (some w) T.heap locs) (hk : cells ≤ k) (hn : slots ≤ n) : Go p e below (WdW s below Q k n) (T.setTop (mkF m pc Ls (w :: St))) :=
  g_leaveW X hS hk0 (fun h => by rw [hret] at h; cases h) hlk (fun fs hr => retOut X hx hret hn' (Or.inr (Or.inr (Or.inr (Or.inr ⟨rfl, ht, hw⟩)))) hd hr) hQ hk hn
end LeavesW
theorem g_ldcS (X : Stand p l e R (s.setVm vm0) m args below meth c T locs cells slots) (hx : p.tables.exec = Jvm.exec) (hZ : Z.Warmed39 (s.setVm vm0).vm) {own text : String} {index : Nat} (hown : (s.setVm vm0).vm.findClass own = some m.cls) (w : (Jvm.Cond.stringLink own index text).before a0 Z = true) (wS : ∀ a ∈ Bundle.stringAtoms, a.before a0 Z = true)
    (eT : T.heap = h) (hS : s.Since vm0 k0) (hk : k0 ≤ h.size) (hd : decode c.code pc = .ok (.ldc index, 2)) {n : Nat} (hn : 4 * text.toList.length ≤ n) (hbig : n ≤ 536870912) (hc : cells + 2 ≤ R.cells) (hl : slots + (n + 4) ≤ R.slots) (hq : pc + 2 = q)
    (G : ∀ a T' h' k1, Stand p l e R (s.setVm T'.vm) m args below meth c T' locs (cells + 2) (slots + (n + 4)) → T'.heap = h' → Ext h h' → s.Since T'.vm k1 → k1 ≤ h'.size → Z.Warmed39 (s.setVm T'.vm).vm → (s.setVm T'.vm).vm.findClass own = some m.cls → Go p e below W (T'.setTop (mkF m q Ls (.ref a :: St)))) :
    Go p e below W (T.setTop (mkF m pc Ls St)) := by
  subst hq
  obtain ⟨a, T', h', k1, X', e', E', hS', hk', hZ', hown', st⟩ := ldcS X hx hZ hown w wS eT hS hk (g := mkF m pc Ls St) rfl hd hn hbig hc hl
  exact (G a T' h' k1 X' e' E' hS' hk' hZ' hown').on st
section CallsW
variable {y z : MethodName} {bytes : ByteArray} {ml : Nat} {ret r : Option FieldType} {rm : Room} {as' : Array Value} {Q : Option Value → Heap → List Loc → Prop} {own C : String} {index : Nat} {ps : List FieldType}
theorem g_callIW (X : Stand p l e R (s.setVm vm0) m args below meth c T locs cells slots) (hx : p.tables.exec = Jvm.exec) (hZ : Z.Warmed39 (s.setVm vm0).vm) (hown : (s.setVm vm0).vm.findClass own = some m.cls) (hnm : y.name = "<init>") (w1 : (Jvm.Cond.methodLink own index y).before a0 Z = true) (w2 : (Jvm.Cond.instanceMethod y).before a0 Z = true) (w3 : (Jvm.Cond.code y bytes ml none).before a0 Z = true) (w4 : (Jvm.Cond.initialized y.cls).before a0 Z = true)
    (hy : y.cls ≠ "java/lang/invoke/MethodHandle" ∧ y.cls ≠ "java/lang/invoke/VarHandle") (eT : T.heap = h) (hS : s.Since vm0 k0) (hk : k0 ≤ h.size) {b : Addr} (hM : ConW l Z h y bytes ml none rm as' Q) (hsz : Ls.size = c.maxLocals) {argsL rest : List Value} (hst : St = argsL.reverse ++ .ref b :: rest) (has : (Value.ref b :: argsL).toArray = as') (hpd : parseMethodDescriptor y.desc = some ⟨ps, r⟩) (hln : argsL.length = ps.length)
    (hf : rm.frames + 1 ≤ R.frames) (hl : (rest.map fun v => v.category).sum + (ml + 11) + rm.locals ≤ R.locals) (hc : cells + rm.cells ≤ R.cells) (hs : slots + rm.slots ≤ R.slots) (hd : decode c.code pc = .ok (.invokespecial index, 3)) (hq : pc + 3 = q)
    (G : ∀ v T' L h', T'.heap = h' → Stand p l e R (s.setVm T'.vm) m args below meth c T' (locs ++ L) (cells + rm.cells) (slots + rm.slots) → s.Since T'.vm h'.size → Z.Warmed39 (s.setVm T'.vm).vm → (s.setVm T'.vm).vm.findClass own = some m.cls → Q v h' L → Go p e below W (T'.setTop (mkF m q Ls (v.toList ++ rest)))) : Go p e below W (T.setTop (mkF m pc Ls St)) := by
  subst hq has
  obtain ⟨v, _, ⟨T', L', k', n'⟩, -, X', h2, hg, ⟨L, hQ, l', y', z'⟩, st⟩ := X.specialBackS hx (y := y) hnm hown (mvT hZ w1) (mvT hZ w2) (mvT hZ w3) hy (backOfS (W := (rest.map fun v => v.category).sum) (hM []) hZ w3 w4 hf hl) (g := mkF m pc Ls St) rfl hsz (Steps.refl _) (a := b) (argsL := argsL) (rest := rest) (lenOf hpd hln) hst (by simp) hd (fun _ _ => ⟨rfl, eT, hc, hs⟩)
  dsimp only [Pt.U, Pt.locs, Pt.cells, Pt.slots] at X' l' y' z' st hQ h2 hg
  subst l' y' z'
  obtain ⟨X2, hS2, hZ2, hown2⟩ := rebS hS (by rw [eT]; exact hk : k0 ≤ T.heap.size) X' h2 hg hZ hown
  exact (G v T' L _ rfl X2 hS2 hZ2 hown2 hQ).on fun t k => st.trans k
theorem g_callVW (X : Stand p l e R (s.setVm vm0) m args below meth c T locs cells slots) (hx : p.tables.exec = Jvm.exec) (hZ : Z.Warmed39 (s.setVm vm0).vm) (hown : (s.setVm vm0).vm.findClass own = some m.cls) (w1 : (Jvm.Cond.methodLink own index y).before a0 Z = true) (w2 : (Jvm.Cond.declares y).before a0 Z = true) (w3 : (Jvm.Cond.selects C y z).before a0 Z = true) (w4 : (Jvm.Cond.instanceMethod z).before a0 Z = true) (w5 : (Jvm.Cond.code z bytes ml ret).before a0 Z = true) (w6 : (Jvm.Cond.initialized z.cls).before a0 Z = true)
    (hnf : NotFace (s.setVm vm0) y) (hy : y.cls ≠ "java/lang/invoke/MethodHandle" ∧ y.cls ≠ "java/lang/invoke/VarHandle") (eT : T.heap = h) (hS : s.Since vm0 k0) (hk : k0 ≤ h.size) {b : Addr} (E : Exa Z h b C) (hM : ConW l Z h z bytes ml ret rm as' Q) (hsz : Ls.size = c.maxLocals) {argsL rest : List Value} (hst : St = argsL.reverse ++ .ref b :: rest) (has : (Value.ref b :: argsL).toArray = as') (hpd : parseMethodDescriptor y.desc = some ⟨ps, r⟩) (hln : argsL.length = ps.length)
    (hf : rm.frames + 1 ≤ R.frames) (hl : (rest.map fun v => v.category).sum + (ml + 11) + rm.locals ≤ R.locals) (hc : cells + rm.cells ≤ R.cells) (hs : slots + rm.slots ≤ R.slots) (hd : decode c.code pc = .ok (.invokevirtual index, 3)) (hq : pc + 3 = q)
    (G : ∀ v T' L h', T'.heap = h' → Stand p l e R (s.setVm T'.vm) m args below meth c T' (locs ++ L) (cells + rm.cells) (slots + rm.slots) → s.Since T'.vm h'.size → Z.Warmed39 (s.setVm T'.vm).vm → (s.setVm T'.vm).vm.findClass own = some m.cls → Q v h' L → Go p e below W (T'.setTop (mkF m q Ls (v.toList ++ rest)))) : Go p e below W (T.setTop (mkF m pc Ls St)) := by
  subst hq has
  obtain ⟨cq, kq, qa, qb, qc⟩ := isOf hZ eT E
  obtain ⟨v, _, ⟨T', L', k', n'⟩, -, X', h2, hg, ⟨L, hQ, l', y', z'⟩, st⟩ := X.virtualBackS hx hown (mvT hZ w1) (mvT hZ w2) hnf (mvT hZ w3) (mvT hZ w4) hy (backOfS (W := (rest.map fun v => v.category).sum) (hM []) hZ w5 w6 hf hl) qa qc (g := mkF m pc Ls St) rfl hsz (Steps.refl _) (argsL := argsL) (rest := rest) (lenOf hpd hln) hst (by simp) hd (fun _ _ => ⟨rfl, eT, hc, hs⟩)
  dsimp only [Pt.U, Pt.locs, Pt.cells, Pt.slots] at X' l' y' z' st hQ h2 hg
  subst l' y' z'
  obtain ⟨X2, hS2, hZ2, hown2⟩ := rebS hS (by rw [eT]; exact hk : k0 ≤ T.heap.size) X' h2 hg hZ hown
  exact (G v T' L _ rfl X2 hS2 hZ2 hown2 hQ).on fun t k => st.trans k
end CallsW
end OwnWide
section Own220
variable {p : Program} {l : Launch} {e : Env} {R : Room} {s : State} {m : MethodId} {args : Array Value} {below : List Frame} {meth : Method} {c : Code} {T : State} {locs : List Loc} {cells slots : Nat} {Z : State} {a0 : Array Value} {h h' : Heap} {W : State → Prop} {pc q : Nat} {Ls : Array Slot} {St : List Value} {a b : Addr} {own C : String} {index : Nat}
theorem own_nfO {args : Array Value} {y z : MethodName} (hc : y.cls = z.cls) (w : (Jvm.Cond.selects C z z).before args s = true) : NotFace s y := fun r0 h0 => by
  obtain ⟨c2, r2, m2, q1, q2, q3, q4, kP, hkP, hkPi⟩ := Cond.selects_spec w
  have e1 := findClass_of_methodNamed h0
  have e2 := findClass_of_methodNamed q3
  rw [hc] at e1
  have e3 : r0.cls = m2.cls := Option.some.inj (e1.symm.trans e2)
  exact ⟨kP, by rw [e3]; exact hkP, hkPi⟩
/-- the class C has its mirror at mr -/
def Mr (Z : State) (C : String) (mr : Addr) : Prop := ∃ (c : ClassId) (k : Class), Z.vm.findClass C = some c ∧ Z.vm.classes[c]? = some k ∧ k.mirror = some mr
abbrev gcY : MethodName := ⟨"java/lang/Object", "getClass", "()Ljava/lang/Class;"⟩
theorem g_gcls (X : Stand p l e R s m args below meth c T locs cells slots) (hx : p.tables.exec = Jvm.exec) (hZ : Z.Warmed39 s.vm) (hown : s.vm.findClass own = some m.cls) (w1 : (Jvm.Cond.methodLink own index gcY).before a0 Z = true) (w2 : (Jvm.Cond.declares gcY).before a0 Z = true) (w4 : (Jvm.Cond.selects C gcY gcY).before a0 Z = true) (w5 : (Jvm.Cond.instanceMethod gcY).before a0 Z = true) (w6 : (Jvm.Cond.native gcY).before a0 Z = true) (eT : T.heap = h) (E : Exa Z h a C) {mr : Addr} (M : Mr Z C mr) (hsz : Ls.size = c.maxLocals)
    (hd : decode c.code pc = .ok (.invokevirtual index, 3)) (hf : 1 ≤ R.frames) (hl : (St.map fun v => v.category).sum + (nativeFrameWords "java/lang/Object" "getClass" 1 + 11) ≤ R.locals) (hq : pc + 3 = q)
    (G : ∀ T', Stand p l e R s m args below meth c T' locs cells slots → T'.heap = h → Go p e below W (T'.setTop (mkF m q Ls (.ref mr :: St)))) : Go p e below W (T.setTop (mkF m pc Ls (.ref a :: St))) := by
  subst hq
  obtain ⟨cB, kB, i1, i2, i3⟩ := isOf hZ eT E
  obtain ⟨cc, kc, m1, m2, m3⟩ := M
  rw [hZ.alike.findClass] at i1
  cases i1.symm.trans m1
  obtain ⟨k', q', ek⟩ := hZ.alike.2.2 _ _ m2
  obtain ⟨vm', X', st⟩ := X.getClassOf hx hown (mvT hZ w1) (mvT hZ w2) (notFace_of_selects (args := #[]) (mvT hZ w4)) (mvT hZ w4) (mvT hZ w5) (mvT hZ w6) (by rw [hZ.alike.findClass]; exact m1) i3 q' (by rw [ek]; exact m3) (g := mkF m pc Ls (.ref a :: St)) rfl hsz rfl hd hf (by simpa using hl)
  exact (G _ X' eT).on st
theorem g_ldcC (X : Stand p l e R s m args below meth c T locs cells slots) (hx : p.tables.exec = Jvm.exec) (hZ : Z.Warmed39 s.vm) (hown : s.vm.findClass own = some m.cls) (w : (Jvm.Cond.classLink own index C).before a0 Z = true) (eT : T.heap = h) {mr : Addr} (M : Mr Z C mr) (hd : decode c.code pc = .ok (.ldc index, 2)) (hq : pc + 2 = q)
    (G : ∀ T', Stand p l e R s m args below meth c T' locs cells slots → T'.heap = h → Go p e below W (T'.setTop (mkF m q Ls (.ref mr :: St)))) : Go p e below W (T.setTop (mkF m pc Ls St)) := by
  subst hq
  obtain ⟨cc, kc, m1, m2, m3⟩ := M
  obtain ⟨k', q', ek⟩ := hZ.alike.2.2 _ _ m2
  obtain ⟨vm', X', st⟩ := X.ldcMirror hx hown (mv hZ w) (C := C) (a := mr) (by simp only [Term.eval, Option.bind_eq_bind]; rw [hZ.alike.findClass, m1]; simp only [Option.bind_some]; rw [q']; simp only [Option.bind_some]; rw [ek, m3]; rfl) (g := mkF m pc Ls St) rfl hd
  exact (G _ X' eT).on st
theorem g_inst (X : Stand p l e R s m args below meth c T locs cells slots) (hx : p.tables.exec = Jvm.exec) (hZ : Z.Warmed39 s.vm) (hown : s.vm.findClass own = some m.cls) (w : (Jvm.Cond.classLink own index C).before a0 Z = true) (eT : T.heap = h) (F : Ins Z h a C true) (hd : decode c.code pc = .ok (.instanceof index, 3)) (hq : pc + 3 = q)
    (G : ∀ T', Stand p l e R s m args below meth c T' locs cells slots → T'.heap = h → Go p e below W (T'.setTop (mkF m q Ls (.int 1 :: St)))) : Go p e below W (T.setTop (mkF m pc Ls (.ref a :: St))) := by
  subst hq
  obtain ⟨T', X', e', st⟩ := instY X hx hZ hown w eT F (g := mkF m pc Ls (.ref a :: St)) rfl rfl hd
  exact (G T' X' e').on st
theorem g_cast (X : Stand p l e R s m args below meth c T locs cells slots) (hx : p.tables.exec = Jvm.exec) (hZ : Z.Warmed39 s.vm) (hown : s.vm.findClass own = some m.cls) (w : (Jvm.Cond.classLink own index C).before a0 Z = true) (eT : T.heap = h) (F : Ins Z h a C true) (hd : decode c.code pc = .ok (.checkcast index, 3)) (hq : pc + 3 = q)
    (G : ∀ T', Stand p l e R s m args below meth c T' locs cells slots → T'.heap = h → Go p e below W (T'.setTop (mkF m q Ls (.ref a :: St)))) : Go p e below W (T.setTop (mkF m pc Ls (.ref a :: St))) := by
  subst hq
  obtain ⟨T', X', e', st⟩ := castY X hx hZ hown w eT F (g := mkF m pc Ls (.ref a :: St)) rfl rfl hd
  exact (G T' X' e').on st
theorem g_lookup (X : Stand p l e R s m args below meth c T locs cells slots) (hx : p.tables.exec = Jvm.exec) {k : Int32} {df : Int} {pairs : Array (Int × Int)} {len : Nat} (hd : decode c.code pc = .ok (.lookupswitch df pairs, len)) (hs : (pairs.toList.zip (pairs.toList.drop 1)).all (fun (a, next) => a.1 < next.1) = true) {x off : Int} (hfd : pairs.find? (·.1 == k.toInt) = some (x, off)) (ho : 0 ≤ (pc : Int) + off) (hq : ((pc : Int) + off).toNat = q)
    (G : Go p e below W (T.setTop (mkF m q Ls St))) : Go p e below W (T.setTop (mkF m pc Ls (.int k :: St))) := by
  subst hq
  exact G.on fun t k' => X.lookupswitchHit hx (g := mkF m pc Ls (.int k :: St)) rfl rfl hd hs hfd ho t k'
theorem g_newRE (X : Stand p l e R s m args below meth c T locs cells slots) (hx : p.tables.exec = Jvm.exec) (hZ : Z.Warmed39 s.vm) (hown : s.vm.findClass own = some m.cls) (w1 : (Jvm.Cond.classLink own index C).before a0 Z = true) (w2 : (Jvm.Cond.arrayOver (.object C)).before a0 Z = true) (eT : T.heap = h) (hd : decode c.code pc = .ok (.anewarray index, 3)) {z : Int32} (hn : ¬ z < 0) {cap : Nat} (hcap : z.toNatClampNeg ≤ cap) (hb : cap * 8 ≤ 536870912) (hc : cells + 1 ≤ R.cells) (hl : slots + cap ≤ R.slots) {ad : String} (had : "[" ++ (FieldType.object C).toString = ad) (hq : pc + 3 = q)
    (G : ∀ T' h' cA b, b = h.size → Stand p l e R s m args below meth c T' locs (cells + 1) (slots + cap) → T'.heap = h' → Ext h h' → Arr Z h' b (newA cA (.object C) z) (.object C) → Ovr Z cA C → Exa Z h' b ad → Go p e below W (T'.setTop (mkF m q Ls (.ref b :: St)))) :
    Go p e below W (T.setTop (mkF m pc Ls (.int z :: St))) := by
  subst hq
  obtain ⟨T', h', cA, X', e', E', A', D', O', st⟩ := newRE X hx hZ hown w1 w2 eT (g := mkF m pc Ls (.int z :: St)) rfl hd rfl hn hcap hb hc hl had
  exact (G T' h' cA _ rfl X' e' E' A' O' D').on st
theorem own_keepArr {ws : List Addr} {cl : Cell} {ty : FieldType} (A : Arr Z h a cl ty) (K : Keep h h' ws) : ∃ cl' : Cell, Arr Z h' a cl' ty ∧ cl'.cls = cl.cls ∧ cl'.slots.size = cl.slots.size := by
  obtain ⟨c', h1, h2, h3, h4⟩ := K.2.2 a cl A.1
  refine ⟨c', ⟨h1, ?_, by rw [h3]; exact A.2.2⟩, h2, h4⟩
  have := A.2.1
  unfold State.isArrayOf at this ⊢
  rw [h2, h3]; exact this
theorem Ov.keep {ws : List Addr} (O : Ov Z h a C) (K : Keep h h' ws) : Ov Z h' a C := by
  obtain ⟨cl, A, o⟩ := O
  obtain ⟨cl', A', e1, -⟩ := own_keepArr A K
  exact ⟨cl', A', by rw [e1]; exact o⟩
/-- System.arraycopy -/
theorem g_cp (X : Stand p l e R s m args below meth c T locs cells slots) (hx : p.tables.exec = Jvm.exec) (hZ : Z.Warmed39 s.vm) (hown : s.vm.findClass own = some m.cls) (w1 : (Jvm.Cond.methodLink own index Jvm.Stand.acN).before a0 Z = true) (w2 : (Jvm.Cond.native Jvm.Stand.acN).before a0 Z = true) (w3 : (Jvm.Cond.static Jvm.Stand.acN).before a0 Z = true) (w4 : (Jvm.Cond.initialized "java/lang/System").before a0 Z = true) (eT : T.heap = h)
    {ty : FieldType} {n n' : Nat} {f g : Nat → Value} {sp dp nn : Int32} (A : Af Z h a ty n f) (B : Af Z h b ty n' g) (h1 : ¬ sp < 0) (h2 : ¬ dp < 0) (h3 : ¬ nn < 0) (h4 : sp.toNatClampNeg + nn.toNatClampNeg ≤ n) (h5 : dp.toNatClampNeg + nn.toNatClampNeg ≤ n')
    (hv : ∀ i, i < nn.toNatClampNeg → fits ty (f (sp.toNatClampNeg + i)) = true ∧ (refKind ty = true → Sto Z h b (f (sp.toNatClampNeg + i)))) (hsz : Ls.size = c.maxLocals) (hd : decode c.code pc = .ok (.invokestatic index, 3)) (hf : 1 ≤ R.frames) (hl : (St.map fun v => v.category).sum + (nativeFrameWords "java/lang/System" "arraycopy" 5 + 11) ≤ R.locals) (hq : pc + 3 = q)
    (G : ∀ T' h' L, (∀ x ∈ L, x.base = b) → Stand p l e R s m args below meth c T' (locs ++ L) cells slots → T'.heap = h' → Keep h h' [b] → Af Z h' b ty n' (fun j => if dp.toNatClampNeg ≤ j ∧ j < dp.toNatClampNeg + nn.toNatClampNeg then f (sp.toNatClampNeg + (j - dp.toNatClampNeg)) else g j) → Go p e below W (T'.setTop (mkF m q Ls St))) :
    Go p e below W (T.setTop (mkF m pc Ls (.int nn :: .int dp :: .ref b :: .int sp :: .ref a :: St))) := by
  subst hq
  obtain ⟨cs, As, Ss, Hs⟩ := A
  obtain ⟨cd, Ad, Sd, Hd⟩ := B
  obtain ⟨os, ks, hks, sc, hsk⟩ := State.isArrayOf_alike hZ.alike As.2.1
  obtain ⟨od, kd, hkd, dc, hdk⟩ := State.isArrayOf_alike hZ.alike Ad.2.1
  have nat : ∀ {x : Int32}, ¬ x < 0 → x.toInt = x.toNatClampNeg := fun {x} q => by
    rw [Int32.lt_iff_toInt_lt] at q; have : (0 : Int32).toInt = 0 := rfl
    simp only [Int32.toNatClampNeg]; omega
  have gv : ∀ i, i < nn.toNatClampNeg → cs.slots.getD (sp.toNatClampNeg + i) .null = f (sp.toNatClampNeg + i) := fun i hi => by
    have := Hs (sp.toNatClampNeg + i) (by omega); rw [Array.getD_eq_getD_getElem?, this]; rfl
  obtain ⟨vm₁, hW₁, X', st⟩ := X.arraycopyK hx hown (mvT hZ w1) (mvT hZ w2) (mvT hZ w3) (mvT hZ w4) (by rw [eT]; exact As.1) (by rw [eT]; exact Ad.1) os od As.2.2 Ad.2.2 hks hkd hsk hdk
    (by simp) h1 h2 h3 (by rw [nat h1, nat h3, Ss]; omega) (by rw [nat h2, nat h3, Sd]; omega) (fun vm₁ hw i hi => by
      rw [gv i hi]
      obtain ⟨q1, q2⟩ := hv i hi
      refine ⟨q1, ?_⟩
      generalize f (sp.toNatClampNeg + i) = u at q1 q2 ⊢
      cases u <;> try trivial
      rename_i y
      have rk : refKind ty = true := by cases ty <;> simp_all [refKind, fits]
      rcases q2 rk with r | ⟨cell, cv, k1, kv, kc, comp, t, y', g1, g2, g3, g4, g5, g6, g7, g8, g9⟩
      · cases r
      · cases g5; cases g1.symm.trans Ad.1
        have al := hZ.alike.trans hw.alike
        obtain ⟨k2, e2, a2⟩ := hZ.alike.2.2 _ _ g2
        cases e2.symm.trans hkd
        have ek : kd.kind = k1.kind := by first | rw [a2] | rw [a2.1]
        have ec : comp = dc := by have this := ek; rw [g3, hdk] at this; cases this; rfl
        subst ec
        obtain ⟨kv', e3, -⟩ := al.2.2 _ _ g8
        obtain ⟨kc', e4, -⟩ := al.2.2 _ _ g4
        exact ⟨cv, by show T.heap[y]? = _; rw [eT]; exact g6, (fun q r => by rw [r] at g7; cases g7), ⟨kv', e3⟩, ⟨kc', e4⟩, by show vm₁.assignable _ _ = true; rw [al.assignable]; exact g9⟩) (g := mkF m pc Ls (.int nn :: .int dp :: .ref b :: .int sp :: .ref a :: St)) rfl hsz rfl hd hf (by simpa using hl)
  have hb : b < h.size := Ad.lt
  have cf : (copied cs cd sp dp nn).cls = cd.cls ∧ (copied cs cd sp dp nn).vm = cd.vm ∧ (copied cs cd sp dp nn).slots.size = cd.slots.size := let q := cd.storeRun_facts dp.toNatClampNeg (cs.stretch sp.toNatClampNeg nn.toNatClampNeg); ⟨q.1, q.2.1, q.2.2.1⟩
  have eh : ((T.setVm vm₁).setCell b (copied cs cd sp dp nn)).heap = h.setIfInBounds b (copied cs cd sp dp nn) := by rw [← eT]; rfl
  have ul : (cs.stretch sp.toNatClampNeg nn.toNatClampNeg).length = nn.toNatClampNeg := by simp [Cell.stretch]
  have at' : ∀ j, j < n' → (copied cs cd sp dp nn).slots[j]? = some (if dp.toNatClampNeg ≤ j ∧ j < dp.toNatClampNeg + nn.toNatClampNeg then f (sp.toNatClampNeg + (j - dp.toNatClampNeg)) else g j) := fun j hj => by
    show (cd.storeRun _ (cs.stretch _ _)).slots[j]? = _
    rw [Cell.storeRun_get _ _ _ _ (by rw [ul, Sd]; exact h5), ul]
    by_cases c1 : dp.toNatClampNeg ≤ j ∧ j < dp.toNatClampNeg + nn.toNatClampNeg
    · rw [if_pos c1, if_pos c1]
      have := gv (j - dp.toNatClampNeg) (by omega)
      simp only [Cell.stretch]
      rw [List.getElem?_map, List.getElem?_range (by omega)]
      simp only [Option.map_some]
      rw [this]
    · rw [if_neg c1, if_neg c1]; exact Hd j hj
  have K : Keep h (h.setIfInBounds b (copied cs cd sp dp nn)) [b] := by
    refine ⟨by simp, fun x c q r => ?_, fun x c q => ?_⟩
    · have : b ≠ x := fun z => r (by simp [z])
      rw [Array.getElem?_setIfInBounds_ne this]; exact q
    · by_cases u : b = x
      · subst u; cases Ad.1.symm.trans q
        exact ⟨_, by rw [Array.getElem?_setIfInBounds_self_of_lt hb], cf.1, cf.2.1, cf.2.2⟩
      · exact ⟨c, by rw [Array.getElem?_setIfInBounds_ne u]; exact q, rfl, rfl, rfl⟩
  refine (G _ _ _ (fun x hx' => copyLocs_base hx') X' eh K ⟨copied cs cd sp dp nn, ⟨by rw [Array.getElem?_setIfInBounds_self_of_lt hb], ?_, by rw [cf.2.1]; exact Ad.2.2⟩, cf.2.2.trans Sd, at'⟩).on st
  have := Ad.2.1; unfold State.isArrayOf at this ⊢; rw [cf.1, cf.2.1]; exact this
section Priv
variable {y : MethodName} {bytes : ByteArray} {ml kk : Nat} {ret r : Option FieldType} {rm : Room} {as' : Array Value} {Q : Option Value → Heap → List Loc → Prop} {ps : List FieldType}
/-- invokevirtual of a private method; the class is no interface by 'instantiable' -/
theorem g_callP (X : Stand p l e R s m args below meth c T locs cells slots) (hx : p.tables.exec = Jvm.exec) (hZ : Z.Warmed39 s.vm) (hown : s.vm.findClass own = some m.cls) (w1 : (Jvm.Cond.methodLink own index y).before a0 Z = true) (w2 : (Jvm.Cond.instanceMethod y).before a0 Z = true) (w3 : (Jvm.Cond.privateMethod y).before a0 Z = true) (w4 : (Jvm.Cond.instantiable y.cls kk).before a0 Z = true) (w5 : (Jvm.Cond.code y bytes ml ret).before a0 Z = true) (w6 : (Jvm.Cond.initialized y.cls).before a0 Z = true)
    (hy : y.cls ≠ "java/lang/invoke/MethodHandle" ∧ y.cls ≠ "java/lang/invoke/VarHandle") (eT : T.heap = h) (E : Exa Z h b C) (hM : Con l Z h y bytes ml ret rm as' Q) (hsz : Ls.size = c.maxLocals) {argsL rest : List Value} (hst : St = argsL.reverse ++ .ref b :: rest) (has : (Value.ref b :: argsL).toArray = as') (hpd : parseMethodDescriptor y.desc = some ⟨ps, r⟩) (hln : argsL.length = ps.length)
    (hf : rm.frames + 1 ≤ R.frames) (hl : (rest.map fun v => v.category).sum + (ml + 11) + rm.locals ≤ R.locals) (hc : cells + rm.cells ≤ R.cells) (hs : slots + rm.slots ≤ R.slots) (hd : decode c.code pc = .ok (.invokevirtual index, 3)) (hq : pc + 3 = q)
    (G : ∀ v T' L, Stand p l e R s m args below meth c T' (locs ++ L) (cells + rm.cells) (slots + rm.slots) → Q v T'.heap L → Go p e below W (T'.setTop (mkF m q Ls (v.toList ++ rest)))) : Go p e below W (T.setTop (mkF m pc Ls St)) := by
  subst hq has
  obtain ⟨cell, hcell, hobj⟩ := E.cell
  have hcell' : T.heap[b]? = some cell := by rw [eT]; exact hcell
  obtain ⟨mk, methM, hnamed, hmethM, hstM, habM⟩ := Cond.instanceMethod_spec (mvT (args := args) hZ w2)
  obtain ⟨methM', cM, hmethM', -, -, -, -, -, -, hsigM⟩ := Cond.code_spec hnamed (mvT (args := args) hZ w5)
  cases hmethM.symm.trans hmethM'
  obtain ⟨cP, kP, hfP, hkP, -, hni, -, -⟩ := Cond.instantiable_spec (mvT (args := args) hZ w4)
  cases hfP.symm.trans (findClass_of_methodNamed hnamed)
  have hni' : kP.isInterface = false := by simp only [Bool.or_eq_false_iff] at hni; exact hni.1
  have hpriv : s.PrivateAt y := Cond.privateMethod_at (mvP hZ w3 (args := #[]))
  have hselP : selectMethod e.platform s.vm cell.cls mk = .method mk := selectMethod_private hmethM (hpriv mk methM hnamed hmethM)
  obtain ⟨vm₁, X₁, hstep₁⟩ := X.invokevirtual hx hown (mvT hZ w1) hnamed hmethM hstM hkP hni' hy (a := b) (cell := cell) hcell' hobj hselP hmethM habM hkP hni' (g := mkF m pc Ls St) rfl (argsL := argsL) (rest := rest) (lenOf hpd hln _ hsigM) hst hd
  obtain ⟨v, ⟨T', L', k', n'⟩, X', ⟨L, hQ, l', y', z'⟩, hsteps⟩ := (backOf (W := (rest.map fun v => v.category).sum) (hM []) hZ w5 w6 hf hl : Back l R p e below s args y 3 _ _ _) m meth c ⟨T.setVm vm₁, locs, cells, slots⟩ (mkF m pc Ls rest) (.invokevirtual index) mk (.ref b :: argsL).toArray X₁ rfl hsz hd (by simp) (X₁.named hnamed) ⟨rfl, eT, hc, hs⟩
  dsimp only [Pt.U, Pt.locs, Pt.cells, Pt.slots] at X' l' y' z' hsteps hQ
  subst l' y' z'
  exact (G v T' L X' hQ).on fun t k => (hstep₁ _ fun acts => by rw [doInvoke_state]; exact Steps.refl _).trans (hsteps.trans k)
theorem g_callPW {vm0 : Vm} {k0 : Nat} (X : Stand p l e R (s.setVm vm0) m args below meth c T locs cells slots) (hx : p.tables.exec = Jvm.exec) (hZ : Z.Warmed39 (s.setVm vm0).vm) (hown : (s.setVm vm0).vm.findClass own = some m.cls) (w1 : (Jvm.Cond.methodLink own index y).before a0 Z = true) (w2 : (Jvm.Cond.instanceMethod y).before a0 Z = true) (w3 : (Jvm.Cond.privateMethod y).before a0 Z = true) (w4 : (Jvm.Cond.instantiable y.cls kk).before a0 Z = true) (w5 : (Jvm.Cond.code y bytes ml ret).before a0 Z = true) (w6 : (Jvm.Cond.initialized y.cls).before a0 Z = true)
    (hy : y.cls ≠ "java/lang/invoke/MethodHandle" ∧ y.cls ≠ "java/lang/invoke/VarHandle") (eT : T.heap = h) (hS : s.Since vm0 k0) (hk : k0 ≤ h.size) (E : Exa Z h b C) (hM : ConW l Z h y bytes ml ret rm as' Q) (hsz : Ls.size = c.maxLocals) {argsL rest : List Value} (hst : St = argsL.reverse ++ .ref b :: rest) (has : (Value.ref b :: argsL).toArray = as') (hpd : parseMethodDescriptor y.desc = some ⟨ps, r⟩) (hln : argsL.length = ps.length)
    (hf : rm.frames + 1 ≤ R.frames) (hl : (rest.map fun v => v.category).sum + (ml + 11) + rm.locals ≤ R.locals) (hc : cells + rm.cells ≤ R.cells) (hs : slots + rm.slots ≤ R.slots) (hd : decode c.code pc = .ok (.invokevirtual index, 3)) (hq : pc + 3 = q)
    (G : ∀ v T' L h', T'.heap = h' → Stand p l e R (s.setVm T'.vm) m args below meth c T' (locs ++ L) (cells + rm.cells) (slots + rm.slots) → s.Since T'.vm h'.size → Z.Warmed39 (s.setVm T'.vm).vm → (s.setVm T'.vm).vm.findClass own = some m.cls → Q v h' L → Go p e below W (T'.setTop (mkF m q Ls (v.toList ++ rest)))) : Go p e below W (T.setTop (mkF m pc Ls St)) := by
  subst hq has
  obtain ⟨cell, hcell, hobj⟩ := E.cell
  have hcell' : T.heap[b]? = some cell := by rw [eT]; exact hcell
  obtain ⟨mk, methM, hnamed, hmethM, hstM, habM⟩ := Cond.instanceMethod_spec (mvT (args := args) hZ w2)
  obtain ⟨methM', cM, hmethM', -, -, -, -, -, -, hsigM⟩ := Cond.code_spec hnamed (mvT (args := args) hZ w5)
  cases hmethM.symm.trans hmethM'
  obtain ⟨cP, kP, hfP, hkP, -, hni, -, -⟩ := Cond.instantiable_spec (mvT (args := args) hZ w4)
  cases hfP.symm.trans (findClass_of_methodNamed hnamed)
  have hni' : kP.isInterface = false := by simp only [Bool.or_eq_false_iff] at hni; exact hni.1
  have hpriv : (s.setVm vm0).PrivateAt y := Cond.privateMethod_at (mvP hZ w3 (args := #[]))
  have hselP : selectMethod e.platform (s.setVm vm0).vm cell.cls mk = .method mk := selectMethod_private hmethM (hpriv mk methM hnamed hmethM)
  obtain ⟨vm₁, X₁, hstep₁⟩ := X.invokevirtual hx hown (mvT hZ w1) hnamed hmethM hstM hkP hni' hy (a := b) (cell := cell) hcell' hobj hselP hmethM habM hkP hni' (g := mkF m pc Ls St) rfl (argsL := argsL) (rest := rest) (lenOf hpd hln _ hsigM) hst hd
  obtain ⟨v, ⟨T', L', k', n'⟩, X', h2, hg, ⟨L, hQ, l', y', z'⟩, hsteps⟩ := (backOfS (W := (rest.map fun v => v.category).sum) (hM []) hZ w5 w6 hf hl : BackS l R p e below (s.setVm vm0) args y 3 _ _ _) m meth c ⟨T.setVm vm₁, locs, cells, slots⟩ (mkF m pc Ls rest) (.invokevirtual index) mk (.ref b :: argsL).toArray X₁ rfl hsz hd (by simp) (X₁.named hnamed) ⟨rfl, eT, hc, hs⟩
  dsimp only [Pt.U, Pt.locs, Pt.cells, Pt.slots] at X' l' y' z' hsteps hQ h2 hg
  subst l' y' z'
  obtain ⟨X2, hS2, hZ2, hown2⟩ := rebS hS (by rw [eT]; exact hk : k0 ≤ T.heap.size) X' h2 hg hZ hown
  exact (G v T' L _ rfl X2 hS2 hZ2 hown2 hQ).on fun t k => (hstep₁ _ fun acts => by rw [doInvoke_state]; exact Steps.refl _).trans (hsteps.trans k)
end Priv
/-- a string of the one sign ch (0 to 255) -/
def Str (Z : State) (h : Heap) (a va : Addr) (ch : Int32) : Prop := Exa Z h a "java/lang/String" ∧ Fld Z h a "java/lang/String" "value" "[B" (.ref va) ∧ Fld Z h a "java/lang/String" "coder" "B" (.int (0 : Int32)) ∧ Af Z h va .byte 1 (fun _ => .int (ch.toInt8.toInt32)) ∧ (ch.toInt8.toInt32 &&& (255 : Int32)) = ch ∧ ∃ hs hz : Int32, Fld Z h a "java/lang/String" "hash" "I" (.int hs) ∧ Fld Z h a "java/lang/String" "hashIsZero" "Z" (.int hz) ∧ (hs = 0 ∨ hs = ch) ∧ (hz = 0 ∨ ch = 0)
theorem Str.ext {va : Addr} {ch : Int32} (F : Str Z h a va ch) (E : Ext h h') : Str Z h' a va ch := by
  obtain ⟨f1, f2, f3, f4, f5, hs, hz, f6, f7, f8⟩ := F
  exact ⟨f1.ext E, f2.ext E, f3.ext E, f4.ext E, f5, hs, hz, f6.ext E, f7.ext E, f8⟩
theorem Str.keep {va : Addr} {ch : Int32} {ws : List Addr} (F : Str Z h a va ch) (K : Keep h h' ws) (q : a ∉ ws) (q' : va ∉ ws) : Str Z h' a va ch := by
  obtain ⟨f1, f2, f3, f4, f5, hs, hz, f6, f7, f8⟩ := F
  exact ⟨f1.keep K, f2.keep K q, f3.keep K q, f4.keep K q', f5, hs, hz, f6.keep K q, f7.keep K q, f8⟩
theorem Str.other {va : Addr} {ch : Int32} {sl : Nat} {v : Value} (F : Str Z h a va ch) (W : Wr h h' b sl v) (q : a ≠ b) (q' : va ≠ b) : Str Z h' a va ch :=
  F.keep (Keep.of_wr W) (ninS q nin0) (ninS q' nin0)
theorem Str.lt {va : Addr} {ch : Int32} (F : Str Z h a va ch) : a < h.size := F.1.lt
theorem Str.vlt {va : Addr} {ch : Int32} (F : Str Z h a va ch) : va < h.size := F.2.2.2.1.lt
/-- null, or an Integer -/
def Vok (Z : State) (h : Heap) (v : Value) : Prop := v = .null ∨ ∃ y, v = .ref y ∧ Exa Z h y "java/lang/Integer"
theorem Vok.ext {v : Value} (F : Vok Z h v) (E : Ext h h') : Vok Z h' v := F.imp id fun ⟨y, e, q⟩ => ⟨y, e, q.ext E⟩
theorem Vok.keep {v : Value} {ws : List Addr} (F : Vok Z h v) (K : Keep h h' ws) : Vok Z h' v := F.imp id fun ⟨y, e, q⟩ => ⟨y, e, q.keep K⟩
theorem Vok.wr {v w : Value} {sl : Nat} (F : Vok Z h v) (W : Wr h h' b sl w) : Vok Z h' v := F.keep (Keep.of_wr W)
theorem Vok.isRef {v : Value} (F : Vok Z h v) : v.isRef = true := by rcases F with rfl | ⟨y, rfl, -⟩ <;> rfl
abbrev toN : String := "com/example/kehys/kehys/io/TreeObject"
abbrev oaD : String := "[Ljava/lang/Object;"
/-- null, a String or an Integer -/
def Sb (Z : State) (h : Heap) (v : Value) : Prop := v = .null ∨ ∃ y, v = .ref y ∧ (Exa Z h y "java/lang/String" ∨ Exa Z h y "java/lang/Integer")
theorem Sb.ext {v : Value} (F : Sb Z h v) (E : Ext h h') : Sb Z h' v := F.imp id fun ⟨y, e, q⟩ => ⟨y, e, q.imp (fun r => r.ext E) (fun r => r.ext E)⟩
theorem Sb.keep {v : Value} {ws : List Addr} (F : Sb Z h v) (K : Keep h h' ws) : Sb Z h' v := F.imp id fun ⟨y, e, q⟩ => ⟨y, e, q.imp (fun r => r.keep K) (fun r => r.keep K)⟩
theorem Sb.wr {v w : Value} {sl : Nat} (F : Sb Z h v) (W : Wr h h' b sl w) : Sb Z h' v := F.keep (Keep.of_wr W)
theorem Vok.sb {v : Value} (F : Vok Z h v) : Sb Z h v := F.imp id fun ⟨y, e, q⟩ => ⟨y, e, Or.inr q⟩
theorem Str.sb {va : Addr} {ch : Int32} (F : Str Z h a va ch) : Sb Z h (.ref a) := Or.inr ⟨a, rfl, Or.inl F.1⟩
theorem Sb.isRef {v : Value} (F : Sb Z h v) : v.isRef = true := by rcases F with rfl | ⟨y, rfl, -⟩ <;> rfl
theorem Sb.fit {v : Value} {C : String} (F : Sb Z h v) : fits (.object C) v = true := by rcases F with rfl | ⟨y, rfl, -⟩ <;> rfl
theorem Sb.sto {v : Value} (F : Sb Z h v) (O : Ov Z h b "java/lang/Object") (w1 : (Jvm.Cond.castable "java/lang/String" "java/lang/Object").before a0 Z = true) (w2 : (Jvm.Cond.castable "java/lang/Integer" "java/lang/Object").before a0 Z = true) : Sto Z h b v := by
  rcases F with rfl | ⟨y, rfl, q | q⟩
  · exact Or.inl rfl
  · exact O.sto (Ins.of_exa q w1)
  · exact O.sto (Ins.of_exa q w2)
/-- the tree's object: n members in arrays of room r -/
def TrC (Z : State) (h : Heap) (t : Addr) (n : Int32) (ma ha : Addr) (r : Nat) (fm fh : Nat → Value) (cg : Int32) : Prop :=
  Exa Z h t toN ∧ Fld Z h t toN "members" "[Ljava/lang/Object;" (.ref ma) ∧ Fld Z h t toN "hashes" "[I" (.ref ha) ∧ Fld Z h t toN "size" "I" (.int n) ∧ Fld Z h t toN "index" "Ljava/util/Map;" .null ∧ Fld Z h t toN "changes" "I" (.int cg) ∧
  Af Z h ma (.object "java/lang/Object") (2 * r) fm ∧ Ov Z h ma "java/lang/Object" ∧ Exa Z h ma oaD ∧ Af Z h ha .int r fh ∧ t < ma ∧ t < ha ∧ ma ≠ ha ∧ r ≤ 8
def Tr0 (Z : State) (h : Heap) (t : Addr) : Prop := ∃ ma ha r fm fh cg, TrC Z h t 0 ma ha r fm fh cg
def Tr1 (Z : State) (h : Heap) (t s0 : Addr) (c0 : Int32) : Prop := ∃ ma ha r fm fh cg, TrC Z h t 1 ma ha r fm fh cg ∧ 1 ≤ r ∧ fm 0 = .ref s0 ∧ Sb Z h (fm 1) ∧ fh 0 = .int c0
def Tr2 (Z : State) (h : Heap) (t s0 : Addr) (c0 : Int32) (s1 : Addr) (c1 : Int32) : Prop := ∃ ma ha r fm fh cg, TrC Z h t 2 ma ha r fm fh cg ∧ 2 ≤ r ∧ fm 0 = .ref s0 ∧ Sb Z h (fm 1) ∧ fh 0 = .int c0 ∧ fm 2 = .ref s1 ∧ Sb Z h (fm 3) ∧ fh 1 = .int c1
/-- all that was written lies at a or at t and above, and is no statics cell -/
def Up (h h' : Heap) (a t : Addr) : Prop := ∃ ws, Keep h h' ws ∧ ∀ x ∈ ws, (x = a ∨ t ≤ x) ∧ ∀ cell : Cell, h[x]? = some cell → cell.vm.isStatics = false
theorem Up.str {t va b : Addr} {ch : Int32} (U : Up h h' a t) (F : Str Z h b va ch) (q1 : b ≠ a) (q2 : b < t) (q3 : va ≠ a) (q4 : va < t) : Str Z h' b va ch := by
  obtain ⟨ws, K, q⟩ := U
  exact F.keep K (fun r => (q b r).1.elim q1 (fun z => absurd q2 (Nat.not_lt.mpr z))) (fun r => (q va r).1.elim q3 (fun z => absurd q4 (Nat.not_lt.mpr z)))
theorem Up.vok {t : Addr} {v : Value} (U : Up h h' a t) (F : Vok Z h v) : Vok Z h' v := by obtain ⟨ws, K, q⟩ := U; exact F.keep K
theorem Up.sta {t : Addr} {v : Value} {C n d : String} (U : Up h h' a t) (F : Sta Z h C n d v) : Sta Z h' C n d v := by obtain ⟨ws, K, q⟩ := U; exact own_sta_keep F K (fun x hx => (q x hx).2)
theorem Up.le {t : Addr} (U : Up h h' a t) : h.size ≤ h'.size := by obtain ⟨ws, K, q⟩ := U; exact K.1
theorem own_r32 : ∀ r : Nat, r ≤ 8 → (0 < r → ¬ (0 : Int32) = r.toInt32) ∧ (1 < r → ¬ (1 : Int32) = r.toInt32) ∧ (¬ (2 * r).toInt32 < 0) ∧ (1 ≤ r → ¬ (2 * r).toInt32 < 2) ∧ (2 ≤ r → ¬ (2 * r).toInt32 < 4) := by
  intro r hr
  have : ∀ k : Fin 9, (0 < k.val → ¬ (0 : Int32) = k.val.toInt32) ∧ (1 < k.val → ¬ (1 : Int32) = k.val.toInt32) ∧ (¬ (2 * k.val).toInt32 < 0) ∧ (1 ≤ k.val → ¬ (2 * k.val).toInt32 < 2) ∧ (2 ≤ k.val → ¬ (2 * k.val).toInt32 < 4) := by decide
  exact this ⟨r, by omega⟩
theorem Up.after {t : Addr} {h1 : Heap} (K : Keep h h1 [a]) (hn : ∀ cell : Cell, h[a]? = some cell → cell.vm.isStatics = false) (U : Up h1 h' a t) : Up h h' a t := by
  obtain ⟨ws, K', q⟩ := U
  have K2 : Keep h h1 (a :: ws) := ⟨K.1, fun x c r z => K.2.1 x c r (fun y => z (by simp at y; simp [y])), K.2.2⟩
  refine ⟨a :: ws, K2.trans K' (fun x hx => Or.inl (List.mem_cons_of_mem _ hx)), fun x hx => ?_⟩
  rcases List.mem_cons.mp hx with rfl | hx
  · exact ⟨Or.inl rfl, hn⟩
  · refine ⟨(q x hx).1, fun cell hc => ?_⟩
    obtain ⟨c', h1', -, h3, -⟩ := K.2.2 x cell hc
    rw [← h3]; exact (q x hx).2 c' h1'
theorem own_all4 {t ma ha : Addr} {C D F : String} {ty : FieldType} {n : Nat} {f : Nat → Value} (E0 : Exa Z h t C) (A0 : Exa Z h ma D) (V1 : Af Z h ha ty n f) (SA : Exa Z h a F) (tma : t < ma) (tha : t < ha) : ∀ x ∈ [t, ma, ha, a], (x = a ∨ t ≤ x) ∧ ∀ cell : Cell, h[x]? = some cell → cell.vm.isStatics = false := by
  intro x hx
  simp only [List.mem_cons, List.not_mem_nil, or_false] at hx
  rcases hx with rfl | rfl | rfl | rfl
  · exact ⟨Or.inr (Nat.le_refl _), E0.nostat⟩
  · exact ⟨Or.inr (Nat.le_of_lt tma), A0.nostat⟩
  · exact ⟨Or.inr (Nat.le_of_lt tha), V1.nostat⟩
  · exact ⟨Or.inl rfl, SA.nostat⟩
theorem own_all2 {t ma : Addr} {C D : String} (E0 : Exa Z h a C) (A0 : Exa Z h ma D) (tma : t < ma) : ∀ x ∈ [a, ma], (x = a ∨ t ≤ x) ∧ ∀ cell : Cell, h[x]? = some cell → cell.vm.isStatics = false := by
  intro x hx
  simp only [List.mem_cons, List.not_mem_nil, or_false] at hx
  rcases hx with rfl | rfl
  · exact ⟨Or.inl rfl, E0.nostat⟩
  · exact ⟨Or.inr (Nat.le_of_lt tma), A0.nostat⟩
/-- the cache of Integers -/
def Ch (Z : State) (h : Heap) (ca : Addr) (f : Nat → Value) : Prop := Af Z h ca (.object "java/lang/Integer") 256 f ∧ ∀ k, k < 256 → ∃ y, f k = .ref y ∧ Exa Z h y "java/lang/Integer"
theorem Ch.ext {ca : Addr} {f : Nat → Value} (F : Ch Z h ca f) (E : Ext h h') : Ch Z h' ca f := ⟨F.1.ext E, fun k hk => by obtain ⟨y, e, q⟩ := F.2 k hk; exact ⟨y, e, q.ext E⟩⟩
theorem Ch.keep {ca : Addr} {f : Nat → Value} (F : Ch Z h ca f) (K : Keep h h' []) : Ch Z h' ca f := ⟨F.1.keep K nin0, fun k hk => by obtain ⟨y, e, q⟩ := F.2 k hk; exact ⟨y, e, q.keep K⟩⟩
theorem own_cp0 {x y : Value} {A j : Nat} : (if A ≤ j ∧ j < A + (0 : Int32).toNatClampNeg then x else y) = y := if_neg (fun q => by have h1 := q.1; have h2 : j < A + 0 := q.2; omega)
theorem own_cp2 {f : Nat → Value} {j : Nat} : (if (0 : Int32).toNatClampNeg ≤ j ∧ j < (0 : Int32).toNatClampNeg + (2 : Int32).toNatClampNeg then f ((2 : Int32).toNatClampNeg + (j - (0 : Int32).toNatClampNeg)) else f j) = (if j = 0 then f 2 else if j = 1 then f 3 else f j) := by
  match j with
  | 0 => rfl
  | 1 => rfl
  | k + 2 =>
    have h : ¬ ((0 : Int32).toNatClampNeg ≤ k + 2 ∧ k + 2 < (0 : Int32).toNatClampNeg + (2 : Int32).toNatClampNeg) := fun q => by have h2 : k + 2 < 0 + 2 := q.2; omega
    rw [if_neg h, if_neg (by omega), if_neg (by omega)]
theorem own_cp1 {f : Nat → Value} {j : Nat} : (if (0 : Int32).toNatClampNeg ≤ j ∧ j < (0 : Int32).toNatClampNeg + (1 : Int32).toNatClampNeg then f ((1 : Int32).toNatClampNeg + (j - (0 : Int32).toNatClampNeg)) else f j) = (if j = 0 then f 1 else f j) := by
  match j with
  | 0 => rfl
  | k + 1 =>
    have h : ¬ ((0 : Int32).toNatClampNeg ≤ k + 1 ∧ k + 1 < (0 : Int32).toNatClampNeg + (1 : Int32).toNatClampNeg) := fun q => by have h2 : k + 1 < 0 + 1 := q.2; omega
    rw [if_neg h, if_neg (by omega)]
end Own220
theorem own_strA {Z : State} {a0 : Array Value} (hw : ∀ d ∈ tables_1, d.before a0 Z = true) : ∀ a ∈ Bundle.stringAtoms, a.before a0 Z = true := by
  intro d hd
  simp only [Bundle.stringAtoms, List.mem_cons, List.not_mem_nil, or_false] at hd
  rcases hd with rfl | rfl | rfl | rfl | rfl | rfl | rfl
  · exact hw _ (List.mem_of_getElem? (i := 2) rfl)
  · exact hw _ (List.mem_of_getElem? (i := 10) rfl)
  · exact hw _ (List.mem_of_getElem? (i := 14) rfl)
  · exact hw _ (List.mem_of_getElem? (i := 23) rfl)
  · exact hw _ (List.mem_of_getElem? (i := 25) rfl)
  · exact hw _ (List.mem_of_getElem? (i := 98) rfl)
  · exact hw _ (List.mem_of_getElem? (i := 99) rfl)
theorem own_nar8 (x : Int32) : nar .byte (x.toInt8.toInt32) = x.toInt8.toInt32 := by simp [nar]
theorem own_i8 (i : Int32) (h : ¬ i < (-128 : Int32)) (k : ¬ (127 : Int32) < i) : ¬ i + (128 : Int32) < 0 ∧ (i + (128 : Int32)).toNatClampNeg < 256 := by
  have e := c_iadd i (128 : Int32)
  have r := rng32 (i + (128 : Int32))
  have e1 : (128 : Int32).toInt = 128 := rfl
  have e2 : (-128 : Int32).toInt = -128 := rfl
  have e3 : (127 : Int32).toInt = 127 := rfl
  have e4 : (0 : Int32).toInt = 0 := rfl
  rw [Int32.lt_iff_toInt_lt] at h k
  simp only [Int32.lt_iff_toInt_lt, Int32.toNatClampNeg]
  omega
theorem own_strne {Z : State} {h : Heap} {a : Addr} {a0 : Array Value} {k n : Nat} {f : Nat → Value} {ty : FieldType} {C : String} (E : Exa Z h a C) (V : Af Z h a ty n f) (w : (Jvm.Cond.instantiable C k).before a0 Z = true) : False := by
  obtain ⟨cell, kk, e1, e2, e3, e4, -⟩ := E
  obtain ⟨cl, A, -⟩ := V
  cases e1.symm.trans A.1
  obtain ⟨-, k2, z1, comp, z2⟩ := A.2.1
  cases e3.symm.trans z1
  obtain ⟨cC, kC, f1, f2, f3, -⟩ := Cond.instantiable_spec w
  cases e2.symm.trans f1
  cases e3.symm.trans f2
  rw [f3] at z2; cases z2
def own_keep (p r q x y : Int32) : Int32 := if p = 0 then 0 else if r = 0 then (if q = 0 then 1 else 0) else if x = y then 0 else if q = 0 then 1 else 0
def own_exs (k0 k1 x y : Int32) : Int32 := if k0 = 0 then (if k1 = 0 then 0 else 1) else if k1 = 0 then 1 else if x = y then 1 else 2
def own_sz (z5 z6 z7 z8 ca cb cc : Int32) : Int32 := own_exs (own_keep z5 z7 z8 ca cc) (own_keep z6 z7 z8 cb cc) ca cb
theorem own_ch (x : Int32) : ¬ (255 : Int32) < (x &&& (255 : Int32)).toUInt32.toUInt16.toUInt32.toInt32 ∧ (x &&& (255 : Int32)).toUInt32.toUInt16.toUInt32.toInt32.toInt8.toInt32 &&& (255 : Int32) = (x &&& (255 : Int32)).toUInt32.toUInt16.toUInt32.toInt32 := by
  have h := c_and x (255 : Int32) (by decide)
  have e : (255 : Int32).toInt = 255 := rfl
  obtain ⟨k, hk⟩ : ∃ k : Fin 256, x &&& (255 : Int32) = Int32.ofNat k.val := by
    refine ⟨⟨(x &&& (255 : Int32)).toInt.toNat, by omega⟩, ?_⟩
    apply Int32.toInt_inj.mp
    rw [Int32.toInt_ofNat_of_lt (by show (x &&& (255 : Int32)).toInt.toNat < 2 ^ 31; omega)]
    show _ = (((x &&& (255 : Int32)).toInt.toNat : Nat) : Int)
    omega
  rw [hk]
  have : ∀ k : Fin 256, ¬ (255 : Int32) < (Int32.ofNat k.val).toUInt32.toUInt16.toUInt32.toInt32 ∧ (Int32.ofNat k.val).toUInt32.toUInt16.toUInt32.toInt32.toInt8.toInt32 &&& (255 : Int32) = (Int32.ofNat k.val).toUInt32.toUInt16.toUInt32.toInt32 := by decide +kernel
  exact this k
theorem own_room (x : Int32) : (x &&& (7 : Int32)) - (1 : Int32) = (-1 : Int32) ∨ (x &&& (7 : Int32)) - (1 : Int32) = (0 : Int32) ∨ (x &&& (7 : Int32)) - (1 : Int32) = (1 : Int32) ∨ (x &&& (7 : Int32)) - (1 : Int32) = (2 : Int32) ∨ (x &&& (7 : Int32)) - (1 : Int32) = (3 : Int32) ∨ (x &&& (7 : Int32)) - (1 : Int32) = (4 : Int32) ∨ (x &&& (7 : Int32)) - (1 : Int32) = (5 : Int32) ∨ (x &&& (7 : Int32)) - (1 : Int32) = (6 : Int32) := by
  have h := c_and x (7 : Int32) (by decide)
  have e : (7 : Int32).toInt = 7 := rfl
  obtain ⟨k, hk⟩ : ∃ k : Fin 8, x &&& (7 : Int32) = Int32.ofNat k.val := by
    refine ⟨⟨(x &&& (7 : Int32)).toInt.toNat, by omega⟩, ?_⟩
    apply Int32.toInt_inj.mp
    rw [Int32.toInt_ofNat_of_lt (by show (x &&& (7 : Int32)).toInt.toNat < 2 ^ 31; omega)]
    show _ = (((x &&& (7 : Int32)).toInt.toNat : Nat) : Int)
    omega
  rw [hk]
  have : ∀ k : Fin 8, (Int32.ofNat k.val) - (1 : Int32) = (-1 : Int32) ∨ (Int32.ofNat k.val) - (1 : Int32) = (0 : Int32) ∨ (Int32.ofNat k.val) - (1 : Int32) = (1 : Int32) ∨ (Int32.ofNat k.val) - (1 : Int32) = (2 : Int32) ∨ (Int32.ofNat k.val) - (1 : Int32) = (3 : Int32) ∨ (Int32.ofNat k.val) - (1 : Int32) = (4 : Int32) ∨ (Int32.ofNat k.val) - (1 : Int32) = (5 : Int32) ∨ (Int32.ofNat k.val) - (1 : Int32) = (6 : Int32) := by decide +kernel
  exact this k
theorem own_exaI {args : Array Value} {s : State} {t : Term} {a : Addr} {C : String} {idx : List Nat} (ev : t.eval args s none idx s = some (.ref a)) (hx : (Jvm.Cond.exactly t C).value args s none s idx = some true) : Exa s s.heap a C := by
  obtain ⟨a', c', cell, k, e1, e2, e3, e4, e5, rfl, e7⟩ := Cond.exactly_spec (beq_iff_eq.mpr hx : (Jvm.Cond.exactly t C).holds args s none s idx = true)
  cases ev.symm.trans e1
  exact ⟨cell, k, e3, e2, e4, e5, e7⟩
theorem own_cache {args : Array Value} {s : State} {t : Term} {a : Addr} {cl : Cell} {P : Jvm.Cond} (A : Arr s s.heap a cl (.object "java/lang/Integer")) (L : cl.slots.size = 256) (ev : t.eval args s none [] s = some (.ref a)) (ev' : ∀ i, t.eval args s none [i] s = some (.ref a))
    (hh : (Jvm.Cond.all t (Jvm.Cond.and (Jvm.Cond.exactly (Term.elem t (Term.index 0)) "java/lang/Integer") P)).value args s none s [] = some true) : Ch s s.heap a (fun i => (cl.slots[i]?).getD .null) := by
  refine ⟨⟨cl, A, L, fun i hi => ?_⟩, fun k hk => ?_⟩
  · have : i < cl.slots.size := by rw [L]; exact hi
    show cl.slots[i]? = some ((cl.slots[i]?).getD .null)
    rw [Array.getElem?_eq_getElem this]; rfl
  · have h := Cond.all_elim ev (A.fin (Vm.Alike.refl _)) hh k (by rw [L]; exact hk)
    obtain ⟨h1, -⟩ := and_e h
    obtain ⟨y, ey⟩ := exa_v h1
    have r := (elem_in ey (ev' k) own_index A.1).2
    have q : k.toInt32.toNatClampNeg = k := by simp [Int32.toNatClampNeg, len_toInt (show k < 2 ^ 31 by omega)]
    rw [q] at r
    exact ⟨y, by show (cl.slots[k]?).getD .null = .ref y; rw [r]; rfl, own_exaI ey h1⟩
theorem own_ne0 {args : Array Value} {s : State} {t : Term} {k : Int32} (ev : t.eval args s none [] s = some (.int k)) (hh : (Jvm.Cond.not (Jvm.Cond.eq t (Term.int 0))).value args s none s [] = some true) : ¬ k = 0 := by
  intro q; subst q
  simp [Cond.value, ev, Term.int_eval] at hh
theorem own_is127 {args : Array Value} {s : State} {t : Term} {k : Int32} (hh : (Jvm.Cond.eq t (Term.int k)).value args s none s [] = some true) : t.eval args s none [] s = some (.int k) := by
  obtain ⟨x, y, e1, e2, k1, k2⟩ := cmp_v (Or.inl hh)
  obtain rfl : y = .int k := (Option.some.inj ((Term.int_eval k).symm.trans e2)).symm
  obtain ⟨z, rfl⟩ := k2
  have q : z = k := by simpa [Cond.value, e1, e2] using hh
  subst q; exact e1
theorem pd_0 : parseMethodDescriptor "(C)Z" = some ⟨[.char], some .boolean⟩ := by decide +kernel
theorem pd_1 : parseMethodDescriptor "(C)[B" = some ⟨[.char], some (.array .byte)⟩ := by decide +kernel
theorem pd_2 : parseMethodDescriptor "([BB)V" = some ⟨[(.array .byte), .byte], none⟩ := by decide +kernel
theorem pd_3 : parseMethodDescriptor "()V" = some ⟨[], none⟩ := by decide +kernel
theorem pd_4 : parseMethodDescriptor "(I)V" = some ⟨[.int], none⟩ := by decide +kernel
theorem pd_5 : parseMethodDescriptor "()Z" = some ⟨[], some .boolean⟩ := by decide +kernel
theorem pd_6 : parseMethodDescriptor "([B)I" = some ⟨[(.array .byte)], some .int⟩ := by decide +kernel
theorem pd_7 : parseMethodDescriptor "([B[B)Z" = some ⟨[(.array .byte), (.array .byte)], some .boolean⟩ := by decide +kernel
theorem pd_8 : parseMethodDescriptor "()I" = some ⟨[], some .int⟩ := by decide +kernel
theorem pd_9 : parseMethodDescriptor "(Ljava/lang/Object;)Z" = some ⟨[(.object "java/lang/Object")], some .boolean⟩ := by decide +kernel
theorem pd_10 : parseMethodDescriptor "(II)I" = some ⟨[.int, .int], some .int⟩ := by decide +kernel
theorem pd_11 : parseMethodDescriptor "([Ljava/lang/Object;ILjava/lang/Class;)[Ljava/lang/Object;" = some ⟨[(.array (.object "java/lang/Object")), .int, (.object "java/lang/Class")], some (.array (.object "java/lang/Object"))⟩ := by decide +kernel
theorem pd_12 : parseMethodDescriptor "(Ljava/lang/Object;Ljava/lang/String;)Ljava/lang/Object;" = some ⟨[(.object "java/lang/Object"), (.object "java/lang/String")], some (.object "java/lang/Object")⟩ := by decide +kernel
theorem pd_13 : parseMethodDescriptor "([Ljava/lang/Object;I)[Ljava/lang/Object;" = some ⟨[(.array (.object "java/lang/Object")), .int], some (.array (.object "java/lang/Object"))⟩ := by decide +kernel
theorem pd_14 : parseMethodDescriptor "([II)[I" = some ⟨[(.array .int), .int], some (.array .int)⟩ := by decide +kernel
theorem pd_15 : parseMethodDescriptor "(Ljava/lang/Object;)I" = some ⟨[(.object "java/lang/Object")], some .int⟩ := by decide +kernel
theorem pd_16 : parseMethodDescriptor "(Ljava/lang/String;Ljava/lang/Object;)V" = some ⟨[(.object "java/lang/String"), (.object "java/lang/Object")], none⟩ := by decide +kernel
theorem pd_17 : parseMethodDescriptor "(III)V" = some ⟨[.int, .int, .int], none⟩ := by decide +kernel
theorem pd_18 : parseMethodDescriptor "([Ljava/lang/Object;IILjava/lang/Object;)V" = some ⟨[(.array (.object "java/lang/Object")), .int, .int, (.object "java/lang/Object")], none⟩ := by decide +kernel
theorem pd_19 : parseMethodDescriptor "(C)Ljava/lang/String;" = some ⟨[.char], some (.object "java/lang/String")⟩ := by decide +kernel
theorem pd_20 : parseMethodDescriptor "(Ljava/lang/Object;)Ljava/lang/Object;" = some ⟨[(.object "java/lang/Object")], some (.object "java/lang/Object")⟩ := by decide +kernel
theorem pd_21 : parseMethodDescriptor "(Ljava/lang/String;Ljava/lang/Object;)Ljava/lang/Object;" = some ⟨[(.object "java/lang/String"), (.object "java/lang/Object")], some (.object "java/lang/Object")⟩ := by decide +kernel
theorem pd_22 : parseMethodDescriptor "(I)Ljava/lang/Integer;" = some ⟨[.int], some (.object "java/lang/Integer")⟩ := by decide +kernel
theorem pn_0 : plainName "java/lang/StringLatin1" = true := by first | (simp [plainName, overriddenIn]; done) | decide +kernel
theorem pn_1 : plainName "java/lang/String" = true := by first | (simp [plainName, overriddenIn]; done) | decide +kernel
theorem pn_2 : plainName "java/lang/Number" = true := by first | (simp [plainName, overriddenIn]; done) | decide +kernel
theorem pn_3 : plainName "java/lang/Integer" = true := by first | (simp [plainName, overriddenIn]; done) | decide +kernel
theorem pn_4 : plainName "java/util/AbstractMap" = true := by first | (simp [plainName, overriddenIn]; done) | decide +kernel
theorem pn_5 : plainName "com/example/kehys/kehys/io/TreeObject" = true := by first | (simp [plainName, overriddenIn]; done) | decide +kernel
theorem pn_6 : plainName "java/util/Objects" = true := by first | (simp [plainName, overriddenIn]; done) | decide +kernel
theorem pn_7 : plainName "java/util/Arrays" = true := by first | (simp [plainName, overriddenIn]; done) | decide +kernel
theorem pn_8 : plainName "com/example/kehys/kehys/io/TreeObjectIsEmptyPinLaw" = true := by first | (simp [plainName, overriddenIn]; done) | decide +kernel
theorem d2_0 : decode jdk_43_method_3_code 0 = .ok (.iload_n 0, 1) := by decide +kernel
theorem d2_1 : decode jdk_43_method_3_code 1 = .ok (.sipush 255, 3) := by decide +kernel
theorem d2_4 : decode jdk_43_method_3_code 4 = .ok (.if_icmp .gt 7, 3) := by decide +kernel
theorem d2_7 : decode jdk_43_method_3_code 7 = .ok (.iconst 1, 1) := by decide +kernel
theorem d2_8 : decode jdk_43_method_3_code 8 = .ok (.goto 4, 3) := by decide +kernel
theorem d2_12 : decode jdk_43_method_3_code 12 = .ok (.ireturn, 1) := by decide +kernel
set_option maxRecDepth 65536 in
set_option maxHeartbeats 40000000 in
theorem rmCE (l : Launch) (Z : State) (a0 : Array Value) (hw : ∀ d ∈ tables_1, d.before a0 Z = true) (ch : Int32) (hc : ¬ (255 : Int32) < ch) (h0 : Heap) :
    Con l Z h0 (⟨"java/lang/StringLatin1", "canEncode", "(C)Z"⟩ : MethodName) jdk_43_method_3_code 1 (some .boolean) ({ frames := 0, cells := 0, slots := 0, locals := 0 } : Room) #[(.int ch)] (Pur (some (.int 1)) h0) := by
  refine con_of (plainFor_of_name pn_0) (Ls := #[.val (.int ch)]) (fun m => by first | (simp [entryFrame, mkF, argsToLocals, Value.category]; done) | rfl) ?_
  intro p e s m below meth c s₁ hx hZ hby hml hret hlk hnm hown X0 e0
  refine g_iloadN X0 hx (hb hby d2_0) (v := ch) rfl (q := 1) rfl ?_
  refine g_sipush X0 hx (hb hby d2_1) (n := (255 : Int32)) (by decide) (q := 4) rfl ?_
  refine g_icmp_gt X0 hx (hb hby d2_4) (by decide) (q := 11) (by decide) (q2 := 7) rfl (fun hb4 => absurd hb4 hc) (fun hb4 => ?_)
  refine g_iconst X0 hx (hb hby d2_7) (n := (1 : Int32)) (by decide) (q := 8) rfl ?_
  refine g_goto X0 hx (hb hby d2_8) (by decide) (q := 12) (by decide) ?_
  exact g_retB X0 hx hret hlk (hb hby d2_12) (by decide) ⟨rfl, rfl, e0⟩ (Nat.le_of_ble_eq_true rfl) (Nat.le_of_ble_eq_true rfl)
theorem d3_0 : decode jdk_43_method_46_code 0 = .ok (.iconst 1, 1) := by decide +kernel
theorem d3_1 : decode jdk_43_method_46_code 1 = .ok (.newarray .byte, 2) := by decide +kernel
theorem d3_3 : decode jdk_43_method_46_code 3 = .ok (.dup, 1) := by decide +kernel
theorem d3_4 : decode jdk_43_method_46_code 4 = .ok (.iconst 0, 1) := by decide +kernel
theorem d3_5 : decode jdk_43_method_46_code 5 = .ok (.iload_n 0, 1) := by decide +kernel
theorem d3_6 : decode jdk_43_method_46_code 6 = .ok (.i2b, 1) := by decide +kernel
theorem d3_7 : decode jdk_43_method_46_code 7 = .ok (.bastore, 1) := by decide +kernel
theorem d3_8 : decode jdk_43_method_46_code 8 = .ok (.areturn, 1) := by decide +kernel
set_option maxRecDepth 65536 in
set_option maxHeartbeats 40000000 in
theorem rmTB (l : Launch) (Z : State) (a0 : Array Value) (hw : ∀ d ∈ tables_1, d.before a0 Z = true) (ch : Int32) (h0 : Heap) (n0 : Nat) (Z0 : n0 ≤ h0.size) :
    Con l Z h0 (⟨"java/lang/StringLatin1", "toBytes", "(C)[B"⟩ : MethodName) jdk_43_method_46_code 1 (some (.array .byte)) ({ frames := 0, cells := 1, slots := 1, locals := 0 } : Room) #[(.int ch)] (fun v h L => ∃ vb, v = some (.ref vb) ∧ Fr n0 L ∧ Keep h0 h [] ∧ h0.size ≤ vb ∧ Af Z h vb .byte 1 (fun _ => .int (ch.toInt8.toInt32))) := by
  refine con_of (plainFor_of_name pn_0) (Ls := #[.val (.int ch)]) (fun m => by first | (simp [entryFrame, mkF, argsToLocals, Value.category]; done) | rfl) ?_
  intro p e s m below meth c s₁ hx hZ hby hml hret hlk hnm hown X0 e0
  refine g_iconst X0 hx (hb hby d3_0) (n := (1 : Int32)) (by decide) (q := 1) rfl ?_
  refine g_newP X0 hx hZ (hw _ (List.mem_of_getElem? (i := 14) rfl)) e0 (hb hby d3_1) (n := (1 : Int32)) (by decide) (cap := 1) (Nat.le_of_ble_eq_true rfl) (by decide) (Nat.le_of_ble_eq_true rfl) (Nat.le_of_ble_eq_true rfl) (q := 3) rfl fun T1 h1 c1 vb g1 X1 e1 E1 A1 => ?_
  have ge_vb : n0 ≤ vb := Nat.le_trans Z0 (Nat.le_of_eq g1.symm)
  have sz_vb : h0.size ≤ vb := Nat.le_trans (Keep.refl h0 []).1 (Nat.le_of_eq g1.symm)
  have z_1 := Nat.le_trans Z0 E1.1
  have kp_1 := (Keep.refl h0 []).ext E1
  have V1 : Af Z h1 vb .byte 1 (fun _ => (.int (0 : Int32))) := Af.fresh A1
  refine g_dup X1 hx (hb hby d3_3) rfl (q := 4) rfl ?_
  refine g_iconst X1 hx (hb hby d3_4) (n := (0 : Int32)) (by decide) (q := 5) rfl ?_
  refine g_iloadN X1 hx (hb hby d3_5) (v := ch) rfl (q := 6) rfl ?_
  refine g_i2b X1 hx (hb hby d3_6) (z := (ch.toInt8.toInt32)) rfl (q := 7) rfl ?_
  refine g_bastore X1 hx hZ e1 V1 (by decide) (by decide) (own_nar8 ch) (hb hby d3_7) (q := 8) rfl fun T2 h2 X2 e2 W2 U2 => ?_
  have N2 := Fr.snoc X2 (Fr.nil n0) ge_vb
  have z_2 := Nat.le_trans z_1 (Keep.of_wr W2).1
  have kp_2 := kp_1.wr W2 (Or.inr sz_vb)
  have V2 : Af Z h2 vb .byte 1 (fun _ => .int (ch.toInt8.toInt32)) := U2.congr (fun i hi => by have h1 : i < 1 := hi; obtain rfl : i = 0 := (by omega); exact rfl)
  exact g_retA X2 hx hret hlk (hb hby d3_8) rfl rfl rfl ⟨vb, rfl, N2, by rw [e2]; exact kp_2, sz_vb, by rw [e2]; exact V2⟩ (Nat.le_of_ble_eq_true rfl) (Nat.le_of_ble_eq_true rfl)
theorem d4_0 : decode jdk_42_method_151_code 0 = .ok (.aload_n 0, 1) := by decide +kernel
theorem d4_1 : decode jdk_42_method_151_code 1 = .ok (.invokespecial 1, 3) := by decide +kernel
theorem d4_4 : decode jdk_42_method_151_code 4 = .ok (.aload_n 0, 1) := by decide +kernel
theorem d4_5 : decode jdk_42_method_151_code 5 = .ok (.aload_n 1, 1) := by decide +kernel
theorem d4_6 : decode jdk_42_method_151_code 6 = .ok (.putfield 9, 3) := by decide +kernel
theorem d4_9 : decode jdk_42_method_151_code 9 = .ok (.aload_n 0, 1) := by decide +kernel
theorem d4_10 : decode jdk_42_method_151_code 10 = .ok (.iload_n 2, 1) := by decide +kernel
theorem d4_11 : decode jdk_42_method_151_code 11 = .ok (.putfield 15, 3) := by decide +kernel
theorem d4_14 : decode jdk_42_method_151_code 14 = .ok (.return_, 1) := by decide +kernel
set_option maxRecDepth 65536 in
set_option maxHeartbeats 40000000 in
theorem rmSI (l : Launch) (Z : State) (a0 : Array Value) (hw : ∀ d ∈ tables_1, d.before a0 Z = true) (a vb : Addr) (h0 : Heap) (n0 : Nat) (hge : n0 ≤ a) (E0 : Exa Z h0 a "java/lang/String") (F0 : Fld Z h0 a "java/lang/String" "value" "[B" .null) (F1 : Fld Z h0 a "java/lang/String" "coder" "B" (.int (0 : Int32))) (F2 : Fld Z h0 a "java/lang/String" "hash" "I" (.int (0 : Int32))) (F3 : Fld Z h0 a "java/lang/String" "hashIsZero" "Z" (.int (0 : Int32))) :
    Con l Z h0 (⟨"java/lang/String", "<init>", "([BB)V"⟩ : MethodName) jdk_42_method_151_code 3 none ({ frames := 1, cells := 0, slots := 0, locals := 12 } : Room) #[(.ref a), (.ref vb), (.int (0 : Int32))] (fun v h L => v = none ∧ Fr n0 L ∧ Keep h0 h [a] ∧ Exa Z h a "java/lang/String" ∧ Fld Z h a "java/lang/String" "value" "[B" (.ref vb) ∧ Fld Z h a "java/lang/String" "coder" "B" (.int (0 : Int32)) ∧ Fld Z h a "java/lang/String" "hash" "I" (.int (0 : Int32)) ∧ Fld Z h a "java/lang/String" "hashIsZero" "Z" (.int (0 : Int32))) := by
  refine con_of (plainFor_of_name pn_1) (Ls := #[.val (.ref a), .val (.ref vb), .val (.int (0 : Int32))]) (fun m => by first | (simp [entryFrame, mkF, argsToLocals, Value.category]; done) | rfl) ?_
  intro p e s m below meth c s₁ hx hZ hby hml hret hlk hnm hown X0 e0
  refine g_aloadN X0 hx (hb hby d4_0) (v := (.ref a)) rfl rfl (q := 1) rfl ?_
  refine g_initO X0 hx hZ hown (hw _ (List.mem_of_getElem? (i := 19) rfl)) (hw _ (List.mem_of_getElem? (i := 20) rfl)) (hw _ (List.mem_of_getElem? (i := 21) rfl)) e0 (by exact hml.symm) (hb hby d4_1) (Nat.le_of_ble_eq_true rfl) (Nat.le_of_ble_eq_true rfl) (q := 4) rfl fun T3 X3 e3 => ?_
  refine g_aloadN X3 hx (hb hby d4_4) (v := (.ref a)) rfl rfl (q := 5) rfl ?_
  refine g_aloadN X3 hx (hb hby d4_5) (v := (.ref vb)) rfl rfl (q := 6) rfl ?_
  refine g_putF X3 hx hZ hown (hw _ (List.mem_of_getElem? (i := 22) rfl)) Via.refl e3 F0 E0 (Or.inr ⟨(hw _ (List.mem_of_getElem? (i := 23) rfl)), rfl, hnm⟩) (hw _ (List.mem_of_getElem? (i := 10) rfl)) (ty := (.array .byte)) (by decide) rfl rfl (hb hby d4_6) (q := 9) rfl fun T4 h4 X4 e4 W4 => ?_
  have fw4 := F0.same W4
  have N4 := Fr.snoc X4 (Fr.nil n0) hge
  have kp_4 := (Keep.refl h0 [a]).wr W4 (Or.inl (List.mem_of_getElem? (i := 0) rfl))
  have f5 := (E0.wr W4)
  have f6 := (F1.other W4 (Or.inr (slot_ne (Or.inr (hw _ (List.mem_of_getElem? (i := 25) rfl))) (Or.inr (hw _ (List.mem_of_getElem? (i := 23) rfl))) (by decide) (t := .byte) (t' := (.array .byte)) (by decide) (by decide))))
  have f7 := (F2.other W4 (Or.inr (slot_ne (Or.inl (hw _ (List.mem_of_getElem? (i := 82) rfl))) (Or.inr (hw _ (List.mem_of_getElem? (i := 23) rfl))) (by decide) (t := .int) (t' := (.array .byte)) (by decide) (by decide))))
  have f8 := (F3.other W4 (Or.inr (slot_ne (Or.inl (hw _ (List.mem_of_getElem? (i := 84) rfl))) (Or.inr (hw _ (List.mem_of_getElem? (i := 23) rfl))) (by decide) (t := .boolean) (t' := (.array .byte)) (by decide) (by decide))))
  refine g_aloadN X4 hx (hb hby d4_9) (v := (.ref a)) rfl rfl (q := 10) rfl ?_
  refine g_iloadN X4 hx (hb hby d4_10) (v := (0 : Int32)) rfl (q := 11) rfl ?_
  refine g_putF X4 hx hZ hown (hw _ (List.mem_of_getElem? (i := 24) rfl)) Via.refl e4 f6 f5 (Or.inr ⟨(hw _ (List.mem_of_getElem? (i := 25) rfl)), rfl, hnm⟩) (hw _ (List.mem_of_getElem? (i := 10) rfl)) (ty := .byte) (by decide) rfl rfl (hb hby d4_11) (q := 14) rfl fun T9 h9 X9 e9 W9 => ?_
  have fw9 := f6.same W9
  have N9 := Fr.snoc X9 N4 hge
  have kp_9 := kp_4.wr W9 (Or.inl (List.mem_of_getElem? (i := 0) rfl))
  have f10 := (f5.wr W9)
  have f11 := (fw4.other W9 (Or.inr (slot_ne (Or.inr (hw _ (List.mem_of_getElem? (i := 23) rfl))) (Or.inr (hw _ (List.mem_of_getElem? (i := 25) rfl))) (by decide) (t := (.array .byte)) (t' := .byte) (by decide) (by decide))))
  have f12 := (f7.other W9 (Or.inr (slot_ne (Or.inl (hw _ (List.mem_of_getElem? (i := 82) rfl))) (Or.inr (hw _ (List.mem_of_getElem? (i := 25) rfl))) (by decide) (t := .int) (t' := .byte) (by decide) (by decide))))
  have f13 := (f8.other W9 (Or.inr (slot_ne (Or.inl (hw _ (List.mem_of_getElem? (i := 84) rfl))) (Or.inr (hw _ (List.mem_of_getElem? (i := 25) rfl))) (by decide) (t := .boolean) (t' := .byte) (by decide) (by decide))))
  exact g_retV X9 hx hret hlk (hb hby d4_14) ⟨rfl, N9, by rw [e9]; exact kp_9, by rw [e9]; exact f10, by rw [e9]; exact f11, by rw [e9]; exact fw9, by rw [e9]; exact f12, by rw [e9]; exact f13⟩ (Nat.le_of_ble_eq_true rfl) (Nat.le_of_ble_eq_true rfl)
theorem d1_0 : decode jdk_42_method_139_code 0 = .ok (.getstatic 38, 3) := by decide +kernel
theorem d1_3 : decode jdk_42_method_139_code 3 = .ok (.ifCond .eq 23, 3) := by decide +kernel
theorem d1_6 : decode jdk_42_method_139_code 6 = .ok (.iload_n 0, 1) := by decide +kernel
theorem d1_7 : decode jdk_42_method_139_code 7 = .ok (.invokestatic 1015, 3) := by decide +kernel
theorem d1_10 : decode jdk_42_method_139_code 10 = .ok (.ifCond .eq 16, 3) := by decide +kernel
theorem d1_13 : decode jdk_42_method_139_code 13 = .ok (.new 10, 3) := by decide +kernel
theorem d1_16 : decode jdk_42_method_139_code 16 = .ok (.dup, 1) := by decide +kernel
theorem d1_17 : decode jdk_42_method_139_code 17 = .ok (.iload_n 0, 1) := by decide +kernel
theorem d1_18 : decode jdk_42_method_139_code 18 = .ok (.invokestatic 1018, 3) := by decide +kernel
theorem d1_21 : decode jdk_42_method_139_code 21 = .ok (.iconst 0, 1) := by decide +kernel
theorem d1_22 : decode jdk_42_method_139_code 22 = .ok (.invokespecial 209, 3) := by decide +kernel
theorem d1_25 : decode jdk_42_method_139_code 25 = .ok (.areturn, 1) := by decide +kernel
set_option maxRecDepth 65536 in
set_option maxHeartbeats 40000000 in
theorem rmVO (l : Launch) (Z : State) (a0 : Array Value) (hw : ∀ d ∈ tables_1, d.before a0 Z = true) (ch cs : Int32) (hch : ¬ (255 : Int32) < ch) (hch2 : ch.toInt8.toInt32 &&& (255 : Int32) = ch) (hcs : ¬ cs = 0) (h0 : Heap) (n0 : Nat) (Z0 : n0 ≤ h0.size) (SC : Sta Z h0 "java/lang/String" "COMPACT_STRINGS" "Z" (.int cs)) :
    Con l Z h0 (⟨"java/lang/String", "valueOf", "(C)Ljava/lang/String;"⟩ : MethodName) jdk_42_method_139_code 1 (some (.object "java/lang/String")) ({ frames := 2, cells := 2, slots := 5, locals := 30 } : Room) #[(.int ch)] (fun v h L => ∃ a vb, v = some (.ref a) ∧ Fr n0 L ∧ Keep h0 h [] ∧ h0.size ≤ a ∧ a < vb ∧ Str Z h a vb ch) := by
  refine con_of (plainFor_of_name pn_1) (Ls := #[.val (.int ch)]) (fun m => by first | (simp [entryFrame, mkF, argsToLocals, Value.category]; done) | rfl) ?_
  intro p e s m below meth c s₁ hx hZ hby hml hret hlk hnm hown X0 e0
  refine g_getS X0 hx hZ hown (hw _ (List.mem_of_getElem? (i := 4) rfl)) Via.refl e0 SC (hb hby d1_0) (q := 3) rfl fun T14 X14 e14 => ?_
  refine g_if_eq X14 hx (hb hby d1_3) (by decide) (q := 26) (by decide) (q2 := 6) rfl (fun hb3 => absurd hb3 hcs) (fun hb3 => ?_)
  refine g_iloadN X14 hx (hb hby d1_6) (v := ch) rfl (q := 7) rfl ?_
  refine g_callS X14 hx hZ hown (hw _ (List.mem_of_getElem? (i := 5) rfl)) (hw _ (List.mem_of_getElem? (i := 6) rfl)) (hw _ (List.mem_of_getElem? (i := 7) rfl)) (hw _ (List.mem_of_getElem? (i := 8) rfl)) (by decide) e14 (rmCE l Z a0 hw ch hch h0) (by exact hml.symm) (argsL := [(.int ch)]) (rest := []) rfl rfl pd_0 rfl (Nat.le_of_ble_eq_true rfl) (Nat.le_of_ble_eq_true rfl) (Nat.le_of_ble_eq_true rfl) (Nat.le_of_ble_eq_true rfl) (hb hby d1_7) (q := 10) rfl (g_pure rfl rfl fun T15 X15 e15 => ?_)
  show Go p e below _ (T15.setTop (mkF m 10 #[.val (.int ch)] [(.int (1 : Int32))]))
  refine g_if_eq X15 hx (hb hby d1_10) (by decide) (q := 26) (by decide) (q2 := 13) rfl (fun hb10 => absurd hb10 (by decide)) (fun hb10 => ?_)
  refine g_new X15 hx hZ hown (hw _ (List.mem_of_getElem? (i := 9) rfl)) (hw _ (List.mem_of_getElem? (i := 10) rfl)) (hw _ (List.mem_of_getElem? (i := 2) rfl)) e15 (hb hby d1_13) (Nat.le_of_ble_eq_true rfl) (Nat.le_of_ble_eq_true rfl) (q := 16) rfl fun T16 h16 a g16 X16 e16 E16 A16 D16 => ?_
  have ge_a : n0 ≤ a := Nat.le_trans Z0 (Nat.le_of_eq g16.symm)
  have sz_a : h0.size ≤ a := Nat.le_trans (Keep.refl h0 []).1 (Nat.le_of_eq g16.symm)
  have z_16 := Nat.le_trans Z0 E16.1
  have kp_16 := (Keep.refl h0 []).ext E16
  have f17 := (SC.ext E16)
  have F16_value : Fld Z h16 a "java/lang/String" "value" "[B" .null := D16 (Or.inr (hw _ (List.mem_of_getElem? (i := 23) rfl))) (ty := (.array .byte)) (by decide)
  have F16_coder : Fld Z h16 a "java/lang/String" "coder" "B" (.int (0 : Int32)) := D16 (Or.inr (hw _ (List.mem_of_getElem? (i := 25) rfl))) (ty := .byte) (by decide)
  have F16_hash : Fld Z h16 a "java/lang/String" "hash" "I" (.int (0 : Int32)) := D16 (Or.inl (hw _ (List.mem_of_getElem? (i := 82) rfl))) (ty := .int) (by decide)
  have F16_hashIsZero : Fld Z h16 a "java/lang/String" "hashIsZero" "Z" (.int (0 : Int32)) := D16 (Or.inl (hw _ (List.mem_of_getElem? (i := 84) rfl))) (ty := .boolean) (by decide)
  refine g_dup X16 hx (hb hby d1_16) rfl (q := 17) rfl ?_
  refine g_iloadN X16 hx (hb hby d1_17) (v := ch) rfl (q := 18) rfl ?_
  refine g_callS X16 hx hZ hown (hw _ (List.mem_of_getElem? (i := 11) rfl)) (hw _ (List.mem_of_getElem? (i := 12) rfl)) (hw _ (List.mem_of_getElem? (i := 7) rfl)) (hw _ (List.mem_of_getElem? (i := 13) rfl)) (by decide) e16 (rmTB l Z a0 hw ch h16 n0 z_16) (by exact hml.symm) (argsL := [(.int ch)]) (rest := [(.ref a), (.ref a)]) rfl rfl pd_1 rfl (Nat.le_of_ble_eq_true rfl) (Nat.le_of_ble_eq_true rfl) (Nat.le_of_ble_eq_true rfl) (Nat.le_of_ble_eq_true rfl) (hb hby d1_18) (q := 21) rfl (fun v18 T18 L18 X18 hQ18 => ?_)
  generalize e18 : T18.heap = h18 at hQ18
  obtain ⟨vb, rfl, M18, K18, g18, V18⟩ := hQ18
  have N18 := Fr.app (Fr.nil n0) M18
  have lt_a_vb : a < vb := Nat.lt_of_lt_of_le A16.lt g18
  have z_18 := Nat.le_trans z_16 K18.1
  have kp_18 := kp_16.trans K18 all0
  have f19 := (own_sta_keep f17 K18 ns0)
  have f20 := (A16.keep K18)
  have f21 := (F16_value.keep K18 nin0)
  have f22 := (F16_coder.keep K18 nin0)
  have f23 := (F16_hash.keep K18 nin0)
  have f24 := (F16_hashIsZero.keep K18 nin0)
  show Go p e below _ (T18.setTop (mkF m 21 #[.val (.int ch)] [(.ref vb), (.ref a), (.ref a)]))
  refine g_iconst X18 hx (hb hby d1_21) (n := (0 : Int32)) (by decide) (q := 22) rfl ?_
  refine g_callI X18 hx hZ hown rfl (hw _ (List.mem_of_getElem? (i := 15) rfl)) (hw _ (List.mem_of_getElem? (i := 16) rfl)) (hw _ (List.mem_of_getElem? (i := 18) rfl)) (hw _ (List.mem_of_getElem? (i := 2) rfl)) (by decide) e18 (b := a) (rmSI l Z a0 hw a vb h18 n0 ge_a f20 f21 f22 f23 f24) (by exact hml.symm) (argsL := [(.ref vb), (.int (0 : Int32))]) (rest := [(.ref a)]) rfl rfl pd_2 rfl (Nat.le_of_ble_eq_true rfl) (Nat.le_of_ble_eq_true rfl) (Nat.le_of_ble_eq_true rfl) (Nat.le_of_ble_eq_true rfl) (hb hby d1_22) (q := 25) rfl (fun v25 T25 L25 X25 hQ25 => ?_)
  generalize e25 : T25.heap = h25 at hQ25
  obtain ⟨rfl, M25, K25, A25, B25, C25, D25, G25⟩ := hQ25
  have N25 := Fr.app N18 M25
  have z_25 := Nat.le_trans z_18 K25.1
  have kp_25 := kp_18.trans K25 (allS (P := fun x => x ∈ [] ∨ h0.size ≤ x) (Or.inr sz_a) all0)
  have f26 := (own_sta_keep f19 K25 (nsS f20.nostat ns0))
  have f27 := (f20.keep K25)
  have f28 := (V18.keep K25 (ninS (Ne.symm (Nat.ne_of_lt lt_a_vb)) nin0))
  have str : Str Z h25 a vb ch := ⟨A25, B25, C25, f28, hch2, 0, 0, D25, G25, Or.inl rfl, Or.inl rfl⟩
  show Go p e below _ (T25.setTop (mkF m 25 #[.val (.int ch)] [(.ref a)]))
  exact g_retA X25 hx hret hlk (hb hby d1_25) rfl rfl rfl ⟨a, vb, rfl, by simpa using N25, by rw [e25]; exact kp_25, sz_a, lt_a_vb, by rw [e25]; exact str⟩ (Nat.le_of_ble_eq_true rfl) (Nat.le_of_ble_eq_true rfl)
theorem d28_0 : decode jdk_18_method_1_code 0 = .ok (.aload_n 0, 1) := by decide +kernel
theorem d28_1 : decode jdk_18_method_1_code 1 = .ok (.invokespecial 1, 3) := by decide +kernel
theorem d28_4 : decode jdk_18_method_1_code 4 = .ok (.return_, 1) := by decide +kernel
set_option maxRecDepth 65536 in
set_option maxHeartbeats 40000000 in
theorem rmNI (l : Launch) (Z : State) (a0 : Array Value) (hw : ∀ d ∈ tables_1, d.before a0 Z = true) (a : Addr) (h0 : Heap) :
    Con l Z h0 (⟨"java/lang/Number", "<init>", "()V"⟩ : MethodName) jdk_18_method_1_code 1 none ({ frames := 1, cells := 0, slots := 0, locals := 12 } : Room) #[(.ref a)] (Pur none h0) := by
  refine con_of (plainFor_of_name pn_2) (Ls := #[.val (.ref a)]) (fun m => by first | (simp [entryFrame, mkF, argsToLocals, Value.category]; done) | rfl) ?_
  intro p e s m below meth c s₁ hx hZ hby hml hret hlk hnm hown X0 e0
  refine g_aloadN X0 hx (hb hby d28_0) (v := (.ref a)) rfl rfl (q := 1) rfl ?_
  refine g_initO X0 hx hZ hown (hw _ (List.mem_of_getElem? (i := 168) rfl)) (hw _ (List.mem_of_getElem? (i := 20) rfl)) (hw _ (List.mem_of_getElem? (i := 21) rfl)) e0 (by exact hml.symm) (hb hby d28_1) (Nat.le_of_ble_eq_true rfl) (Nat.le_of_ble_eq_true rfl) (q := 4) rfl fun T29 X29 e29 => ?_
  exact g_retV X29 hx hret hlk (hb hby d28_4) ⟨rfl, rfl, e29⟩ (Nat.le_of_ble_eq_true rfl) (Nat.le_of_ble_eq_true rfl)
theorem d27_0 : decode jdk_33_method_23_code 0 = .ok (.aload_n 0, 1) := by decide +kernel
theorem d27_1 : decode jdk_33_method_23_code 1 = .ok (.invokespecial 202, 3) := by decide +kernel
theorem d27_4 : decode jdk_33_method_23_code 4 = .ok (.aload_n 0, 1) := by decide +kernel
theorem d27_5 : decode jdk_33_method_23_code 5 = .ok (.iload_n 1, 1) := by decide +kernel
theorem d27_6 : decode jdk_33_method_23_code 6 = .ok (.putfield 205, 3) := by decide +kernel
theorem d27_9 : decode jdk_33_method_23_code 9 = .ok (.return_, 1) := by decide +kernel
set_option maxRecDepth 65536 in
set_option maxHeartbeats 40000000 in
theorem rmII (l : Launch) (Z : State) (a0 : Array Value) (hw : ∀ d ∈ tables_1, d.before a0 Z = true) (a : Addr) (i : Int32) (h0 : Heap) (n0 : Nat) (hge : n0 ≤ a) (E0 : Exa Z h0 a "java/lang/Integer") (F0 : Fld Z h0 a "java/lang/Integer" "value" "I" (.int (0 : Int32))) :
    Con l Z h0 (⟨"java/lang/Integer", "<init>", "(I)V"⟩ : MethodName) jdk_33_method_23_code 2 none ({ frames := 2, cells := 0, slots := 0, locals := 24 } : Room) #[(.ref a), (.int i)] (fun v h L => v = none ∧ Fr n0 L ∧ Keep h0 h [a] ∧ Exa Z h a "java/lang/Integer") := by
  refine con_of (plainFor_of_name pn_3) (Ls := #[.val (.ref a), .val (.int i)]) (fun m => by first | (simp [entryFrame, mkF, argsToLocals, Value.category]; done) | rfl) ?_
  intro p e s m below meth c s₁ hx hZ hby hml hret hlk hnm hown X0 e0
  refine g_aloadN X0 hx (hb hby d27_0) (v := (.ref a)) rfl rfl (q := 1) rfl ?_
  refine g_callI X0 hx hZ hown rfl (hw _ (List.mem_of_getElem? (i := 162) rfl)) (hw _ (List.mem_of_getElem? (i := 163) rfl)) (hw _ (List.mem_of_getElem? (i := 167) rfl)) (hw _ (List.mem_of_getElem? (i := 166) rfl)) (by decide) e0 (b := a) (rmNI l Z a0 hw a h0) (by exact hml.symm) (argsL := []) (rest := []) rfl rfl pd_3 rfl (Nat.le_of_ble_eq_true rfl) (Nat.le_of_ble_eq_true rfl) (Nat.le_of_ble_eq_true rfl) (Nat.le_of_ble_eq_true rfl) (hb hby d27_1) (q := 4) rfl (g_pure rfl rfl fun T30 X30 e30 => ?_)
  show Go p e below _ (T30.setTop (mkF m 4 #[.val (.ref a), .val (.int i)] []))
  refine g_aloadN X30 hx (hb hby d27_4) (v := (.ref a)) rfl rfl (q := 5) rfl ?_
  refine g_iloadN X30 hx (hb hby d27_5) (v := i) rfl (q := 6) rfl ?_
  refine g_putF X30 hx hZ hown (hw _ (List.mem_of_getElem? (i := 169) rfl)) Via.refl e30 F0 E0 (Or.inr ⟨(hw _ (List.mem_of_getElem? (i := 170) rfl)), rfl, hnm⟩) (hw _ (List.mem_of_getElem? (i := 157) rfl)) (ty := .int) (by decide) rfl rfl (hb hby d27_6) (q := 9) rfl fun T31 h31 X31 e31 W31 => ?_
  have fw31 := F0.same W31
  have N31 := Fr.snoc X31 (Fr.nil n0) hge
  have kp_31 := (Keep.refl h0 [a]).wr W31 (Or.inl (List.mem_of_getElem? (i := 0) rfl))
  have f32 := (E0.wr W31)
  exact g_retV X31 hx hret hlk (hb hby d27_9) ⟨rfl, by simpa using N31, by rw [e31]; exact kp_31, by rw [e31]; exact f32⟩ (Nat.le_of_ble_eq_true rfl) (Nat.le_of_ble_eq_true rfl)
theorem d6_0 : decode jdk_33_method_22_code 0 = .ok (.iload_n 0, 1) := by decide +kernel
theorem d6_1 : decode jdk_33_method_22_code 1 = .ok (.bipush (-128), 2) := by decide +kernel
theorem d6_3 : decode jdk_33_method_22_code 3 = .ok (.if_icmp .lt 20, 3) := by decide +kernel
theorem d6_6 : decode jdk_33_method_22_code 6 = .ok (.iload_n 0, 1) := by decide +kernel
theorem d6_7 : decode jdk_33_method_22_code 7 = .ok (.getstatic 191, 3) := by decide +kernel
theorem d6_10 : decode jdk_33_method_22_code 10 = .ok (.if_icmp .gt 13, 3) := by decide +kernel
theorem d6_13 : decode jdk_33_method_22_code 13 = .ok (.getstatic 195, 3) := by decide +kernel
theorem d6_16 : decode jdk_33_method_22_code 16 = .ok (.iload_n 0, 1) := by decide +kernel
theorem d6_17 : decode jdk_33_method_22_code 17 = .ok (.sipush 128, 3) := by decide +kernel
theorem d6_20 : decode jdk_33_method_22_code 20 = .ok (.iadd, 1) := by decide +kernel
theorem d6_21 : decode jdk_33_method_22_code 21 = .ok (.aaload, 1) := by decide +kernel
theorem d6_22 : decode jdk_33_method_22_code 22 = .ok (.areturn, 1) := by decide +kernel
theorem d6_23 : decode jdk_33_method_22_code 23 = .ok (.new 1, 3) := by decide +kernel
theorem d6_26 : decode jdk_33_method_22_code 26 = .ok (.dup, 1) := by decide +kernel
theorem d6_27 : decode jdk_33_method_22_code 27 = .ok (.iload_n 0, 1) := by decide +kernel
theorem d6_28 : decode jdk_33_method_22_code 28 = .ok (.invokespecial 199, 3) := by decide +kernel
theorem d6_31 : decode jdk_33_method_22_code 31 = .ok (.areturn, 1) := by decide +kernel
set_option maxRecDepth 65536 in
set_option maxHeartbeats 40000000 in
theorem rmIV (l : Launch) (Z : State) (a0 : Array Value) (hw : ∀ d ∈ tables_1, d.before a0 Z = true) (i : Int32) (ca : Addr) (f : Nat → Value) (h0 : Heap) (n0 : Nat) (Z0 : n0 ≤ h0.size) (SH : Sta Z h0 "java/lang/Integer$IntegerCache" "high" "I" (.int (127 : Int32))) (SA : Sta Z h0 "java/lang/Integer$IntegerCache" "cache" "[Ljava/lang/Integer;" (.ref ca)) (V0 : Af Z h0 ca (.object "java/lang/Integer") 256 f) (CI : ∀ k, k < 256 → ∃ y, f k = .ref y ∧ Exa Z h0 y "java/lang/Integer") :
    Con l Z h0 (⟨"java/lang/Integer", "valueOf", "(I)Ljava/lang/Integer;"⟩ : MethodName) jdk_33_method_22_code 1 (some (.object "java/lang/Integer")) ({ frames := 3, cells := 1, slots := 1, locals := 38 } : Room) #[(.int i)] (fun v h L => ∃ v', v = some v' ∧ Fr n0 L ∧ Keep h0 h [] ∧ Vok Z h v') := by
  refine con_of (plainFor_of_name pn_3) (Ls := #[.val (.int i)]) (fun m => by first | (simp [entryFrame, mkF, argsToLocals, Value.category]; done) | rfl) ?_
  intro p e s m below meth c s₁ hx hZ hby hml hret hlk hnm hown X0 e0
  refine g_iloadN X0 hx (hb hby d6_0) (v := i) rfl (q := 1) rfl ?_
  refine g_bipush X0 hx (hb hby d6_1) (n := (-128 : Int32)) (by decide) (q := 3) rfl ?_
  refine g_icmp_lt X0 hx (hb hby d6_3) (by decide) (q := 23) (by decide) (q2 := 6) rfl (fun hb3 => ?_) (fun hb3 => ?_)
  · refine g_new X0 hx hZ hown (hw _ (List.mem_of_getElem? (i := 156) rfl)) (hw _ (List.mem_of_getElem? (i := 157) rfl)) (hw _ (List.mem_of_getElem? (i := 28) rfl)) e0 (hb hby d6_23) (Nat.le_of_ble_eq_true rfl) (Nat.le_of_ble_eq_true rfl) (q := 26) rfl fun T33 h33 a g33 X33 e33 E33 A33 D33 => ?_
    have ne_ca_a : ca ≠ a := Nat.ne_of_lt (Nat.lt_of_lt_of_le V0.lt (Nat.le_of_eq g33.symm))
    have ge_a : n0 ≤ a := Nat.le_trans Z0 (Nat.le_of_eq g33.symm)
    have sz_a : h0.size ≤ a := Nat.le_trans (Keep.refl h0 []).1 (Nat.le_of_eq g33.symm)
    have z_33 := Nat.le_trans Z0 E33.1
    have kp_33 := (Keep.refl h0 []).ext E33
    have f34 := (SH.ext E33)
    have f35 := (SA.ext E33)
    have f36 := (V0.ext E33)
    have F33_value : Fld Z h33 a "java/lang/Integer" "value" "I" (.int (0 : Int32)) := D33 (Or.inr (hw _ (List.mem_of_getElem? (i := 170) rfl))) (ty := .int) (by decide)
    refine g_dup X33 hx (hb hby d6_26) rfl (q := 27) rfl ?_
    refine g_iloadN X33 hx (hb hby d6_27) (v := i) rfl (q := 28) rfl ?_
    refine g_callI X33 hx hZ hown rfl (hw _ (List.mem_of_getElem? (i := 158) rfl)) (hw _ (List.mem_of_getElem? (i := 159) rfl)) (hw _ (List.mem_of_getElem? (i := 161) rfl)) (hw _ (List.mem_of_getElem? (i := 28) rfl)) (by decide) e33 (b := a) (rmII l Z a0 hw a i h33 n0 ge_a A33 F33_value) (by exact hml.symm) (argsL := [(.int i)]) (rest := [(.ref a)]) rfl rfl pd_4 rfl (Nat.le_of_ble_eq_true rfl) (Nat.le_of_ble_eq_true rfl) (Nat.le_of_ble_eq_true rfl) (Nat.le_of_ble_eq_true rfl) (hb hby d6_28) (q := 31) rfl (fun v37 T37 L37 X37 hQ37 => ?_)
    generalize e37 : T37.heap = h37 at hQ37
    obtain ⟨rfl, M37, K37, Ey⟩ := hQ37
    have N37 := Fr.app (Fr.nil n0) M37
    have z_37 := Nat.le_trans z_33 K37.1
    have kp_37 := kp_33.trans K37 (allS (P := fun x => x ∈ [] ∨ h0.size ≤ x) (Or.inr sz_a) all0)
    have f38 := (own_sta_keep f34 K37 (nsS A33.nostat ns0))
    have f39 := (own_sta_keep f35 K37 (nsS A33.nostat ns0))
    have f40 := (A33.keep K37)
    show Go p e below _ (T37.setTop (mkF m 31 #[.val (.int i)] [(.ref a)]))
    exact g_retA X37 hx hret hlk (hb hby d6_31) rfl rfl rfl ⟨(.ref a), rfl, by simpa using N37, by rw [e37]; exact kp_37, Or.inr ⟨_, rfl, by rw [e37]; exact Ey⟩⟩ (Nat.le_of_ble_eq_true rfl) (Nat.le_of_ble_eq_true rfl)
  · refine g_iloadN X0 hx (hb hby d6_6) (v := i) rfl (q := 7) rfl ?_
    refine g_getS X0 hx hZ hown (hw _ (List.mem_of_getElem? (i := 30) rfl)) Via.refl e0 SH (hb hby d6_7) (q := 10) rfl fun T41 X41 e41 => ?_
    refine g_icmp_gt X41 hx (hb hby d6_10) (by decide) (q := 23) (by decide) (q2 := 13) rfl (fun hb10 => ?_) (fun hb10 => ?_)
    · refine g_new X41 hx hZ hown (hw _ (List.mem_of_getElem? (i := 156) rfl)) (hw _ (List.mem_of_getElem? (i := 157) rfl)) (hw _ (List.mem_of_getElem? (i := 28) rfl)) e41 (hb hby d6_23) (Nat.le_of_ble_eq_true rfl) (Nat.le_of_ble_eq_true rfl) (q := 26) rfl fun T42 h42 a g42 X42 e42 E42 A42 D42 => ?_
      have ne_ca_a : ca ≠ a := Nat.ne_of_lt (Nat.lt_of_lt_of_le V0.lt (Nat.le_of_eq g42.symm))
      have ge_a : n0 ≤ a := Nat.le_trans Z0 (Nat.le_of_eq g42.symm)
      have sz_a : h0.size ≤ a := Nat.le_trans (Keep.refl h0 []).1 (Nat.le_of_eq g42.symm)
      have z_42 := Nat.le_trans Z0 E42.1
      have kp_42 := (Keep.refl h0 []).ext E42
      have f43 := (SH.ext E42)
      have f44 := (SA.ext E42)
      have f45 := (V0.ext E42)
      have F42_value : Fld Z h42 a "java/lang/Integer" "value" "I" (.int (0 : Int32)) := D42 (Or.inr (hw _ (List.mem_of_getElem? (i := 170) rfl))) (ty := .int) (by decide)
      refine g_dup X42 hx (hb hby d6_26) rfl (q := 27) rfl ?_
      refine g_iloadN X42 hx (hb hby d6_27) (v := i) rfl (q := 28) rfl ?_
      refine g_callI X42 hx hZ hown rfl (hw _ (List.mem_of_getElem? (i := 158) rfl)) (hw _ (List.mem_of_getElem? (i := 159) rfl)) (hw _ (List.mem_of_getElem? (i := 161) rfl)) (hw _ (List.mem_of_getElem? (i := 28) rfl)) (by decide) e42 (b := a) (rmII l Z a0 hw a i h42 n0 ge_a A42 F42_value) (by exact hml.symm) (argsL := [(.int i)]) (rest := [(.ref a)]) rfl rfl pd_4 rfl (Nat.le_of_ble_eq_true rfl) (Nat.le_of_ble_eq_true rfl) (Nat.le_of_ble_eq_true rfl) (Nat.le_of_ble_eq_true rfl) (hb hby d6_28) (q := 31) rfl (fun v46 T46 L46 X46 hQ46 => ?_)
      generalize e46 : T46.heap = h46 at hQ46
      obtain ⟨rfl, M46, K46, Ey⟩ := hQ46
      have N46 := Fr.app (Fr.nil n0) M46
      have z_46 := Nat.le_trans z_42 K46.1
      have kp_46 := kp_42.trans K46 (allS (P := fun x => x ∈ [] ∨ h0.size ≤ x) (Or.inr sz_a) all0)
      have f47 := (own_sta_keep f43 K46 (nsS A42.nostat ns0))
      have f48 := (own_sta_keep f44 K46 (nsS A42.nostat ns0))
      have f49 := (A42.keep K46)
      show Go p e below _ (T46.setTop (mkF m 31 #[.val (.int i)] [(.ref a)]))
      exact g_retA X46 hx hret hlk (hb hby d6_31) rfl rfl rfl ⟨(.ref a), rfl, by simpa using N46, by rw [e46]; exact kp_46, Or.inr ⟨_, rfl, by rw [e46]; exact Ey⟩⟩ (Nat.le_of_ble_eq_true rfl) (Nat.le_of_ble_eq_true rfl)
    · refine g_getS X41 hx hZ hown (hw _ (List.mem_of_getElem? (i := 32) rfl)) Via.refl e41 SA (hb hby d6_13) (q := 16) rfl fun T50 X50 e50 => ?_
      refine g_iloadN X50 hx (hb hby d6_16) (v := i) rfl (q := 17) rfl ?_
      refine g_sipush X50 hx (hb hby d6_17) (n := (128 : Int32)) (by decide) (q := 20) rfl ?_
      refine g_iadd X50 hx (hb hby d6_20) (z := (i + (128 : Int32))) rfl (q := 21) rfl ?_
      have hr := own_i8 i hb3 hb10
      obtain ⟨y, hy, Ey⟩ := CI _ hr.2
      refine g_aaload X50 hx hZ e50 V0 rfl hr.1 hr.2 (v := (.ref y)) hy (hb hby d6_21) (q := 22) rfl ?_
      exact g_retA X50 hx hret hlk (hb hby d6_22) rfl rfl rfl ⟨(.ref y), rfl, by simpa using (Fr.nil n0), by rw [e50]; exact (Keep.refl h0 []), Or.inr ⟨_, rfl, by rw [e50]; exact Ey⟩⟩ (Nat.le_of_ble_eq_true rfl) (Nat.le_of_ble_eq_true rfl)
theorem d14_0 : decode jdk_42_method_154_code 0 = .ok (.getstatic 38, 3) := by decide +kernel
theorem d14_3 : decode jdk_42_method_154_code 3 = .ok (.ifCond .eq 14, 3) := by decide +kernel
theorem d14_6 : decode jdk_42_method_154_code 6 = .ok (.aload_n 0, 1) := by decide +kernel
theorem d14_7 : decode jdk_42_method_154_code 7 = .ok (.getfield 15, 3) := by decide +kernel
theorem d14_10 : decode jdk_42_method_154_code 10 = .ok (.ifCond .ne 7, 3) := by decide +kernel
theorem d14_13 : decode jdk_42_method_154_code 13 = .ok (.iconst 1, 1) := by decide +kernel
theorem d14_14 : decode jdk_42_method_154_code 14 = .ok (.goto 4, 3) := by decide +kernel
theorem d14_18 : decode jdk_42_method_154_code 18 = .ok (.ireturn, 1) := by decide +kernel
set_option maxRecDepth 65536 in
set_option maxHeartbeats 40000000 in
theorem rmIL (l : Launch) (Z : State) (a0 : Array Value) (hw : ∀ d ∈ tables_1, d.before a0 Z = true) (a : Addr) (cs : Int32) (hcs : ¬ cs = 0) (h0 : Heap) (SC : Sta Z h0 "java/lang/String" "COMPACT_STRINGS" "Z" (.int cs)) (F1 : Fld Z h0 a "java/lang/String" "coder" "B" (.int (0 : Int32))) :
    Con l Z h0 (⟨"java/lang/String", "isLatin1", "()Z"⟩ : MethodName) jdk_42_method_154_code 1 (some .boolean) ({ frames := 0, cells := 0, slots := 0, locals := 0 } : Room) #[(.ref a)] (Pur (some (.int 1)) h0) := by
  refine con_of (plainFor_of_name pn_1) (Ls := #[.val (.ref a)]) (fun m => by first | (simp [entryFrame, mkF, argsToLocals, Value.category]; done) | rfl) ?_
  intro p e s m below meth c s₁ hx hZ hby hml hret hlk hnm hown X0 e0
  refine g_getS X0 hx hZ hown (hw _ (List.mem_of_getElem? (i := 4) rfl)) Via.refl e0 SC (hb hby d14_0) (q := 3) rfl fun T51 X51 e51 => ?_
  refine g_if_eq X51 hx (hb hby d14_3) (by decide) (q := 17) (by decide) (q2 := 6) rfl (fun hb3 => absurd hb3 hcs) (fun hb3 => ?_)
  refine g_aloadN X51 hx (hb hby d14_6) (v := (.ref a)) rfl rfl (q := 7) rfl ?_
  refine g_getF X51 hx hZ hown (hw _ (List.mem_of_getElem? (i := 24) rfl)) Via.refl e51 F1 (hb hby d14_7) (q := 10) rfl fun T52 X52 e52 => ?_
  refine g_if_ne X52 hx (hb hby d14_10) (by decide) (q := 17) (by decide) (q2 := 13) rfl (fun hb10 => absurd hb10 (by decide)) (fun hb10 => ?_)
  refine g_iconst X52 hx (hb hby d14_13) (n := (1 : Int32)) (by decide) (q := 14) rfl ?_
  refine g_goto X52 hx (hb hby d14_14) (by decide) (q := 18) (by decide) ?_
  exact g_retB X52 hx hret hlk (hb hby d14_18) (by decide) ⟨rfl, rfl, e52⟩ (Nat.le_of_ble_eq_true rfl) (Nat.le_of_ble_eq_true rfl)
theorem d15_0 : decode jdk_43_method_21_code 0 = .ok (.aload_n 0, 1) := by decide +kernel
theorem d15_1 : decode jdk_43_method_21_code 1 = .ok (.arraylength, 1) := by decide +kernel
theorem d15_2 : decode jdk_43_method_21_code 2 = .ok (.lookupswitch 40 #[(0, 26), (1, 30)], 26) := by decide +kernel
theorem d15_32 : decode jdk_43_method_21_code 32 = .ok (.aload_n 0, 1) := by decide +kernel
theorem d15_33 : decode jdk_43_method_21_code 33 = .ok (.iconst 0, 1) := by decide +kernel
theorem d15_34 : decode jdk_43_method_21_code 34 = .ok (.baload, 1) := by decide +kernel
theorem d15_35 : decode jdk_43_method_21_code 35 = .ok (.sipush 255, 3) := by decide +kernel
theorem d15_38 : decode jdk_43_method_21_code 38 = .ok (.iand, 1) := by decide +kernel
theorem d15_39 : decode jdk_43_method_21_code 39 = .ok (.goto 12, 3) := by decide +kernel
theorem d15_51 : decode jdk_43_method_21_code 51 = .ok (.ireturn, 1) := by decide +kernel
set_option maxRecDepth 65536 in
set_option maxHeartbeats 40000000 in
theorem rmLH (l : Launch) (Z : State) (a0 : Array Value) (hw : ∀ d ∈ tables_1, d.before a0 Z = true) (vb : Addr) (ch : Int32) (hch2 : ch.toInt8.toInt32 &&& (255 : Int32) = ch) (h0 : Heap) (V0 : Af Z h0 vb .byte 1 (fun _ => .int (ch.toInt8.toInt32))) :
    Con l Z h0 (⟨"java/lang/StringLatin1", "hashCode", "([B)I"⟩ : MethodName) jdk_43_method_21_code 1 (some .int) ({ frames := 0, cells := 0, slots := 0, locals := 0 } : Room) #[(.ref vb)] (Pur (some (.int ch)) h0) := by
  refine con_of (plainFor_of_name pn_0) (Ls := #[.val (.ref vb)]) (fun m => by first | (simp [entryFrame, mkF, argsToLocals, Value.category]; done) | rfl) ?_
  intro p e s m below meth c s₁ hx hZ hby hml hret hlk hnm hown X0 e0
  refine g_aloadN X0 hx (hb hby d15_0) (v := (.ref vb)) rfl rfl (q := 1) rfl ?_
  refine g_len X0 hx hZ e0 V0 (z := (1 : Int32)) rfl (hb hby d15_1) (q := 2) rfl ?_
  refine g_lookup X0 hx (hb hby d15_2) (by decide) (x := 1) (off := 30) (by decide) (by decide) (q := 32) (by decide) ?_
  refine g_aloadN X0 hx (hb hby d15_32) (v := (.ref vb)) rfl rfl (q := 33) rfl ?_
  refine g_iconst X0 hx (hb hby d15_33) (n := (0 : Int32)) (by decide) (q := 34) rfl ?_
  refine g_baload X0 hx hZ e0 V0 (by decide) (by decide) (v := (.int (ch.toInt8.toInt32))) rfl (hb hby d15_34) (q := 35) rfl ?_
  refine g_sipush X0 hx (hb hby d15_35) (n := (255 : Int32)) (by decide) (q := 38) rfl ?_
  refine g_iand X0 hx (hb hby d15_38) (z := ch) hch2 (q := 39) rfl ?_
  refine g_goto X0 hx (hb hby d15_39) (by decide) (q := 51) (by decide) ?_
  exact g_retI X0 hx hret hlk (hb hby d15_51) ⟨rfl, rfl, e0⟩ (Nat.le_of_ble_eq_true rfl) (Nat.le_of_ble_eq_true rfl)
theorem d13_0 : decode jdk_42_method_78_code 0 = .ok (.aload_n 0, 1) := by decide +kernel
theorem d13_1 : decode jdk_42_method_78_code 1 = .ok (.getfield 19, 3) := by decide +kernel
theorem d13_4 : decode jdk_42_method_78_code 4 = .ok (.istore_n 1, 1) := by decide +kernel
theorem d13_5 : decode jdk_42_method_78_code 5 = .ok (.iload_n 1, 1) := by decide +kernel
theorem d13_6 : decode jdk_42_method_78_code 6 = .ok (.ifCond .ne 52, 3) := by decide +kernel
theorem d13_9 : decode jdk_42_method_78_code 9 = .ok (.aload_n 0, 1) := by decide +kernel
theorem d13_10 : decode jdk_42_method_78_code 10 = .ok (.getfield 23, 3) := by decide +kernel
theorem d13_13 : decode jdk_42_method_78_code 13 = .ok (.ifCond .ne 45, 3) := by decide +kernel
theorem d13_16 : decode jdk_42_method_78_code 16 = .ok (.aload_n 0, 1) := by decide +kernel
theorem d13_17 : decode jdk_42_method_78_code 17 = .ok (.invokevirtual 492, 3) := by decide +kernel
theorem d13_20 : decode jdk_42_method_78_code 20 = .ok (.ifCond .eq 13, 3) := by decide +kernel
theorem d13_23 : decode jdk_42_method_78_code 23 = .ok (.aload_n 0, 1) := by decide +kernel
theorem d13_24 : decode jdk_42_method_78_code 24 = .ok (.getfield 9, 3) := by decide +kernel
theorem d13_27 : decode jdk_42_method_78_code 27 = .ok (.invokestatic 628, 3) := by decide +kernel
theorem d13_30 : decode jdk_42_method_78_code 30 = .ok (.goto 10, 3) := by decide +kernel
theorem d13_40 : decode jdk_42_method_78_code 40 = .ok (.istore_n 1, 1) := by decide +kernel
theorem d13_41 : decode jdk_42_method_78_code 41 = .ok (.iload_n 1, 1) := by decide +kernel
theorem d13_42 : decode jdk_42_method_78_code 42 = .ok (.ifCond .ne 11, 3) := by decide +kernel
theorem d13_45 : decode jdk_42_method_78_code 45 = .ok (.aload_n 0, 1) := by decide +kernel
theorem d13_46 : decode jdk_42_method_78_code 46 = .ok (.iconst 1, 1) := by decide +kernel
theorem d13_47 : decode jdk_42_method_78_code 47 = .ok (.putfield 23, 3) := by decide +kernel
theorem d13_50 : decode jdk_42_method_78_code 50 = .ok (.goto 8, 3) := by decide +kernel
theorem d13_53 : decode jdk_42_method_78_code 53 = .ok (.aload_n 0, 1) := by decide +kernel
theorem d13_54 : decode jdk_42_method_78_code 54 = .ok (.iload_n 1, 1) := by decide +kernel
theorem d13_55 : decode jdk_42_method_78_code 55 = .ok (.putfield 19, 3) := by decide +kernel
theorem d13_58 : decode jdk_42_method_78_code 58 = .ok (.iload_n 1, 1) := by decide +kernel
theorem d13_59 : decode jdk_42_method_78_code 59 = .ok (.ireturn, 1) := by decide +kernel
set_option maxRecDepth 65536 in
set_option maxHeartbeats 40000000 in
theorem rmSH (l : Launch) (Z : State) (a0 : Array Value) (hw : ∀ d ∈ tables_1, d.before a0 Z = true) (a va : Addr) (ch cs : Int32) (hcs : ¬ cs = 0) (h0 : Heap) (n0 : Nat) (hge : n0 ≤ a) (SC : Sta Z h0 "java/lang/String" "COMPACT_STRINGS" "Z" (.int cs)) (ST : Str Z h0 a va ch) :
    Con l Z h0 (⟨"java/lang/String", "hashCode", "()I"⟩ : MethodName) jdk_42_method_78_code 2 (some .int) ({ frames := 1, cells := 0, slots := 0, locals := 12 } : Room) #[(.ref a)] (fun v h L => v = some (.int ch) ∧ Fr n0 L ∧ Keep h0 h [a] ∧ Str Z h a va ch) := by
  obtain ⟨E0, F0, F1, V0, hch2, hs, hz, F2, F3, hh1, hh2⟩ := ST
  have nav : a ≠ va := fun q => by subst q; exact own_strne E0 V0 (hw _ (List.mem_of_getElem? (i := 10) rfl))
  refine con_of (plainFor_of_name pn_1) (Ls := #[.val (.ref a), .unset]) (fun m => by first | (simp [entryFrame, mkF, argsToLocals, Value.category]; done) | rfl) ?_
  intro p e s m below meth c s₁ hx hZ hby hml hret hlk hnm hown X0 e0
  refine g_aloadN X0 hx (hb hby d13_0) (v := (.ref a)) rfl rfl (q := 1) rfl ?_
  refine g_getF X0 hx hZ hown (hw _ (List.mem_of_getElem? (i := 81) rfl)) Via.refl e0 F2 (hb hby d13_1) (q := 4) rfl fun T53 X53 e53 => ?_
  refine g_istoreN X53 hx (hb hby d13_4) (L' := #[.val (.ref a), .val (.int hs)]) rfl (q := 5) rfl ?_
  refine g_iloadN X53 hx (hb hby d13_5) (v := hs) rfl (q := 6) rfl ?_
  refine g_if_ne X53 hx (hb hby d13_6) (by decide) (q := 58) (by decide) (q2 := 9) rfl (fun hb6 => ?_) (fun hb6 => ?_)
  · refine g_iloadN X53 hx (hb hby d13_58) (v := hs) rfl (q := 59) rfl ?_
    exact g_retI X53 hx hret hlk (hb hby d13_59) ⟨by rw [hh1.resolve_left hb6], by simpa using (Fr.nil n0), by rw [e53]; exact (Keep.refl h0 [a]), ⟨by rw [e53]; exact E0, by rw [e53]; exact F0, by rw [e53]; exact F1, by rw [e53]; exact V0, hch2, hs, hz, by rw [e53]; exact F2, by rw [e53]; exact F3, hh1, hh2⟩⟩ (Nat.le_of_ble_eq_true rfl) (Nat.le_of_ble_eq_true rfl)
  · refine g_aloadN X53 hx (hb hby d13_9) (v := (.ref a)) rfl rfl (q := 10) rfl ?_
    refine g_getF X53 hx hZ hown (hw _ (List.mem_of_getElem? (i := 83) rfl)) Via.refl e53 F3 (hb hby d13_10) (q := 13) rfl fun T54 X54 e54 => ?_
    refine g_if_ne X54 hx (hb hby d13_13) (by decide) (q := 58) (by decide) (q2 := 16) rfl (fun hb13 => ?_) (fun hb13 => ?_)
    · refine g_iloadN X54 hx (hb hby d13_58) (v := hs) rfl (q := 59) rfl ?_
      exact g_retI X54 hx hret hlk (hb hby d13_59) ⟨by rw [hh2.resolve_left hb13, hb6], by simpa using (Fr.nil n0), by rw [e54]; exact (Keep.refl h0 [a]), ⟨by rw [e54]; exact E0, by rw [e54]; exact F0, by rw [e54]; exact F1, by rw [e54]; exact V0, hch2, hs, hz, by rw [e54]; exact F2, by rw [e54]; exact F3, hh1, hh2⟩⟩ (Nat.le_of_ble_eq_true rfl) (Nat.le_of_ble_eq_true rfl)
    · refine g_aloadN X54 hx (hb hby d13_16) (v := (.ref a)) rfl rfl (q := 17) rfl ?_
      refine g_callV X54 hx hZ hown (hw _ (List.mem_of_getElem? (i := 85) rfl)) (hw _ (List.mem_of_getElem? (i := 86) rfl)) (hw _ (List.mem_of_getElem? (i := 88) rfl)) (hw _ (List.mem_of_getElem? (i := 87) rfl)) (hw _ (List.mem_of_getElem? (i := 89) rfl)) (hw _ (List.mem_of_getElem? (i := 2) rfl)) (notFace_of_selects (args := #[]) (mvT hZ (hw _ (List.mem_of_getElem? (i := 88) rfl)))) (by decide) e54 E0 (rmIL l Z a0 hw a cs hcs h0 SC F1) (by exact hml.symm) (argsL := []) (rest := []) rfl rfl pd_5 rfl (Nat.le_of_ble_eq_true rfl) (Nat.le_of_ble_eq_true rfl) (Nat.le_of_ble_eq_true rfl) (Nat.le_of_ble_eq_true rfl) (hb hby d13_17) (q := 20) rfl (g_pure rfl rfl fun T55 X55 e55 => ?_)
      show Go p e below _ (T55.setTop (mkF m 20 #[.val (.ref a), .val (.int hs)] [(.int (1 : Int32))]))
      refine g_if_eq X55 hx (hb hby d13_20) (by decide) (q := 33) (by decide) (q2 := 23) rfl (fun hb20 => absurd hb20 (by decide)) (fun hb20 => ?_)
      refine g_aloadN X55 hx (hb hby d13_23) (v := (.ref a)) rfl rfl (q := 24) rfl ?_
      refine g_getF X55 hx hZ hown (hw _ (List.mem_of_getElem? (i := 22) rfl)) Via.refl e55 F0 (hb hby d13_24) (q := 27) rfl fun T56 X56 e56 => ?_
      refine g_callS X56 hx hZ hown (hw _ (List.mem_of_getElem? (i := 90) rfl)) (hw _ (List.mem_of_getElem? (i := 91) rfl)) (hw _ (List.mem_of_getElem? (i := 7) rfl)) (hw _ (List.mem_of_getElem? (i := 92) rfl)) (by decide) e56 (rmLH l Z a0 hw va ch hch2 h0 V0) (by exact hml.symm) (argsL := [(.ref va)]) (rest := []) rfl rfl pd_6 rfl (Nat.le_of_ble_eq_true rfl) (Nat.le_of_ble_eq_true rfl) (Nat.le_of_ble_eq_true rfl) (Nat.le_of_ble_eq_true rfl) (hb hby d13_27) (q := 30) rfl (g_pure rfl rfl fun T57 X57 e57 => ?_)
      show Go p e below _ (T57.setTop (mkF m 30 #[.val (.ref a), .val (.int hs)] [(.int ch)]))
      refine g_goto X57 hx (hb hby d13_30) (by decide) (q := 40) (by decide) ?_
      refine g_istoreN X57 hx (hb hby d13_40) (L' := #[.val (.ref a), .val (.int ch)]) rfl (q := 41) rfl ?_
      refine g_iloadN X57 hx (hb hby d13_41) (v := ch) rfl (q := 42) rfl ?_
      refine g_if_ne X57 hx (hb hby d13_42) (by decide) (q := 53) (by decide) (q2 := 45) rfl (fun hb42 => ?_) (fun hb42 => ?_)
      · refine g_aloadN X57 hx (hb hby d13_53) (v := (.ref a)) rfl rfl (q := 54) rfl ?_
        refine g_iloadN X57 hx (hb hby d13_54) (v := ch) rfl (q := 55) rfl ?_
        refine g_putF X57 hx hZ hown (hw _ (List.mem_of_getElem? (i := 81) rfl)) Via.refl e57 F2 E0 (Or.inl (hw _ (List.mem_of_getElem? (i := 82) rfl))) (hw _ (List.mem_of_getElem? (i := 10) rfl)) (ty := .int) (by decide) rfl rfl (hb hby d13_55) (q := 58) rfl fun T58 h58 X58 e58 W58 => ?_
        have fw58 := F2.same W58
        have N58 := Fr.snoc X58 (Fr.nil n0) hge
        have kp_58 := (Keep.refl h0 [a]).wr W58 (Or.inl (List.mem_of_getElem? (i := 0) rfl))
        have f59 := (SC.wr W58)
        have f60 := (E0.wr W58)
        have f61 := (F0.other W58 (Or.inr (slot_ne (Or.inr (hw _ (List.mem_of_getElem? (i := 23) rfl))) (Or.inl (hw _ (List.mem_of_getElem? (i := 82) rfl))) (by decide) (t := (.array .byte)) (t' := .int) (by decide) (by decide))))
        have f62 := (F1.other W58 (Or.inr (slot_ne (Or.inr (hw _ (List.mem_of_getElem? (i := 25) rfl))) (Or.inl (hw _ (List.mem_of_getElem? (i := 82) rfl))) (by decide) (t := .byte) (t' := .int) (by decide) (by decide))))
        have f63 := (F3.other W58 (Or.inr (slot_ne (Or.inl (hw _ (List.mem_of_getElem? (i := 84) rfl))) (Or.inl (hw _ (List.mem_of_getElem? (i := 82) rfl))) (by decide) (t := .boolean) (t' := .int) (by decide) (by decide))))
        have f64 := (V0.other W58 (Ne.symm nav))
        refine g_iloadN X58 hx (hb hby d13_58) (v := ch) rfl (q := 59) rfl ?_
        exact g_retI X58 hx hret hlk (hb hby d13_59) ⟨rfl, by simpa using N58, by rw [e58]; exact kp_58, ⟨by rw [e58]; exact f60, by rw [e58]; exact f61, by rw [e58]; exact f62, by rw [e58]; exact f64, hch2, ch, hz, by rw [e58]; exact fw58, by rw [e58]; exact f63, Or.inr rfl, hh2⟩⟩ (Nat.le_of_ble_eq_true rfl) (Nat.le_of_ble_eq_true rfl)
      · refine g_aloadN X57 hx (hb hby d13_45) (v := (.ref a)) rfl rfl (q := 46) rfl ?_
        refine g_iconst X57 hx (hb hby d13_46) (n := (1 : Int32)) (by decide) (q := 47) rfl ?_
        refine g_putF X57 hx hZ hown (hw _ (List.mem_of_getElem? (i := 83) rfl)) Via.refl e57 F3 E0 (Or.inl (hw _ (List.mem_of_getElem? (i := 84) rfl))) (hw _ (List.mem_of_getElem? (i := 10) rfl)) (ty := .boolean) (by decide) rfl rfl (hb hby d13_47) (q := 50) rfl fun T65 h65 X65 e65 W65 => ?_
        have fw65 := F3.same W65
        have N65 := Fr.snoc X65 (Fr.nil n0) hge
        have kp_65 := (Keep.refl h0 [a]).wr W65 (Or.inl (List.mem_of_getElem? (i := 0) rfl))
        have f66 := (SC.wr W65)
        have f67 := (E0.wr W65)
        have f68 := (F0.other W65 (Or.inr (slot_ne (Or.inr (hw _ (List.mem_of_getElem? (i := 23) rfl))) (Or.inl (hw _ (List.mem_of_getElem? (i := 84) rfl))) (by decide) (t := (.array .byte)) (t' := .boolean) (by decide) (by decide))))
        have f69 := (F1.other W65 (Or.inr (slot_ne (Or.inr (hw _ (List.mem_of_getElem? (i := 25) rfl))) (Or.inl (hw _ (List.mem_of_getElem? (i := 84) rfl))) (by decide) (t := .byte) (t' := .boolean) (by decide) (by decide))))
        have f70 := (F2.other W65 (Or.inr (slot_ne (Or.inl (hw _ (List.mem_of_getElem? (i := 82) rfl))) (Or.inl (hw _ (List.mem_of_getElem? (i := 84) rfl))) (by decide) (t := .int) (t' := .boolean) (by decide) (by decide))))
        have f71 := (V0.other W65 (Ne.symm nav))
        refine g_goto X65 hx (hb hby d13_50) (by decide) (q := 58) (by decide) ?_
        refine g_iloadN X65 hx (hb hby d13_58) (v := ch) rfl (q := 59) rfl ?_
        exact g_retI X65 hx hret hlk (hb hby d13_59) ⟨rfl, by simpa using N65, by rw [e65]; exact kp_65, ⟨by rw [e65]; exact f67, by rw [e65]; exact f68, by rw [e65]; exact f69, by rw [e65]; exact f71, hch2, hs, 1, by rw [e65]; exact f70, by rw [e65]; exact fw65, hh1, Or.inr hb42⟩⟩ (Nat.le_of_ble_eq_true rfl) (Nat.le_of_ble_eq_true rfl)
theorem d30_0 : decode jdk_43_method_13_code 0 = .ok (.aload_n 0, 1) := by decide +kernel
theorem d30_1 : decode jdk_43_method_13_code 1 = .ok (.arraylength, 1) := by decide +kernel
theorem d30_2 : decode jdk_43_method_13_code 2 = .ok (.aload_n 1, 1) := by decide +kernel
theorem d30_3 : decode jdk_43_method_13_code 3 = .ok (.arraylength, 1) := by decide +kernel
theorem d30_4 : decode jdk_43_method_13_code 4 = .ok (.if_icmp .ne 30, 3) := by decide +kernel
theorem d30_7 : decode jdk_43_method_13_code 7 = .ok (.iconst 0, 1) := by decide +kernel
theorem d30_8 : decode jdk_43_method_13_code 8 = .ok (.istore_n 2, 1) := by decide +kernel
theorem d30_9 : decode jdk_43_method_13_code 9 = .ok (.iload_n 2, 1) := by decide +kernel
theorem d30_10 : decode jdk_43_method_13_code 10 = .ok (.aload_n 0, 1) := by decide +kernel
theorem d30_11 : decode jdk_43_method_13_code 11 = .ok (.arraylength, 1) := by decide +kernel
theorem d30_12 : decode jdk_43_method_13_code 12 = .ok (.if_icmp .ge 20, 3) := by decide +kernel
theorem d30_15 : decode jdk_43_method_13_code 15 = .ok (.aload_n 0, 1) := by decide +kernel
theorem d30_16 : decode jdk_43_method_13_code 16 = .ok (.iload_n 2, 1) := by decide +kernel
theorem d30_17 : decode jdk_43_method_13_code 17 = .ok (.baload, 1) := by decide +kernel
theorem d30_18 : decode jdk_43_method_13_code 18 = .ok (.aload_n 1, 1) := by decide +kernel
theorem d30_19 : decode jdk_43_method_13_code 19 = .ok (.iload_n 2, 1) := by decide +kernel
theorem d30_20 : decode jdk_43_method_13_code 20 = .ok (.baload, 1) := by decide +kernel
theorem d30_21 : decode jdk_43_method_13_code 21 = .ok (.if_icmp .eq 5, 3) := by decide +kernel
theorem d30_26 : decode jdk_43_method_13_code 26 = .ok (.iinc 2 1, 3) := by decide +kernel
theorem d30_29 : decode jdk_43_method_13_code 29 = .ok (.goto (-20), 3) := by decide +kernel
theorem d30_32 : decode jdk_43_method_13_code 32 = .ok (.iconst 1, 1) := by decide +kernel
theorem d30_33 : decode jdk_43_method_13_code 33 = .ok (.ireturn, 1) := by decide +kernel
set_option maxRecDepth 65536 in
set_option maxHeartbeats 40000000 in
theorem rmLE (l : Launch) (Z : State) (a0 : Array Value) (hw : ∀ d ∈ tables_1, d.before a0 Z = true) (va vb : Addr) (ch : Int32) (h0 : Heap) (V0 : Af Z h0 va .byte 1 (fun _ => .int (ch.toInt8.toInt32))) (V1 : Af Z h0 vb .byte 1 (fun _ => .int (ch.toInt8.toInt32))) :
    Con l Z h0 (⟨"java/lang/StringLatin1", "equals", "([B[B)Z"⟩ : MethodName) jdk_43_method_13_code 3 (some .boolean) ({ frames := 0, cells := 0, slots := 0, locals := 0 } : Room) #[(.ref va), (.ref vb)] (Pur (some (.int 1)) h0) := by
  refine con_of (plainFor_of_name pn_0) (Ls := #[.val (.ref va), .val (.ref vb), .unset]) (fun m => by first | (simp [entryFrame, mkF, argsToLocals, Value.category]; done) | rfl) ?_
  intro p e s m below meth c s₁ hx hZ hby hml hret hlk hnm hown X0 e0
  refine g_aloadN X0 hx (hb hby d30_0) (v := (.ref va)) rfl rfl (q := 1) rfl ?_
  refine g_len X0 hx hZ e0 V0 (z := (1 : Int32)) rfl (hb hby d30_1) (q := 2) rfl ?_
  refine g_aloadN X0 hx (hb hby d30_2) (v := (.ref vb)) rfl rfl (q := 3) rfl ?_
  refine g_len X0 hx hZ e0 V1 (z := (1 : Int32)) rfl (hb hby d30_3) (q := 4) rfl ?_
  refine g_icmp_ne X0 hx (hb hby d30_4) (by decide) (q := 34) (by decide) (q2 := 7) rfl (fun hb4 => absurd hb4 (by decide)) (fun hb4 => ?_)
  refine g_iconst X0 hx (hb hby d30_7) (n := (0 : Int32)) (by decide) (q := 8) rfl ?_
  refine g_istoreN X0 hx (hb hby d30_8) (L' := #[.val (.ref va), .val (.ref vb), .val (.int (0 : Int32))]) rfl (q := 9) rfl ?_
  refine g_iloadN X0 hx (hb hby d30_9) (v := (0 : Int32)) rfl (q := 10) rfl ?_
  refine g_aloadN X0 hx (hb hby d30_10) (v := (.ref va)) rfl rfl (q := 11) rfl ?_
  refine g_len X0 hx hZ e0 V0 (z := (1 : Int32)) rfl (hb hby d30_11) (q := 12) rfl ?_
  refine g_icmp_ge X0 hx (hb hby d30_12) (by decide) (q := 32) (by decide) (q2 := 15) rfl (fun hb12 => absurd hb12 (by decide)) (fun hb12 => ?_)
  refine g_aloadN X0 hx (hb hby d30_15) (v := (.ref va)) rfl rfl (q := 16) rfl ?_
  refine g_iloadN X0 hx (hb hby d30_16) (v := (0 : Int32)) rfl (q := 17) rfl ?_
  refine g_baload X0 hx hZ e0 V0 (by decide) (by decide) (v := (.int (ch.toInt8.toInt32))) rfl (hb hby d30_17) (q := 18) rfl ?_
  refine g_aloadN X0 hx (hb hby d30_18) (v := (.ref vb)) rfl rfl (q := 19) rfl ?_
  refine g_iloadN X0 hx (hb hby d30_19) (v := (0 : Int32)) rfl (q := 20) rfl ?_
  refine g_baload X0 hx hZ e0 V1 (by decide) (by decide) (v := (.int (ch.toInt8.toInt32))) rfl (hb hby d30_20) (q := 21) rfl ?_
  refine g_icmp_eq X0 hx (hb hby d30_21) (by decide) (q := 26) (by decide) (q2 := 24) rfl (fun hb21 => ?_) (fun hb21 => absurd hb21 (not_not_intro rfl))
  refine g_iinc X0 hx (hb hby d30_26) (x := (0 : Int32)) rfl (z := (1 : Int32)) (by decide) (L' := #[.val (.ref va), .val (.ref vb), .val (.int (1 : Int32))]) rfl (q := 29) rfl ?_
  refine g_goto X0 hx (hb hby d30_29) (by decide) (q := 9) (by decide) ?_
  refine g_iloadN X0 hx (hb hby d30_9) (v := (1 : Int32)) rfl (q := 10) rfl ?_
  refine g_aloadN X0 hx (hb hby d30_10) (v := (.ref va)) rfl rfl (q := 11) rfl ?_
  refine g_len X0 hx hZ e0 V0 (z := (1 : Int32)) rfl (hb hby d30_11) (q := 12) rfl ?_
  refine g_icmp_ge X0 hx (hb hby d30_12) (by decide) (q := 32) (by decide) (q2 := 15) rfl (fun hb12 => ?_) (fun hb12 => absurd hb12 (by decide))
  refine g_iconst X0 hx (hb hby d30_32) (n := (1 : Int32)) (by decide) (q := 33) rfl ?_
  exact g_retB X0 hx hret hlk (hb hby d30_33) (by decide) ⟨rfl, rfl, e0⟩ (Nat.le_of_ble_eq_true rfl) (Nat.le_of_ble_eq_true rfl)
theorem d29_0 : decode jdk_42_method_66_code 0 = .ok (.aload_n 0, 1) := by decide +kernel
theorem d29_1 : decode jdk_42_method_66_code 1 = .ok (.aload_n 1, 1) := by decide +kernel
theorem d29_2 : decode jdk_42_method_66_code 2 = .ok (.if_acmp .ne 5, 3) := by decide +kernel
theorem d29_7 : decode jdk_42_method_66_code 7 = .ok (.aload_n 1, 1) := by decide +kernel
theorem d29_8 : decode jdk_42_method_66_code 8 = .ok (.instanceof 10, 3) := by decide +kernel
theorem d29_11 : decode jdk_42_method_66_code 11 = .ok (.ifCond .eq 43, 3) := by decide +kernel
theorem d29_14 : decode jdk_42_method_66_code 14 = .ok (.aload_n 1, 1) := by decide +kernel
theorem d29_15 : decode jdk_42_method_66_code 15 = .ok (.checkcast 10, 3) := by decide +kernel
theorem d29_18 : decode jdk_42_method_66_code 18 = .ok (.astore_n 2, 1) := by decide +kernel
theorem d29_19 : decode jdk_42_method_66_code 19 = .ok (.getstatic 38, 3) := by decide +kernel
theorem d29_22 : decode jdk_42_method_66_code 22 = .ok (.ifCond .eq 14, 3) := by decide +kernel
theorem d29_25 : decode jdk_42_method_66_code 25 = .ok (.aload_n 0, 1) := by decide +kernel
theorem d29_26 : decode jdk_42_method_66_code 26 = .ok (.getfield 15, 3) := by decide +kernel
theorem d29_29 : decode jdk_42_method_66_code 29 = .ok (.aload_n 2, 1) := by decide +kernel
theorem d29_30 : decode jdk_42_method_66_code 30 = .ok (.getfield 15, 3) := by decide +kernel
theorem d29_33 : decode jdk_42_method_66_code 33 = .ok (.if_icmp .ne 21, 3) := by decide +kernel
theorem d29_36 : decode jdk_42_method_66_code 36 = .ok (.aload_n 0, 1) := by decide +kernel
theorem d29_37 : decode jdk_42_method_66_code 37 = .ok (.getfield 9, 3) := by decide +kernel
theorem d29_40 : decode jdk_42_method_66_code 40 = .ok (.aload_n 2, 1) := by decide +kernel
theorem d29_41 : decode jdk_42_method_66_code 41 = .ok (.getfield 9, 3) := by decide +kernel
theorem d29_44 : decode jdk_42_method_66_code 44 = .ok (.invokestatic 541, 3) := by decide +kernel
theorem d29_47 : decode jdk_42_method_66_code 47 = .ok (.ifCond .eq 7, 3) := by decide +kernel
theorem d29_50 : decode jdk_42_method_66_code 50 = .ok (.iconst 1, 1) := by decide +kernel
theorem d29_51 : decode jdk_42_method_66_code 51 = .ok (.goto 4, 3) := by decide +kernel
theorem d29_55 : decode jdk_42_method_66_code 55 = .ok (.ireturn, 1) := by decide +kernel
set_option maxRecDepth 65536 in
set_option maxHeartbeats 40000000 in
theorem rmSE (l : Launch) (Z : State) (a0 : Array Value) (hw : ∀ d ∈ tables_1, d.before a0 Z = true) (a va b vb : Addr) (ch cs : Int32) (nab : a ≠ b) (hcs : ¬ cs = 0) (h0 : Heap) (SC : Sta Z h0 "java/lang/String" "COMPACT_STRINGS" "Z" (.int cs)) (ST : Str Z h0 a va ch) (SU : Str Z h0 b vb ch) :
    Con l Z h0 (⟨"java/lang/String", "equals", "(Ljava/lang/Object;)Z"⟩ : MethodName) jdk_42_method_66_code 3 (some .boolean) ({ frames := 1, cells := 0, slots := 0, locals := 14 } : Room) #[(.ref a), (.ref b)] (Pur (some (.int 1)) h0) := by
  obtain ⟨E0, F0, F1, V0, -⟩ := ST
  obtain ⟨E1, G0, G1, V1, -⟩ := SU
  refine con_of (plainFor_of_name pn_1) (Ls := #[.val (.ref a), .val (.ref b), .unset]) (fun m => by first | (simp [entryFrame, mkF, argsToLocals, Value.category]; done) | rfl) ?_
  intro p e s m below meth c s₁ hx hZ hby hml hret hlk hnm hown X0 e0
  refine g_aloadN X0 hx (hb hby d29_0) (v := (.ref a)) rfl rfl (q := 1) rfl ?_
  refine g_aloadN X0 hx (hb hby d29_1) (v := (.ref b)) rfl rfl (q := 2) rfl ?_
  refine g_acmpNe X0 hx rfl rfl (hb hby d29_2) (by decide) (q := 7) (by decide) (q2 := 5) rfl (fun hb2 => ?_) (fun hb2 => absurd hb2 (fun q => nab (Value.ref.inj q)))
  refine g_aloadN X0 hx (hb hby d29_7) (v := (.ref b)) rfl rfl (q := 8) rfl ?_
  refine g_inst X0 hx hZ hown (hw _ (List.mem_of_getElem? (i := 9) rfl)) e0 (Ins.self E1) (hb hby d29_8) (q := 11) rfl fun T72 X72 e72 => ?_
  refine g_if_eq X72 hx (hb hby d29_11) (by decide) (q := 54) (by decide) (q2 := 14) rfl (fun hb11 => absurd hb11 (by decide)) (fun hb11 => ?_)
  refine g_aloadN X72 hx (hb hby d29_14) (v := (.ref b)) rfl rfl (q := 15) rfl ?_
  refine g_cast X72 hx hZ hown (hw _ (List.mem_of_getElem? (i := 9) rfl)) e72 (Ins.self E1) (hb hby d29_15) (q := 18) rfl fun T73 X73 e73 => ?_
  refine g_astoreN X73 hx (hb hby d29_18) rfl (L' := #[.val (.ref a), .val (.ref b), .val (.ref b)]) rfl (q := 19) rfl ?_
  refine g_getS X73 hx hZ hown (hw _ (List.mem_of_getElem? (i := 4) rfl)) Via.refl e73 SC (hb hby d29_19) (q := 22) rfl fun T74 X74 e74 => ?_
  refine g_if_eq X74 hx (hb hby d29_22) (by decide) (q := 36) (by decide) (q2 := 25) rfl (fun hb22 => absurd hb22 hcs) (fun hb22 => ?_)
  refine g_aloadN X74 hx (hb hby d29_25) (v := (.ref a)) rfl rfl (q := 26) rfl ?_
  refine g_getF X74 hx hZ hown (hw _ (List.mem_of_getElem? (i := 24) rfl)) Via.refl e74 F1 (hb hby d29_26) (q := 29) rfl fun T75 X75 e75 => ?_
  refine g_aloadN X75 hx (hb hby d29_29) (v := (.ref b)) rfl rfl (q := 30) rfl ?_
  refine g_getF X75 hx hZ hown (hw _ (List.mem_of_getElem? (i := 24) rfl)) Via.refl e75 G1 (hb hby d29_30) (q := 33) rfl fun T76 X76 e76 => ?_
  refine g_icmp_ne X76 hx (hb hby d29_33) (by decide) (q := 54) (by decide) (q2 := 36) rfl (fun hb33 => absurd hb33 (by decide)) (fun hb33 => ?_)
  refine g_aloadN X76 hx (hb hby d29_36) (v := (.ref a)) rfl rfl (q := 37) rfl ?_
  refine g_getF X76 hx hZ hown (hw _ (List.mem_of_getElem? (i := 22) rfl)) Via.refl e76 F0 (hb hby d29_37) (q := 40) rfl fun T77 X77 e77 => ?_
  refine g_aloadN X77 hx (hb hby d29_40) (v := (.ref b)) rfl rfl (q := 41) rfl ?_
  refine g_getF X77 hx hZ hown (hw _ (List.mem_of_getElem? (i := 22) rfl)) Via.refl e77 G0 (hb hby d29_41) (q := 44) rfl fun T78 X78 e78 => ?_
  refine g_callS X78 hx hZ hown (hw _ (List.mem_of_getElem? (i := 177) rfl)) (hw _ (List.mem_of_getElem? (i := 178) rfl)) (hw _ (List.mem_of_getElem? (i := 7) rfl)) (hw _ (List.mem_of_getElem? (i := 179) rfl)) (by decide) e78 (rmLE l Z a0 hw va vb ch h0 V0 V1) (by exact hml.symm) (argsL := [(.ref va), (.ref vb)]) (rest := []) rfl rfl pd_7 rfl (Nat.le_of_ble_eq_true rfl) (Nat.le_of_ble_eq_true rfl) (Nat.le_of_ble_eq_true rfl) (Nat.le_of_ble_eq_true rfl) (hb hby d29_44) (q := 47) rfl (g_pure rfl rfl fun T79 X79 e79 => ?_)
  show Go p e below _ (T79.setTop (mkF m 47 #[.val (.ref a), .val (.ref b), .val (.ref b)] [(.int (1 : Int32))]))
  refine g_if_eq X79 hx (hb hby d29_47) (by decide) (q := 54) (by decide) (q2 := 50) rfl (fun hb47 => absurd hb47 (by decide)) (fun hb47 => ?_)
  refine g_iconst X79 hx (hb hby d29_50) (n := (1 : Int32)) (by decide) (q := 51) rfl ?_
  refine g_goto X79 hx (hb hby d29_51) (by decide) (q := 55) (by decide) ?_
  exact g_retB X79 hx hret hlk (hb hby d29_55) (by decide) ⟨rfl, rfl, e79⟩ (Nat.le_of_ble_eq_true rfl) (Nat.le_of_ble_eq_true rfl)
theorem d8_0 : decode jdk_71_method_1_code 0 = .ok (.aload_n 0, 1) := by decide +kernel
theorem d8_1 : decode jdk_71_method_1_code 1 = .ok (.invokespecial 1, 3) := by decide +kernel
theorem d8_4 : decode jdk_71_method_1_code 4 = .ok (.return_, 1) := by decide +kernel
set_option maxRecDepth 65536 in
set_option maxHeartbeats 40000000 in
theorem rmAM (l : Launch) (Z : State) (a0 : Array Value) (hw : ∀ d ∈ tables_1, d.before a0 Z = true) (a : Addr) (h0 : Heap) :
    Con l Z h0 (⟨"java/util/AbstractMap", "<init>", "()V"⟩ : MethodName) jdk_71_method_1_code 1 none ({ frames := 1, cells := 0, slots := 0, locals := 12 } : Room) #[(.ref a)] (Pur none h0) := by
  refine con_of (plainFor_of_name pn_4) (Ls := #[.val (.ref a)]) (fun m => by first | (simp [entryFrame, mkF, argsToLocals, Value.category]; done) | rfl) ?_
  intro p e s m below meth c s₁ hx hZ hby hml hret hlk hnm hown X0 e0
  refine g_aloadN X0 hx (hb hby d8_0) (v := (.ref a)) rfl rfl (q := 1) rfl ?_
  refine g_initO X0 hx hZ hown (hw _ (List.mem_of_getElem? (i := 44) rfl)) (hw _ (List.mem_of_getElem? (i := 20) rfl)) (hw _ (List.mem_of_getElem? (i := 21) rfl)) e0 (by exact hml.symm) (hb hby d8_1) (Nat.le_of_ble_eq_true rfl) (Nat.le_of_ble_eq_true rfl) (q := 4) rfl fun T80 X80 e80 => ?_
  exact g_retV X80 hx hret hlk (hb hby d8_4) ⟨rfl, rfl, e80⟩ (Nat.le_of_ble_eq_true rfl) (Nat.le_of_ble_eq_true rfl)
theorem d7_0 : decode prog_18_method_1_code 0 = .ok (.aload_n 0, 1) := by decide +kernel
theorem d7_1 : decode prog_18_method_1_code 1 = .ok (.invokespecial 1, 3) := by decide +kernel
theorem d7_4 : decode prog_18_method_1_code 4 = .ok (.iload_n 1, 1) := by decide +kernel
theorem d7_5 : decode prog_18_method_1_code 5 = .ok (.ifCond .ge 7, 3) := by decide +kernel
theorem d7_8 : decode prog_18_method_1_code 8 = .ok (.iconst 4, 1) := by decide +kernel
theorem d7_9 : decode prog_18_method_1_code 9 = .ok (.goto 4, 3) := by decide +kernel
theorem d7_13 : decode prog_18_method_1_code 13 = .ok (.istore_n 2, 1) := by decide +kernel
theorem d7_14 : decode prog_18_method_1_code 14 = .ok (.aload_n 0, 1) := by decide +kernel
theorem d7_15 : decode prog_18_method_1_code 15 = .ok (.iconst 2, 1) := by decide +kernel
theorem d7_16 : decode prog_18_method_1_code 16 = .ok (.iload_n 2, 1) := by decide +kernel
theorem d7_17 : decode prog_18_method_1_code 17 = .ok (.imul, 1) := by decide +kernel
theorem d7_18 : decode prog_18_method_1_code 18 = .ok (.anewarray 9, 3) := by decide +kernel
theorem d7_21 : decode prog_18_method_1_code 21 = .ok (.putfield 11, 3) := by decide +kernel
theorem d7_24 : decode prog_18_method_1_code 24 = .ok (.aload_n 0, 1) := by decide +kernel
theorem d7_25 : decode prog_18_method_1_code 25 = .ok (.iload_n 2, 1) := by decide +kernel
theorem d7_26 : decode prog_18_method_1_code 26 = .ok (.newarray .int, 2) := by decide +kernel
theorem d7_28 : decode prog_18_method_1_code 28 = .ok (.putfield 15, 3) := by decide +kernel
theorem d7_31 : decode prog_18_method_1_code 31 = .ok (.return_, 1) := by decide +kernel
set_option maxRecDepth 65536 in
set_option maxHeartbeats 40000000 in
theorem rmTI0 (l : Launch) (Z : State) (a0 : Array Value) (hw : ∀ d ∈ tables_1, d.before a0 Z = true) (t : Addr) (h0 : Heap) (n0 : Nat) (Z0 : n0 ≤ h0.size) (hge : n0 ≤ t) (E0 : Exa Z h0 t "com/example/kehys/kehys/io/TreeObject") (F0 : Fld Z h0 t "com/example/kehys/kehys/io/TreeObject" "members" "[Ljava/lang/Object;" .null) (F1 : Fld Z h0 t "com/example/kehys/kehys/io/TreeObject" "hashes" "[I" .null) (F2 : Fld Z h0 t "com/example/kehys/kehys/io/TreeObject" "size" "I" (.int (0 : Int32))) (F3 : Fld Z h0 t "com/example/kehys/kehys/io/TreeObject" "index" "Ljava/util/Map;" .null) (F4 : Fld Z h0 t "com/example/kehys/kehys/io/TreeObject" "changes" "I" (.int (0 : Int32))) :
    Con l Z h0 (⟨"com/example/kehys/kehys/io/TreeObject", "<init>", "(I)V"⟩ : MethodName) prog_18_method_1_code 3 none ({ frames := 2, cells := 2, slots := 18, locals := 26 } : Room) #[(.ref t), (.int (-1 : Int32))] (fun v h L => v = none ∧ Fr n0 L ∧ Keep h0 h [t] ∧ Tr0 Z h t) := by
  refine con_of (plainFor_of_name pn_5) (Ls := #[.val (.ref t), .val (.int (-1 : Int32)), .unset]) (fun m => by first | (simp [entryFrame, mkF, argsToLocals, Value.category]; done) | rfl) ?_
  intro p e s m below meth c s₁ hx hZ hby hml hret hlk hnm hown X0 e0
  refine g_aloadN X0 hx (hb hby d7_0) (v := (.ref t)) rfl rfl (q := 1) rfl ?_
  refine g_callI X0 hx hZ hown rfl (hw _ (List.mem_of_getElem? (i := 39) rfl)) (hw _ (List.mem_of_getElem? (i := 40) rfl)) (hw _ (List.mem_of_getElem? (i := 43) rfl)) (hw _ (List.mem_of_getElem? (i := 42) rfl)) (by decide) e0 (b := t) (rmAM l Z a0 hw t h0) (by exact hml.symm) (argsL := []) (rest := []) rfl rfl pd_3 rfl (Nat.le_of_ble_eq_true rfl) (Nat.le_of_ble_eq_true rfl) (Nat.le_of_ble_eq_true rfl) (Nat.le_of_ble_eq_true rfl) (hb hby d7_1) (q := 4) rfl (g_pure rfl rfl fun T81 X81 e81 => ?_)
  show Go p e below _ (T81.setTop (mkF m 4 #[.val (.ref t), .val (.int (-1 : Int32)), .unset] []))
  refine g_iloadN X81 hx (hb hby d7_4) (v := (-1 : Int32)) rfl (q := 5) rfl ?_
  refine g_if_ge X81 hx (hb hby d7_5) (by decide) (q := 12) (by decide) (q2 := 8) rfl (fun hb5 => absurd hb5 (by decide)) (fun hb5 => ?_)
  refine g_iconst X81 hx (hb hby d7_8) (n := (4 : Int32)) (by decide) (q := 9) rfl ?_
  refine g_goto X81 hx (hb hby d7_9) (by decide) (q := 13) (by decide) ?_
  refine g_istoreN X81 hx (hb hby d7_13) (L' := #[.val (.ref t), .val (.int (-1 : Int32)), .val (.int (4 : Int32))]) rfl (q := 14) rfl ?_
  refine g_aloadN X81 hx (hb hby d7_14) (v := (.ref t)) rfl rfl (q := 15) rfl ?_
  refine g_iconst X81 hx (hb hby d7_15) (n := (2 : Int32)) (by decide) (q := 16) rfl ?_
  refine g_iloadN X81 hx (hb hby d7_16) (v := (4 : Int32)) rfl (q := 17) rfl ?_
  refine g_imul X81 hx (hb hby d7_17) (z := (8 : Int32)) (by decide) (q := 18) rfl ?_
  refine g_newRE X81 hx hZ hown (hw _ (List.mem_of_getElem? (i := 45) rfl)) (hw _ (List.mem_of_getElem? (i := 46) rfl)) e81 (hb hby d7_18) (z := (8 : Int32)) (by decide) (cap := 8) (Nat.le_of_ble_eq_true rfl) (by decide) (Nat.le_of_ble_eq_true rfl) (Nat.le_of_ble_eq_true rfl) (ad := "[Ljava/lang/Object;") (by decide) (q := 21) rfl fun T82 h82 c82 ma g82 X82 e82 E82 A82 O82 D82 => ?_
  have ne_t_ma : t ≠ ma := Nat.ne_of_lt (Nat.lt_of_lt_of_le E0.lt (Nat.le_of_eq g82.symm))
  have ge_ma : n0 ≤ ma := Nat.le_trans Z0 (Nat.le_of_eq g82.symm)
  have sz_ma : h0.size ≤ ma := Nat.le_trans (Keep.refl h0 [t]).1 (Nat.le_of_eq g82.symm)
  have z_82 := Nat.le_trans Z0 E82.1
  have kp_82 := (Keep.refl h0 [t]).ext E82
  have f83 := (E0.ext E82)
  have f84 := (F0.ext E82)
  have f85 := (F1.ext E82)
  have f86 := (F2.ext E82)
  have f87 := (F3.ext E82)
  have f88 := (F4.ext E82)
  have V82 : Af Z h82 ma (.object "java/lang/Object") 8 (fun _ => .null) := Af.fresh A82
  have Q82 := Ov.fresh A82 O82
  refine g_putF X82 hx hZ hown (hw _ (List.mem_of_getElem? (i := 47) rfl)) Via.refl e82 f84 f83 (Or.inl (hw _ (List.mem_of_getElem? (i := 48) rfl))) (hw _ (List.mem_of_getElem? (i := 34) rfl)) (ty := (.array (.object "java/lang/Object"))) (by decide) rfl rfl (hb hby d7_21) (q := 24) rfl fun T89 h89 X89 e89 W89 => ?_
  have fw89 := f84.same W89
  have N89 := Fr.snoc X89 (Fr.nil n0) hge
  have z_89 := Nat.le_trans z_82 (Keep.of_wr W89).1
  have kp_89 := kp_82.wr W89 (Or.inl (List.mem_of_getElem? (i := 0) rfl))
  have f90 := (f83.wr W89)
  have f91 := (f85.other W89 (Or.inr (slot_ne (Or.inl (hw _ (List.mem_of_getElem? (i := 51) rfl))) (Or.inl (hw _ (List.mem_of_getElem? (i := 48) rfl))) (by decide) (t := (.array .int)) (t' := (.array (.object "java/lang/Object"))) (by decide) (by decide))))
  have f92 := (f86.other W89 (Or.inr (slot_ne (Or.inl (hw _ (List.mem_of_getElem? (i := 58) rfl))) (Or.inl (hw _ (List.mem_of_getElem? (i := 48) rfl))) (by decide) (t := .int) (t' := (.array (.object "java/lang/Object"))) (by decide) (by decide))))
  have f93 := (f87.other W89 (Or.inr (slot_ne (Or.inl (hw _ (List.mem_of_getElem? (i := 74) rfl))) (Or.inl (hw _ (List.mem_of_getElem? (i := 48) rfl))) (by decide) (t := (.object "java/util/Map")) (t' := (.array (.object "java/lang/Object"))) (by decide) (by decide))))
  have f94 := (f88.other W89 (Or.inr (slot_ne (Or.inl (hw _ (List.mem_of_getElem? (i := 110) rfl))) (Or.inl (hw _ (List.mem_of_getElem? (i := 48) rfl))) (by decide) (t := .int) (t' := (.array (.object "java/lang/Object"))) (by decide) (by decide))))
  have f95 := (V82.other W89 (Ne.symm ne_t_ma))
  have f96 := (Q82.wr W89)
  have f97 := (D82.wr W89)
  refine g_aloadN X89 hx (hb hby d7_24) (v := (.ref t)) rfl rfl (q := 25) rfl ?_
  refine g_iloadN X89 hx (hb hby d7_25) (v := (4 : Int32)) rfl (q := 26) rfl ?_
  refine g_newP X89 hx hZ (hw _ (List.mem_of_getElem? (i := 49) rfl)) e89 (hb hby d7_26) (n := (4 : Int32)) (by decide) (cap := 4) (Nat.le_of_ble_eq_true rfl) (by decide) (Nat.le_of_ble_eq_true rfl) (Nat.le_of_ble_eq_true rfl) (q := 28) rfl fun T98 h98 c98 ha g98 X98 e98 E98 A98 => ?_
  have ne_t_ha : t ≠ ha := Nat.ne_of_lt (Nat.lt_of_lt_of_le f90.lt (Nat.le_of_eq g98.symm))
  have ne_ma_ha : ma ≠ ha := Nat.ne_of_lt (Nat.lt_of_lt_of_le f97.lt (Nat.le_of_eq g98.symm))
  have ge_ha : n0 ≤ ha := Nat.le_trans z_89 (Nat.le_of_eq g98.symm)
  have sz_ha : h0.size ≤ ha := Nat.le_trans kp_89.1 (Nat.le_of_eq g98.symm)
  have z_98 := Nat.le_trans z_89 E98.1
  have kp_98 := kp_89.ext E98
  have f99 := (f90.ext E98)
  have f100 := (fw89.ext E98)
  have f101 := (f91.ext E98)
  have f102 := (f92.ext E98)
  have f103 := (f93.ext E98)
  have f104 := (f94.ext E98)
  have f105 := (f95.ext E98)
  have f106 := (f96.ext E98)
  have f107 := (f97.ext E98)
  have V98 : Af Z h98 ha .int 4 (fun _ => (.int (0 : Int32))) := Af.fresh A98
  refine g_putF X98 hx hZ hown (hw _ (List.mem_of_getElem? (i := 50) rfl)) Via.refl e98 f101 f99 (Or.inl (hw _ (List.mem_of_getElem? (i := 51) rfl))) (hw _ (List.mem_of_getElem? (i := 34) rfl)) (ty := (.array .int)) (by decide) rfl rfl (hb hby d7_28) (q := 31) rfl fun T108 h108 X108 e108 W108 => ?_
  have fw108 := f101.same W108
  have N108 := Fr.snoc X108 N89 hge
  have z_108 := Nat.le_trans z_98 (Keep.of_wr W108).1
  have kp_108 := kp_98.wr W108 (Or.inl (List.mem_of_getElem? (i := 0) rfl))
  have f109 := (f99.wr W108)
  have f110 := (f100.other W108 (Or.inr (slot_ne (Or.inl (hw _ (List.mem_of_getElem? (i := 48) rfl))) (Or.inl (hw _ (List.mem_of_getElem? (i := 51) rfl))) (by decide) (t := (.array (.object "java/lang/Object"))) (t' := (.array .int)) (by decide) (by decide))))
  have f111 := (f102.other W108 (Or.inr (slot_ne (Or.inl (hw _ (List.mem_of_getElem? (i := 58) rfl))) (Or.inl (hw _ (List.mem_of_getElem? (i := 51) rfl))) (by decide) (t := .int) (t' := (.array .int)) (by decide) (by decide))))
  have f112 := (f103.other W108 (Or.inr (slot_ne (Or.inl (hw _ (List.mem_of_getElem? (i := 74) rfl))) (Or.inl (hw _ (List.mem_of_getElem? (i := 51) rfl))) (by decide) (t := (.object "java/util/Map")) (t' := (.array .int)) (by decide) (by decide))))
  have f113 := (f104.other W108 (Or.inr (slot_ne (Or.inl (hw _ (List.mem_of_getElem? (i := 110) rfl))) (Or.inl (hw _ (List.mem_of_getElem? (i := 51) rfl))) (by decide) (t := .int) (t' := (.array .int)) (by decide) (by decide))))
  have f114 := (f105.other W108 (Ne.symm ne_t_ma))
  have f115 := (f106.wr W108)
  have f116 := (f107.wr W108)
  have f117 := (V98.other W108 (Ne.symm ne_t_ha))
  exact g_retV X108 hx hret hlk (hb hby d7_31) ⟨rfl, by simpa using N108, by rw [e108]; exact kp_108, ma, ha, 4, _, _, _, by rw [e108]; exact f109, by rw [e108]; exact f110, by rw [e108]; exact fw108, by rw [e108]; exact f111, by rw [e108]; exact f112, by rw [e108]; exact f113, by rw [e108]; exact f114, by rw [e108]; exact f115, by rw [e108]; exact f116, by rw [e108]; exact f117, Nat.lt_of_lt_of_le E0.lt sz_ma, Nat.lt_of_lt_of_le E0.lt sz_ha, ne_ma_ha, by decide⟩ (Nat.le_of_ble_eq_true rfl) (Nat.le_of_ble_eq_true rfl)
theorem d7_12 : decode prog_18_method_1_code 12 = .ok (.iload_n 1, 1) := by decide +kernel
set_option maxRecDepth 65536 in
set_option maxHeartbeats 40000000 in
theorem rmTI1 (l : Launch) (Z : State) (a0 : Array Value) (hw : ∀ d ∈ tables_1, d.before a0 Z = true) (t : Addr) (h0 : Heap) (n0 : Nat) (Z0 : n0 ≤ h0.size) (hge : n0 ≤ t) (E0 : Exa Z h0 t "com/example/kehys/kehys/io/TreeObject") (F0 : Fld Z h0 t "com/example/kehys/kehys/io/TreeObject" "members" "[Ljava/lang/Object;" .null) (F1 : Fld Z h0 t "com/example/kehys/kehys/io/TreeObject" "hashes" "[I" .null) (F2 : Fld Z h0 t "com/example/kehys/kehys/io/TreeObject" "size" "I" (.int (0 : Int32))) (F3 : Fld Z h0 t "com/example/kehys/kehys/io/TreeObject" "index" "Ljava/util/Map;" .null) (F4 : Fld Z h0 t "com/example/kehys/kehys/io/TreeObject" "changes" "I" (.int (0 : Int32))) :
    Con l Z h0 (⟨"com/example/kehys/kehys/io/TreeObject", "<init>", "(I)V"⟩ : MethodName) prog_18_method_1_code 3 none ({ frames := 2, cells := 2, slots := 18, locals := 26 } : Room) #[(.ref t), (.int (0 : Int32))] (fun v h L => v = none ∧ Fr n0 L ∧ Keep h0 h [t] ∧ Tr0 Z h t) := by
  refine con_of (plainFor_of_name pn_5) (Ls := #[.val (.ref t), .val (.int (0 : Int32)), .unset]) (fun m => by first | (simp [entryFrame, mkF, argsToLocals, Value.category]; done) | rfl) ?_
  intro p e s m below meth c s₁ hx hZ hby hml hret hlk hnm hown X0 e0
  refine g_aloadN X0 hx (hb hby d7_0) (v := (.ref t)) rfl rfl (q := 1) rfl ?_
  refine g_callI X0 hx hZ hown rfl (hw _ (List.mem_of_getElem? (i := 39) rfl)) (hw _ (List.mem_of_getElem? (i := 40) rfl)) (hw _ (List.mem_of_getElem? (i := 43) rfl)) (hw _ (List.mem_of_getElem? (i := 42) rfl)) (by decide) e0 (b := t) (rmAM l Z a0 hw t h0) (by exact hml.symm) (argsL := []) (rest := []) rfl rfl pd_3 rfl (Nat.le_of_ble_eq_true rfl) (Nat.le_of_ble_eq_true rfl) (Nat.le_of_ble_eq_true rfl) (Nat.le_of_ble_eq_true rfl) (hb hby d7_1) (q := 4) rfl (g_pure rfl rfl fun T118 X118 e118 => ?_)
  show Go p e below _ (T118.setTop (mkF m 4 #[.val (.ref t), .val (.int (0 : Int32)), .unset] []))
  refine g_iloadN X118 hx (hb hby d7_4) (v := (0 : Int32)) rfl (q := 5) rfl ?_
  refine g_if_ge X118 hx (hb hby d7_5) (by decide) (q := 12) (by decide) (q2 := 8) rfl (fun hb5 => ?_) (fun hb5 => absurd hb5 (by decide))
  refine g_iloadN X118 hx (hb hby d7_12) (v := (0 : Int32)) rfl (q := 13) rfl ?_
  refine g_istoreN X118 hx (hb hby d7_13) (L' := #[.val (.ref t), .val (.int (0 : Int32)), .val (.int (0 : Int32))]) rfl (q := 14) rfl ?_
  refine g_aloadN X118 hx (hb hby d7_14) (v := (.ref t)) rfl rfl (q := 15) rfl ?_
  refine g_iconst X118 hx (hb hby d7_15) (n := (2 : Int32)) (by decide) (q := 16) rfl ?_
  refine g_iloadN X118 hx (hb hby d7_16) (v := (0 : Int32)) rfl (q := 17) rfl ?_
  refine g_imul X118 hx (hb hby d7_17) (z := (0 : Int32)) (by decide) (q := 18) rfl ?_
  refine g_newRE X118 hx hZ hown (hw _ (List.mem_of_getElem? (i := 45) rfl)) (hw _ (List.mem_of_getElem? (i := 46) rfl)) e118 (hb hby d7_18) (z := (0 : Int32)) (by decide) (cap := 0) (Nat.le_of_ble_eq_true rfl) (by decide) (Nat.le_of_ble_eq_true rfl) (Nat.le_of_ble_eq_true rfl) (ad := "[Ljava/lang/Object;") (by decide) (q := 21) rfl fun T119 h119 c119 ma g119 X119 e119 E119 A119 O119 D119 => ?_
  have ne_t_ma : t ≠ ma := Nat.ne_of_lt (Nat.lt_of_lt_of_le E0.lt (Nat.le_of_eq g119.symm))
  have ge_ma : n0 ≤ ma := Nat.le_trans Z0 (Nat.le_of_eq g119.symm)
  have sz_ma : h0.size ≤ ma := Nat.le_trans (Keep.refl h0 [t]).1 (Nat.le_of_eq g119.symm)
  have z_119 := Nat.le_trans Z0 E119.1
  have kp_119 := (Keep.refl h0 [t]).ext E119
  have f120 := (E0.ext E119)
  have f121 := (F0.ext E119)
  have f122 := (F1.ext E119)
  have f123 := (F2.ext E119)
  have f124 := (F3.ext E119)
  have f125 := (F4.ext E119)
  have V119 : Af Z h119 ma (.object "java/lang/Object") 0 (fun _ => .null) := Af.fresh A119
  have Q119 := Ov.fresh A119 O119
  refine g_putF X119 hx hZ hown (hw _ (List.mem_of_getElem? (i := 47) rfl)) Via.refl e119 f121 f120 (Or.inl (hw _ (List.mem_of_getElem? (i := 48) rfl))) (hw _ (List.mem_of_getElem? (i := 34) rfl)) (ty := (.array (.object "java/lang/Object"))) (by decide) rfl rfl (hb hby d7_21) (q := 24) rfl fun T126 h126 X126 e126 W126 => ?_
  have fw126 := f121.same W126
  have N126 := Fr.snoc X126 (Fr.nil n0) hge
  have z_126 := Nat.le_trans z_119 (Keep.of_wr W126).1
  have kp_126 := kp_119.wr W126 (Or.inl (List.mem_of_getElem? (i := 0) rfl))
  have f127 := (f120.wr W126)
  have f128 := (f122.other W126 (Or.inr (slot_ne (Or.inl (hw _ (List.mem_of_getElem? (i := 51) rfl))) (Or.inl (hw _ (List.mem_of_getElem? (i := 48) rfl))) (by decide) (t := (.array .int)) (t' := (.array (.object "java/lang/Object"))) (by decide) (by decide))))
  have f129 := (f123.other W126 (Or.inr (slot_ne (Or.inl (hw _ (List.mem_of_getElem? (i := 58) rfl))) (Or.inl (hw _ (List.mem_of_getElem? (i := 48) rfl))) (by decide) (t := .int) (t' := (.array (.object "java/lang/Object"))) (by decide) (by decide))))
  have f130 := (f124.other W126 (Or.inr (slot_ne (Or.inl (hw _ (List.mem_of_getElem? (i := 74) rfl))) (Or.inl (hw _ (List.mem_of_getElem? (i := 48) rfl))) (by decide) (t := (.object "java/util/Map")) (t' := (.array (.object "java/lang/Object"))) (by decide) (by decide))))
  have f131 := (f125.other W126 (Or.inr (slot_ne (Or.inl (hw _ (List.mem_of_getElem? (i := 110) rfl))) (Or.inl (hw _ (List.mem_of_getElem? (i := 48) rfl))) (by decide) (t := .int) (t' := (.array (.object "java/lang/Object"))) (by decide) (by decide))))
  have f132 := (V119.other W126 (Ne.symm ne_t_ma))
  have f133 := (Q119.wr W126)
  have f134 := (D119.wr W126)
  refine g_aloadN X126 hx (hb hby d7_24) (v := (.ref t)) rfl rfl (q := 25) rfl ?_
  refine g_iloadN X126 hx (hb hby d7_25) (v := (0 : Int32)) rfl (q := 26) rfl ?_
  refine g_newP X126 hx hZ (hw _ (List.mem_of_getElem? (i := 49) rfl)) e126 (hb hby d7_26) (n := (0 : Int32)) (by decide) (cap := 0) (Nat.le_of_ble_eq_true rfl) (by decide) (Nat.le_of_ble_eq_true rfl) (Nat.le_of_ble_eq_true rfl) (q := 28) rfl fun T135 h135 c135 ha g135 X135 e135 E135 A135 => ?_
  have ne_t_ha : t ≠ ha := Nat.ne_of_lt (Nat.lt_of_lt_of_le f127.lt (Nat.le_of_eq g135.symm))
  have ne_ma_ha : ma ≠ ha := Nat.ne_of_lt (Nat.lt_of_lt_of_le f134.lt (Nat.le_of_eq g135.symm))
  have ge_ha : n0 ≤ ha := Nat.le_trans z_126 (Nat.le_of_eq g135.symm)
  have sz_ha : h0.size ≤ ha := Nat.le_trans kp_126.1 (Nat.le_of_eq g135.symm)
  have z_135 := Nat.le_trans z_126 E135.1
  have kp_135 := kp_126.ext E135
  have f136 := (f127.ext E135)
  have f137 := (fw126.ext E135)
  have f138 := (f128.ext E135)
  have f139 := (f129.ext E135)
  have f140 := (f130.ext E135)
  have f141 := (f131.ext E135)
  have f142 := (f132.ext E135)
  have f143 := (f133.ext E135)
  have f144 := (f134.ext E135)
  have V135 : Af Z h135 ha .int 0 (fun _ => (.int (0 : Int32))) := Af.fresh A135
  refine g_putF X135 hx hZ hown (hw _ (List.mem_of_getElem? (i := 50) rfl)) Via.refl e135 f138 f136 (Or.inl (hw _ (List.mem_of_getElem? (i := 51) rfl))) (hw _ (List.mem_of_getElem? (i := 34) rfl)) (ty := (.array .int)) (by decide) rfl rfl (hb hby d7_28) (q := 31) rfl fun T145 h145 X145 e145 W145 => ?_
  have fw145 := f138.same W145
  have N145 := Fr.snoc X145 N126 hge
  have z_145 := Nat.le_trans z_135 (Keep.of_wr W145).1
  have kp_145 := kp_135.wr W145 (Or.inl (List.mem_of_getElem? (i := 0) rfl))
  have f146 := (f136.wr W145)
  have f147 := (f137.other W145 (Or.inr (slot_ne (Or.inl (hw _ (List.mem_of_getElem? (i := 48) rfl))) (Or.inl (hw _ (List.mem_of_getElem? (i := 51) rfl))) (by decide) (t := (.array (.object "java/lang/Object"))) (t' := (.array .int)) (by decide) (by decide))))
  have f148 := (f139.other W145 (Or.inr (slot_ne (Or.inl (hw _ (List.mem_of_getElem? (i := 58) rfl))) (Or.inl (hw _ (List.mem_of_getElem? (i := 51) rfl))) (by decide) (t := .int) (t' := (.array .int)) (by decide) (by decide))))
  have f149 := (f140.other W145 (Or.inr (slot_ne (Or.inl (hw _ (List.mem_of_getElem? (i := 74) rfl))) (Or.inl (hw _ (List.mem_of_getElem? (i := 51) rfl))) (by decide) (t := (.object "java/util/Map")) (t' := (.array .int)) (by decide) (by decide))))
  have f150 := (f141.other W145 (Or.inr (slot_ne (Or.inl (hw _ (List.mem_of_getElem? (i := 110) rfl))) (Or.inl (hw _ (List.mem_of_getElem? (i := 51) rfl))) (by decide) (t := .int) (t' := (.array .int)) (by decide) (by decide))))
  have f151 := (f142.other W145 (Ne.symm ne_t_ma))
  have f152 := (f143.wr W145)
  have f153 := (f144.wr W145)
  have f154 := (V135.other W145 (Ne.symm ne_t_ha))
  exact g_retV X145 hx hret hlk (hb hby d7_31) ⟨rfl, by simpa using N145, by rw [e145]; exact kp_145, ma, ha, 0, _, _, _, by rw [e145]; exact f146, by rw [e145]; exact f147, by rw [e145]; exact fw145, by rw [e145]; exact f148, by rw [e145]; exact f149, by rw [e145]; exact f150, by rw [e145]; exact f151, by rw [e145]; exact f152, by rw [e145]; exact f153, by rw [e145]; exact f154, Nat.lt_of_lt_of_le E0.lt sz_ma, Nat.lt_of_lt_of_le E0.lt sz_ha, ne_ma_ha, by decide⟩ (Nat.le_of_ble_eq_true rfl) (Nat.le_of_ble_eq_true rfl)
set_option maxRecDepth 65536 in
set_option maxHeartbeats 40000000 in
theorem rmTI2 (l : Launch) (Z : State) (a0 : Array Value) (hw : ∀ d ∈ tables_1, d.before a0 Z = true) (t : Addr) (h0 : Heap) (n0 : Nat) (Z0 : n0 ≤ h0.size) (hge : n0 ≤ t) (E0 : Exa Z h0 t "com/example/kehys/kehys/io/TreeObject") (F0 : Fld Z h0 t "com/example/kehys/kehys/io/TreeObject" "members" "[Ljava/lang/Object;" .null) (F1 : Fld Z h0 t "com/example/kehys/kehys/io/TreeObject" "hashes" "[I" .null) (F2 : Fld Z h0 t "com/example/kehys/kehys/io/TreeObject" "size" "I" (.int (0 : Int32))) (F3 : Fld Z h0 t "com/example/kehys/kehys/io/TreeObject" "index" "Ljava/util/Map;" .null) (F4 : Fld Z h0 t "com/example/kehys/kehys/io/TreeObject" "changes" "I" (.int (0 : Int32))) :
    Con l Z h0 (⟨"com/example/kehys/kehys/io/TreeObject", "<init>", "(I)V"⟩ : MethodName) prog_18_method_1_code 3 none ({ frames := 2, cells := 2, slots := 18, locals := 26 } : Room) #[(.ref t), (.int (1 : Int32))] (fun v h L => v = none ∧ Fr n0 L ∧ Keep h0 h [t] ∧ Tr0 Z h t) := by
  refine con_of (plainFor_of_name pn_5) (Ls := #[.val (.ref t), .val (.int (1 : Int32)), .unset]) (fun m => by first | (simp [entryFrame, mkF, argsToLocals, Value.category]; done) | rfl) ?_
  intro p e s m below meth c s₁ hx hZ hby hml hret hlk hnm hown X0 e0
  refine g_aloadN X0 hx (hb hby d7_0) (v := (.ref t)) rfl rfl (q := 1) rfl ?_
  refine g_callI X0 hx hZ hown rfl (hw _ (List.mem_of_getElem? (i := 39) rfl)) (hw _ (List.mem_of_getElem? (i := 40) rfl)) (hw _ (List.mem_of_getElem? (i := 43) rfl)) (hw _ (List.mem_of_getElem? (i := 42) rfl)) (by decide) e0 (b := t) (rmAM l Z a0 hw t h0) (by exact hml.symm) (argsL := []) (rest := []) rfl rfl pd_3 rfl (Nat.le_of_ble_eq_true rfl) (Nat.le_of_ble_eq_true rfl) (Nat.le_of_ble_eq_true rfl) (Nat.le_of_ble_eq_true rfl) (hb hby d7_1) (q := 4) rfl (g_pure rfl rfl fun T155 X155 e155 => ?_)
  show Go p e below _ (T155.setTop (mkF m 4 #[.val (.ref t), .val (.int (1 : Int32)), .unset] []))
  refine g_iloadN X155 hx (hb hby d7_4) (v := (1 : Int32)) rfl (q := 5) rfl ?_
  refine g_if_ge X155 hx (hb hby d7_5) (by decide) (q := 12) (by decide) (q2 := 8) rfl (fun hb5 => ?_) (fun hb5 => absurd hb5 (by decide))
  refine g_iloadN X155 hx (hb hby d7_12) (v := (1 : Int32)) rfl (q := 13) rfl ?_
  refine g_istoreN X155 hx (hb hby d7_13) (L' := #[.val (.ref t), .val (.int (1 : Int32)), .val (.int (1 : Int32))]) rfl (q := 14) rfl ?_
  refine g_aloadN X155 hx (hb hby d7_14) (v := (.ref t)) rfl rfl (q := 15) rfl ?_
  refine g_iconst X155 hx (hb hby d7_15) (n := (2 : Int32)) (by decide) (q := 16) rfl ?_
  refine g_iloadN X155 hx (hb hby d7_16) (v := (1 : Int32)) rfl (q := 17) rfl ?_
  refine g_imul X155 hx (hb hby d7_17) (z := (2 : Int32)) (by decide) (q := 18) rfl ?_
  refine g_newRE X155 hx hZ hown (hw _ (List.mem_of_getElem? (i := 45) rfl)) (hw _ (List.mem_of_getElem? (i := 46) rfl)) e155 (hb hby d7_18) (z := (2 : Int32)) (by decide) (cap := 2) (Nat.le_of_ble_eq_true rfl) (by decide) (Nat.le_of_ble_eq_true rfl) (Nat.le_of_ble_eq_true rfl) (ad := "[Ljava/lang/Object;") (by decide) (q := 21) rfl fun T156 h156 c156 ma g156 X156 e156 E156 A156 O156 D156 => ?_
  have ne_t_ma : t ≠ ma := Nat.ne_of_lt (Nat.lt_of_lt_of_le E0.lt (Nat.le_of_eq g156.symm))
  have ge_ma : n0 ≤ ma := Nat.le_trans Z0 (Nat.le_of_eq g156.symm)
  have sz_ma : h0.size ≤ ma := Nat.le_trans (Keep.refl h0 [t]).1 (Nat.le_of_eq g156.symm)
  have z_156 := Nat.le_trans Z0 E156.1
  have kp_156 := (Keep.refl h0 [t]).ext E156
  have f157 := (E0.ext E156)
  have f158 := (F0.ext E156)
  have f159 := (F1.ext E156)
  have f160 := (F2.ext E156)
  have f161 := (F3.ext E156)
  have f162 := (F4.ext E156)
  have V156 : Af Z h156 ma (.object "java/lang/Object") 2 (fun _ => .null) := Af.fresh A156
  have Q156 := Ov.fresh A156 O156
  refine g_putF X156 hx hZ hown (hw _ (List.mem_of_getElem? (i := 47) rfl)) Via.refl e156 f158 f157 (Or.inl (hw _ (List.mem_of_getElem? (i := 48) rfl))) (hw _ (List.mem_of_getElem? (i := 34) rfl)) (ty := (.array (.object "java/lang/Object"))) (by decide) rfl rfl (hb hby d7_21) (q := 24) rfl fun T163 h163 X163 e163 W163 => ?_
  have fw163 := f158.same W163
  have N163 := Fr.snoc X163 (Fr.nil n0) hge
  have z_163 := Nat.le_trans z_156 (Keep.of_wr W163).1
  have kp_163 := kp_156.wr W163 (Or.inl (List.mem_of_getElem? (i := 0) rfl))
  have f164 := (f157.wr W163)
  have f165 := (f159.other W163 (Or.inr (slot_ne (Or.inl (hw _ (List.mem_of_getElem? (i := 51) rfl))) (Or.inl (hw _ (List.mem_of_getElem? (i := 48) rfl))) (by decide) (t := (.array .int)) (t' := (.array (.object "java/lang/Object"))) (by decide) (by decide))))
  have f166 := (f160.other W163 (Or.inr (slot_ne (Or.inl (hw _ (List.mem_of_getElem? (i := 58) rfl))) (Or.inl (hw _ (List.mem_of_getElem? (i := 48) rfl))) (by decide) (t := .int) (t' := (.array (.object "java/lang/Object"))) (by decide) (by decide))))
  have f167 := (f161.other W163 (Or.inr (slot_ne (Or.inl (hw _ (List.mem_of_getElem? (i := 74) rfl))) (Or.inl (hw _ (List.mem_of_getElem? (i := 48) rfl))) (by decide) (t := (.object "java/util/Map")) (t' := (.array (.object "java/lang/Object"))) (by decide) (by decide))))
  have f168 := (f162.other W163 (Or.inr (slot_ne (Or.inl (hw _ (List.mem_of_getElem? (i := 110) rfl))) (Or.inl (hw _ (List.mem_of_getElem? (i := 48) rfl))) (by decide) (t := .int) (t' := (.array (.object "java/lang/Object"))) (by decide) (by decide))))
  have f169 := (V156.other W163 (Ne.symm ne_t_ma))
  have f170 := (Q156.wr W163)
  have f171 := (D156.wr W163)
  refine g_aloadN X163 hx (hb hby d7_24) (v := (.ref t)) rfl rfl (q := 25) rfl ?_
  refine g_iloadN X163 hx (hb hby d7_25) (v := (1 : Int32)) rfl (q := 26) rfl ?_
  refine g_newP X163 hx hZ (hw _ (List.mem_of_getElem? (i := 49) rfl)) e163 (hb hby d7_26) (n := (1 : Int32)) (by decide) (cap := 1) (Nat.le_of_ble_eq_true rfl) (by decide) (Nat.le_of_ble_eq_true rfl) (Nat.le_of_ble_eq_true rfl) (q := 28) rfl fun T172 h172 c172 ha g172 X172 e172 E172 A172 => ?_
  have ne_t_ha : t ≠ ha := Nat.ne_of_lt (Nat.lt_of_lt_of_le f164.lt (Nat.le_of_eq g172.symm))
  have ne_ma_ha : ma ≠ ha := Nat.ne_of_lt (Nat.lt_of_lt_of_le f171.lt (Nat.le_of_eq g172.symm))
  have ge_ha : n0 ≤ ha := Nat.le_trans z_163 (Nat.le_of_eq g172.symm)
  have sz_ha : h0.size ≤ ha := Nat.le_trans kp_163.1 (Nat.le_of_eq g172.symm)
  have z_172 := Nat.le_trans z_163 E172.1
  have kp_172 := kp_163.ext E172
  have f173 := (f164.ext E172)
  have f174 := (fw163.ext E172)
  have f175 := (f165.ext E172)
  have f176 := (f166.ext E172)
  have f177 := (f167.ext E172)
  have f178 := (f168.ext E172)
  have f179 := (f169.ext E172)
  have f180 := (f170.ext E172)
  have f181 := (f171.ext E172)
  have V172 : Af Z h172 ha .int 1 (fun _ => (.int (0 : Int32))) := Af.fresh A172
  refine g_putF X172 hx hZ hown (hw _ (List.mem_of_getElem? (i := 50) rfl)) Via.refl e172 f175 f173 (Or.inl (hw _ (List.mem_of_getElem? (i := 51) rfl))) (hw _ (List.mem_of_getElem? (i := 34) rfl)) (ty := (.array .int)) (by decide) rfl rfl (hb hby d7_28) (q := 31) rfl fun T182 h182 X182 e182 W182 => ?_
  have fw182 := f175.same W182
  have N182 := Fr.snoc X182 N163 hge
  have z_182 := Nat.le_trans z_172 (Keep.of_wr W182).1
  have kp_182 := kp_172.wr W182 (Or.inl (List.mem_of_getElem? (i := 0) rfl))
  have f183 := (f173.wr W182)
  have f184 := (f174.other W182 (Or.inr (slot_ne (Or.inl (hw _ (List.mem_of_getElem? (i := 48) rfl))) (Or.inl (hw _ (List.mem_of_getElem? (i := 51) rfl))) (by decide) (t := (.array (.object "java/lang/Object"))) (t' := (.array .int)) (by decide) (by decide))))
  have f185 := (f176.other W182 (Or.inr (slot_ne (Or.inl (hw _ (List.mem_of_getElem? (i := 58) rfl))) (Or.inl (hw _ (List.mem_of_getElem? (i := 51) rfl))) (by decide) (t := .int) (t' := (.array .int)) (by decide) (by decide))))
  have f186 := (f177.other W182 (Or.inr (slot_ne (Or.inl (hw _ (List.mem_of_getElem? (i := 74) rfl))) (Or.inl (hw _ (List.mem_of_getElem? (i := 51) rfl))) (by decide) (t := (.object "java/util/Map")) (t' := (.array .int)) (by decide) (by decide))))
  have f187 := (f178.other W182 (Or.inr (slot_ne (Or.inl (hw _ (List.mem_of_getElem? (i := 110) rfl))) (Or.inl (hw _ (List.mem_of_getElem? (i := 51) rfl))) (by decide) (t := .int) (t' := (.array .int)) (by decide) (by decide))))
  have f188 := (f179.other W182 (Ne.symm ne_t_ma))
  have f189 := (f180.wr W182)
  have f190 := (f181.wr W182)
  have f191 := (V172.other W182 (Ne.symm ne_t_ha))
  exact g_retV X182 hx hret hlk (hb hby d7_31) ⟨rfl, by simpa using N182, by rw [e182]; exact kp_182, ma, ha, 1, _, _, _, by rw [e182]; exact f183, by rw [e182]; exact f184, by rw [e182]; exact fw182, by rw [e182]; exact f185, by rw [e182]; exact f186, by rw [e182]; exact f187, by rw [e182]; exact f188, by rw [e182]; exact f189, by rw [e182]; exact f190, by rw [e182]; exact f191, Nat.lt_of_lt_of_le E0.lt sz_ma, Nat.lt_of_lt_of_le E0.lt sz_ha, ne_ma_ha, by decide⟩ (Nat.le_of_ble_eq_true rfl) (Nat.le_of_ble_eq_true rfl)
set_option maxRecDepth 65536 in
set_option maxHeartbeats 40000000 in
theorem rmTI3 (l : Launch) (Z : State) (a0 : Array Value) (hw : ∀ d ∈ tables_1, d.before a0 Z = true) (t : Addr) (h0 : Heap) (n0 : Nat) (Z0 : n0 ≤ h0.size) (hge : n0 ≤ t) (E0 : Exa Z h0 t "com/example/kehys/kehys/io/TreeObject") (F0 : Fld Z h0 t "com/example/kehys/kehys/io/TreeObject" "members" "[Ljava/lang/Object;" .null) (F1 : Fld Z h0 t "com/example/kehys/kehys/io/TreeObject" "hashes" "[I" .null) (F2 : Fld Z h0 t "com/example/kehys/kehys/io/TreeObject" "size" "I" (.int (0 : Int32))) (F3 : Fld Z h0 t "com/example/kehys/kehys/io/TreeObject" "index" "Ljava/util/Map;" .null) (F4 : Fld Z h0 t "com/example/kehys/kehys/io/TreeObject" "changes" "I" (.int (0 : Int32))) :
    Con l Z h0 (⟨"com/example/kehys/kehys/io/TreeObject", "<init>", "(I)V"⟩ : MethodName) prog_18_method_1_code 3 none ({ frames := 2, cells := 2, slots := 18, locals := 26 } : Room) #[(.ref t), (.int (2 : Int32))] (fun v h L => v = none ∧ Fr n0 L ∧ Keep h0 h [t] ∧ Tr0 Z h t) := by
  refine con_of (plainFor_of_name pn_5) (Ls := #[.val (.ref t), .val (.int (2 : Int32)), .unset]) (fun m => by first | (simp [entryFrame, mkF, argsToLocals, Value.category]; done) | rfl) ?_
  intro p e s m below meth c s₁ hx hZ hby hml hret hlk hnm hown X0 e0
  refine g_aloadN X0 hx (hb hby d7_0) (v := (.ref t)) rfl rfl (q := 1) rfl ?_
  refine g_callI X0 hx hZ hown rfl (hw _ (List.mem_of_getElem? (i := 39) rfl)) (hw _ (List.mem_of_getElem? (i := 40) rfl)) (hw _ (List.mem_of_getElem? (i := 43) rfl)) (hw _ (List.mem_of_getElem? (i := 42) rfl)) (by decide) e0 (b := t) (rmAM l Z a0 hw t h0) (by exact hml.symm) (argsL := []) (rest := []) rfl rfl pd_3 rfl (Nat.le_of_ble_eq_true rfl) (Nat.le_of_ble_eq_true rfl) (Nat.le_of_ble_eq_true rfl) (Nat.le_of_ble_eq_true rfl) (hb hby d7_1) (q := 4) rfl (g_pure rfl rfl fun T192 X192 e192 => ?_)
  show Go p e below _ (T192.setTop (mkF m 4 #[.val (.ref t), .val (.int (2 : Int32)), .unset] []))
  refine g_iloadN X192 hx (hb hby d7_4) (v := (2 : Int32)) rfl (q := 5) rfl ?_
  refine g_if_ge X192 hx (hb hby d7_5) (by decide) (q := 12) (by decide) (q2 := 8) rfl (fun hb5 => ?_) (fun hb5 => absurd hb5 (by decide))
  refine g_iloadN X192 hx (hb hby d7_12) (v := (2 : Int32)) rfl (q := 13) rfl ?_
  refine g_istoreN X192 hx (hb hby d7_13) (L' := #[.val (.ref t), .val (.int (2 : Int32)), .val (.int (2 : Int32))]) rfl (q := 14) rfl ?_
  refine g_aloadN X192 hx (hb hby d7_14) (v := (.ref t)) rfl rfl (q := 15) rfl ?_
  refine g_iconst X192 hx (hb hby d7_15) (n := (2 : Int32)) (by decide) (q := 16) rfl ?_
  refine g_iloadN X192 hx (hb hby d7_16) (v := (2 : Int32)) rfl (q := 17) rfl ?_
  refine g_imul X192 hx (hb hby d7_17) (z := (4 : Int32)) (by decide) (q := 18) rfl ?_
  refine g_newRE X192 hx hZ hown (hw _ (List.mem_of_getElem? (i := 45) rfl)) (hw _ (List.mem_of_getElem? (i := 46) rfl)) e192 (hb hby d7_18) (z := (4 : Int32)) (by decide) (cap := 4) (Nat.le_of_ble_eq_true rfl) (by decide) (Nat.le_of_ble_eq_true rfl) (Nat.le_of_ble_eq_true rfl) (ad := "[Ljava/lang/Object;") (by decide) (q := 21) rfl fun T193 h193 c193 ma g193 X193 e193 E193 A193 O193 D193 => ?_
  have ne_t_ma : t ≠ ma := Nat.ne_of_lt (Nat.lt_of_lt_of_le E0.lt (Nat.le_of_eq g193.symm))
  have ge_ma : n0 ≤ ma := Nat.le_trans Z0 (Nat.le_of_eq g193.symm)
  have sz_ma : h0.size ≤ ma := Nat.le_trans (Keep.refl h0 [t]).1 (Nat.le_of_eq g193.symm)
  have z_193 := Nat.le_trans Z0 E193.1
  have kp_193 := (Keep.refl h0 [t]).ext E193
  have f194 := (E0.ext E193)
  have f195 := (F0.ext E193)
  have f196 := (F1.ext E193)
  have f197 := (F2.ext E193)
  have f198 := (F3.ext E193)
  have f199 := (F4.ext E193)
  have V193 : Af Z h193 ma (.object "java/lang/Object") 4 (fun _ => .null) := Af.fresh A193
  have Q193 := Ov.fresh A193 O193
  refine g_putF X193 hx hZ hown (hw _ (List.mem_of_getElem? (i := 47) rfl)) Via.refl e193 f195 f194 (Or.inl (hw _ (List.mem_of_getElem? (i := 48) rfl))) (hw _ (List.mem_of_getElem? (i := 34) rfl)) (ty := (.array (.object "java/lang/Object"))) (by decide) rfl rfl (hb hby d7_21) (q := 24) rfl fun T200 h200 X200 e200 W200 => ?_
  have fw200 := f195.same W200
  have N200 := Fr.snoc X200 (Fr.nil n0) hge
  have z_200 := Nat.le_trans z_193 (Keep.of_wr W200).1
  have kp_200 := kp_193.wr W200 (Or.inl (List.mem_of_getElem? (i := 0) rfl))
  have f201 := (f194.wr W200)
  have f202 := (f196.other W200 (Or.inr (slot_ne (Or.inl (hw _ (List.mem_of_getElem? (i := 51) rfl))) (Or.inl (hw _ (List.mem_of_getElem? (i := 48) rfl))) (by decide) (t := (.array .int)) (t' := (.array (.object "java/lang/Object"))) (by decide) (by decide))))
  have f203 := (f197.other W200 (Or.inr (slot_ne (Or.inl (hw _ (List.mem_of_getElem? (i := 58) rfl))) (Or.inl (hw _ (List.mem_of_getElem? (i := 48) rfl))) (by decide) (t := .int) (t' := (.array (.object "java/lang/Object"))) (by decide) (by decide))))
  have f204 := (f198.other W200 (Or.inr (slot_ne (Or.inl (hw _ (List.mem_of_getElem? (i := 74) rfl))) (Or.inl (hw _ (List.mem_of_getElem? (i := 48) rfl))) (by decide) (t := (.object "java/util/Map")) (t' := (.array (.object "java/lang/Object"))) (by decide) (by decide))))
  have f205 := (f199.other W200 (Or.inr (slot_ne (Or.inl (hw _ (List.mem_of_getElem? (i := 110) rfl))) (Or.inl (hw _ (List.mem_of_getElem? (i := 48) rfl))) (by decide) (t := .int) (t' := (.array (.object "java/lang/Object"))) (by decide) (by decide))))
  have f206 := (V193.other W200 (Ne.symm ne_t_ma))
  have f207 := (Q193.wr W200)
  have f208 := (D193.wr W200)
  refine g_aloadN X200 hx (hb hby d7_24) (v := (.ref t)) rfl rfl (q := 25) rfl ?_
  refine g_iloadN X200 hx (hb hby d7_25) (v := (2 : Int32)) rfl (q := 26) rfl ?_
  refine g_newP X200 hx hZ (hw _ (List.mem_of_getElem? (i := 49) rfl)) e200 (hb hby d7_26) (n := (2 : Int32)) (by decide) (cap := 2) (Nat.le_of_ble_eq_true rfl) (by decide) (Nat.le_of_ble_eq_true rfl) (Nat.le_of_ble_eq_true rfl) (q := 28) rfl fun T209 h209 c209 ha g209 X209 e209 E209 A209 => ?_
  have ne_t_ha : t ≠ ha := Nat.ne_of_lt (Nat.lt_of_lt_of_le f201.lt (Nat.le_of_eq g209.symm))
  have ne_ma_ha : ma ≠ ha := Nat.ne_of_lt (Nat.lt_of_lt_of_le f208.lt (Nat.le_of_eq g209.symm))
  have ge_ha : n0 ≤ ha := Nat.le_trans z_200 (Nat.le_of_eq g209.symm)
  have sz_ha : h0.size ≤ ha := Nat.le_trans kp_200.1 (Nat.le_of_eq g209.symm)
  have z_209 := Nat.le_trans z_200 E209.1
  have kp_209 := kp_200.ext E209
  have f210 := (f201.ext E209)
  have f211 := (fw200.ext E209)
  have f212 := (f202.ext E209)
  have f213 := (f203.ext E209)
  have f214 := (f204.ext E209)
  have f215 := (f205.ext E209)
  have f216 := (f206.ext E209)
  have f217 := (f207.ext E209)
  have f218 := (f208.ext E209)
  have V209 : Af Z h209 ha .int 2 (fun _ => (.int (0 : Int32))) := Af.fresh A209
  refine g_putF X209 hx hZ hown (hw _ (List.mem_of_getElem? (i := 50) rfl)) Via.refl e209 f212 f210 (Or.inl (hw _ (List.mem_of_getElem? (i := 51) rfl))) (hw _ (List.mem_of_getElem? (i := 34) rfl)) (ty := (.array .int)) (by decide) rfl rfl (hb hby d7_28) (q := 31) rfl fun T219 h219 X219 e219 W219 => ?_
  have fw219 := f212.same W219
  have N219 := Fr.snoc X219 N200 hge
  have z_219 := Nat.le_trans z_209 (Keep.of_wr W219).1
  have kp_219 := kp_209.wr W219 (Or.inl (List.mem_of_getElem? (i := 0) rfl))
  have f220 := (f210.wr W219)
  have f221 := (f211.other W219 (Or.inr (slot_ne (Or.inl (hw _ (List.mem_of_getElem? (i := 48) rfl))) (Or.inl (hw _ (List.mem_of_getElem? (i := 51) rfl))) (by decide) (t := (.array (.object "java/lang/Object"))) (t' := (.array .int)) (by decide) (by decide))))
  have f222 := (f213.other W219 (Or.inr (slot_ne (Or.inl (hw _ (List.mem_of_getElem? (i := 58) rfl))) (Or.inl (hw _ (List.mem_of_getElem? (i := 51) rfl))) (by decide) (t := .int) (t' := (.array .int)) (by decide) (by decide))))
  have f223 := (f214.other W219 (Or.inr (slot_ne (Or.inl (hw _ (List.mem_of_getElem? (i := 74) rfl))) (Or.inl (hw _ (List.mem_of_getElem? (i := 51) rfl))) (by decide) (t := (.object "java/util/Map")) (t' := (.array .int)) (by decide) (by decide))))
  have f224 := (f215.other W219 (Or.inr (slot_ne (Or.inl (hw _ (List.mem_of_getElem? (i := 110) rfl))) (Or.inl (hw _ (List.mem_of_getElem? (i := 51) rfl))) (by decide) (t := .int) (t' := (.array .int)) (by decide) (by decide))))
  have f225 := (f216.other W219 (Ne.symm ne_t_ma))
  have f226 := (f217.wr W219)
  have f227 := (f218.wr W219)
  have f228 := (V209.other W219 (Ne.symm ne_t_ha))
  exact g_retV X219 hx hret hlk (hb hby d7_31) ⟨rfl, by simpa using N219, by rw [e219]; exact kp_219, ma, ha, 2, _, _, _, by rw [e219]; exact f220, by rw [e219]; exact f221, by rw [e219]; exact fw219, by rw [e219]; exact f222, by rw [e219]; exact f223, by rw [e219]; exact f224, by rw [e219]; exact f225, by rw [e219]; exact f226, by rw [e219]; exact f227, by rw [e219]; exact f228, Nat.lt_of_lt_of_le E0.lt sz_ma, Nat.lt_of_lt_of_le E0.lt sz_ha, ne_ma_ha, by decide⟩ (Nat.le_of_ble_eq_true rfl) (Nat.le_of_ble_eq_true rfl)
set_option maxRecDepth 65536 in
set_option maxHeartbeats 40000000 in
theorem rmTI4 (l : Launch) (Z : State) (a0 : Array Value) (hw : ∀ d ∈ tables_1, d.before a0 Z = true) (t : Addr) (h0 : Heap) (n0 : Nat) (Z0 : n0 ≤ h0.size) (hge : n0 ≤ t) (E0 : Exa Z h0 t "com/example/kehys/kehys/io/TreeObject") (F0 : Fld Z h0 t "com/example/kehys/kehys/io/TreeObject" "members" "[Ljava/lang/Object;" .null) (F1 : Fld Z h0 t "com/example/kehys/kehys/io/TreeObject" "hashes" "[I" .null) (F2 : Fld Z h0 t "com/example/kehys/kehys/io/TreeObject" "size" "I" (.int (0 : Int32))) (F3 : Fld Z h0 t "com/example/kehys/kehys/io/TreeObject" "index" "Ljava/util/Map;" .null) (F4 : Fld Z h0 t "com/example/kehys/kehys/io/TreeObject" "changes" "I" (.int (0 : Int32))) :
    Con l Z h0 (⟨"com/example/kehys/kehys/io/TreeObject", "<init>", "(I)V"⟩ : MethodName) prog_18_method_1_code 3 none ({ frames := 2, cells := 2, slots := 18, locals := 26 } : Room) #[(.ref t), (.int (3 : Int32))] (fun v h L => v = none ∧ Fr n0 L ∧ Keep h0 h [t] ∧ Tr0 Z h t) := by
  refine con_of (plainFor_of_name pn_5) (Ls := #[.val (.ref t), .val (.int (3 : Int32)), .unset]) (fun m => by first | (simp [entryFrame, mkF, argsToLocals, Value.category]; done) | rfl) ?_
  intro p e s m below meth c s₁ hx hZ hby hml hret hlk hnm hown X0 e0
  refine g_aloadN X0 hx (hb hby d7_0) (v := (.ref t)) rfl rfl (q := 1) rfl ?_
  refine g_callI X0 hx hZ hown rfl (hw _ (List.mem_of_getElem? (i := 39) rfl)) (hw _ (List.mem_of_getElem? (i := 40) rfl)) (hw _ (List.mem_of_getElem? (i := 43) rfl)) (hw _ (List.mem_of_getElem? (i := 42) rfl)) (by decide) e0 (b := t) (rmAM l Z a0 hw t h0) (by exact hml.symm) (argsL := []) (rest := []) rfl rfl pd_3 rfl (Nat.le_of_ble_eq_true rfl) (Nat.le_of_ble_eq_true rfl) (Nat.le_of_ble_eq_true rfl) (Nat.le_of_ble_eq_true rfl) (hb hby d7_1) (q := 4) rfl (g_pure rfl rfl fun T229 X229 e229 => ?_)
  show Go p e below _ (T229.setTop (mkF m 4 #[.val (.ref t), .val (.int (3 : Int32)), .unset] []))
  refine g_iloadN X229 hx (hb hby d7_4) (v := (3 : Int32)) rfl (q := 5) rfl ?_
  refine g_if_ge X229 hx (hb hby d7_5) (by decide) (q := 12) (by decide) (q2 := 8) rfl (fun hb5 => ?_) (fun hb5 => absurd hb5 (by decide))
  refine g_iloadN X229 hx (hb hby d7_12) (v := (3 : Int32)) rfl (q := 13) rfl ?_
  refine g_istoreN X229 hx (hb hby d7_13) (L' := #[.val (.ref t), .val (.int (3 : Int32)), .val (.int (3 : Int32))]) rfl (q := 14) rfl ?_
  refine g_aloadN X229 hx (hb hby d7_14) (v := (.ref t)) rfl rfl (q := 15) rfl ?_
  refine g_iconst X229 hx (hb hby d7_15) (n := (2 : Int32)) (by decide) (q := 16) rfl ?_
  refine g_iloadN X229 hx (hb hby d7_16) (v := (3 : Int32)) rfl (q := 17) rfl ?_
  refine g_imul X229 hx (hb hby d7_17) (z := (6 : Int32)) (by decide) (q := 18) rfl ?_
  refine g_newRE X229 hx hZ hown (hw _ (List.mem_of_getElem? (i := 45) rfl)) (hw _ (List.mem_of_getElem? (i := 46) rfl)) e229 (hb hby d7_18) (z := (6 : Int32)) (by decide) (cap := 6) (Nat.le_of_ble_eq_true rfl) (by decide) (Nat.le_of_ble_eq_true rfl) (Nat.le_of_ble_eq_true rfl) (ad := "[Ljava/lang/Object;") (by decide) (q := 21) rfl fun T230 h230 c230 ma g230 X230 e230 E230 A230 O230 D230 => ?_
  have ne_t_ma : t ≠ ma := Nat.ne_of_lt (Nat.lt_of_lt_of_le E0.lt (Nat.le_of_eq g230.symm))
  have ge_ma : n0 ≤ ma := Nat.le_trans Z0 (Nat.le_of_eq g230.symm)
  have sz_ma : h0.size ≤ ma := Nat.le_trans (Keep.refl h0 [t]).1 (Nat.le_of_eq g230.symm)
  have z_230 := Nat.le_trans Z0 E230.1
  have kp_230 := (Keep.refl h0 [t]).ext E230
  have f231 := (E0.ext E230)
  have f232 := (F0.ext E230)
  have f233 := (F1.ext E230)
  have f234 := (F2.ext E230)
  have f235 := (F3.ext E230)
  have f236 := (F4.ext E230)
  have V230 : Af Z h230 ma (.object "java/lang/Object") 6 (fun _ => .null) := Af.fresh A230
  have Q230 := Ov.fresh A230 O230
  refine g_putF X230 hx hZ hown (hw _ (List.mem_of_getElem? (i := 47) rfl)) Via.refl e230 f232 f231 (Or.inl (hw _ (List.mem_of_getElem? (i := 48) rfl))) (hw _ (List.mem_of_getElem? (i := 34) rfl)) (ty := (.array (.object "java/lang/Object"))) (by decide) rfl rfl (hb hby d7_21) (q := 24) rfl fun T237 h237 X237 e237 W237 => ?_
  have fw237 := f232.same W237
  have N237 := Fr.snoc X237 (Fr.nil n0) hge
  have z_237 := Nat.le_trans z_230 (Keep.of_wr W237).1
  have kp_237 := kp_230.wr W237 (Or.inl (List.mem_of_getElem? (i := 0) rfl))
  have f238 := (f231.wr W237)
  have f239 := (f233.other W237 (Or.inr (slot_ne (Or.inl (hw _ (List.mem_of_getElem? (i := 51) rfl))) (Or.inl (hw _ (List.mem_of_getElem? (i := 48) rfl))) (by decide) (t := (.array .int)) (t' := (.array (.object "java/lang/Object"))) (by decide) (by decide))))
  have f240 := (f234.other W237 (Or.inr (slot_ne (Or.inl (hw _ (List.mem_of_getElem? (i := 58) rfl))) (Or.inl (hw _ (List.mem_of_getElem? (i := 48) rfl))) (by decide) (t := .int) (t' := (.array (.object "java/lang/Object"))) (by decide) (by decide))))
  have f241 := (f235.other W237 (Or.inr (slot_ne (Or.inl (hw _ (List.mem_of_getElem? (i := 74) rfl))) (Or.inl (hw _ (List.mem_of_getElem? (i := 48) rfl))) (by decide) (t := (.object "java/util/Map")) (t' := (.array (.object "java/lang/Object"))) (by decide) (by decide))))
  have f242 := (f236.other W237 (Or.inr (slot_ne (Or.inl (hw _ (List.mem_of_getElem? (i := 110) rfl))) (Or.inl (hw _ (List.mem_of_getElem? (i := 48) rfl))) (by decide) (t := .int) (t' := (.array (.object "java/lang/Object"))) (by decide) (by decide))))
  have f243 := (V230.other W237 (Ne.symm ne_t_ma))
  have f244 := (Q230.wr W237)
  have f245 := (D230.wr W237)
  refine g_aloadN X237 hx (hb hby d7_24) (v := (.ref t)) rfl rfl (q := 25) rfl ?_
  refine g_iloadN X237 hx (hb hby d7_25) (v := (3 : Int32)) rfl (q := 26) rfl ?_
  refine g_newP X237 hx hZ (hw _ (List.mem_of_getElem? (i := 49) rfl)) e237 (hb hby d7_26) (n := (3 : Int32)) (by decide) (cap := 3) (Nat.le_of_ble_eq_true rfl) (by decide) (Nat.le_of_ble_eq_true rfl) (Nat.le_of_ble_eq_true rfl) (q := 28) rfl fun T246 h246 c246 ha g246 X246 e246 E246 A246 => ?_
  have ne_t_ha : t ≠ ha := Nat.ne_of_lt (Nat.lt_of_lt_of_le f238.lt (Nat.le_of_eq g246.symm))
  have ne_ma_ha : ma ≠ ha := Nat.ne_of_lt (Nat.lt_of_lt_of_le f245.lt (Nat.le_of_eq g246.symm))
  have ge_ha : n0 ≤ ha := Nat.le_trans z_237 (Nat.le_of_eq g246.symm)
  have sz_ha : h0.size ≤ ha := Nat.le_trans kp_237.1 (Nat.le_of_eq g246.symm)
  have z_246 := Nat.le_trans z_237 E246.1
  have kp_246 := kp_237.ext E246
  have f247 := (f238.ext E246)
  have f248 := (fw237.ext E246)
  have f249 := (f239.ext E246)
  have f250 := (f240.ext E246)
  have f251 := (f241.ext E246)
  have f252 := (f242.ext E246)
  have f253 := (f243.ext E246)
  have f254 := (f244.ext E246)
  have f255 := (f245.ext E246)
  have V246 : Af Z h246 ha .int 3 (fun _ => (.int (0 : Int32))) := Af.fresh A246
  refine g_putF X246 hx hZ hown (hw _ (List.mem_of_getElem? (i := 50) rfl)) Via.refl e246 f249 f247 (Or.inl (hw _ (List.mem_of_getElem? (i := 51) rfl))) (hw _ (List.mem_of_getElem? (i := 34) rfl)) (ty := (.array .int)) (by decide) rfl rfl (hb hby d7_28) (q := 31) rfl fun T256 h256 X256 e256 W256 => ?_
  have fw256 := f249.same W256
  have N256 := Fr.snoc X256 N237 hge
  have z_256 := Nat.le_trans z_246 (Keep.of_wr W256).1
  have kp_256 := kp_246.wr W256 (Or.inl (List.mem_of_getElem? (i := 0) rfl))
  have f257 := (f247.wr W256)
  have f258 := (f248.other W256 (Or.inr (slot_ne (Or.inl (hw _ (List.mem_of_getElem? (i := 48) rfl))) (Or.inl (hw _ (List.mem_of_getElem? (i := 51) rfl))) (by decide) (t := (.array (.object "java/lang/Object"))) (t' := (.array .int)) (by decide) (by decide))))
  have f259 := (f250.other W256 (Or.inr (slot_ne (Or.inl (hw _ (List.mem_of_getElem? (i := 58) rfl))) (Or.inl (hw _ (List.mem_of_getElem? (i := 51) rfl))) (by decide) (t := .int) (t' := (.array .int)) (by decide) (by decide))))
  have f260 := (f251.other W256 (Or.inr (slot_ne (Or.inl (hw _ (List.mem_of_getElem? (i := 74) rfl))) (Or.inl (hw _ (List.mem_of_getElem? (i := 51) rfl))) (by decide) (t := (.object "java/util/Map")) (t' := (.array .int)) (by decide) (by decide))))
  have f261 := (f252.other W256 (Or.inr (slot_ne (Or.inl (hw _ (List.mem_of_getElem? (i := 110) rfl))) (Or.inl (hw _ (List.mem_of_getElem? (i := 51) rfl))) (by decide) (t := .int) (t' := (.array .int)) (by decide) (by decide))))
  have f262 := (f253.other W256 (Ne.symm ne_t_ma))
  have f263 := (f254.wr W256)
  have f264 := (f255.wr W256)
  have f265 := (V246.other W256 (Ne.symm ne_t_ha))
  exact g_retV X256 hx hret hlk (hb hby d7_31) ⟨rfl, by simpa using N256, by rw [e256]; exact kp_256, ma, ha, 3, _, _, _, by rw [e256]; exact f257, by rw [e256]; exact f258, by rw [e256]; exact fw256, by rw [e256]; exact f259, by rw [e256]; exact f260, by rw [e256]; exact f261, by rw [e256]; exact f262, by rw [e256]; exact f263, by rw [e256]; exact f264, by rw [e256]; exact f265, Nat.lt_of_lt_of_le E0.lt sz_ma, Nat.lt_of_lt_of_le E0.lt sz_ha, ne_ma_ha, by decide⟩ (Nat.le_of_ble_eq_true rfl) (Nat.le_of_ble_eq_true rfl)
set_option maxRecDepth 65536 in
set_option maxHeartbeats 40000000 in
theorem rmTI5 (l : Launch) (Z : State) (a0 : Array Value) (hw : ∀ d ∈ tables_1, d.before a0 Z = true) (t : Addr) (h0 : Heap) (n0 : Nat) (Z0 : n0 ≤ h0.size) (hge : n0 ≤ t) (E0 : Exa Z h0 t "com/example/kehys/kehys/io/TreeObject") (F0 : Fld Z h0 t "com/example/kehys/kehys/io/TreeObject" "members" "[Ljava/lang/Object;" .null) (F1 : Fld Z h0 t "com/example/kehys/kehys/io/TreeObject" "hashes" "[I" .null) (F2 : Fld Z h0 t "com/example/kehys/kehys/io/TreeObject" "size" "I" (.int (0 : Int32))) (F3 : Fld Z h0 t "com/example/kehys/kehys/io/TreeObject" "index" "Ljava/util/Map;" .null) (F4 : Fld Z h0 t "com/example/kehys/kehys/io/TreeObject" "changes" "I" (.int (0 : Int32))) :
    Con l Z h0 (⟨"com/example/kehys/kehys/io/TreeObject", "<init>", "(I)V"⟩ : MethodName) prog_18_method_1_code 3 none ({ frames := 2, cells := 2, slots := 18, locals := 26 } : Room) #[(.ref t), (.int (4 : Int32))] (fun v h L => v = none ∧ Fr n0 L ∧ Keep h0 h [t] ∧ Tr0 Z h t) := by
  refine con_of (plainFor_of_name pn_5) (Ls := #[.val (.ref t), .val (.int (4 : Int32)), .unset]) (fun m => by first | (simp [entryFrame, mkF, argsToLocals, Value.category]; done) | rfl) ?_
  intro p e s m below meth c s₁ hx hZ hby hml hret hlk hnm hown X0 e0
  refine g_aloadN X0 hx (hb hby d7_0) (v := (.ref t)) rfl rfl (q := 1) rfl ?_
  refine g_callI X0 hx hZ hown rfl (hw _ (List.mem_of_getElem? (i := 39) rfl)) (hw _ (List.mem_of_getElem? (i := 40) rfl)) (hw _ (List.mem_of_getElem? (i := 43) rfl)) (hw _ (List.mem_of_getElem? (i := 42) rfl)) (by decide) e0 (b := t) (rmAM l Z a0 hw t h0) (by exact hml.symm) (argsL := []) (rest := []) rfl rfl pd_3 rfl (Nat.le_of_ble_eq_true rfl) (Nat.le_of_ble_eq_true rfl) (Nat.le_of_ble_eq_true rfl) (Nat.le_of_ble_eq_true rfl) (hb hby d7_1) (q := 4) rfl (g_pure rfl rfl fun T266 X266 e266 => ?_)
  show Go p e below _ (T266.setTop (mkF m 4 #[.val (.ref t), .val (.int (4 : Int32)), .unset] []))
  refine g_iloadN X266 hx (hb hby d7_4) (v := (4 : Int32)) rfl (q := 5) rfl ?_
  refine g_if_ge X266 hx (hb hby d7_5) (by decide) (q := 12) (by decide) (q2 := 8) rfl (fun hb5 => ?_) (fun hb5 => absurd hb5 (by decide))
  refine g_iloadN X266 hx (hb hby d7_12) (v := (4 : Int32)) rfl (q := 13) rfl ?_
  refine g_istoreN X266 hx (hb hby d7_13) (L' := #[.val (.ref t), .val (.int (4 : Int32)), .val (.int (4 : Int32))]) rfl (q := 14) rfl ?_
  refine g_aloadN X266 hx (hb hby d7_14) (v := (.ref t)) rfl rfl (q := 15) rfl ?_
  refine g_iconst X266 hx (hb hby d7_15) (n := (2 : Int32)) (by decide) (q := 16) rfl ?_
  refine g_iloadN X266 hx (hb hby d7_16) (v := (4 : Int32)) rfl (q := 17) rfl ?_
  refine g_imul X266 hx (hb hby d7_17) (z := (8 : Int32)) (by decide) (q := 18) rfl ?_
  refine g_newRE X266 hx hZ hown (hw _ (List.mem_of_getElem? (i := 45) rfl)) (hw _ (List.mem_of_getElem? (i := 46) rfl)) e266 (hb hby d7_18) (z := (8 : Int32)) (by decide) (cap := 8) (Nat.le_of_ble_eq_true rfl) (by decide) (Nat.le_of_ble_eq_true rfl) (Nat.le_of_ble_eq_true rfl) (ad := "[Ljava/lang/Object;") (by decide) (q := 21) rfl fun T267 h267 c267 ma g267 X267 e267 E267 A267 O267 D267 => ?_
  have ne_t_ma : t ≠ ma := Nat.ne_of_lt (Nat.lt_of_lt_of_le E0.lt (Nat.le_of_eq g267.symm))
  have ge_ma : n0 ≤ ma := Nat.le_trans Z0 (Nat.le_of_eq g267.symm)
  have sz_ma : h0.size ≤ ma := Nat.le_trans (Keep.refl h0 [t]).1 (Nat.le_of_eq g267.symm)
  have z_267 := Nat.le_trans Z0 E267.1
  have kp_267 := (Keep.refl h0 [t]).ext E267
  have f268 := (E0.ext E267)
  have f269 := (F0.ext E267)
  have f270 := (F1.ext E267)
  have f271 := (F2.ext E267)
  have f272 := (F3.ext E267)
  have f273 := (F4.ext E267)
  have V267 : Af Z h267 ma (.object "java/lang/Object") 8 (fun _ => .null) := Af.fresh A267
  have Q267 := Ov.fresh A267 O267
  refine g_putF X267 hx hZ hown (hw _ (List.mem_of_getElem? (i := 47) rfl)) Via.refl e267 f269 f268 (Or.inl (hw _ (List.mem_of_getElem? (i := 48) rfl))) (hw _ (List.mem_of_getElem? (i := 34) rfl)) (ty := (.array (.object "java/lang/Object"))) (by decide) rfl rfl (hb hby d7_21) (q := 24) rfl fun T274 h274 X274 e274 W274 => ?_
  have fw274 := f269.same W274
  have N274 := Fr.snoc X274 (Fr.nil n0) hge
  have z_274 := Nat.le_trans z_267 (Keep.of_wr W274).1
  have kp_274 := kp_267.wr W274 (Or.inl (List.mem_of_getElem? (i := 0) rfl))
  have f275 := (f268.wr W274)
  have f276 := (f270.other W274 (Or.inr (slot_ne (Or.inl (hw _ (List.mem_of_getElem? (i := 51) rfl))) (Or.inl (hw _ (List.mem_of_getElem? (i := 48) rfl))) (by decide) (t := (.array .int)) (t' := (.array (.object "java/lang/Object"))) (by decide) (by decide))))
  have f277 := (f271.other W274 (Or.inr (slot_ne (Or.inl (hw _ (List.mem_of_getElem? (i := 58) rfl))) (Or.inl (hw _ (List.mem_of_getElem? (i := 48) rfl))) (by decide) (t := .int) (t' := (.array (.object "java/lang/Object"))) (by decide) (by decide))))
  have f278 := (f272.other W274 (Or.inr (slot_ne (Or.inl (hw _ (List.mem_of_getElem? (i := 74) rfl))) (Or.inl (hw _ (List.mem_of_getElem? (i := 48) rfl))) (by decide) (t := (.object "java/util/Map")) (t' := (.array (.object "java/lang/Object"))) (by decide) (by decide))))
  have f279 := (f273.other W274 (Or.inr (slot_ne (Or.inl (hw _ (List.mem_of_getElem? (i := 110) rfl))) (Or.inl (hw _ (List.mem_of_getElem? (i := 48) rfl))) (by decide) (t := .int) (t' := (.array (.object "java/lang/Object"))) (by decide) (by decide))))
  have f280 := (V267.other W274 (Ne.symm ne_t_ma))
  have f281 := (Q267.wr W274)
  have f282 := (D267.wr W274)
  refine g_aloadN X274 hx (hb hby d7_24) (v := (.ref t)) rfl rfl (q := 25) rfl ?_
  refine g_iloadN X274 hx (hb hby d7_25) (v := (4 : Int32)) rfl (q := 26) rfl ?_
  refine g_newP X274 hx hZ (hw _ (List.mem_of_getElem? (i := 49) rfl)) e274 (hb hby d7_26) (n := (4 : Int32)) (by decide) (cap := 4) (Nat.le_of_ble_eq_true rfl) (by decide) (Nat.le_of_ble_eq_true rfl) (Nat.le_of_ble_eq_true rfl) (q := 28) rfl fun T283 h283 c283 ha g283 X283 e283 E283 A283 => ?_
  have ne_t_ha : t ≠ ha := Nat.ne_of_lt (Nat.lt_of_lt_of_le f275.lt (Nat.le_of_eq g283.symm))
  have ne_ma_ha : ma ≠ ha := Nat.ne_of_lt (Nat.lt_of_lt_of_le f282.lt (Nat.le_of_eq g283.symm))
  have ge_ha : n0 ≤ ha := Nat.le_trans z_274 (Nat.le_of_eq g283.symm)
  have sz_ha : h0.size ≤ ha := Nat.le_trans kp_274.1 (Nat.le_of_eq g283.symm)
  have z_283 := Nat.le_trans z_274 E283.1
  have kp_283 := kp_274.ext E283
  have f284 := (f275.ext E283)
  have f285 := (fw274.ext E283)
  have f286 := (f276.ext E283)
  have f287 := (f277.ext E283)
  have f288 := (f278.ext E283)
  have f289 := (f279.ext E283)
  have f290 := (f280.ext E283)
  have f291 := (f281.ext E283)
  have f292 := (f282.ext E283)
  have V283 : Af Z h283 ha .int 4 (fun _ => (.int (0 : Int32))) := Af.fresh A283
  refine g_putF X283 hx hZ hown (hw _ (List.mem_of_getElem? (i := 50) rfl)) Via.refl e283 f286 f284 (Or.inl (hw _ (List.mem_of_getElem? (i := 51) rfl))) (hw _ (List.mem_of_getElem? (i := 34) rfl)) (ty := (.array .int)) (by decide) rfl rfl (hb hby d7_28) (q := 31) rfl fun T293 h293 X293 e293 W293 => ?_
  have fw293 := f286.same W293
  have N293 := Fr.snoc X293 N274 hge
  have z_293 := Nat.le_trans z_283 (Keep.of_wr W293).1
  have kp_293 := kp_283.wr W293 (Or.inl (List.mem_of_getElem? (i := 0) rfl))
  have f294 := (f284.wr W293)
  have f295 := (f285.other W293 (Or.inr (slot_ne (Or.inl (hw _ (List.mem_of_getElem? (i := 48) rfl))) (Or.inl (hw _ (List.mem_of_getElem? (i := 51) rfl))) (by decide) (t := (.array (.object "java/lang/Object"))) (t' := (.array .int)) (by decide) (by decide))))
  have f296 := (f287.other W293 (Or.inr (slot_ne (Or.inl (hw _ (List.mem_of_getElem? (i := 58) rfl))) (Or.inl (hw _ (List.mem_of_getElem? (i := 51) rfl))) (by decide) (t := .int) (t' := (.array .int)) (by decide) (by decide))))
  have f297 := (f288.other W293 (Or.inr (slot_ne (Or.inl (hw _ (List.mem_of_getElem? (i := 74) rfl))) (Or.inl (hw _ (List.mem_of_getElem? (i := 51) rfl))) (by decide) (t := (.object "java/util/Map")) (t' := (.array .int)) (by decide) (by decide))))
  have f298 := (f289.other W293 (Or.inr (slot_ne (Or.inl (hw _ (List.mem_of_getElem? (i := 110) rfl))) (Or.inl (hw _ (List.mem_of_getElem? (i := 51) rfl))) (by decide) (t := .int) (t' := (.array .int)) (by decide) (by decide))))
  have f299 := (f290.other W293 (Ne.symm ne_t_ma))
  have f300 := (f291.wr W293)
  have f301 := (f292.wr W293)
  have f302 := (V283.other W293 (Ne.symm ne_t_ha))
  exact g_retV X293 hx hret hlk (hb hby d7_31) ⟨rfl, by simpa using N293, by rw [e293]; exact kp_293, ma, ha, 4, _, _, _, by rw [e293]; exact f294, by rw [e293]; exact f295, by rw [e293]; exact fw293, by rw [e293]; exact f296, by rw [e293]; exact f297, by rw [e293]; exact f298, by rw [e293]; exact f299, by rw [e293]; exact f300, by rw [e293]; exact f301, by rw [e293]; exact f302, Nat.lt_of_lt_of_le E0.lt sz_ma, Nat.lt_of_lt_of_le E0.lt sz_ha, ne_ma_ha, by decide⟩ (Nat.le_of_ble_eq_true rfl) (Nat.le_of_ble_eq_true rfl)
set_option maxRecDepth 65536 in
set_option maxHeartbeats 40000000 in
theorem rmTI6 (l : Launch) (Z : State) (a0 : Array Value) (hw : ∀ d ∈ tables_1, d.before a0 Z = true) (t : Addr) (h0 : Heap) (n0 : Nat) (Z0 : n0 ≤ h0.size) (hge : n0 ≤ t) (E0 : Exa Z h0 t "com/example/kehys/kehys/io/TreeObject") (F0 : Fld Z h0 t "com/example/kehys/kehys/io/TreeObject" "members" "[Ljava/lang/Object;" .null) (F1 : Fld Z h0 t "com/example/kehys/kehys/io/TreeObject" "hashes" "[I" .null) (F2 : Fld Z h0 t "com/example/kehys/kehys/io/TreeObject" "size" "I" (.int (0 : Int32))) (F3 : Fld Z h0 t "com/example/kehys/kehys/io/TreeObject" "index" "Ljava/util/Map;" .null) (F4 : Fld Z h0 t "com/example/kehys/kehys/io/TreeObject" "changes" "I" (.int (0 : Int32))) :
    Con l Z h0 (⟨"com/example/kehys/kehys/io/TreeObject", "<init>", "(I)V"⟩ : MethodName) prog_18_method_1_code 3 none ({ frames := 2, cells := 2, slots := 18, locals := 26 } : Room) #[(.ref t), (.int (5 : Int32))] (fun v h L => v = none ∧ Fr n0 L ∧ Keep h0 h [t] ∧ Tr0 Z h t) := by
  refine con_of (plainFor_of_name pn_5) (Ls := #[.val (.ref t), .val (.int (5 : Int32)), .unset]) (fun m => by first | (simp [entryFrame, mkF, argsToLocals, Value.category]; done) | rfl) ?_
  intro p e s m below meth c s₁ hx hZ hby hml hret hlk hnm hown X0 e0
  refine g_aloadN X0 hx (hb hby d7_0) (v := (.ref t)) rfl rfl (q := 1) rfl ?_
  refine g_callI X0 hx hZ hown rfl (hw _ (List.mem_of_getElem? (i := 39) rfl)) (hw _ (List.mem_of_getElem? (i := 40) rfl)) (hw _ (List.mem_of_getElem? (i := 43) rfl)) (hw _ (List.mem_of_getElem? (i := 42) rfl)) (by decide) e0 (b := t) (rmAM l Z a0 hw t h0) (by exact hml.symm) (argsL := []) (rest := []) rfl rfl pd_3 rfl (Nat.le_of_ble_eq_true rfl) (Nat.le_of_ble_eq_true rfl) (Nat.le_of_ble_eq_true rfl) (Nat.le_of_ble_eq_true rfl) (hb hby d7_1) (q := 4) rfl (g_pure rfl rfl fun T303 X303 e303 => ?_)
  show Go p e below _ (T303.setTop (mkF m 4 #[.val (.ref t), .val (.int (5 : Int32)), .unset] []))
  refine g_iloadN X303 hx (hb hby d7_4) (v := (5 : Int32)) rfl (q := 5) rfl ?_
  refine g_if_ge X303 hx (hb hby d7_5) (by decide) (q := 12) (by decide) (q2 := 8) rfl (fun hb5 => ?_) (fun hb5 => absurd hb5 (by decide))
  refine g_iloadN X303 hx (hb hby d7_12) (v := (5 : Int32)) rfl (q := 13) rfl ?_
  refine g_istoreN X303 hx (hb hby d7_13) (L' := #[.val (.ref t), .val (.int (5 : Int32)), .val (.int (5 : Int32))]) rfl (q := 14) rfl ?_
  refine g_aloadN X303 hx (hb hby d7_14) (v := (.ref t)) rfl rfl (q := 15) rfl ?_
  refine g_iconst X303 hx (hb hby d7_15) (n := (2 : Int32)) (by decide) (q := 16) rfl ?_
  refine g_iloadN X303 hx (hb hby d7_16) (v := (5 : Int32)) rfl (q := 17) rfl ?_
  refine g_imul X303 hx (hb hby d7_17) (z := (10 : Int32)) (by decide) (q := 18) rfl ?_
  refine g_newRE X303 hx hZ hown (hw _ (List.mem_of_getElem? (i := 45) rfl)) (hw _ (List.mem_of_getElem? (i := 46) rfl)) e303 (hb hby d7_18) (z := (10 : Int32)) (by decide) (cap := 10) (Nat.le_of_ble_eq_true rfl) (by decide) (Nat.le_of_ble_eq_true rfl) (Nat.le_of_ble_eq_true rfl) (ad := "[Ljava/lang/Object;") (by decide) (q := 21) rfl fun T304 h304 c304 ma g304 X304 e304 E304 A304 O304 D304 => ?_
  have ne_t_ma : t ≠ ma := Nat.ne_of_lt (Nat.lt_of_lt_of_le E0.lt (Nat.le_of_eq g304.symm))
  have ge_ma : n0 ≤ ma := Nat.le_trans Z0 (Nat.le_of_eq g304.symm)
  have sz_ma : h0.size ≤ ma := Nat.le_trans (Keep.refl h0 [t]).1 (Nat.le_of_eq g304.symm)
  have z_304 := Nat.le_trans Z0 E304.1
  have kp_304 := (Keep.refl h0 [t]).ext E304
  have f305 := (E0.ext E304)
  have f306 := (F0.ext E304)
  have f307 := (F1.ext E304)
  have f308 := (F2.ext E304)
  have f309 := (F3.ext E304)
  have f310 := (F4.ext E304)
  have V304 : Af Z h304 ma (.object "java/lang/Object") 10 (fun _ => .null) := Af.fresh A304
  have Q304 := Ov.fresh A304 O304
  refine g_putF X304 hx hZ hown (hw _ (List.mem_of_getElem? (i := 47) rfl)) Via.refl e304 f306 f305 (Or.inl (hw _ (List.mem_of_getElem? (i := 48) rfl))) (hw _ (List.mem_of_getElem? (i := 34) rfl)) (ty := (.array (.object "java/lang/Object"))) (by decide) rfl rfl (hb hby d7_21) (q := 24) rfl fun T311 h311 X311 e311 W311 => ?_
  have fw311 := f306.same W311
  have N311 := Fr.snoc X311 (Fr.nil n0) hge
  have z_311 := Nat.le_trans z_304 (Keep.of_wr W311).1
  have kp_311 := kp_304.wr W311 (Or.inl (List.mem_of_getElem? (i := 0) rfl))
  have f312 := (f305.wr W311)
  have f313 := (f307.other W311 (Or.inr (slot_ne (Or.inl (hw _ (List.mem_of_getElem? (i := 51) rfl))) (Or.inl (hw _ (List.mem_of_getElem? (i := 48) rfl))) (by decide) (t := (.array .int)) (t' := (.array (.object "java/lang/Object"))) (by decide) (by decide))))
  have f314 := (f308.other W311 (Or.inr (slot_ne (Or.inl (hw _ (List.mem_of_getElem? (i := 58) rfl))) (Or.inl (hw _ (List.mem_of_getElem? (i := 48) rfl))) (by decide) (t := .int) (t' := (.array (.object "java/lang/Object"))) (by decide) (by decide))))
  have f315 := (f309.other W311 (Or.inr (slot_ne (Or.inl (hw _ (List.mem_of_getElem? (i := 74) rfl))) (Or.inl (hw _ (List.mem_of_getElem? (i := 48) rfl))) (by decide) (t := (.object "java/util/Map")) (t' := (.array (.object "java/lang/Object"))) (by decide) (by decide))))
  have f316 := (f310.other W311 (Or.inr (slot_ne (Or.inl (hw _ (List.mem_of_getElem? (i := 110) rfl))) (Or.inl (hw _ (List.mem_of_getElem? (i := 48) rfl))) (by decide) (t := .int) (t' := (.array (.object "java/lang/Object"))) (by decide) (by decide))))
  have f317 := (V304.other W311 (Ne.symm ne_t_ma))
  have f318 := (Q304.wr W311)
  have f319 := (D304.wr W311)
  refine g_aloadN X311 hx (hb hby d7_24) (v := (.ref t)) rfl rfl (q := 25) rfl ?_
  refine g_iloadN X311 hx (hb hby d7_25) (v := (5 : Int32)) rfl (q := 26) rfl ?_
  refine g_newP X311 hx hZ (hw _ (List.mem_of_getElem? (i := 49) rfl)) e311 (hb hby d7_26) (n := (5 : Int32)) (by decide) (cap := 5) (Nat.le_of_ble_eq_true rfl) (by decide) (Nat.le_of_ble_eq_true rfl) (Nat.le_of_ble_eq_true rfl) (q := 28) rfl fun T320 h320 c320 ha g320 X320 e320 E320 A320 => ?_
  have ne_t_ha : t ≠ ha := Nat.ne_of_lt (Nat.lt_of_lt_of_le f312.lt (Nat.le_of_eq g320.symm))
  have ne_ma_ha : ma ≠ ha := Nat.ne_of_lt (Nat.lt_of_lt_of_le f319.lt (Nat.le_of_eq g320.symm))
  have ge_ha : n0 ≤ ha := Nat.le_trans z_311 (Nat.le_of_eq g320.symm)
  have sz_ha : h0.size ≤ ha := Nat.le_trans kp_311.1 (Nat.le_of_eq g320.symm)
  have z_320 := Nat.le_trans z_311 E320.1
  have kp_320 := kp_311.ext E320
  have f321 := (f312.ext E320)
  have f322 := (fw311.ext E320)
  have f323 := (f313.ext E320)
  have f324 := (f314.ext E320)
  have f325 := (f315.ext E320)
  have f326 := (f316.ext E320)
  have f327 := (f317.ext E320)
  have f328 := (f318.ext E320)
  have f329 := (f319.ext E320)
  have V320 : Af Z h320 ha .int 5 (fun _ => (.int (0 : Int32))) := Af.fresh A320
  refine g_putF X320 hx hZ hown (hw _ (List.mem_of_getElem? (i := 50) rfl)) Via.refl e320 f323 f321 (Or.inl (hw _ (List.mem_of_getElem? (i := 51) rfl))) (hw _ (List.mem_of_getElem? (i := 34) rfl)) (ty := (.array .int)) (by decide) rfl rfl (hb hby d7_28) (q := 31) rfl fun T330 h330 X330 e330 W330 => ?_
  have fw330 := f323.same W330
  have N330 := Fr.snoc X330 N311 hge
  have z_330 := Nat.le_trans z_320 (Keep.of_wr W330).1
  have kp_330 := kp_320.wr W330 (Or.inl (List.mem_of_getElem? (i := 0) rfl))
  have f331 := (f321.wr W330)
  have f332 := (f322.other W330 (Or.inr (slot_ne (Or.inl (hw _ (List.mem_of_getElem? (i := 48) rfl))) (Or.inl (hw _ (List.mem_of_getElem? (i := 51) rfl))) (by decide) (t := (.array (.object "java/lang/Object"))) (t' := (.array .int)) (by decide) (by decide))))
  have f333 := (f324.other W330 (Or.inr (slot_ne (Or.inl (hw _ (List.mem_of_getElem? (i := 58) rfl))) (Or.inl (hw _ (List.mem_of_getElem? (i := 51) rfl))) (by decide) (t := .int) (t' := (.array .int)) (by decide) (by decide))))
  have f334 := (f325.other W330 (Or.inr (slot_ne (Or.inl (hw _ (List.mem_of_getElem? (i := 74) rfl))) (Or.inl (hw _ (List.mem_of_getElem? (i := 51) rfl))) (by decide) (t := (.object "java/util/Map")) (t' := (.array .int)) (by decide) (by decide))))
  have f335 := (f326.other W330 (Or.inr (slot_ne (Or.inl (hw _ (List.mem_of_getElem? (i := 110) rfl))) (Or.inl (hw _ (List.mem_of_getElem? (i := 51) rfl))) (by decide) (t := .int) (t' := (.array .int)) (by decide) (by decide))))
  have f336 := (f327.other W330 (Ne.symm ne_t_ma))
  have f337 := (f328.wr W330)
  have f338 := (f329.wr W330)
  have f339 := (V320.other W330 (Ne.symm ne_t_ha))
  exact g_retV X330 hx hret hlk (hb hby d7_31) ⟨rfl, by simpa using N330, by rw [e330]; exact kp_330, ma, ha, 5, _, _, _, by rw [e330]; exact f331, by rw [e330]; exact f332, by rw [e330]; exact fw330, by rw [e330]; exact f333, by rw [e330]; exact f334, by rw [e330]; exact f335, by rw [e330]; exact f336, by rw [e330]; exact f337, by rw [e330]; exact f338, by rw [e330]; exact f339, Nat.lt_of_lt_of_le E0.lt sz_ma, Nat.lt_of_lt_of_le E0.lt sz_ha, ne_ma_ha, by decide⟩ (Nat.le_of_ble_eq_true rfl) (Nat.le_of_ble_eq_true rfl)
set_option maxRecDepth 65536 in
set_option maxHeartbeats 40000000 in
theorem rmTI7 (l : Launch) (Z : State) (a0 : Array Value) (hw : ∀ d ∈ tables_1, d.before a0 Z = true) (t : Addr) (h0 : Heap) (n0 : Nat) (Z0 : n0 ≤ h0.size) (hge : n0 ≤ t) (E0 : Exa Z h0 t "com/example/kehys/kehys/io/TreeObject") (F0 : Fld Z h0 t "com/example/kehys/kehys/io/TreeObject" "members" "[Ljava/lang/Object;" .null) (F1 : Fld Z h0 t "com/example/kehys/kehys/io/TreeObject" "hashes" "[I" .null) (F2 : Fld Z h0 t "com/example/kehys/kehys/io/TreeObject" "size" "I" (.int (0 : Int32))) (F3 : Fld Z h0 t "com/example/kehys/kehys/io/TreeObject" "index" "Ljava/util/Map;" .null) (F4 : Fld Z h0 t "com/example/kehys/kehys/io/TreeObject" "changes" "I" (.int (0 : Int32))) :
    Con l Z h0 (⟨"com/example/kehys/kehys/io/TreeObject", "<init>", "(I)V"⟩ : MethodName) prog_18_method_1_code 3 none ({ frames := 2, cells := 2, slots := 18, locals := 26 } : Room) #[(.ref t), (.int (6 : Int32))] (fun v h L => v = none ∧ Fr n0 L ∧ Keep h0 h [t] ∧ Tr0 Z h t) := by
  refine con_of (plainFor_of_name pn_5) (Ls := #[.val (.ref t), .val (.int (6 : Int32)), .unset]) (fun m => by first | (simp [entryFrame, mkF, argsToLocals, Value.category]; done) | rfl) ?_
  intro p e s m below meth c s₁ hx hZ hby hml hret hlk hnm hown X0 e0
  refine g_aloadN X0 hx (hb hby d7_0) (v := (.ref t)) rfl rfl (q := 1) rfl ?_
  refine g_callI X0 hx hZ hown rfl (hw _ (List.mem_of_getElem? (i := 39) rfl)) (hw _ (List.mem_of_getElem? (i := 40) rfl)) (hw _ (List.mem_of_getElem? (i := 43) rfl)) (hw _ (List.mem_of_getElem? (i := 42) rfl)) (by decide) e0 (b := t) (rmAM l Z a0 hw t h0) (by exact hml.symm) (argsL := []) (rest := []) rfl rfl pd_3 rfl (Nat.le_of_ble_eq_true rfl) (Nat.le_of_ble_eq_true rfl) (Nat.le_of_ble_eq_true rfl) (Nat.le_of_ble_eq_true rfl) (hb hby d7_1) (q := 4) rfl (g_pure rfl rfl fun T340 X340 e340 => ?_)
  show Go p e below _ (T340.setTop (mkF m 4 #[.val (.ref t), .val (.int (6 : Int32)), .unset] []))
  refine g_iloadN X340 hx (hb hby d7_4) (v := (6 : Int32)) rfl (q := 5) rfl ?_
  refine g_if_ge X340 hx (hb hby d7_5) (by decide) (q := 12) (by decide) (q2 := 8) rfl (fun hb5 => ?_) (fun hb5 => absurd hb5 (by decide))
  refine g_iloadN X340 hx (hb hby d7_12) (v := (6 : Int32)) rfl (q := 13) rfl ?_
  refine g_istoreN X340 hx (hb hby d7_13) (L' := #[.val (.ref t), .val (.int (6 : Int32)), .val (.int (6 : Int32))]) rfl (q := 14) rfl ?_
  refine g_aloadN X340 hx (hb hby d7_14) (v := (.ref t)) rfl rfl (q := 15) rfl ?_
  refine g_iconst X340 hx (hb hby d7_15) (n := (2 : Int32)) (by decide) (q := 16) rfl ?_
  refine g_iloadN X340 hx (hb hby d7_16) (v := (6 : Int32)) rfl (q := 17) rfl ?_
  refine g_imul X340 hx (hb hby d7_17) (z := (12 : Int32)) (by decide) (q := 18) rfl ?_
  refine g_newRE X340 hx hZ hown (hw _ (List.mem_of_getElem? (i := 45) rfl)) (hw _ (List.mem_of_getElem? (i := 46) rfl)) e340 (hb hby d7_18) (z := (12 : Int32)) (by decide) (cap := 12) (Nat.le_of_ble_eq_true rfl) (by decide) (Nat.le_of_ble_eq_true rfl) (Nat.le_of_ble_eq_true rfl) (ad := "[Ljava/lang/Object;") (by decide) (q := 21) rfl fun T341 h341 c341 ma g341 X341 e341 E341 A341 O341 D341 => ?_
  have ne_t_ma : t ≠ ma := Nat.ne_of_lt (Nat.lt_of_lt_of_le E0.lt (Nat.le_of_eq g341.symm))
  have ge_ma : n0 ≤ ma := Nat.le_trans Z0 (Nat.le_of_eq g341.symm)
  have sz_ma : h0.size ≤ ma := Nat.le_trans (Keep.refl h0 [t]).1 (Nat.le_of_eq g341.symm)
  have z_341 := Nat.le_trans Z0 E341.1
  have kp_341 := (Keep.refl h0 [t]).ext E341
  have f342 := (E0.ext E341)
  have f343 := (F0.ext E341)
  have f344 := (F1.ext E341)
  have f345 := (F2.ext E341)
  have f346 := (F3.ext E341)
  have f347 := (F4.ext E341)
  have V341 : Af Z h341 ma (.object "java/lang/Object") 12 (fun _ => .null) := Af.fresh A341
  have Q341 := Ov.fresh A341 O341
  refine g_putF X341 hx hZ hown (hw _ (List.mem_of_getElem? (i := 47) rfl)) Via.refl e341 f343 f342 (Or.inl (hw _ (List.mem_of_getElem? (i := 48) rfl))) (hw _ (List.mem_of_getElem? (i := 34) rfl)) (ty := (.array (.object "java/lang/Object"))) (by decide) rfl rfl (hb hby d7_21) (q := 24) rfl fun T348 h348 X348 e348 W348 => ?_
  have fw348 := f343.same W348
  have N348 := Fr.snoc X348 (Fr.nil n0) hge
  have z_348 := Nat.le_trans z_341 (Keep.of_wr W348).1
  have kp_348 := kp_341.wr W348 (Or.inl (List.mem_of_getElem? (i := 0) rfl))
  have f349 := (f342.wr W348)
  have f350 := (f344.other W348 (Or.inr (slot_ne (Or.inl (hw _ (List.mem_of_getElem? (i := 51) rfl))) (Or.inl (hw _ (List.mem_of_getElem? (i := 48) rfl))) (by decide) (t := (.array .int)) (t' := (.array (.object "java/lang/Object"))) (by decide) (by decide))))
  have f351 := (f345.other W348 (Or.inr (slot_ne (Or.inl (hw _ (List.mem_of_getElem? (i := 58) rfl))) (Or.inl (hw _ (List.mem_of_getElem? (i := 48) rfl))) (by decide) (t := .int) (t' := (.array (.object "java/lang/Object"))) (by decide) (by decide))))
  have f352 := (f346.other W348 (Or.inr (slot_ne (Or.inl (hw _ (List.mem_of_getElem? (i := 74) rfl))) (Or.inl (hw _ (List.mem_of_getElem? (i := 48) rfl))) (by decide) (t := (.object "java/util/Map")) (t' := (.array (.object "java/lang/Object"))) (by decide) (by decide))))
  have f353 := (f347.other W348 (Or.inr (slot_ne (Or.inl (hw _ (List.mem_of_getElem? (i := 110) rfl))) (Or.inl (hw _ (List.mem_of_getElem? (i := 48) rfl))) (by decide) (t := .int) (t' := (.array (.object "java/lang/Object"))) (by decide) (by decide))))
  have f354 := (V341.other W348 (Ne.symm ne_t_ma))
  have f355 := (Q341.wr W348)
  have f356 := (D341.wr W348)
  refine g_aloadN X348 hx (hb hby d7_24) (v := (.ref t)) rfl rfl (q := 25) rfl ?_
  refine g_iloadN X348 hx (hb hby d7_25) (v := (6 : Int32)) rfl (q := 26) rfl ?_
  refine g_newP X348 hx hZ (hw _ (List.mem_of_getElem? (i := 49) rfl)) e348 (hb hby d7_26) (n := (6 : Int32)) (by decide) (cap := 6) (Nat.le_of_ble_eq_true rfl) (by decide) (Nat.le_of_ble_eq_true rfl) (Nat.le_of_ble_eq_true rfl) (q := 28) rfl fun T357 h357 c357 ha g357 X357 e357 E357 A357 => ?_
  have ne_t_ha : t ≠ ha := Nat.ne_of_lt (Nat.lt_of_lt_of_le f349.lt (Nat.le_of_eq g357.symm))
  have ne_ma_ha : ma ≠ ha := Nat.ne_of_lt (Nat.lt_of_lt_of_le f356.lt (Nat.le_of_eq g357.symm))
  have ge_ha : n0 ≤ ha := Nat.le_trans z_348 (Nat.le_of_eq g357.symm)
  have sz_ha : h0.size ≤ ha := Nat.le_trans kp_348.1 (Nat.le_of_eq g357.symm)
  have z_357 := Nat.le_trans z_348 E357.1
  have kp_357 := kp_348.ext E357
  have f358 := (f349.ext E357)
  have f359 := (fw348.ext E357)
  have f360 := (f350.ext E357)
  have f361 := (f351.ext E357)
  have f362 := (f352.ext E357)
  have f363 := (f353.ext E357)
  have f364 := (f354.ext E357)
  have f365 := (f355.ext E357)
  have f366 := (f356.ext E357)
  have V357 : Af Z h357 ha .int 6 (fun _ => (.int (0 : Int32))) := Af.fresh A357
  refine g_putF X357 hx hZ hown (hw _ (List.mem_of_getElem? (i := 50) rfl)) Via.refl e357 f360 f358 (Or.inl (hw _ (List.mem_of_getElem? (i := 51) rfl))) (hw _ (List.mem_of_getElem? (i := 34) rfl)) (ty := (.array .int)) (by decide) rfl rfl (hb hby d7_28) (q := 31) rfl fun T367 h367 X367 e367 W367 => ?_
  have fw367 := f360.same W367
  have N367 := Fr.snoc X367 N348 hge
  have z_367 := Nat.le_trans z_357 (Keep.of_wr W367).1
  have kp_367 := kp_357.wr W367 (Or.inl (List.mem_of_getElem? (i := 0) rfl))
  have f368 := (f358.wr W367)
  have f369 := (f359.other W367 (Or.inr (slot_ne (Or.inl (hw _ (List.mem_of_getElem? (i := 48) rfl))) (Or.inl (hw _ (List.mem_of_getElem? (i := 51) rfl))) (by decide) (t := (.array (.object "java/lang/Object"))) (t' := (.array .int)) (by decide) (by decide))))
  have f370 := (f361.other W367 (Or.inr (slot_ne (Or.inl (hw _ (List.mem_of_getElem? (i := 58) rfl))) (Or.inl (hw _ (List.mem_of_getElem? (i := 51) rfl))) (by decide) (t := .int) (t' := (.array .int)) (by decide) (by decide))))
  have f371 := (f362.other W367 (Or.inr (slot_ne (Or.inl (hw _ (List.mem_of_getElem? (i := 74) rfl))) (Or.inl (hw _ (List.mem_of_getElem? (i := 51) rfl))) (by decide) (t := (.object "java/util/Map")) (t' := (.array .int)) (by decide) (by decide))))
  have f372 := (f363.other W367 (Or.inr (slot_ne (Or.inl (hw _ (List.mem_of_getElem? (i := 110) rfl))) (Or.inl (hw _ (List.mem_of_getElem? (i := 51) rfl))) (by decide) (t := .int) (t' := (.array .int)) (by decide) (by decide))))
  have f373 := (f364.other W367 (Ne.symm ne_t_ma))
  have f374 := (f365.wr W367)
  have f375 := (f366.wr W367)
  have f376 := (V357.other W367 (Ne.symm ne_t_ha))
  exact g_retV X367 hx hret hlk (hb hby d7_31) ⟨rfl, by simpa using N367, by rw [e367]; exact kp_367, ma, ha, 6, _, _, _, by rw [e367]; exact f368, by rw [e367]; exact f369, by rw [e367]; exact fw367, by rw [e367]; exact f370, by rw [e367]; exact f371, by rw [e367]; exact f372, by rw [e367]; exact f373, by rw [e367]; exact f374, by rw [e367]; exact f375, by rw [e367]; exact f376, Nat.lt_of_lt_of_le E0.lt sz_ma, Nat.lt_of_lt_of_le E0.lt sz_ha, ne_ma_ha, by decide⟩ (Nat.le_of_ble_eq_true rfl) (Nat.le_of_ble_eq_true rfl)
theorem d9_0 : decode prog_18_method_3_code 0 = .ok (.aload_n 0, 1) := by decide +kernel
theorem d9_1 : decode prog_18_method_3_code 1 = .ok (.getfield 19, 3) := by decide +kernel
theorem d9_4 : decode prog_18_method_3_code 4 = .ok (.ifCond .ne 7, 3) := by decide +kernel
theorem d9_7 : decode prog_18_method_3_code 7 = .ok (.iconst 1, 1) := by decide +kernel
theorem d9_8 : decode prog_18_method_3_code 8 = .ok (.goto 4, 3) := by decide +kernel
theorem d9_12 : decode prog_18_method_3_code 12 = .ok (.ireturn, 1) := by decide +kernel
set_option maxRecDepth 65536 in
set_option maxHeartbeats 40000000 in
theorem rmE0 (l : Launch) (Z : State) (a0 : Array Value) (hw : ∀ d ∈ tables_1, d.before a0 Z = true) (t : Addr) (h0 : Heap) (F2 : Fld Z h0 t "com/example/kehys/kehys/io/TreeObject" "size" "I" (.int (0 : Int32))) :
    Con l Z h0 (⟨"com/example/kehys/kehys/io/TreeObject", "isEmpty", "()Z"⟩ : MethodName) prog_18_method_3_code 1 (some .boolean) ({ frames := 0, cells := 0, slots := 0, locals := 0 } : Room) #[(.ref t)] (Pur (some (.int 1)) h0) := by
  refine con_of (plainFor_of_name pn_5) (Ls := #[.val (.ref t)]) (fun m => by first | (simp [entryFrame, mkF, argsToLocals, Value.category]; done) | rfl) ?_
  intro p e s m below meth c s₁ hx hZ hby hml hret hlk hnm hown X0 e0
  refine g_aloadN X0 hx (hb hby d9_0) (v := (.ref t)) rfl rfl (q := 1) rfl ?_
  refine g_getF X0 hx hZ hown (hw _ (List.mem_of_getElem? (i := 57) rfl)) Via.refl e0 F2 (hb hby d9_1) (q := 4) rfl fun T377 X377 e377 => ?_
  refine g_if_ne X377 hx (hb hby d9_4) (by decide) (q := 11) (by decide) (q2 := 7) rfl (fun hb4 => absurd hb4 (by decide)) (fun hb4 => ?_)
  refine g_iconst X377 hx (hb hby d9_7) (n := (1 : Int32)) (by decide) (q := 8) rfl ?_
  refine g_goto X377 hx (hb hby d9_8) (by decide) (q := 12) (by decide) ?_
  exact g_retB X377 hx hret hlk (hb hby d9_12) (by decide) ⟨rfl, rfl, e377⟩ (Nat.le_of_ble_eq_true rfl) (Nat.le_of_ble_eq_true rfl)
theorem d10_0 : decode prog_18_method_2_code 0 = .ok (.aload_n 0, 1) := by decide +kernel
theorem d10_1 : decode prog_18_method_2_code 1 = .ok (.getfield 19, 3) := by decide +kernel
theorem d10_4 : decode prog_18_method_2_code 4 = .ok (.ireturn, 1) := by decide +kernel
set_option maxRecDepth 65536 in
set_option maxHeartbeats 40000000 in
theorem rmZ0 (l : Launch) (Z : State) (a0 : Array Value) (hw : ∀ d ∈ tables_1, d.before a0 Z = true) (t : Addr) (h0 : Heap) (F2 : Fld Z h0 t "com/example/kehys/kehys/io/TreeObject" "size" "I" (.int (0 : Int32))) :
    Con l Z h0 (⟨"com/example/kehys/kehys/io/TreeObject", "size", "()I"⟩ : MethodName) prog_18_method_2_code 1 (some .int) ({ frames := 0, cells := 0, slots := 0, locals := 0 } : Room) #[(.ref t)] (Pur (some (.int 0)) h0) := by
  refine con_of (plainFor_of_name pn_5) (Ls := #[.val (.ref t)]) (fun m => by first | (simp [entryFrame, mkF, argsToLocals, Value.category]; done) | rfl) ?_
  intro p e s m below meth c s₁ hx hZ hby hml hret hlk hnm hown X0 e0
  refine g_aloadN X0 hx (hb hby d10_0) (v := (.ref t)) rfl rfl (q := 1) rfl ?_
  refine g_getF X0 hx hZ hown (hw _ (List.mem_of_getElem? (i := 57) rfl)) Via.refl e0 F2 (hb hby d10_1) (q := 4) rfl fun T378 X378 e378 => ?_
  exact g_retI X378 hx hret hlk (hb hby d10_4) ⟨rfl, rfl, e378⟩ (Nat.le_of_ble_eq_true rfl) (Nat.le_of_ble_eq_true rfl)
theorem d9_11 : decode prog_18_method_3_code 11 = .ok (.iconst 0, 1) := by decide +kernel
set_option maxRecDepth 65536 in
set_option maxHeartbeats 40000000 in
theorem rmE1 (l : Launch) (Z : State) (a0 : Array Value) (hw : ∀ d ∈ tables_1, d.before a0 Z = true) (t : Addr) (h0 : Heap) (F2 : Fld Z h0 t "com/example/kehys/kehys/io/TreeObject" "size" "I" (.int (1 : Int32))) :
    Con l Z h0 (⟨"com/example/kehys/kehys/io/TreeObject", "isEmpty", "()Z"⟩ : MethodName) prog_18_method_3_code 1 (some .boolean) ({ frames := 0, cells := 0, slots := 0, locals := 0 } : Room) #[(.ref t)] (Pur (some (.int 0)) h0) := by
  refine con_of (plainFor_of_name pn_5) (Ls := #[.val (.ref t)]) (fun m => by first | (simp [entryFrame, mkF, argsToLocals, Value.category]; done) | rfl) ?_
  intro p e s m below meth c s₁ hx hZ hby hml hret hlk hnm hown X0 e0
  refine g_aloadN X0 hx (hb hby d9_0) (v := (.ref t)) rfl rfl (q := 1) rfl ?_
  refine g_getF X0 hx hZ hown (hw _ (List.mem_of_getElem? (i := 57) rfl)) Via.refl e0 F2 (hb hby d9_1) (q := 4) rfl fun T379 X379 e379 => ?_
  refine g_if_ne X379 hx (hb hby d9_4) (by decide) (q := 11) (by decide) (q2 := 7) rfl (fun hb4 => ?_) (fun hb4 => absurd hb4 (by decide))
  refine g_iconst X379 hx (hb hby d9_11) (n := (0 : Int32)) (by decide) (q := 12) rfl ?_
  exact g_retB X379 hx hret hlk (hb hby d9_12) (by decide) ⟨rfl, rfl, e379⟩ (Nat.le_of_ble_eq_true rfl) (Nat.le_of_ble_eq_true rfl)
set_option maxRecDepth 65536 in
set_option maxHeartbeats 40000000 in
theorem rmZ1 (l : Launch) (Z : State) (a0 : Array Value) (hw : ∀ d ∈ tables_1, d.before a0 Z = true) (t : Addr) (h0 : Heap) (F2 : Fld Z h0 t "com/example/kehys/kehys/io/TreeObject" "size" "I" (.int (1 : Int32))) :
    Con l Z h0 (⟨"com/example/kehys/kehys/io/TreeObject", "size", "()I"⟩ : MethodName) prog_18_method_2_code 1 (some .int) ({ frames := 0, cells := 0, slots := 0, locals := 0 } : Room) #[(.ref t)] (Pur (some (.int 1)) h0) := by
  refine con_of (plainFor_of_name pn_5) (Ls := #[.val (.ref t)]) (fun m => by first | (simp [entryFrame, mkF, argsToLocals, Value.category]; done) | rfl) ?_
  intro p e s m below meth c s₁ hx hZ hby hml hret hlk hnm hown X0 e0
  refine g_aloadN X0 hx (hb hby d10_0) (v := (.ref t)) rfl rfl (q := 1) rfl ?_
  refine g_getF X0 hx hZ hown (hw _ (List.mem_of_getElem? (i := 57) rfl)) Via.refl e0 F2 (hb hby d10_1) (q := 4) rfl fun T380 X380 e380 => ?_
  exact g_retI X380 hx hret hlk (hb hby d10_4) ⟨rfl, rfl, e380⟩ (Nat.le_of_ble_eq_true rfl) (Nat.le_of_ble_eq_true rfl)
set_option maxRecDepth 65536 in
set_option maxHeartbeats 40000000 in
theorem rmE2 (l : Launch) (Z : State) (a0 : Array Value) (hw : ∀ d ∈ tables_1, d.before a0 Z = true) (t : Addr) (h0 : Heap) (F2 : Fld Z h0 t "com/example/kehys/kehys/io/TreeObject" "size" "I" (.int (2 : Int32))) :
    Con l Z h0 (⟨"com/example/kehys/kehys/io/TreeObject", "isEmpty", "()Z"⟩ : MethodName) prog_18_method_3_code 1 (some .boolean) ({ frames := 0, cells := 0, slots := 0, locals := 0 } : Room) #[(.ref t)] (Pur (some (.int 0)) h0) := by
  refine con_of (plainFor_of_name pn_5) (Ls := #[.val (.ref t)]) (fun m => by first | (simp [entryFrame, mkF, argsToLocals, Value.category]; done) | rfl) ?_
  intro p e s m below meth c s₁ hx hZ hby hml hret hlk hnm hown X0 e0
  refine g_aloadN X0 hx (hb hby d9_0) (v := (.ref t)) rfl rfl (q := 1) rfl ?_
  refine g_getF X0 hx hZ hown (hw _ (List.mem_of_getElem? (i := 57) rfl)) Via.refl e0 F2 (hb hby d9_1) (q := 4) rfl fun T381 X381 e381 => ?_
  refine g_if_ne X381 hx (hb hby d9_4) (by decide) (q := 11) (by decide) (q2 := 7) rfl (fun hb4 => ?_) (fun hb4 => absurd hb4 (by decide))
  refine g_iconst X381 hx (hb hby d9_11) (n := (0 : Int32)) (by decide) (q := 12) rfl ?_
  exact g_retB X381 hx hret hlk (hb hby d9_12) (by decide) ⟨rfl, rfl, e381⟩ (Nat.le_of_ble_eq_true rfl) (Nat.le_of_ble_eq_true rfl)
set_option maxRecDepth 65536 in
set_option maxHeartbeats 40000000 in
theorem rmZ2 (l : Launch) (Z : State) (a0 : Array Value) (hw : ∀ d ∈ tables_1, d.before a0 Z = true) (t : Addr) (h0 : Heap) (F2 : Fld Z h0 t "com/example/kehys/kehys/io/TreeObject" "size" "I" (.int (2 : Int32))) :
    Con l Z h0 (⟨"com/example/kehys/kehys/io/TreeObject", "size", "()I"⟩ : MethodName) prog_18_method_2_code 1 (some .int) ({ frames := 0, cells := 0, slots := 0, locals := 0 } : Room) #[(.ref t)] (Pur (some (.int 2)) h0) := by
  refine con_of (plainFor_of_name pn_5) (Ls := #[.val (.ref t)]) (fun m => by first | (simp [entryFrame, mkF, argsToLocals, Value.category]; done) | rfl) ?_
  intro p e s m below meth c s₁ hx hZ hby hml hret hlk hnm hown X0 e0
  refine g_aloadN X0 hx (hb hby d10_0) (v := (.ref t)) rfl rfl (q := 1) rfl ?_
  refine g_getF X0 hx hZ hown (hw _ (List.mem_of_getElem? (i := 57) rfl)) Via.refl e0 F2 (hb hby d10_1) (q := 4) rfl fun T382 X382 e382 => ?_
  exact g_retI X382 hx hret hlk (hb hby d10_4) ⟨rfl, rfl, e382⟩ (Nat.le_of_ble_eq_true rfl) (Nat.le_of_ble_eq_true rfl)
theorem d12_0 : decode prog_18_method_16_code 0 = .ok (.iconst (-1), 1) := by decide +kernel
theorem d12_1 : decode prog_18_method_16_code 1 = .ok (.istore_n 2, 1) := by decide +kernel
theorem d12_2 : decode prog_18_method_16_code 2 = .ok (.aload_n 1, 1) := by decide +kernel
theorem d12_3 : decode prog_18_method_16_code 3 = .ok (.ifnonnull 5, 3) := by decide +kernel
theorem d12_8 : decode prog_18_method_16_code 8 = .ok (.aload_n 0, 1) := by decide +kernel
theorem d12_9 : decode prog_18_method_16_code 9 = .ok (.getfield 63, 3) := by decide +kernel
theorem d12_12 : decode prog_18_method_16_code 12 = .ok (.ifnull 33, 3) := by decide +kernel
theorem d12_45 : decode prog_18_method_16_code 45 = .ok (.aload_n 0, 1) := by decide +kernel
theorem d12_46 : decode prog_18_method_16_code 46 = .ok (.getfield 11, 3) := by decide +kernel
theorem d12_49 : decode prog_18_method_16_code 49 = .ok (.astore_n 3, 1) := by decide +kernel
theorem d12_50 : decode prog_18_method_16_code 50 = .ok (.aload_n 1, 1) := by decide +kernel
theorem d12_51 : decode prog_18_method_16_code 51 = .ok (.invokevirtual 89, 3) := by decide +kernel
theorem d12_54 : decode prog_18_method_16_code 54 = .ok (.istore 4, 2) := by decide +kernel
theorem d12_56 : decode prog_18_method_16_code 56 = .ok (.iconst 0, 1) := by decide +kernel
theorem d12_57 : decode prog_18_method_16_code 57 = .ok (.istore 5, 2) := by decide +kernel
theorem d12_59 : decode prog_18_method_16_code 59 = .ok (.iload 5, 2) := by decide +kernel
theorem d12_61 : decode prog_18_method_16_code 61 = .ok (.aload_n 0, 1) := by decide +kernel
theorem d12_62 : decode prog_18_method_16_code 62 = .ok (.getfield 19, 3) := by decide +kernel
theorem d12_65 : decode prog_18_method_16_code 65 = .ok (.if_icmp .ge 41, 3) := by decide +kernel
theorem d12_106 : decode prog_18_method_16_code 106 = .ok (.iload_n 2, 1) := by decide +kernel
theorem d12_107 : decode prog_18_method_16_code 107 = .ok (.ireturn, 1) := by decide +kernel
set_option maxRecDepth 65536 in
set_option maxHeartbeats 40000000 in
theorem rmFi0 (l : Launch) (Z : State) (a0 : Array Value) (hw : ∀ d ∈ tables_1, d.before a0 Z = true) (t ma ha : Addr) (r : Nat) (fm fh : Nat → Value) (cg : Int32) (a va : Addr) (ch cs : Int32) (hcs : ¬ cs = 0) (h0 : Heap) (n0 : Nat) (hga : n0 ≤ a) (SC : Sta Z h0 "java/lang/String" "COMPACT_STRINGS" "Z" (.int cs)) (SA : Str Z h0 a va ch) (TC : TrC Z h0 t (0 : Int32) ma ha r fm fh cg) (hat : a < t) (hnr : 0 ≤ r)  (rr : Int32) (hr : (-1 : Int32) = rr) :
    Con l Z h0 (⟨"com/example/kehys/kehys/io/TreeObject", "find", "(Ljava/lang/Object;)I"⟩ : MethodName) prog_18_method_16_code 6 (some .int) ({ frames := 2, cells := 0, slots := 0, locals := 28 } : Room) #[(.ref t), (.ref a)] (fun v h L => v = some (.int rr) ∧ Fr n0 L ∧ Keep h0 h [a] ∧ Str Z h a va ch) := by
  obtain ⟨E0, F0, F1, F2, F3, F4, V0, O0, A0, V1, tma, tha, nmh, hr8⟩ := TC
  refine con_of (plainFor_of_name pn_5) (Ls := #[.val (.ref t), .val (.ref a), .unset, .unset, .unset, .unset]) (fun m => by first | (simp [entryFrame, mkF, argsToLocals, Value.category]; done) | rfl) ?_
  intro p e s m below meth c s₁ hx hZ hby hml hret hlk hnm hown X0 e0
  refine g_iconst X0 hx (hb hby d12_0) (n := (-1 : Int32)) (by decide) (q := 1) rfl ?_
  refine g_istoreN X0 hx (hb hby d12_1) (L' := #[.val (.ref t), .val (.ref a), .val (.int (-1 : Int32)), .unset, .unset, .unset]) rfl (q := 2) rfl ?_
  refine g_aloadN X0 hx (hb hby d12_2) (v := (.ref a)) rfl rfl (q := 3) rfl ?_
  refine g_ifnonnullY X0 hx (hb hby d12_3) (by decide) (q := 8) (by decide) ?_
  refine g_aloadN X0 hx (hb hby d12_8) (v := (.ref t)) rfl rfl (q := 9) rfl ?_
  refine g_getF X0 hx hZ hown (hw _ (List.mem_of_getElem? (i := 73) rfl)) Via.refl e0 F3 (hb hby d12_9) (q := 12) rfl fun T383 X383 e383 => ?_
  refine g_ifnullY X383 hx (hb hby d12_12) (by decide) (q := 45) (by decide) ?_
  refine g_aloadN X383 hx (hb hby d12_45) (v := (.ref t)) rfl rfl (q := 46) rfl ?_
  refine g_getF X383 hx hZ hown (hw _ (List.mem_of_getElem? (i := 47) rfl)) Via.refl e383 F0 (hb hby d12_46) (q := 49) rfl fun T384 X384 e384 => ?_
  refine g_astoreN X384 hx (hb hby d12_49) rfl (L' := #[.val (.ref t), .val (.ref a), .val (.int (-1 : Int32)), .val (.ref ma), .unset, .unset]) rfl (q := 50) rfl ?_
  refine g_aloadN X384 hx (hb hby d12_50) (v := (.ref a)) rfl rfl (q := 51) rfl ?_
  refine g_callV X384 hx hZ hown (hw _ (List.mem_of_getElem? (i := 75) rfl)) (hw _ (List.mem_of_getElem? (i := 76) rfl)) (hw _ (List.mem_of_getElem? (i := 78) rfl)) (hw _ (List.mem_of_getElem? (i := 79) rfl)) (hw _ (List.mem_of_getElem? (i := 80) rfl)) (hw _ (List.mem_of_getElem? (i := 2) rfl)) (own_nfO (args := #[]) (z := gcY) rfl (mvT hZ (hw _ (List.mem_of_getElem? (i := 138) rfl)))) (by decide) e384 SA.1 (rmSH l Z a0 hw a va ch cs hcs h0 n0 hga SC SA) (by exact hml.symm) (argsL := []) (rest := []) rfl rfl pd_8 rfl (Nat.le_of_ble_eq_true rfl) (Nat.le_of_ble_eq_true rfl) (Nat.le_of_ble_eq_true rfl) (Nat.le_of_ble_eq_true rfl) (hb hby d12_51) (q := 54) rfl (fun v385 T385 L385 X385 hQ385 => ?_)
  generalize e385 : T385.heap = h385 at hQ385
  obtain ⟨rfl, M385, K385, U385⟩ := hQ385
  have N385 := Fr.app (Fr.nil n0) M385
  have kp_385 := (Keep.refl h0 [a]).trans K385 (allS (P := fun x => x ∈ [a] ∨ h0.size ≤ x) (Or.inl (List.mem_of_getElem? (i := 0) rfl)) all0)
  have f386 := (E0.keep K385)
  have f387 := (F0.keep K385 (ninS (Ne.symm (Nat.ne_of_lt hat)) nin0))
  have f388 := (F1.keep K385 (ninS (Ne.symm (Nat.ne_of_lt hat)) nin0))
  have f389 := (F2.keep K385 (ninS (Ne.symm (Nat.ne_of_lt hat)) nin0))
  have f390 := (F3.keep K385 (ninS (Ne.symm (Nat.ne_of_lt hat)) nin0))
  have f391 := (F4.keep K385 (ninS (Ne.symm (Nat.ne_of_lt hat)) nin0))
  have f392 := (V0.keep K385 (ninS (Ne.symm (Nat.ne_of_lt (Nat.lt_trans hat tma))) nin0))
  have f393 := (O0.keep K385)
  have f394 := (A0.keep K385)
  have f395 := (V1.keep K385 (ninS (Ne.symm (Nat.ne_of_lt (Nat.lt_trans hat tha))) nin0))
  have f396 := (own_sta_keep SC K385 (nsS SA.1.nostat ns0))
  have f397 := (SA.1.keep K385)
  show Go p e below _ (T385.setTop (mkF m 54 #[.val (.ref t), .val (.ref a), .val (.int (-1 : Int32)), .val (.ref ma), .unset, .unset] [(.int ch)]))
  refine g_istore X385 hx (hb hby d12_54) (L' := #[.val (.ref t), .val (.ref a), .val (.int (-1 : Int32)), .val (.ref ma), .val (.int ch), .unset]) rfl (q := 56) rfl ?_
  refine g_iconst X385 hx (hb hby d12_56) (n := (0 : Int32)) (by decide) (q := 57) rfl ?_
  refine g_istore X385 hx (hb hby d12_57) (L' := #[.val (.ref t), .val (.ref a), .val (.int (-1 : Int32)), .val (.ref ma), .val (.int ch), .val (.int (0 : Int32))]) rfl (q := 59) rfl ?_
  refine g_iload X385 hx (hb hby d12_59) (v := (0 : Int32)) rfl (q := 61) rfl ?_
  refine g_aloadN X385 hx (hb hby d12_61) (v := (.ref t)) rfl rfl (q := 62) rfl ?_
  refine g_getF X385 hx hZ hown (hw _ (List.mem_of_getElem? (i := 57) rfl)) Via.refl e385 f389 (hb hby d12_62) (q := 65) rfl fun T398 X398 e398 => ?_
  refine g_icmp_ge X398 hx (hb hby d12_65) (by decide) (q := 106) (by decide) (q2 := 68) rfl (fun hb65_0 => ?_) (fun hb65_0 => absurd hb65_0 (by decide))
  refine g_iloadN X398 hx (hb hby d12_106) (v := (-1 : Int32)) rfl (q := 107) rfl ?_
  exact g_retI X398 hx hret hlk (hb hby d12_107) ⟨by rw [← hr], by simpa using N385, by rw [e398]; exact kp_385, by rw [e398]; exact U385⟩ (Nat.le_of_ble_eq_true rfl) (Nat.le_of_ble_eq_true rfl)
theorem d12_68 : decode prog_18_method_16_code 68 = .ok (.iload_n 2, 1) := by decide +kernel
theorem d12_69 : decode prog_18_method_16_code 69 = .ok (.ifCond .ge 37, 3) := by decide +kernel
theorem d12_72 : decode prog_18_method_16_code 72 = .ok (.aload_n 0, 1) := by decide +kernel
theorem d12_73 : decode prog_18_method_16_code 73 = .ok (.getfield 15, 3) := by decide +kernel
theorem d12_76 : decode prog_18_method_16_code 76 = .ok (.iload 5, 2) := by decide +kernel
theorem d12_78 : decode prog_18_method_16_code 78 = .ok (.iaload, 1) := by decide +kernel
theorem d12_79 : decode prog_18_method_16_code 79 = .ok (.iload 4, 2) := by decide +kernel
theorem d12_81 : decode prog_18_method_16_code 81 = .ok (.if_icmp .ne 19, 3) := by decide +kernel
theorem d12_84 : decode prog_18_method_16_code 84 = .ok (.aload_n 1, 1) := by decide +kernel
theorem d12_85 : decode prog_18_method_16_code 85 = .ok (.aload_n 3, 1) := by decide +kernel
theorem d12_86 : decode prog_18_method_16_code 86 = .ok (.iconst 2, 1) := by decide +kernel
theorem d12_87 : decode prog_18_method_16_code 87 = .ok (.iload 5, 2) := by decide +kernel
theorem d12_89 : decode prog_18_method_16_code 89 = .ok (.imul, 1) := by decide +kernel
theorem d12_90 : decode prog_18_method_16_code 90 = .ok (.aaload, 1) := by decide +kernel
theorem d12_91 : decode prog_18_method_16_code 91 = .ok (.invokevirtual 92, 3) := by decide +kernel
theorem d12_94 : decode prog_18_method_16_code 94 = .ok (.ifCond .eq 6, 3) := by decide +kernel
theorem d12_97 : decode prog_18_method_16_code 97 = .ok (.iload 5, 2) := by decide +kernel
theorem d12_99 : decode prog_18_method_16_code 99 = .ok (.istore_n 2, 1) := by decide +kernel
theorem d12_100 : decode prog_18_method_16_code 100 = .ok (.iinc 5 1, 3) := by decide +kernel
theorem d12_103 : decode prog_18_method_16_code 103 = .ok (.goto (-44), 3) := by decide +kernel
set_option maxRecDepth 65536 in
set_option maxHeartbeats 40000000 in
theorem rmFi1 (l : Launch) (Z : State) (a0 : Array Value) (hw : ∀ d ∈ tables_1, d.before a0 Z = true) (t ma ha : Addr) (r : Nat) (fm fh : Nat → Value) (cg : Int32) (a va : Addr) (ch cs : Int32) (hcs : ¬ cs = 0) (h0 : Heap) (n0 : Nat) (hga : n0 ≤ a) (SC : Sta Z h0 "java/lang/String" "COMPACT_STRINGS" "Z" (.int cs)) (SA : Str Z h0 a va ch) (TC : TrC Z h0 t (1 : Int32) ma ha r fm fh cg) (hat : a < t) (hnr : 1 ≤ r) (s0 : Addr) (c0 : Int32) (hm0 : fm 0 = .ref s0) (hv0 : Sb Z h0 (fm 1)) (hh0 : fh 0 = .int c0) (v0 : Addr) (S0 : Str Z h0 s0 v0 c0) (n0a : s0 ≠ a) (m0a : v0 ≠ a) (rr : Int32) (hr : (if c0 = ch then (0 : Int32) else -1) = rr) :
    Con l Z h0 (⟨"com/example/kehys/kehys/io/TreeObject", "find", "(Ljava/lang/Object;)I"⟩ : MethodName) prog_18_method_16_code 6 (some .int) ({ frames := 2, cells := 0, slots := 0, locals := 28 } : Room) #[(.ref t), (.ref a)] (fun v h L => v = some (.int rr) ∧ Fr n0 L ∧ Keep h0 h [a] ∧ Str Z h a va ch) := by
  obtain ⟨E0, F0, F1, F2, F3, F4, V0, O0, A0, V1, tma, tha, nmh, hr8⟩ := TC
  refine con_of (plainFor_of_name pn_5) (Ls := #[.val (.ref t), .val (.ref a), .unset, .unset, .unset, .unset]) (fun m => by first | (simp [entryFrame, mkF, argsToLocals, Value.category]; done) | rfl) ?_
  intro p e s m below meth c s₁ hx hZ hby hml hret hlk hnm hown X0 e0
  refine g_iconst X0 hx (hb hby d12_0) (n := (-1 : Int32)) (by decide) (q := 1) rfl ?_
  refine g_istoreN X0 hx (hb hby d12_1) (L' := #[.val (.ref t), .val (.ref a), .val (.int (-1 : Int32)), .unset, .unset, .unset]) rfl (q := 2) rfl ?_
  refine g_aloadN X0 hx (hb hby d12_2) (v := (.ref a)) rfl rfl (q := 3) rfl ?_
  refine g_ifnonnullY X0 hx (hb hby d12_3) (by decide) (q := 8) (by decide) ?_
  refine g_aloadN X0 hx (hb hby d12_8) (v := (.ref t)) rfl rfl (q := 9) rfl ?_
  refine g_getF X0 hx hZ hown (hw _ (List.mem_of_getElem? (i := 73) rfl)) Via.refl e0 F3 (hb hby d12_9) (q := 12) rfl fun T399 X399 e399 => ?_
  refine g_ifnullY X399 hx (hb hby d12_12) (by decide) (q := 45) (by decide) ?_
  refine g_aloadN X399 hx (hb hby d12_45) (v := (.ref t)) rfl rfl (q := 46) rfl ?_
  refine g_getF X399 hx hZ hown (hw _ (List.mem_of_getElem? (i := 47) rfl)) Via.refl e399 F0 (hb hby d12_46) (q := 49) rfl fun T400 X400 e400 => ?_
  refine g_astoreN X400 hx (hb hby d12_49) rfl (L' := #[.val (.ref t), .val (.ref a), .val (.int (-1 : Int32)), .val (.ref ma), .unset, .unset]) rfl (q := 50) rfl ?_
  refine g_aloadN X400 hx (hb hby d12_50) (v := (.ref a)) rfl rfl (q := 51) rfl ?_
  refine g_callV X400 hx hZ hown (hw _ (List.mem_of_getElem? (i := 75) rfl)) (hw _ (List.mem_of_getElem? (i := 76) rfl)) (hw _ (List.mem_of_getElem? (i := 78) rfl)) (hw _ (List.mem_of_getElem? (i := 79) rfl)) (hw _ (List.mem_of_getElem? (i := 80) rfl)) (hw _ (List.mem_of_getElem? (i := 2) rfl)) (own_nfO (args := #[]) (z := gcY) rfl (mvT hZ (hw _ (List.mem_of_getElem? (i := 138) rfl)))) (by decide) e400 SA.1 (rmSH l Z a0 hw a va ch cs hcs h0 n0 hga SC SA) (by exact hml.symm) (argsL := []) (rest := []) rfl rfl pd_8 rfl (Nat.le_of_ble_eq_true rfl) (Nat.le_of_ble_eq_true rfl) (Nat.le_of_ble_eq_true rfl) (Nat.le_of_ble_eq_true rfl) (hb hby d12_51) (q := 54) rfl (fun v401 T401 L401 X401 hQ401 => ?_)
  generalize e401 : T401.heap = h401 at hQ401
  obtain ⟨rfl, M401, K401, U401⟩ := hQ401
  have N401 := Fr.app (Fr.nil n0) M401
  have kp_401 := (Keep.refl h0 [a]).trans K401 (allS (P := fun x => x ∈ [a] ∨ h0.size ≤ x) (Or.inl (List.mem_of_getElem? (i := 0) rfl)) all0)
  have f402 := (E0.keep K401)
  have f403 := (F0.keep K401 (ninS (Ne.symm (Nat.ne_of_lt hat)) nin0))
  have f404 := (F1.keep K401 (ninS (Ne.symm (Nat.ne_of_lt hat)) nin0))
  have f405 := (F2.keep K401 (ninS (Ne.symm (Nat.ne_of_lt hat)) nin0))
  have f406 := (F3.keep K401 (ninS (Ne.symm (Nat.ne_of_lt hat)) nin0))
  have f407 := (F4.keep K401 (ninS (Ne.symm (Nat.ne_of_lt hat)) nin0))
  have f408 := (V0.keep K401 (ninS (Ne.symm (Nat.ne_of_lt (Nat.lt_trans hat tma))) nin0))
  have f409 := (O0.keep K401)
  have f410 := (A0.keep K401)
  have f411 := (V1.keep K401 (ninS (Ne.symm (Nat.ne_of_lt (Nat.lt_trans hat tha))) nin0))
  have f412 := (own_sta_keep SC K401 (nsS SA.1.nostat ns0))
  have f413 := (SA.1.keep K401)
  have f414 := (S0.keep K401 (ninS n0a nin0) (ninS m0a nin0))
  show Go p e below _ (T401.setTop (mkF m 54 #[.val (.ref t), .val (.ref a), .val (.int (-1 : Int32)), .val (.ref ma), .unset, .unset] [(.int ch)]))
  refine g_istore X401 hx (hb hby d12_54) (L' := #[.val (.ref t), .val (.ref a), .val (.int (-1 : Int32)), .val (.ref ma), .val (.int ch), .unset]) rfl (q := 56) rfl ?_
  refine g_iconst X401 hx (hb hby d12_56) (n := (0 : Int32)) (by decide) (q := 57) rfl ?_
  refine g_istore X401 hx (hb hby d12_57) (L' := #[.val (.ref t), .val (.ref a), .val (.int (-1 : Int32)), .val (.ref ma), .val (.int ch), .val (.int (0 : Int32))]) rfl (q := 59) rfl ?_
  refine g_iload X401 hx (hb hby d12_59) (v := (0 : Int32)) rfl (q := 61) rfl ?_
  refine g_aloadN X401 hx (hb hby d12_61) (v := (.ref t)) rfl rfl (q := 62) rfl ?_
  refine g_getF X401 hx hZ hown (hw _ (List.mem_of_getElem? (i := 57) rfl)) Via.refl e401 f405 (hb hby d12_62) (q := 65) rfl fun T415 X415 e415 => ?_
  refine g_icmp_ge X415 hx (hb hby d12_65) (by decide) (q := 106) (by decide) (q2 := 68) rfl (fun hb65_0 => absurd hb65_0 (by decide)) (fun hb65_0 => ?_)
  refine g_iloadN X415 hx (hb hby d12_68) (v := (-1 : Int32)) rfl (q := 69) rfl ?_
  refine g_if_ge X415 hx (hb hby d12_69) (by decide) (q := 106) (by decide) (q2 := 72) rfl (fun hb69_0 => absurd hb69_0 (by decide)) (fun hb69_0 => ?_)
  refine g_aloadN X415 hx (hb hby d12_72) (v := (.ref t)) rfl rfl (q := 73) rfl ?_
  refine g_getF X415 hx hZ hown (hw _ (List.mem_of_getElem? (i := 50) rfl)) Via.refl e415 f404 (hb hby d12_73) (q := 76) rfl fun T416 X416 e416 => ?_
  refine g_iload X416 hx (hb hby d12_76) (v := (0 : Int32)) rfl (q := 78) rfl ?_
  refine g_iaload X416 hx hZ e416 f411 (by decide) (by show 0 < r; omega) (v := (.int c0)) hh0 (hb hby d12_78) (q := 79) rfl ?_
  refine g_iload X416 hx (hb hby d12_79) (v := ch) rfl (q := 81) rfl ?_
  refine g_icmp_ne X416 hx (hb hby d12_81) (by decide) (q := 100) (by decide) (q2 := 84) rfl (fun hb81_0 => ?_) (fun hb81_0 => ?_)
  · refine g_iinc X416 hx (hb hby d12_100) (x := (0 : Int32)) rfl (z := (1 : Int32)) (by decide) (L' := #[.val (.ref t), .val (.ref a), .val (.int (-1 : Int32)), .val (.ref ma), .val (.int ch), .val (.int (1 : Int32))]) rfl (q := 103) rfl ?_
    refine g_goto X416 hx (hb hby d12_103) (by decide) (q := 59) (by decide) ?_
    refine g_iload X416 hx (hb hby d12_59) (v := (1 : Int32)) rfl (q := 61) rfl ?_
    refine g_aloadN X416 hx (hb hby d12_61) (v := (.ref t)) rfl rfl (q := 62) rfl ?_
    refine g_getF X416 hx hZ hown (hw _ (List.mem_of_getElem? (i := 57) rfl)) Via.refl e416 f405 (hb hby d12_62) (q := 65) rfl fun T417 X417 e417 => ?_
    refine g_icmp_ge X417 hx (hb hby d12_65) (by decide) (q := 106) (by decide) (q2 := 68) rfl (fun hb65_1 => ?_) (fun hb65_1 => absurd hb65_1 (by decide))
    refine g_iloadN X417 hx (hb hby d12_106) (v := (-1 : Int32)) rfl (q := 107) rfl ?_
    exact g_retI X417 hx hret hlk (hb hby d12_107) ⟨by rw [← hr, if_neg hb81_0], by simpa using N401, by rw [e417]; exact kp_401, by rw [e417]; exact U401⟩ (Nat.le_of_ble_eq_true rfl) (Nat.le_of_ble_eq_true rfl)
  · refine g_aloadN X416 hx (hb hby d12_84) (v := (.ref a)) rfl rfl (q := 85) rfl ?_
    refine g_aloadN X416 hx (hb hby d12_85) (v := (.ref ma)) rfl rfl (q := 86) rfl ?_
    refine g_iconst X416 hx (hb hby d12_86) (n := (2 : Int32)) (by decide) (q := 87) rfl ?_
    refine g_iload X416 hx (hb hby d12_87) (v := (0 : Int32)) rfl (q := 89) rfl ?_
    refine g_imul X416 hx (hb hby d12_89) (z := (0 : Int32)) (by decide) (q := 90) rfl ?_
    refine g_aaload X416 hx hZ e416 f408 rfl (by decide) (by show 0 < 2 * r; omega) (v := (.ref s0)) hm0 (hb hby d12_90) (q := 91) rfl ?_
    refine g_callV X416 hx hZ hown (hw _ (List.mem_of_getElem? (i := 171) rfl)) (hw _ (List.mem_of_getElem? (i := 172) rfl)) (hw _ (List.mem_of_getElem? (i := 174) rfl)) (hw _ (List.mem_of_getElem? (i := 175) rfl)) (hw _ (List.mem_of_getElem? (i := 176) rfl)) (hw _ (List.mem_of_getElem? (i := 2) rfl)) (own_nfO (args := #[]) (z := gcY) rfl (mvT hZ (hw _ (List.mem_of_getElem? (i := 138) rfl)))) (by decide) e416 f413 (rmSE l Z a0 hw a va s0 v0 ch cs (Ne.symm n0a) hcs h401 f412 U401 (hb81_0 ▸ f414)) (by exact hml.symm) (argsL := [(.ref s0)]) (rest := []) rfl rfl pd_9 rfl (Nat.le_of_ble_eq_true rfl) (Nat.le_of_ble_eq_true rfl) (Nat.le_of_ble_eq_true rfl) (Nat.le_of_ble_eq_true rfl) (hb hby d12_91) (q := 94) rfl (g_pure rfl rfl fun T418 X418 e418 => ?_)
    show Go p e below _ (T418.setTop (mkF m 94 #[.val (.ref t), .val (.ref a), .val (.int (-1 : Int32)), .val (.ref ma), .val (.int ch), .val (.int (0 : Int32))] [(.int (1 : Int32))]))
    refine g_if_eq X418 hx (hb hby d12_94) (by decide) (q := 100) (by decide) (q2 := 97) rfl (fun hb94_0 => absurd hb94_0 (by decide)) (fun hb94_0 => ?_)
    refine g_iload X418 hx (hb hby d12_97) (v := (0 : Int32)) rfl (q := 99) rfl ?_
    refine g_istoreN X418 hx (hb hby d12_99) (L' := #[.val (.ref t), .val (.ref a), .val (.int (0 : Int32)), .val (.ref ma), .val (.int ch), .val (.int (0 : Int32))]) rfl (q := 100) rfl ?_
    refine g_iinc X418 hx (hb hby d12_100) (x := (0 : Int32)) rfl (z := (1 : Int32)) (by decide) (L' := #[.val (.ref t), .val (.ref a), .val (.int (0 : Int32)), .val (.ref ma), .val (.int ch), .val (.int (1 : Int32))]) rfl (q := 103) rfl ?_
    refine g_goto X418 hx (hb hby d12_103) (by decide) (q := 59) (by decide) ?_
    refine g_iload X418 hx (hb hby d12_59) (v := (1 : Int32)) rfl (q := 61) rfl ?_
    refine g_aloadN X418 hx (hb hby d12_61) (v := (.ref t)) rfl rfl (q := 62) rfl ?_
    refine g_getF X418 hx hZ hown (hw _ (List.mem_of_getElem? (i := 57) rfl)) Via.refl e418 f405 (hb hby d12_62) (q := 65) rfl fun T419 X419 e419 => ?_
    refine g_icmp_ge X419 hx (hb hby d12_65) (by decide) (q := 106) (by decide) (q2 := 68) rfl (fun hb65_1 => ?_) (fun hb65_1 => absurd hb65_1 (by decide))
    refine g_iloadN X419 hx (hb hby d12_106) (v := (0 : Int32)) rfl (q := 107) rfl ?_
    exact g_retI X419 hx hret hlk (hb hby d12_107) ⟨by rw [← hr, if_pos hb81_0], by simpa using N401, by rw [e419]; exact kp_401, by rw [e419]; exact U401⟩ (Nat.le_of_ble_eq_true rfl) (Nat.le_of_ble_eq_true rfl)
set_option maxRecDepth 65536 in
set_option maxHeartbeats 40000000 in
theorem rmFi2 (l : Launch) (Z : State) (a0 : Array Value) (hw : ∀ d ∈ tables_1, d.before a0 Z = true) (t ma ha : Addr) (r : Nat) (fm fh : Nat → Value) (cg : Int32) (a va : Addr) (ch cs : Int32) (hcs : ¬ cs = 0) (h0 : Heap) (n0 : Nat) (hga : n0 ≤ a) (SC : Sta Z h0 "java/lang/String" "COMPACT_STRINGS" "Z" (.int cs)) (SA : Str Z h0 a va ch) (TC : TrC Z h0 t (2 : Int32) ma ha r fm fh cg) (hat : a < t) (hnr : 2 ≤ r) (s0 : Addr) (c0 : Int32) (s1 : Addr) (c1 : Int32) (hm0 : fm 0 = .ref s0) (hv0 : Sb Z h0 (fm 1)) (hh0 : fh 0 = .int c0) (hm1 : fm 2 = .ref s1) (hv1 : Sb Z h0 (fm 3)) (hh1 : fh 1 = .int c1) (v0 : Addr) (S0 : Str Z h0 s0 v0 c0) (n0a : s0 ≠ a) (m0a : v0 ≠ a) (v1 : Addr) (S1 : Str Z h0 s1 v1 c1) (n1a : s1 ≠ a) (m1a : v1 ≠ a) (rr : Int32) (hr : (if c0 = ch then (0 : Int32) else if c1 = ch then 1 else -1) = rr) :
    Con l Z h0 (⟨"com/example/kehys/kehys/io/TreeObject", "find", "(Ljava/lang/Object;)I"⟩ : MethodName) prog_18_method_16_code 6 (some .int) ({ frames := 2, cells := 0, slots := 0, locals := 28 } : Room) #[(.ref t), (.ref a)] (fun v h L => v = some (.int rr) ∧ Fr n0 L ∧ Keep h0 h [a] ∧ Str Z h a va ch) := by
  obtain ⟨E0, F0, F1, F2, F3, F4, V0, O0, A0, V1, tma, tha, nmh, hr8⟩ := TC
  refine con_of (plainFor_of_name pn_5) (Ls := #[.val (.ref t), .val (.ref a), .unset, .unset, .unset, .unset]) (fun m => by first | (simp [entryFrame, mkF, argsToLocals, Value.category]; done) | rfl) ?_
  intro p e s m below meth c s₁ hx hZ hby hml hret hlk hnm hown X0 e0
  refine g_iconst X0 hx (hb hby d12_0) (n := (-1 : Int32)) (by decide) (q := 1) rfl ?_
  refine g_istoreN X0 hx (hb hby d12_1) (L' := #[.val (.ref t), .val (.ref a), .val (.int (-1 : Int32)), .unset, .unset, .unset]) rfl (q := 2) rfl ?_
  refine g_aloadN X0 hx (hb hby d12_2) (v := (.ref a)) rfl rfl (q := 3) rfl ?_
  refine g_ifnonnullY X0 hx (hb hby d12_3) (by decide) (q := 8) (by decide) ?_
  refine g_aloadN X0 hx (hb hby d12_8) (v := (.ref t)) rfl rfl (q := 9) rfl ?_
  refine g_getF X0 hx hZ hown (hw _ (List.mem_of_getElem? (i := 73) rfl)) Via.refl e0 F3 (hb hby d12_9) (q := 12) rfl fun T420 X420 e420 => ?_
  refine g_ifnullY X420 hx (hb hby d12_12) (by decide) (q := 45) (by decide) ?_
  refine g_aloadN X420 hx (hb hby d12_45) (v := (.ref t)) rfl rfl (q := 46) rfl ?_
  refine g_getF X420 hx hZ hown (hw _ (List.mem_of_getElem? (i := 47) rfl)) Via.refl e420 F0 (hb hby d12_46) (q := 49) rfl fun T421 X421 e421 => ?_
  refine g_astoreN X421 hx (hb hby d12_49) rfl (L' := #[.val (.ref t), .val (.ref a), .val (.int (-1 : Int32)), .val (.ref ma), .unset, .unset]) rfl (q := 50) rfl ?_
  refine g_aloadN X421 hx (hb hby d12_50) (v := (.ref a)) rfl rfl (q := 51) rfl ?_
  refine g_callV X421 hx hZ hown (hw _ (List.mem_of_getElem? (i := 75) rfl)) (hw _ (List.mem_of_getElem? (i := 76) rfl)) (hw _ (List.mem_of_getElem? (i := 78) rfl)) (hw _ (List.mem_of_getElem? (i := 79) rfl)) (hw _ (List.mem_of_getElem? (i := 80) rfl)) (hw _ (List.mem_of_getElem? (i := 2) rfl)) (own_nfO (args := #[]) (z := gcY) rfl (mvT hZ (hw _ (List.mem_of_getElem? (i := 138) rfl)))) (by decide) e421 SA.1 (rmSH l Z a0 hw a va ch cs hcs h0 n0 hga SC SA) (by exact hml.symm) (argsL := []) (rest := []) rfl rfl pd_8 rfl (Nat.le_of_ble_eq_true rfl) (Nat.le_of_ble_eq_true rfl) (Nat.le_of_ble_eq_true rfl) (Nat.le_of_ble_eq_true rfl) (hb hby d12_51) (q := 54) rfl (fun v422 T422 L422 X422 hQ422 => ?_)
  generalize e422 : T422.heap = h422 at hQ422
  obtain ⟨rfl, M422, K422, U422⟩ := hQ422
  have N422 := Fr.app (Fr.nil n0) M422
  have kp_422 := (Keep.refl h0 [a]).trans K422 (allS (P := fun x => x ∈ [a] ∨ h0.size ≤ x) (Or.inl (List.mem_of_getElem? (i := 0) rfl)) all0)
  have f423 := (E0.keep K422)
  have f424 := (F0.keep K422 (ninS (Ne.symm (Nat.ne_of_lt hat)) nin0))
  have f425 := (F1.keep K422 (ninS (Ne.symm (Nat.ne_of_lt hat)) nin0))
  have f426 := (F2.keep K422 (ninS (Ne.symm (Nat.ne_of_lt hat)) nin0))
  have f427 := (F3.keep K422 (ninS (Ne.symm (Nat.ne_of_lt hat)) nin0))
  have f428 := (F4.keep K422 (ninS (Ne.symm (Nat.ne_of_lt hat)) nin0))
  have f429 := (V0.keep K422 (ninS (Ne.symm (Nat.ne_of_lt (Nat.lt_trans hat tma))) nin0))
  have f430 := (O0.keep K422)
  have f431 := (A0.keep K422)
  have f432 := (V1.keep K422 (ninS (Ne.symm (Nat.ne_of_lt (Nat.lt_trans hat tha))) nin0))
  have f433 := (own_sta_keep SC K422 (nsS SA.1.nostat ns0))
  have f434 := (SA.1.keep K422)
  have f435 := (S0.keep K422 (ninS n0a nin0) (ninS m0a nin0))
  have f436 := (S1.keep K422 (ninS n1a nin0) (ninS m1a nin0))
  show Go p e below _ (T422.setTop (mkF m 54 #[.val (.ref t), .val (.ref a), .val (.int (-1 : Int32)), .val (.ref ma), .unset, .unset] [(.int ch)]))
  refine g_istore X422 hx (hb hby d12_54) (L' := #[.val (.ref t), .val (.ref a), .val (.int (-1 : Int32)), .val (.ref ma), .val (.int ch), .unset]) rfl (q := 56) rfl ?_
  refine g_iconst X422 hx (hb hby d12_56) (n := (0 : Int32)) (by decide) (q := 57) rfl ?_
  refine g_istore X422 hx (hb hby d12_57) (L' := #[.val (.ref t), .val (.ref a), .val (.int (-1 : Int32)), .val (.ref ma), .val (.int ch), .val (.int (0 : Int32))]) rfl (q := 59) rfl ?_
  refine g_iload X422 hx (hb hby d12_59) (v := (0 : Int32)) rfl (q := 61) rfl ?_
  refine g_aloadN X422 hx (hb hby d12_61) (v := (.ref t)) rfl rfl (q := 62) rfl ?_
  refine g_getF X422 hx hZ hown (hw _ (List.mem_of_getElem? (i := 57) rfl)) Via.refl e422 f426 (hb hby d12_62) (q := 65) rfl fun T437 X437 e437 => ?_
  refine g_icmp_ge X437 hx (hb hby d12_65) (by decide) (q := 106) (by decide) (q2 := 68) rfl (fun hb65_0 => absurd hb65_0 (by decide)) (fun hb65_0 => ?_)
  refine g_iloadN X437 hx (hb hby d12_68) (v := (-1 : Int32)) rfl (q := 69) rfl ?_
  refine g_if_ge X437 hx (hb hby d12_69) (by decide) (q := 106) (by decide) (q2 := 72) rfl (fun hb69_0 => absurd hb69_0 (by decide)) (fun hb69_0 => ?_)
  refine g_aloadN X437 hx (hb hby d12_72) (v := (.ref t)) rfl rfl (q := 73) rfl ?_
  refine g_getF X437 hx hZ hown (hw _ (List.mem_of_getElem? (i := 50) rfl)) Via.refl e437 f425 (hb hby d12_73) (q := 76) rfl fun T438 X438 e438 => ?_
  refine g_iload X438 hx (hb hby d12_76) (v := (0 : Int32)) rfl (q := 78) rfl ?_
  refine g_iaload X438 hx hZ e438 f432 (by decide) (by show 0 < r; omega) (v := (.int c0)) hh0 (hb hby d12_78) (q := 79) rfl ?_
  refine g_iload X438 hx (hb hby d12_79) (v := ch) rfl (q := 81) rfl ?_
  refine g_icmp_ne X438 hx (hb hby d12_81) (by decide) (q := 100) (by decide) (q2 := 84) rfl (fun hb81_0 => ?_) (fun hb81_0 => ?_)
  · refine g_iinc X438 hx (hb hby d12_100) (x := (0 : Int32)) rfl (z := (1 : Int32)) (by decide) (L' := #[.val (.ref t), .val (.ref a), .val (.int (-1 : Int32)), .val (.ref ma), .val (.int ch), .val (.int (1 : Int32))]) rfl (q := 103) rfl ?_
    refine g_goto X438 hx (hb hby d12_103) (by decide) (q := 59) (by decide) ?_
    refine g_iload X438 hx (hb hby d12_59) (v := (1 : Int32)) rfl (q := 61) rfl ?_
    refine g_aloadN X438 hx (hb hby d12_61) (v := (.ref t)) rfl rfl (q := 62) rfl ?_
    refine g_getF X438 hx hZ hown (hw _ (List.mem_of_getElem? (i := 57) rfl)) Via.refl e438 f426 (hb hby d12_62) (q := 65) rfl fun T439 X439 e439 => ?_
    refine g_icmp_ge X439 hx (hb hby d12_65) (by decide) (q := 106) (by decide) (q2 := 68) rfl (fun hb65_1 => absurd hb65_1 (by decide)) (fun hb65_1 => ?_)
    refine g_iloadN X439 hx (hb hby d12_68) (v := (-1 : Int32)) rfl (q := 69) rfl ?_
    refine g_if_ge X439 hx (hb hby d12_69) (by decide) (q := 106) (by decide) (q2 := 72) rfl (fun hb69_1 => absurd hb69_1 (by decide)) (fun hb69_1 => ?_)
    refine g_aloadN X439 hx (hb hby d12_72) (v := (.ref t)) rfl rfl (q := 73) rfl ?_
    refine g_getF X439 hx hZ hown (hw _ (List.mem_of_getElem? (i := 50) rfl)) Via.refl e439 f425 (hb hby d12_73) (q := 76) rfl fun T440 X440 e440 => ?_
    refine g_iload X440 hx (hb hby d12_76) (v := (1 : Int32)) rfl (q := 78) rfl ?_
    refine g_iaload X440 hx hZ e440 f432 (by decide) (by show 1 < r; omega) (v := (.int c1)) hh1 (hb hby d12_78) (q := 79) rfl ?_
    refine g_iload X440 hx (hb hby d12_79) (v := ch) rfl (q := 81) rfl ?_
    refine g_icmp_ne X440 hx (hb hby d12_81) (by decide) (q := 100) (by decide) (q2 := 84) rfl (fun hb81_1 => ?_) (fun hb81_1 => ?_)
    · refine g_iinc X440 hx (hb hby d12_100) (x := (1 : Int32)) rfl (z := (2 : Int32)) (by decide) (L' := #[.val (.ref t), .val (.ref a), .val (.int (-1 : Int32)), .val (.ref ma), .val (.int ch), .val (.int (2 : Int32))]) rfl (q := 103) rfl ?_
      refine g_goto X440 hx (hb hby d12_103) (by decide) (q := 59) (by decide) ?_
      refine g_iload X440 hx (hb hby d12_59) (v := (2 : Int32)) rfl (q := 61) rfl ?_
      refine g_aloadN X440 hx (hb hby d12_61) (v := (.ref t)) rfl rfl (q := 62) rfl ?_
      refine g_getF X440 hx hZ hown (hw _ (List.mem_of_getElem? (i := 57) rfl)) Via.refl e440 f426 (hb hby d12_62) (q := 65) rfl fun T441 X441 e441 => ?_
      refine g_icmp_ge X441 hx (hb hby d12_65) (by decide) (q := 106) (by decide) (q2 := 68) rfl (fun hb65_2 => ?_) (fun hb65_2 => absurd hb65_2 (by decide))
      refine g_iloadN X441 hx (hb hby d12_106) (v := (-1 : Int32)) rfl (q := 107) rfl ?_
      exact g_retI X441 hx hret hlk (hb hby d12_107) ⟨by rw [← hr, if_neg hb81_0, if_neg hb81_1], by simpa using N422, by rw [e441]; exact kp_422, by rw [e441]; exact U422⟩ (Nat.le_of_ble_eq_true rfl) (Nat.le_of_ble_eq_true rfl)
    · refine g_aloadN X440 hx (hb hby d12_84) (v := (.ref a)) rfl rfl (q := 85) rfl ?_
      refine g_aloadN X440 hx (hb hby d12_85) (v := (.ref ma)) rfl rfl (q := 86) rfl ?_
      refine g_iconst X440 hx (hb hby d12_86) (n := (2 : Int32)) (by decide) (q := 87) rfl ?_
      refine g_iload X440 hx (hb hby d12_87) (v := (1 : Int32)) rfl (q := 89) rfl ?_
      refine g_imul X440 hx (hb hby d12_89) (z := (2 : Int32)) (by decide) (q := 90) rfl ?_
      refine g_aaload X440 hx hZ e440 f429 rfl (by decide) (by show 2 < 2 * r; omega) (v := (.ref s1)) hm1 (hb hby d12_90) (q := 91) rfl ?_
      refine g_callV X440 hx hZ hown (hw _ (List.mem_of_getElem? (i := 171) rfl)) (hw _ (List.mem_of_getElem? (i := 172) rfl)) (hw _ (List.mem_of_getElem? (i := 174) rfl)) (hw _ (List.mem_of_getElem? (i := 175) rfl)) (hw _ (List.mem_of_getElem? (i := 176) rfl)) (hw _ (List.mem_of_getElem? (i := 2) rfl)) (own_nfO (args := #[]) (z := gcY) rfl (mvT hZ (hw _ (List.mem_of_getElem? (i := 138) rfl)))) (by decide) e440 f434 (rmSE l Z a0 hw a va s1 v1 ch cs (Ne.symm n1a) hcs h422 f433 U422 (hb81_1 ▸ f436)) (by exact hml.symm) (argsL := [(.ref s1)]) (rest := []) rfl rfl pd_9 rfl (Nat.le_of_ble_eq_true rfl) (Nat.le_of_ble_eq_true rfl) (Nat.le_of_ble_eq_true rfl) (Nat.le_of_ble_eq_true rfl) (hb hby d12_91) (q := 94) rfl (g_pure rfl rfl fun T442 X442 e442 => ?_)
      show Go p e below _ (T442.setTop (mkF m 94 #[.val (.ref t), .val (.ref a), .val (.int (-1 : Int32)), .val (.ref ma), .val (.int ch), .val (.int (1 : Int32))] [(.int (1 : Int32))]))
      refine g_if_eq X442 hx (hb hby d12_94) (by decide) (q := 100) (by decide) (q2 := 97) rfl (fun hb94_1 => absurd hb94_1 (by decide)) (fun hb94_1 => ?_)
      refine g_iload X442 hx (hb hby d12_97) (v := (1 : Int32)) rfl (q := 99) rfl ?_
      refine g_istoreN X442 hx (hb hby d12_99) (L' := #[.val (.ref t), .val (.ref a), .val (.int (1 : Int32)), .val (.ref ma), .val (.int ch), .val (.int (1 : Int32))]) rfl (q := 100) rfl ?_
      refine g_iinc X442 hx (hb hby d12_100) (x := (1 : Int32)) rfl (z := (2 : Int32)) (by decide) (L' := #[.val (.ref t), .val (.ref a), .val (.int (1 : Int32)), .val (.ref ma), .val (.int ch), .val (.int (2 : Int32))]) rfl (q := 103) rfl ?_
      refine g_goto X442 hx (hb hby d12_103) (by decide) (q := 59) (by decide) ?_
      refine g_iload X442 hx (hb hby d12_59) (v := (2 : Int32)) rfl (q := 61) rfl ?_
      refine g_aloadN X442 hx (hb hby d12_61) (v := (.ref t)) rfl rfl (q := 62) rfl ?_
      refine g_getF X442 hx hZ hown (hw _ (List.mem_of_getElem? (i := 57) rfl)) Via.refl e442 f426 (hb hby d12_62) (q := 65) rfl fun T443 X443 e443 => ?_
      refine g_icmp_ge X443 hx (hb hby d12_65) (by decide) (q := 106) (by decide) (q2 := 68) rfl (fun hb65_2 => ?_) (fun hb65_2 => absurd hb65_2 (by decide))
      refine g_iloadN X443 hx (hb hby d12_106) (v := (1 : Int32)) rfl (q := 107) rfl ?_
      exact g_retI X443 hx hret hlk (hb hby d12_107) ⟨by rw [← hr, if_neg hb81_0, if_pos hb81_1], by simpa using N422, by rw [e443]; exact kp_422, by rw [e443]; exact U422⟩ (Nat.le_of_ble_eq_true rfl) (Nat.le_of_ble_eq_true rfl)
  · refine g_aloadN X438 hx (hb hby d12_84) (v := (.ref a)) rfl rfl (q := 85) rfl ?_
    refine g_aloadN X438 hx (hb hby d12_85) (v := (.ref ma)) rfl rfl (q := 86) rfl ?_
    refine g_iconst X438 hx (hb hby d12_86) (n := (2 : Int32)) (by decide) (q := 87) rfl ?_
    refine g_iload X438 hx (hb hby d12_87) (v := (0 : Int32)) rfl (q := 89) rfl ?_
    refine g_imul X438 hx (hb hby d12_89) (z := (0 : Int32)) (by decide) (q := 90) rfl ?_
    refine g_aaload X438 hx hZ e438 f429 rfl (by decide) (by show 0 < 2 * r; omega) (v := (.ref s0)) hm0 (hb hby d12_90) (q := 91) rfl ?_
    refine g_callV X438 hx hZ hown (hw _ (List.mem_of_getElem? (i := 171) rfl)) (hw _ (List.mem_of_getElem? (i := 172) rfl)) (hw _ (List.mem_of_getElem? (i := 174) rfl)) (hw _ (List.mem_of_getElem? (i := 175) rfl)) (hw _ (List.mem_of_getElem? (i := 176) rfl)) (hw _ (List.mem_of_getElem? (i := 2) rfl)) (own_nfO (args := #[]) (z := gcY) rfl (mvT hZ (hw _ (List.mem_of_getElem? (i := 138) rfl)))) (by decide) e438 f434 (rmSE l Z a0 hw a va s0 v0 ch cs (Ne.symm n0a) hcs h422 f433 U422 (hb81_0 ▸ f435)) (by exact hml.symm) (argsL := [(.ref s0)]) (rest := []) rfl rfl pd_9 rfl (Nat.le_of_ble_eq_true rfl) (Nat.le_of_ble_eq_true rfl) (Nat.le_of_ble_eq_true rfl) (Nat.le_of_ble_eq_true rfl) (hb hby d12_91) (q := 94) rfl (g_pure rfl rfl fun T444 X444 e444 => ?_)
    show Go p e below _ (T444.setTop (mkF m 94 #[.val (.ref t), .val (.ref a), .val (.int (-1 : Int32)), .val (.ref ma), .val (.int ch), .val (.int (0 : Int32))] [(.int (1 : Int32))]))
    refine g_if_eq X444 hx (hb hby d12_94) (by decide) (q := 100) (by decide) (q2 := 97) rfl (fun hb94_0 => absurd hb94_0 (by decide)) (fun hb94_0 => ?_)
    refine g_iload X444 hx (hb hby d12_97) (v := (0 : Int32)) rfl (q := 99) rfl ?_
    refine g_istoreN X444 hx (hb hby d12_99) (L' := #[.val (.ref t), .val (.ref a), .val (.int (0 : Int32)), .val (.ref ma), .val (.int ch), .val (.int (0 : Int32))]) rfl (q := 100) rfl ?_
    refine g_iinc X444 hx (hb hby d12_100) (x := (0 : Int32)) rfl (z := (1 : Int32)) (by decide) (L' := #[.val (.ref t), .val (.ref a), .val (.int (0 : Int32)), .val (.ref ma), .val (.int ch), .val (.int (1 : Int32))]) rfl (q := 103) rfl ?_
    refine g_goto X444 hx (hb hby d12_103) (by decide) (q := 59) (by decide) ?_
    refine g_iload X444 hx (hb hby d12_59) (v := (1 : Int32)) rfl (q := 61) rfl ?_
    refine g_aloadN X444 hx (hb hby d12_61) (v := (.ref t)) rfl rfl (q := 62) rfl ?_
    refine g_getF X444 hx hZ hown (hw _ (List.mem_of_getElem? (i := 57) rfl)) Via.refl e444 f426 (hb hby d12_62) (q := 65) rfl fun T445 X445 e445 => ?_
    refine g_icmp_ge X445 hx (hb hby d12_65) (by decide) (q := 106) (by decide) (q2 := 68) rfl (fun hb65_1 => absurd hb65_1 (by decide)) (fun hb65_1 => ?_)
    refine g_iloadN X445 hx (hb hby d12_68) (v := (0 : Int32)) rfl (q := 69) rfl ?_
    refine g_if_ge X445 hx (hb hby d12_69) (by decide) (q := 106) (by decide) (q2 := 72) rfl (fun hb69_1 => ?_) (fun hb69_1 => absurd hb69_1 (by decide))
    refine g_iloadN X445 hx (hb hby d12_106) (v := (0 : Int32)) rfl (q := 107) rfl ?_
    exact g_retI X445 hx hret hlk (hb hby d12_107) ⟨by rw [← hr, if_pos hb81_0], by simpa using N422, by rw [e445]; exact kp_422, by rw [e445]; exact U422⟩ (Nat.le_of_ble_eq_true rfl) (Nat.le_of_ble_eq_true rfl)
theorem d17_0 : decode jdk_31_method_11_code 0 = .ok (.aload_n 0, 1) := by decide +kernel
theorem d17_1 : decode jdk_31_method_11_code 1 = .ok (.ifnonnull 12, 3) := by decide +kernel
theorem d17_13 : decode jdk_31_method_11_code 13 = .ok (.aload_n 0, 1) := by decide +kernel
theorem d17_14 : decode jdk_31_method_11_code 14 = .ok (.areturn, 1) := by decide +kernel
set_option maxRecDepth 65536 in
set_option maxHeartbeats 40000000 in
theorem rmRN (l : Launch) (Z : State) (a0 : Array Value) (hw : ∀ d ∈ tables_1, d.before a0 Z = true) (a b : Addr) (h0 : Heap) :
    Con l Z h0 (⟨"java/util/Objects", "requireNonNull", "(Ljava/lang/Object;Ljava/lang/String;)Ljava/lang/Object;"⟩ : MethodName) jdk_31_method_11_code 2 (some (.object "java/lang/Object")) ({ frames := 0, cells := 0, slots := 0, locals := 0 } : Room) #[(.ref a), (.ref b)] (Pur (some (.ref a)) h0) := by
  refine con_of (plainFor_of_name pn_6) (Ls := #[.val (.ref a), .val (.ref b)]) (fun m => by first | (simp [entryFrame, mkF, argsToLocals, Value.category]; done) | rfl) ?_
  intro p e s m below meth c s₁ hx hZ hby hml hret hlk hnm hown X0 e0
  refine g_aloadN X0 hx (hb hby d17_0) (v := (.ref a)) rfl rfl (q := 1) rfl ?_
  refine g_ifnonnullY X0 hx (hb hby d17_1) (by decide) (q := 13) (by decide) ?_
  refine g_aloadN X0 hx (hb hby d17_13) (v := (.ref a)) rfl rfl (q := 14) rfl ?_
  exact g_retA X0 hx hret hlk (hb hby d17_14) rfl rfl rfl ⟨rfl, rfl, e0⟩ (Nat.le_of_ble_eq_true rfl) (Nat.le_of_ble_eq_true rfl)
theorem d22_0 : decode jdk_29_method_65_code 0 = .ok (.iload_n 0, 1) := by decide +kernel
theorem d22_1 : decode jdk_29_method_65_code 1 = .ok (.iload_n 1, 1) := by decide +kernel
theorem d22_2 : decode jdk_29_method_65_code 2 = .ok (.if_icmp .lt 7, 3) := by decide +kernel
theorem d22_5 : decode jdk_29_method_65_code 5 = .ok (.iload_n 0, 1) := by decide +kernel
theorem d22_6 : decode jdk_29_method_65_code 6 = .ok (.goto 4, 3) := by decide +kernel
theorem d22_10 : decode jdk_29_method_65_code 10 = .ok (.ireturn, 1) := by decide +kernel
set_option maxRecDepth 65536 in
set_option maxHeartbeats 40000000 in
theorem rm_max_4_0 (l : Launch) (Z : State) (a0 : Array Value) (hw : ∀ d ∈ tables_1, d.before a0 Z = true) (h0 : Heap) :
    Con l Z h0 (⟨"java/lang/Math", "max", "(II)I"⟩ : MethodName) jdk_29_method_65_code 2 (some .int) ({ frames := 0, cells := 0, slots := 0, locals := 0 } : Room) #[(.int (4 : Int32)), (.int (0 : Int32))] (Pur (some (.int (4 : Int32))) h0) := by
  refine con_of (Jvm.Free.JP.mathPlain rfl (by decide +kernel)) (Ls := #[.val (.int (4 : Int32)), .val (.int (0 : Int32))]) (fun m => by first | (simp [entryFrame, mkF, argsToLocals, Value.category]; done) | rfl) ?_
  intro p e s m below meth c s₁ hx hZ hby hml hret hlk hnm hown X0 e0
  refine g_iloadN X0 hx (hb hby d22_0) (v := (4 : Int32)) rfl (q := 1) rfl ?_
  refine g_iloadN X0 hx (hb hby d22_1) (v := (0 : Int32)) rfl (q := 2) rfl ?_
  refine g_icmp_lt X0 hx (hb hby d22_2) (by decide) (q := 9) (by decide) (q2 := 5) rfl (fun hb2 => absurd hb2 (by decide)) (fun hb2 => ?_)
  refine g_iloadN X0 hx (hb hby d22_5) (v := (4 : Int32)) rfl (q := 6) rfl ?_
  refine g_goto X0 hx (hb hby d22_6) (by decide) (q := 10) (by decide) ?_
  exact g_retI X0 hx hret hlk (hb hby d22_10) ⟨rfl, rfl, e0⟩ (Nat.le_of_ble_eq_true rfl) (Nat.le_of_ble_eq_true rfl)
set_option maxRecDepth 65536 in
set_option maxHeartbeats 40000000 in
theorem rm_max_4_2 (l : Launch) (Z : State) (a0 : Array Value) (hw : ∀ d ∈ tables_1, d.before a0 Z = true) (h0 : Heap) :
    Con l Z h0 (⟨"java/lang/Math", "max", "(II)I"⟩ : MethodName) jdk_29_method_65_code 2 (some .int) ({ frames := 0, cells := 0, slots := 0, locals := 0 } : Room) #[(.int (4 : Int32)), (.int (2 : Int32))] (Pur (some (.int (4 : Int32))) h0) := by
  refine con_of (Jvm.Free.JP.mathPlain rfl (by decide +kernel)) (Ls := #[.val (.int (4 : Int32)), .val (.int (2 : Int32))]) (fun m => by first | (simp [entryFrame, mkF, argsToLocals, Value.category]; done) | rfl) ?_
  intro p e s m below meth c s₁ hx hZ hby hml hret hlk hnm hown X0 e0
  refine g_iloadN X0 hx (hb hby d22_0) (v := (4 : Int32)) rfl (q := 1) rfl ?_
  refine g_iloadN X0 hx (hb hby d22_1) (v := (2 : Int32)) rfl (q := 2) rfl ?_
  refine g_icmp_lt X0 hx (hb hby d22_2) (by decide) (q := 9) (by decide) (q2 := 5) rfl (fun hb2 => absurd hb2 (by decide)) (fun hb2 => ?_)
  refine g_iloadN X0 hx (hb hby d22_5) (v := (4 : Int32)) rfl (q := 6) rfl ?_
  refine g_goto X0 hx (hb hby d22_6) (by decide) (q := 10) (by decide) ?_
  exact g_retI X0 hx hret hlk (hb hby d22_10) ⟨rfl, rfl, e0⟩ (Nat.le_of_ble_eq_true rfl) (Nat.le_of_ble_eq_true rfl)
theorem d25_0 : decode jdk_29_method_69_code 0 = .ok (.iload_n 0, 1) := by decide +kernel
theorem d25_1 : decode jdk_29_method_69_code 1 = .ok (.iload_n 1, 1) := by decide +kernel
theorem d25_2 : decode jdk_29_method_69_code 2 = .ok (.if_icmp .gt 7, 3) := by decide +kernel
theorem d25_5 : decode jdk_29_method_69_code 5 = .ok (.iload_n 0, 1) := by decide +kernel
theorem d25_6 : decode jdk_29_method_69_code 6 = .ok (.goto 4, 3) := by decide +kernel
theorem d25_10 : decode jdk_29_method_69_code 10 = .ok (.ireturn, 1) := by decide +kernel
set_option maxRecDepth 65536 in
set_option maxHeartbeats 40000000 in
theorem rm_min_0_8 (l : Launch) (Z : State) (a0 : Array Value) (hw : ∀ d ∈ tables_1, d.before a0 Z = true) (h0 : Heap) :
    Con l Z h0 (⟨"java/lang/Math", "min", "(II)I"⟩ : MethodName) jdk_29_method_69_code 2 (some .int) ({ frames := 0, cells := 0, slots := 0, locals := 0 } : Room) #[(.int (0 : Int32)), (.int (8 : Int32))] (Pur (some (.int (0 : Int32))) h0) := by
  refine con_of (Jvm.Free.JP.mathPlain rfl (by decide +kernel)) (Ls := #[.val (.int (0 : Int32)), .val (.int (8 : Int32))]) (fun m => by first | (simp [entryFrame, mkF, argsToLocals, Value.category]; done) | rfl) ?_
  intro p e s m below meth c s₁ hx hZ hby hml hret hlk hnm hown X0 e0
  refine g_iloadN X0 hx (hb hby d25_0) (v := (0 : Int32)) rfl (q := 1) rfl ?_
  refine g_iloadN X0 hx (hb hby d25_1) (v := (8 : Int32)) rfl (q := 2) rfl ?_
  refine g_icmp_gt X0 hx (hb hby d25_2) (by decide) (q := 9) (by decide) (q2 := 5) rfl (fun hb2 => absurd hb2 (by decide)) (fun hb2 => ?_)
  refine g_iloadN X0 hx (hb hby d25_5) (v := (0 : Int32)) rfl (q := 6) rfl ?_
  refine g_goto X0 hx (hb hby d25_6) (by decide) (q := 10) (by decide) ?_
  exact g_retI X0 hx hret hlk (hb hby d25_10) ⟨rfl, rfl, e0⟩ (Nat.le_of_ble_eq_true rfl) (Nat.le_of_ble_eq_true rfl)
set_option maxRecDepth 65536 in
set_option maxHeartbeats 40000000 in
theorem rm_min_2_8 (l : Launch) (Z : State) (a0 : Array Value) (hw : ∀ d ∈ tables_1, d.before a0 Z = true) (h0 : Heap) :
    Con l Z h0 (⟨"java/lang/Math", "min", "(II)I"⟩ : MethodName) jdk_29_method_69_code 2 (some .int) ({ frames := 0, cells := 0, slots := 0, locals := 0 } : Room) #[(.int (2 : Int32)), (.int (8 : Int32))] (Pur (some (.int (2 : Int32))) h0) := by
  refine con_of (Jvm.Free.JP.mathPlain rfl (by decide +kernel)) (Ls := #[.val (.int (2 : Int32)), .val (.int (8 : Int32))]) (fun m => by first | (simp [entryFrame, mkF, argsToLocals, Value.category]; done) | rfl) ?_
  intro p e s m below meth c s₁ hx hZ hby hml hret hlk hnm hown X0 e0
  refine g_iloadN X0 hx (hb hby d25_0) (v := (2 : Int32)) rfl (q := 1) rfl ?_
  refine g_iloadN X0 hx (hb hby d25_1) (v := (8 : Int32)) rfl (q := 2) rfl ?_
  refine g_icmp_gt X0 hx (hb hby d25_2) (by decide) (q := 9) (by decide) (q2 := 5) rfl (fun hb2 => absurd hb2 (by decide)) (fun hb2 => ?_)
  refine g_iloadN X0 hx (hb hby d25_5) (v := (2 : Int32)) rfl (q := 6) rfl ?_
  refine g_goto X0 hx (hb hby d25_6) (by decide) (q := 10) (by decide) ?_
  exact g_retI X0 hx hret hlk (hb hby d25_10) ⟨rfl, rfl, e0⟩ (Nat.le_of_ble_eq_true rfl) (Nat.le_of_ble_eq_true rfl)
set_option maxRecDepth 65536 in
set_option maxHeartbeats 40000000 in
theorem rm_min_0_4 (l : Launch) (Z : State) (a0 : Array Value) (hw : ∀ d ∈ tables_1, d.before a0 Z = true) (h0 : Heap) :
    Con l Z h0 (⟨"java/lang/Math", "min", "(II)I"⟩ : MethodName) jdk_29_method_69_code 2 (some .int) ({ frames := 0, cells := 0, slots := 0, locals := 0 } : Room) #[(.int (0 : Int32)), (.int (4 : Int32))] (Pur (some (.int (0 : Int32))) h0) := by
  refine con_of (Jvm.Free.JP.mathPlain rfl (by decide +kernel)) (Ls := #[.val (.int (0 : Int32)), .val (.int (4 : Int32))]) (fun m => by first | (simp [entryFrame, mkF, argsToLocals, Value.category]; done) | rfl) ?_
  intro p e s m below meth c s₁ hx hZ hby hml hret hlk hnm hown X0 e0
  refine g_iloadN X0 hx (hb hby d25_0) (v := (0 : Int32)) rfl (q := 1) rfl ?_
  refine g_iloadN X0 hx (hb hby d25_1) (v := (4 : Int32)) rfl (q := 2) rfl ?_
  refine g_icmp_gt X0 hx (hb hby d25_2) (by decide) (q := 9) (by decide) (q2 := 5) rfl (fun hb2 => absurd hb2 (by decide)) (fun hb2 => ?_)
  refine g_iloadN X0 hx (hb hby d25_5) (v := (0 : Int32)) rfl (q := 6) rfl ?_
  refine g_goto X0 hx (hb hby d25_6) (by decide) (q := 10) (by decide) ?_
  exact g_retI X0 hx hret hlk (hb hby d25_10) ⟨rfl, rfl, e0⟩ (Nat.le_of_ble_eq_true rfl) (Nat.le_of_ble_eq_true rfl)
set_option maxRecDepth 65536 in
set_option maxHeartbeats 40000000 in
theorem rm_min_1_4 (l : Launch) (Z : State) (a0 : Array Value) (hw : ∀ d ∈ tables_1, d.before a0 Z = true) (h0 : Heap) :
    Con l Z h0 (⟨"java/lang/Math", "min", "(II)I"⟩ : MethodName) jdk_29_method_69_code 2 (some .int) ({ frames := 0, cells := 0, slots := 0, locals := 0 } : Room) #[(.int (1 : Int32)), (.int (4 : Int32))] (Pur (some (.int (1 : Int32))) h0) := by
  refine con_of (Jvm.Free.JP.mathPlain rfl (by decide +kernel)) (Ls := #[.val (.int (1 : Int32)), .val (.int (4 : Int32))]) (fun m => by first | (simp [entryFrame, mkF, argsToLocals, Value.category]; done) | rfl) ?_
  intro p e s m below meth c s₁ hx hZ hby hml hret hlk hnm hown X0 e0
  refine g_iloadN X0 hx (hb hby d25_0) (v := (1 : Int32)) rfl (q := 1) rfl ?_
  refine g_iloadN X0 hx (hb hby d25_1) (v := (4 : Int32)) rfl (q := 2) rfl ?_
  refine g_icmp_gt X0 hx (hb hby d25_2) (by decide) (q := 9) (by decide) (q2 := 5) rfl (fun hb2 => absurd hb2 (by decide)) (fun hb2 => ?_)
  refine g_iloadN X0 hx (hb hby d25_5) (v := (1 : Int32)) rfl (q := 6) rfl ?_
  refine g_goto X0 hx (hb hby d25_6) (by decide) (q := 10) (by decide) ?_
  exact g_retI X0 hx hret hlk (hb hby d25_10) ⟨rfl, rfl, e0⟩ (Nat.le_of_ble_eq_true rfl) (Nat.le_of_ble_eq_true rfl)
theorem d24_0 : decode jdk_65_method_120_code 0 = .ok (.aload_n 2, 1) := by decide +kernel
theorem d24_1 : decode jdk_65_method_120_code 1 = .ok (.ldc 110, 2) := by decide +kernel
theorem d24_3 : decode jdk_65_method_120_code 3 = .ok (.if_acmp .ne 10, 3) := by decide +kernel
theorem d24_6 : decode jdk_65_method_120_code 6 = .ok (.iload_n 1, 1) := by decide +kernel
theorem d24_7 : decode jdk_65_method_120_code 7 = .ok (.anewarray 2, 3) := by decide +kernel
theorem d24_10 : decode jdk_65_method_120_code 10 = .ok (.goto 14, 3) := by decide +kernel
theorem d24_24 : decode jdk_65_method_120_code 24 = .ok (.astore_n 3, 1) := by decide +kernel
theorem d24_25 : decode jdk_65_method_120_code 25 = .ok (.aload_n 0, 1) := by decide +kernel
theorem d24_26 : decode jdk_65_method_120_code 26 = .ok (.iconst 0, 1) := by decide +kernel
theorem d24_27 : decode jdk_65_method_120_code 27 = .ok (.aload_n 3, 1) := by decide +kernel
theorem d24_28 : decode jdk_65_method_120_code 28 = .ok (.iconst 0, 1) := by decide +kernel
theorem d24_29 : decode jdk_65_method_120_code 29 = .ok (.aload_n 0, 1) := by decide +kernel
theorem d24_30 : decode jdk_65_method_120_code 30 = .ok (.arraylength, 1) := by decide +kernel
theorem d24_31 : decode jdk_65_method_120_code 31 = .ok (.iload_n 1, 1) := by decide +kernel
theorem d24_32 : decode jdk_65_method_120_code 32 = .ok (.invokestatic 304, 3) := by decide +kernel
theorem d24_35 : decode jdk_65_method_120_code 35 = .ok (.invokestatic 150, 3) := by decide +kernel
theorem d24_38 : decode jdk_65_method_120_code 38 = .ok (.aload_n 3, 1) := by decide +kernel
theorem d24_39 : decode jdk_65_method_120_code 39 = .ok (.areturn, 1) := by decide +kernel
set_option maxRecDepth 65536 in
set_option maxHeartbeats 40000000 in
theorem rmC3_0 (l : Launch) (Z : State) (a0 : Array Value) (hw : ∀ d ∈ tables_1, d.before a0 Z = true) (ma mr : Addr) (f : Nat → Value) (h0 : Heap) (n0 : Nat) (Z0 : n0 ≤ h0.size) (MR : Mr Z "[Ljava/lang/Object;" mr) (V0 : Af Z h0 ma (.object "java/lang/Object") 0 f) :
    Con l Z h0 (⟨"java/util/Arrays", "copyOf", "([Ljava/lang/Object;ILjava/lang/Class;)[Ljava/lang/Object;"⟩ : MethodName) jdk_65_method_120_code 4 (some (.array (.object "java/lang/Object"))) ({ frames := 1, cells := 1, slots := 8, locals := 22 } : Room) #[(.ref ma), (.int (8 : Int32)), (.ref mr)] (fun v h L => ∃ nb, v = some (.ref nb) ∧ Fr n0 L ∧ Keep h0 h [] ∧ h0.size ≤ nb ∧ Exa Z h nb "[Ljava/lang/Object;" ∧ Ov Z h nb "java/lang/Object" ∧ Af Z h nb (.object "java/lang/Object") 8 (fun _ => .null)) := by
  refine con_of (plainFor_of_name pn_7) (Ls := #[.val (.ref ma), .val (.int (8 : Int32)), .val (.ref mr), .unset]) (fun m => by first | (simp [entryFrame, mkF, argsToLocals, Value.category]; done) | rfl) ?_
  intro p e s m below meth c s₁ hx hZ hby hml hret hlk hnm hown X0 e0
  refine g_aloadN X0 hx (hb hby d24_0) (v := (.ref mr)) rfl rfl (q := 1) rfl ?_
  refine g_ldcC X0 hx hZ hown (hw _ (List.mem_of_getElem? (i := 144) rfl)) e0 MR (hb hby d24_1) (q := 3) rfl fun T446 X446 e446 => ?_
  refine g_acmpNe X446 hx rfl rfl (hb hby d24_3) (by decide) (q := 13) (by decide) (q2 := 6) rfl (fun hb3 => absurd hb3 (by simp)) (fun hb3 => ?_)
  refine g_iloadN X446 hx (hb hby d24_6) (v := (8 : Int32)) rfl (q := 7) rfl ?_
  refine g_newRE X446 hx hZ hown (hw _ (List.mem_of_getElem? (i := 145) rfl)) (hw _ (List.mem_of_getElem? (i := 46) rfl)) e446 (hb hby d24_7) (z := (8 : Int32)) (by decide) (cap := 8) (Nat.le_of_ble_eq_true rfl) (by decide) (Nat.le_of_ble_eq_true rfl) (Nat.le_of_ble_eq_true rfl) (ad := "[Ljava/lang/Object;") (by decide) (q := 10) rfl fun T447 h447 c447 nb g447 X447 e447 E447 A447 O447 D447 => ?_
  have ne_ma_nb : ma ≠ nb := Nat.ne_of_lt (Nat.lt_of_lt_of_le V0.lt (Nat.le_of_eq g447.symm))
  have ge_nb : n0 ≤ nb := Nat.le_trans Z0 (Nat.le_of_eq g447.symm)
  have sz_nb : h0.size ≤ nb := Nat.le_trans (Keep.refl h0 []).1 (Nat.le_of_eq g447.symm)
  have z_447 := Nat.le_trans Z0 E447.1
  have kp_447 := (Keep.refl h0 []).ext E447
  have f448 := (V0.ext E447)
  have V447 : Af Z h447 nb (.object "java/lang/Object") 8 (fun _ => .null) := Af.fresh A447
  have Q447 := Ov.fresh A447 O447
  refine g_goto X447 hx (hb hby d24_10) (by decide) (q := 24) (by decide) ?_
  refine g_astoreN X447 hx (hb hby d24_24) rfl (L' := #[.val (.ref ma), .val (.int (8 : Int32)), .val (.ref mr), .val (.ref nb)]) rfl (q := 25) rfl ?_
  refine g_aloadN X447 hx (hb hby d24_25) (v := (.ref ma)) rfl rfl (q := 26) rfl ?_
  refine g_iconst X447 hx (hb hby d24_26) (n := (0 : Int32)) (by decide) (q := 27) rfl ?_
  refine g_aloadN X447 hx (hb hby d24_27) (v := (.ref nb)) rfl rfl (q := 28) rfl ?_
  refine g_iconst X447 hx (hb hby d24_28) (n := (0 : Int32)) (by decide) (q := 29) rfl ?_
  refine g_aloadN X447 hx (hb hby d24_29) (v := (.ref ma)) rfl rfl (q := 30) rfl ?_
  refine g_len X447 hx hZ e447 f448 (z := (0 : Int32)) rfl (hb hby d24_30) (q := 31) rfl ?_
  refine g_iloadN X447 hx (hb hby d24_31) (v := (8 : Int32)) rfl (q := 32) rfl ?_
  refine g_callS X447 hx hZ hown (hw _ (List.mem_of_getElem? (i := 146) rfl)) (hw _ (List.mem_of_getElem? (i := 147) rfl)) (hw _ (List.mem_of_getElem? (i := 130) rfl)) (hw _ (List.mem_of_getElem? (i := 148) rfl)) (by decide) e447 (rm_min_0_8 l Z a0 hw h447) (by exact hml.symm) (argsL := [(.int (0 : Int32)), (.int (8 : Int32))]) (rest := [(.int (0 : Int32)), (.ref nb), (.int (0 : Int32)), (.ref ma)]) rfl rfl pd_10 rfl (Nat.le_of_ble_eq_true rfl) (Nat.le_of_ble_eq_true rfl) (Nat.le_of_ble_eq_true rfl) (Nat.le_of_ble_eq_true rfl) (hb hby d24_32) (q := 35) rfl (g_pure rfl rfl fun T449 X449 e449 => ?_)
  show Go p e below _ (T449.setTop (mkF m 35 #[.val (.ref ma), .val (.int (8 : Int32)), .val (.ref mr), .val (.ref nb)] [(.int (0 : Int32)), (.int (0 : Int32)), (.ref nb), (.int (0 : Int32)), (.ref ma)]))
  refine g_cp X449 hx hZ hown (hw _ (List.mem_of_getElem? (i := 149) rfl)) (hw _ (List.mem_of_getElem? (i := 152) rfl)) (hw _ (List.mem_of_getElem? (i := 150) rfl)) (hw _ (List.mem_of_getElem? (i := 151) rfl)) e449 f448 V447 (by decide) (by decide) (by decide) (by decide) (by decide) (fun i hi => absurd hi (Nat.not_lt_zero _)) hml.symm (hb hby d24_35) (Nat.le_of_ble_eq_true rfl) (Nat.le_of_ble_eq_true rfl) (q := 38) rfl fun T450 h450 L450 B450 X450 e450 K450 U450 => ?_
  have N450 := Fr.app (Fr.nil n0) (fun y hy => by rw [B450 y hy]; exact ge_nb : Fr n0 L450)
  have z_450 := Nat.le_trans z_447 K450.1
  have kp_450 := kp_447.trans K450 (allS (P := fun x => x ∈ [] ∨ h0.size ≤ x) (Or.inr sz_nb) all0)
  have f451 := (f448.keep K450 (ninS ne_ma_nb nin0))
  have f452 := (Q447.keep K450)
  have f453 := (D447.keep K450)
  have V450 := U450.congr (g := (fun _ => .null)) (fun i hi => by
        match i, hi with
        | 0, _ => rfl
        | 1, _ => rfl
        | 2, _ => rfl
        | 3, _ => rfl
        | 4, _ => rfl
        | 5, _ => rfl
        | 6, _ => rfl
        | 7, _ => rfl)
  refine g_aloadN X450 hx (hb hby d24_38) (v := (.ref nb)) rfl rfl (q := 39) rfl ?_
  exact g_retA X450 hx hret hlk (hb hby d24_39) rfl rfl rfl ⟨nb, rfl, by simpa using N450, by rw [e450]; exact kp_450, sz_nb, by rw [e450]; exact f453, by rw [e450]; exact f452, by rw [e450]; exact V450⟩ (Nat.le_of_ble_eq_true rfl) (Nat.le_of_ble_eq_true rfl)
theorem d23_0 : decode jdk_65_method_119_code 0 = .ok (.aload_n 0, 1) := by decide +kernel
theorem d23_1 : decode jdk_65_method_119_code 1 = .ok (.iload_n 1, 1) := by decide +kernel
theorem d23_2 : decode jdk_65_method_119_code 2 = .ok (.aload_n 0, 1) := by decide +kernel
theorem d23_3 : decode jdk_65_method_119_code 3 = .ok (.invokevirtual 86, 3) := by decide +kernel
theorem d23_6 : decode jdk_65_method_119_code 6 = .ok (.invokestatic 300, 3) := by decide +kernel
theorem d23_9 : decode jdk_65_method_119_code 9 = .ok (.areturn, 1) := by decide +kernel
set_option maxRecDepth 65536 in
set_option maxHeartbeats 40000000 in
theorem rmC2_0 (l : Launch) (Z : State) (a0 : Array Value) (hw : ∀ d ∈ tables_1, d.before a0 Z = true) (ma mr : Addr) (f : Nat → Value) (h0 : Heap) (n0 : Nat) (Z0 : n0 ≤ h0.size) (MR : Mr Z "[Ljava/lang/Object;" mr) (V0 : Af Z h0 ma (.object "java/lang/Object") 0 f) (A0 : Exa Z h0 ma "[Ljava/lang/Object;") :
    Con l Z h0 (⟨"java/util/Arrays", "copyOf", "([Ljava/lang/Object;I)[Ljava/lang/Object;"⟩ : MethodName) jdk_65_method_119_code 2 (some (.array (.object "java/lang/Object"))) ({ frames := 2, cells := 1, slots := 8, locals := 40 } : Room) #[(.ref ma), (.int (8 : Int32))] (fun v h L => ∃ nb, v = some (.ref nb) ∧ Fr n0 L ∧ Keep h0 h [] ∧ h0.size ≤ nb ∧ Exa Z h nb "[Ljava/lang/Object;" ∧ Ov Z h nb "java/lang/Object" ∧ Af Z h nb (.object "java/lang/Object") 8 (fun _ => .null)) := by
  refine con_of (plainFor_of_name pn_7) (Ls := #[.val (.ref ma), .val (.int (8 : Int32))]) (fun m => by first | (simp [entryFrame, mkF, argsToLocals, Value.category]; done) | rfl) ?_
  intro p e s m below meth c s₁ hx hZ hby hml hret hlk hnm hown X0 e0
  refine g_aloadN X0 hx (hb hby d23_0) (v := (.ref ma)) rfl rfl (q := 1) rfl ?_
  refine g_iloadN X0 hx (hb hby d23_1) (v := (8 : Int32)) rfl (q := 2) rfl ?_
  refine g_aloadN X0 hx (hb hby d23_2) (v := (.ref ma)) rfl rfl (q := 3) rfl ?_
  refine g_gcls X0 hx hZ hown (hw _ (List.mem_of_getElem? (i := 135) rfl)) (hw _ (List.mem_of_getElem? (i := 136) rfl)) (hw _ (List.mem_of_getElem? (i := 138) rfl)) (hw _ (List.mem_of_getElem? (i := 137) rfl)) (hw _ (List.mem_of_getElem? (i := 139) rfl)) e0 A0 MR hml.symm (hb hby d23_3) (Nat.le_of_ble_eq_true rfl) (Nat.le_of_ble_eq_true rfl) (q := 6) rfl fun T454 X454 e454 => ?_
  refine g_callS X454 hx hZ hown (hw _ (List.mem_of_getElem? (i := 141) rfl)) (hw _ (List.mem_of_getElem? (i := 142) rfl)) (hw _ (List.mem_of_getElem? (i := 123) rfl)) (hw _ (List.mem_of_getElem? (i := 143) rfl)) (by decide) e454 (rmC3_0 l Z a0 hw ma mr f h0 n0 Z0 MR V0) (by exact hml.symm) (argsL := [(.ref ma), (.int (8 : Int32)), (.ref mr)]) (rest := []) rfl rfl pd_11 rfl (Nat.le_of_ble_eq_true rfl) (Nat.le_of_ble_eq_true rfl) (Nat.le_of_ble_eq_true rfl) (Nat.le_of_ble_eq_true rfl) (hb hby d23_6) (q := 9) rfl (fun v455 T455 L455 X455 hQ455 => ?_)
  generalize e455 : T455.heap = h455 at hQ455
  obtain ⟨nb, rfl, M455, K455, sz_nb, A455, Q455, V455⟩ := hQ455
  show Go p e below _ (T455.setTop (mkF m 9 #[.val (.ref ma), .val (.int (8 : Int32))] [(.ref nb)]))
  exact g_retA X455 hx hret hlk (hb hby d23_9) rfl rfl rfl ⟨nb, rfl, by simpa using M455, by rw [e455]; exact K455, sz_nb, by rw [e455]; exact A455, by rw [e455]; exact Q455, by rw [e455]; exact V455⟩ (Nat.le_of_ble_eq_true rfl) (Nat.le_of_ble_eq_true rfl)
theorem d26_0 : decode jdk_65_method_123_code 0 = .ok (.iload_n 1, 1) := by decide +kernel
theorem d26_1 : decode jdk_65_method_123_code 1 = .ok (.aload_n 0, 1) := by decide +kernel
theorem d26_2 : decode jdk_65_method_123_code 2 = .ok (.arraylength, 1) := by decide +kernel
theorem d26_3 : decode jdk_65_method_123_code 3 = .ok (.if_icmp .ne 11, 3) := by decide +kernel
theorem d26_14 : decode jdk_65_method_123_code 14 = .ok (.iload_n 1, 1) := by decide +kernel
theorem d26_15 : decode jdk_65_method_123_code 15 = .ok (.newarray .int, 2) := by decide +kernel
theorem d26_17 : decode jdk_65_method_123_code 17 = .ok (.astore_n 2, 1) := by decide +kernel
theorem d26_18 : decode jdk_65_method_123_code 18 = .ok (.aload_n 0, 1) := by decide +kernel
theorem d26_19 : decode jdk_65_method_123_code 19 = .ok (.iconst 0, 1) := by decide +kernel
theorem d26_20 : decode jdk_65_method_123_code 20 = .ok (.aload_n 2, 1) := by decide +kernel
theorem d26_21 : decode jdk_65_method_123_code 21 = .ok (.iconst 0, 1) := by decide +kernel
theorem d26_22 : decode jdk_65_method_123_code 22 = .ok (.aload_n 0, 1) := by decide +kernel
theorem d26_23 : decode jdk_65_method_123_code 23 = .ok (.arraylength, 1) := by decide +kernel
theorem d26_24 : decode jdk_65_method_123_code 24 = .ok (.iload_n 1, 1) := by decide +kernel
theorem d26_25 : decode jdk_65_method_123_code 25 = .ok (.invokestatic 304, 3) := by decide +kernel
theorem d26_28 : decode jdk_65_method_123_code 28 = .ok (.invokestatic 150, 3) := by decide +kernel
theorem d26_31 : decode jdk_65_method_123_code 31 = .ok (.aload_n 2, 1) := by decide +kernel
theorem d26_32 : decode jdk_65_method_123_code 32 = .ok (.areturn, 1) := by decide +kernel
set_option maxRecDepth 65536 in
set_option maxHeartbeats 40000000 in
theorem rmCI_0 (l : Launch) (Z : State) (a0 : Array Value) (hw : ∀ d ∈ tables_1, d.before a0 Z = true) (ha : Addr) (f : Nat → Value) (h0 : Heap) (n0 : Nat) (Z0 : n0 ≤ h0.size) (V0 : Af Z h0 ha .int 0 f) :
    Con l Z h0 (⟨"java/util/Arrays", "copyOf", "([II)[I"⟩ : MethodName) jdk_65_method_123_code 3 (some (.array .int)) ({ frames := 1, cells := 1, slots := 4, locals := 21 } : Room) #[(.ref ha), (.int (4 : Int32))] (fun v h L => ∃ nb, v = some (.ref nb) ∧ Fr n0 L ∧ Keep h0 h [] ∧ h0.size ≤ nb ∧ Af Z h nb .int 4 (fun _ => .int (0 : Int32))) := by
  refine con_of (plainFor_of_name pn_7) (Ls := #[.val (.ref ha), .val (.int (4 : Int32)), .unset]) (fun m => by first | (simp [entryFrame, mkF, argsToLocals, Value.category]; done) | rfl) ?_
  intro p e s m below meth c s₁ hx hZ hby hml hret hlk hnm hown X0 e0
  refine g_iloadN X0 hx (hb hby d26_0) (v := (4 : Int32)) rfl (q := 1) rfl ?_
  refine g_aloadN X0 hx (hb hby d26_1) (v := (.ref ha)) rfl rfl (q := 2) rfl ?_
  refine g_len X0 hx hZ e0 V0 (z := (0 : Int32)) rfl (hb hby d26_2) (q := 3) rfl ?_
  refine g_icmp_ne X0 hx (hb hby d26_3) (by decide) (q := 14) (by decide) (q2 := 6) rfl (fun hb3 => ?_) (fun hb3 => absurd hb3 (by decide))
  refine g_iloadN X0 hx (hb hby d26_14) (v := (4 : Int32)) rfl (q := 15) rfl ?_
  refine g_newP X0 hx hZ (hw _ (List.mem_of_getElem? (i := 49) rfl)) e0 (hb hby d26_15) (n := (4 : Int32)) (by decide) (cap := 4) (Nat.le_of_ble_eq_true rfl) (by decide) (Nat.le_of_ble_eq_true rfl) (Nat.le_of_ble_eq_true rfl) (q := 17) rfl fun T456 h456 c456 nb g456 X456 e456 E456 A456 => ?_
  have ne_ha_nb : ha ≠ nb := Nat.ne_of_lt (Nat.lt_of_lt_of_le V0.lt (Nat.le_of_eq g456.symm))
  have ge_nb : n0 ≤ nb := Nat.le_trans Z0 (Nat.le_of_eq g456.symm)
  have sz_nb : h0.size ≤ nb := Nat.le_trans (Keep.refl h0 []).1 (Nat.le_of_eq g456.symm)
  have z_456 := Nat.le_trans Z0 E456.1
  have kp_456 := (Keep.refl h0 []).ext E456
  have f457 := (V0.ext E456)
  have V456 : Af Z h456 nb .int 4 (fun _ => (.int (0 : Int32))) := Af.fresh A456
  refine g_astoreN X456 hx (hb hby d26_17) rfl (L' := #[.val (.ref ha), .val (.int (4 : Int32)), .val (.ref nb)]) rfl (q := 18) rfl ?_
  refine g_aloadN X456 hx (hb hby d26_18) (v := (.ref ha)) rfl rfl (q := 19) rfl ?_
  refine g_iconst X456 hx (hb hby d26_19) (n := (0 : Int32)) (by decide) (q := 20) rfl ?_
  refine g_aloadN X456 hx (hb hby d26_20) (v := (.ref nb)) rfl rfl (q := 21) rfl ?_
  refine g_iconst X456 hx (hb hby d26_21) (n := (0 : Int32)) (by decide) (q := 22) rfl ?_
  refine g_aloadN X456 hx (hb hby d26_22) (v := (.ref ha)) rfl rfl (q := 23) rfl ?_
  refine g_len X456 hx hZ e456 f457 (z := (0 : Int32)) rfl (hb hby d26_23) (q := 24) rfl ?_
  refine g_iloadN X456 hx (hb hby d26_24) (v := (4 : Int32)) rfl (q := 25) rfl ?_
  refine g_callS X456 hx hZ hown (hw _ (List.mem_of_getElem? (i := 146) rfl)) (hw _ (List.mem_of_getElem? (i := 147) rfl)) (hw _ (List.mem_of_getElem? (i := 130) rfl)) (hw _ (List.mem_of_getElem? (i := 148) rfl)) (by decide) e456 (rm_min_0_4 l Z a0 hw h456) (by exact hml.symm) (argsL := [(.int (0 : Int32)), (.int (4 : Int32))]) (rest := [(.int (0 : Int32)), (.ref nb), (.int (0 : Int32)), (.ref ha)]) rfl rfl pd_10 rfl (Nat.le_of_ble_eq_true rfl) (Nat.le_of_ble_eq_true rfl) (Nat.le_of_ble_eq_true rfl) (Nat.le_of_ble_eq_true rfl) (hb hby d26_25) (q := 28) rfl (g_pure rfl rfl fun T458 X458 e458 => ?_)
  show Go p e below _ (T458.setTop (mkF m 28 #[.val (.ref ha), .val (.int (4 : Int32)), .val (.ref nb)] [(.int (0 : Int32)), (.int (0 : Int32)), (.ref nb), (.int (0 : Int32)), (.ref ha)]))
  refine g_cp X458 hx hZ hown (hw _ (List.mem_of_getElem? (i := 149) rfl)) (hw _ (List.mem_of_getElem? (i := 152) rfl)) (hw _ (List.mem_of_getElem? (i := 150) rfl)) (hw _ (List.mem_of_getElem? (i := 151) rfl)) e458 f457 V456 (by decide) (by decide) (by decide) (by decide) (by decide) (fun i hi => absurd hi (Nat.not_lt_zero _)) hml.symm (hb hby d26_28) (Nat.le_of_ble_eq_true rfl) (Nat.le_of_ble_eq_true rfl) (q := 31) rfl fun T459 h459 L459 B459 X459 e459 K459 U459 => ?_
  have N459 := Fr.app (Fr.nil n0) (fun y hy => by rw [B459 y hy]; exact ge_nb : Fr n0 L459)
  have z_459 := Nat.le_trans z_456 K459.1
  have kp_459 := kp_456.trans K459 (allS (P := fun x => x ∈ [] ∨ h0.size ≤ x) (Or.inr sz_nb) all0)
  have f460 := (f457.keep K459 (ninS ne_ha_nb nin0))
  have V459 := U459.congr (g := (fun _ => .int (0 : Int32))) (fun i hi => by
        match i, hi with
        | 0, _ => rfl
        | 1, _ => rfl
        | 2, _ => rfl
        | 3, _ => rfl)
  refine g_aloadN X459 hx (hb hby d26_31) (v := (.ref nb)) rfl rfl (q := 32) rfl ?_
  exact g_retA X459 hx hret hlk (hb hby d26_32) rfl rfl rfl ⟨nb, rfl, by simpa using N459, by rw [e459]; exact kp_459, sz_nb, by rw [e459]; exact V459⟩ (Nat.le_of_ble_eq_true rfl) (Nat.le_of_ble_eq_true rfl)
set_option maxRecDepth 65536 in
set_option maxHeartbeats 40000000 in
theorem rmC3_1 (l : Launch) (Z : State) (a0 : Array Value) (hw : ∀ d ∈ tables_1, d.before a0 Z = true) (ma mr : Addr) (f : Nat → Value) (h0 : Heap) (n0 : Nat) (Z0 : n0 ≤ h0.size) (MR : Mr Z "[Ljava/lang/Object;" mr) (V0 : Af Z h0 ma (.object "java/lang/Object") 2 f) (b0 : Sb Z h0 (f 0)) (b1 : Sb Z h0 (f 1)) :
    Con l Z h0 (⟨"java/util/Arrays", "copyOf", "([Ljava/lang/Object;ILjava/lang/Class;)[Ljava/lang/Object;"⟩ : MethodName) jdk_65_method_120_code 4 (some (.array (.object "java/lang/Object"))) ({ frames := 1, cells := 1, slots := 8, locals := 22 } : Room) #[(.ref ma), (.int (8 : Int32)), (.ref mr)] (fun v h L => ∃ nb, v = some (.ref nb) ∧ Fr n0 L ∧ Keep h0 h [] ∧ h0.size ≤ nb ∧ Exa Z h nb "[Ljava/lang/Object;" ∧ Ov Z h nb "java/lang/Object" ∧ Af Z h nb (.object "java/lang/Object") 8 (fun j => if j = 0 then f 0 else if j = 1 then f 1 else .null)) := by
  refine con_of (plainFor_of_name pn_7) (Ls := #[.val (.ref ma), .val (.int (8 : Int32)), .val (.ref mr), .unset]) (fun m => by first | (simp [entryFrame, mkF, argsToLocals, Value.category]; done) | rfl) ?_
  intro p e s m below meth c s₁ hx hZ hby hml hret hlk hnm hown X0 e0
  refine g_aloadN X0 hx (hb hby d24_0) (v := (.ref mr)) rfl rfl (q := 1) rfl ?_
  refine g_ldcC X0 hx hZ hown (hw _ (List.mem_of_getElem? (i := 144) rfl)) e0 MR (hb hby d24_1) (q := 3) rfl fun T461 X461 e461 => ?_
  refine g_acmpNe X461 hx rfl rfl (hb hby d24_3) (by decide) (q := 13) (by decide) (q2 := 6) rfl (fun hb3 => absurd hb3 (by simp)) (fun hb3 => ?_)
  refine g_iloadN X461 hx (hb hby d24_6) (v := (8 : Int32)) rfl (q := 7) rfl ?_
  refine g_newRE X461 hx hZ hown (hw _ (List.mem_of_getElem? (i := 145) rfl)) (hw _ (List.mem_of_getElem? (i := 46) rfl)) e461 (hb hby d24_7) (z := (8 : Int32)) (by decide) (cap := 8) (Nat.le_of_ble_eq_true rfl) (by decide) (Nat.le_of_ble_eq_true rfl) (Nat.le_of_ble_eq_true rfl) (ad := "[Ljava/lang/Object;") (by decide) (q := 10) rfl fun T462 h462 c462 nb g462 X462 e462 E462 A462 O462 D462 => ?_
  have ne_ma_nb : ma ≠ nb := Nat.ne_of_lt (Nat.lt_of_lt_of_le V0.lt (Nat.le_of_eq g462.symm))
  have ge_nb : n0 ≤ nb := Nat.le_trans Z0 (Nat.le_of_eq g462.symm)
  have sz_nb : h0.size ≤ nb := Nat.le_trans (Keep.refl h0 []).1 (Nat.le_of_eq g462.symm)
  have z_462 := Nat.le_trans Z0 E462.1
  have kp_462 := (Keep.refl h0 []).ext E462
  have f463 := (V0.ext E462)
  have f464 := (b0.ext E462)
  have f465 := (b1.ext E462)
  have V462 : Af Z h462 nb (.object "java/lang/Object") 8 (fun _ => .null) := Af.fresh A462
  have Q462 := Ov.fresh A462 O462
  refine g_goto X462 hx (hb hby d24_10) (by decide) (q := 24) (by decide) ?_
  refine g_astoreN X462 hx (hb hby d24_24) rfl (L' := #[.val (.ref ma), .val (.int (8 : Int32)), .val (.ref mr), .val (.ref nb)]) rfl (q := 25) rfl ?_
  refine g_aloadN X462 hx (hb hby d24_25) (v := (.ref ma)) rfl rfl (q := 26) rfl ?_
  refine g_iconst X462 hx (hb hby d24_26) (n := (0 : Int32)) (by decide) (q := 27) rfl ?_
  refine g_aloadN X462 hx (hb hby d24_27) (v := (.ref nb)) rfl rfl (q := 28) rfl ?_
  refine g_iconst X462 hx (hb hby d24_28) (n := (0 : Int32)) (by decide) (q := 29) rfl ?_
  refine g_aloadN X462 hx (hb hby d24_29) (v := (.ref ma)) rfl rfl (q := 30) rfl ?_
  refine g_len X462 hx hZ e462 f463 (z := (2 : Int32)) rfl (hb hby d24_30) (q := 31) rfl ?_
  refine g_iloadN X462 hx (hb hby d24_31) (v := (8 : Int32)) rfl (q := 32) rfl ?_
  refine g_callS X462 hx hZ hown (hw _ (List.mem_of_getElem? (i := 146) rfl)) (hw _ (List.mem_of_getElem? (i := 147) rfl)) (hw _ (List.mem_of_getElem? (i := 130) rfl)) (hw _ (List.mem_of_getElem? (i := 148) rfl)) (by decide) e462 (rm_min_2_8 l Z a0 hw h462) (by exact hml.symm) (argsL := [(.int (2 : Int32)), (.int (8 : Int32))]) (rest := [(.int (0 : Int32)), (.ref nb), (.int (0 : Int32)), (.ref ma)]) rfl rfl pd_10 rfl (Nat.le_of_ble_eq_true rfl) (Nat.le_of_ble_eq_true rfl) (Nat.le_of_ble_eq_true rfl) (Nat.le_of_ble_eq_true rfl) (hb hby d24_32) (q := 35) rfl (g_pure rfl rfl fun T466 X466 e466 => ?_)
  show Go p e below _ (T466.setTop (mkF m 35 #[.val (.ref ma), .val (.int (8 : Int32)), .val (.ref mr), .val (.ref nb)] [(.int (2 : Int32)), (.int (0 : Int32)), (.ref nb), (.int (0 : Int32)), (.ref ma)]))
  refine g_cp X466 hx hZ hown (hw _ (List.mem_of_getElem? (i := 149) rfl)) (hw _ (List.mem_of_getElem? (i := 152) rfl)) (hw _ (List.mem_of_getElem? (i := 150) rfl)) (hw _ (List.mem_of_getElem? (i := 151) rfl)) e466 f463 V462 (by decide) (by decide) (by decide) (by decide) (by decide) (fun i hi => by
        have hi' : i = 0 ∨ i = 1 := by have : i < 2 := hi; omega
        rcases hi' with rfl | rfl
        · exact ⟨f464.fit, fun _ => f464.sto Q462 (hw _ (List.mem_of_getElem? (i := 104) rfl)) (hw _ (List.mem_of_getElem? (i := 105) rfl))⟩
        · exact ⟨f465.fit, fun _ => f465.sto Q462 (hw _ (List.mem_of_getElem? (i := 104) rfl)) (hw _ (List.mem_of_getElem? (i := 105) rfl))⟩) hml.symm (hb hby d24_35) (Nat.le_of_ble_eq_true rfl) (Nat.le_of_ble_eq_true rfl) (q := 38) rfl fun T467 h467 L467 B467 X467 e467 K467 U467 => ?_
  have N467 := Fr.app (Fr.nil n0) (fun y hy => by rw [B467 y hy]; exact ge_nb : Fr n0 L467)
  have z_467 := Nat.le_trans z_462 K467.1
  have kp_467 := kp_462.trans K467 (allS (P := fun x => x ∈ [] ∨ h0.size ≤ x) (Or.inr sz_nb) all0)
  have f468 := (f463.keep K467 (ninS ne_ma_nb nin0))
  have f469 := (f464.keep K467)
  have f470 := (f465.keep K467)
  have f471 := (Q462.keep K467)
  have f472 := (D462.keep K467)
  have V467 := U467.congr (g := (fun j => if j = 0 then f 0 else if j = 1 then f 1 else .null)) (fun i hi => by
        match i, hi with
        | 0, _ => rfl
        | 1, _ => rfl
        | 2, _ => rfl
        | 3, _ => rfl
        | 4, _ => rfl
        | 5, _ => rfl
        | 6, _ => rfl
        | 7, _ => rfl)
  refine g_aloadN X467 hx (hb hby d24_38) (v := (.ref nb)) rfl rfl (q := 39) rfl ?_
  exact g_retA X467 hx hret hlk (hb hby d24_39) rfl rfl rfl ⟨nb, rfl, by simpa using N467, by rw [e467]; exact kp_467, sz_nb, by rw [e467]; exact f472, by rw [e467]; exact f471, by rw [e467]; exact V467⟩ (Nat.le_of_ble_eq_true rfl) (Nat.le_of_ble_eq_true rfl)
set_option maxRecDepth 65536 in
set_option maxHeartbeats 40000000 in
theorem rmC2_1 (l : Launch) (Z : State) (a0 : Array Value) (hw : ∀ d ∈ tables_1, d.before a0 Z = true) (ma mr : Addr) (f : Nat → Value) (h0 : Heap) (n0 : Nat) (Z0 : n0 ≤ h0.size) (MR : Mr Z "[Ljava/lang/Object;" mr) (V0 : Af Z h0 ma (.object "java/lang/Object") 2 f) (b0 : Sb Z h0 (f 0)) (b1 : Sb Z h0 (f 1)) (A0 : Exa Z h0 ma "[Ljava/lang/Object;") :
    Con l Z h0 (⟨"java/util/Arrays", "copyOf", "([Ljava/lang/Object;I)[Ljava/lang/Object;"⟩ : MethodName) jdk_65_method_119_code 2 (some (.array (.object "java/lang/Object"))) ({ frames := 2, cells := 1, slots := 8, locals := 40 } : Room) #[(.ref ma), (.int (8 : Int32))] (fun v h L => ∃ nb, v = some (.ref nb) ∧ Fr n0 L ∧ Keep h0 h [] ∧ h0.size ≤ nb ∧ Exa Z h nb "[Ljava/lang/Object;" ∧ Ov Z h nb "java/lang/Object" ∧ Af Z h nb (.object "java/lang/Object") 8 (fun j => if j = 0 then f 0 else if j = 1 then f 1 else .null)) := by
  refine con_of (plainFor_of_name pn_7) (Ls := #[.val (.ref ma), .val (.int (8 : Int32))]) (fun m => by first | (simp [entryFrame, mkF, argsToLocals, Value.category]; done) | rfl) ?_
  intro p e s m below meth c s₁ hx hZ hby hml hret hlk hnm hown X0 e0
  refine g_aloadN X0 hx (hb hby d23_0) (v := (.ref ma)) rfl rfl (q := 1) rfl ?_
  refine g_iloadN X0 hx (hb hby d23_1) (v := (8 : Int32)) rfl (q := 2) rfl ?_
  refine g_aloadN X0 hx (hb hby d23_2) (v := (.ref ma)) rfl rfl (q := 3) rfl ?_
  refine g_gcls X0 hx hZ hown (hw _ (List.mem_of_getElem? (i := 135) rfl)) (hw _ (List.mem_of_getElem? (i := 136) rfl)) (hw _ (List.mem_of_getElem? (i := 138) rfl)) (hw _ (List.mem_of_getElem? (i := 137) rfl)) (hw _ (List.mem_of_getElem? (i := 139) rfl)) e0 A0 MR hml.symm (hb hby d23_3) (Nat.le_of_ble_eq_true rfl) (Nat.le_of_ble_eq_true rfl) (q := 6) rfl fun T473 X473 e473 => ?_
  refine g_callS X473 hx hZ hown (hw _ (List.mem_of_getElem? (i := 141) rfl)) (hw _ (List.mem_of_getElem? (i := 142) rfl)) (hw _ (List.mem_of_getElem? (i := 123) rfl)) (hw _ (List.mem_of_getElem? (i := 143) rfl)) (by decide) e473 (rmC3_1 l Z a0 hw ma mr f h0 n0 Z0 MR V0 b0 b1) (by exact hml.symm) (argsL := [(.ref ma), (.int (8 : Int32)), (.ref mr)]) (rest := []) rfl rfl pd_11 rfl (Nat.le_of_ble_eq_true rfl) (Nat.le_of_ble_eq_true rfl) (Nat.le_of_ble_eq_true rfl) (Nat.le_of_ble_eq_true rfl) (hb hby d23_6) (q := 9) rfl (fun v474 T474 L474 X474 hQ474 => ?_)
  generalize e474 : T474.heap = h474 at hQ474
  obtain ⟨nb, rfl, M474, K474, sz_nb, A474, Q474, V474⟩ := hQ474
  show Go p e below _ (T474.setTop (mkF m 9 #[.val (.ref ma), .val (.int (8 : Int32))] [(.ref nb)]))
  exact g_retA X474 hx hret hlk (hb hby d23_9) rfl rfl rfl ⟨nb, rfl, by simpa using M474, by rw [e474]; exact K474, sz_nb, by rw [e474]; exact A474, by rw [e474]; exact Q474, by rw [e474]; exact V474⟩ (Nat.le_of_ble_eq_true rfl) (Nat.le_of_ble_eq_true rfl)
set_option maxRecDepth 65536 in
set_option maxHeartbeats 40000000 in
theorem rmCI_1 (l : Launch) (Z : State) (a0 : Array Value) (hw : ∀ d ∈ tables_1, d.before a0 Z = true) (ha : Addr) (f : Nat → Value) (h0 : Heap) (n0 : Nat) (Z0 : n0 ≤ h0.size) (V0 : Af Z h0 ha .int 1 f) (c0 : Int32) (hi0 : f 0 = .int c0) :
    Con l Z h0 (⟨"java/util/Arrays", "copyOf", "([II)[I"⟩ : MethodName) jdk_65_method_123_code 3 (some (.array .int)) ({ frames := 1, cells := 1, slots := 4, locals := 21 } : Room) #[(.ref ha), (.int (4 : Int32))] (fun v h L => ∃ nb, v = some (.ref nb) ∧ Fr n0 L ∧ Keep h0 h [] ∧ h0.size ≤ nb ∧ Af Z h nb .int 4 (fun j => if j = 0 then f 0 else .int (0 : Int32))) := by
  refine con_of (plainFor_of_name pn_7) (Ls := #[.val (.ref ha), .val (.int (4 : Int32)), .unset]) (fun m => by first | (simp [entryFrame, mkF, argsToLocals, Value.category]; done) | rfl) ?_
  intro p e s m below meth c s₁ hx hZ hby hml hret hlk hnm hown X0 e0
  refine g_iloadN X0 hx (hb hby d26_0) (v := (4 : Int32)) rfl (q := 1) rfl ?_
  refine g_aloadN X0 hx (hb hby d26_1) (v := (.ref ha)) rfl rfl (q := 2) rfl ?_
  refine g_len X0 hx hZ e0 V0 (z := (1 : Int32)) rfl (hb hby d26_2) (q := 3) rfl ?_
  refine g_icmp_ne X0 hx (hb hby d26_3) (by decide) (q := 14) (by decide) (q2 := 6) rfl (fun hb3 => ?_) (fun hb3 => absurd hb3 (by decide))
  refine g_iloadN X0 hx (hb hby d26_14) (v := (4 : Int32)) rfl (q := 15) rfl ?_
  refine g_newP X0 hx hZ (hw _ (List.mem_of_getElem? (i := 49) rfl)) e0 (hb hby d26_15) (n := (4 : Int32)) (by decide) (cap := 4) (Nat.le_of_ble_eq_true rfl) (by decide) (Nat.le_of_ble_eq_true rfl) (Nat.le_of_ble_eq_true rfl) (q := 17) rfl fun T475 h475 c475 nb g475 X475 e475 E475 A475 => ?_
  have ne_ha_nb : ha ≠ nb := Nat.ne_of_lt (Nat.lt_of_lt_of_le V0.lt (Nat.le_of_eq g475.symm))
  have ge_nb : n0 ≤ nb := Nat.le_trans Z0 (Nat.le_of_eq g475.symm)
  have sz_nb : h0.size ≤ nb := Nat.le_trans (Keep.refl h0 []).1 (Nat.le_of_eq g475.symm)
  have z_475 := Nat.le_trans Z0 E475.1
  have kp_475 := (Keep.refl h0 []).ext E475
  have f476 := (V0.ext E475)
  have V475 : Af Z h475 nb .int 4 (fun _ => (.int (0 : Int32))) := Af.fresh A475
  refine g_astoreN X475 hx (hb hby d26_17) rfl (L' := #[.val (.ref ha), .val (.int (4 : Int32)), .val (.ref nb)]) rfl (q := 18) rfl ?_
  refine g_aloadN X475 hx (hb hby d26_18) (v := (.ref ha)) rfl rfl (q := 19) rfl ?_
  refine g_iconst X475 hx (hb hby d26_19) (n := (0 : Int32)) (by decide) (q := 20) rfl ?_
  refine g_aloadN X475 hx (hb hby d26_20) (v := (.ref nb)) rfl rfl (q := 21) rfl ?_
  refine g_iconst X475 hx (hb hby d26_21) (n := (0 : Int32)) (by decide) (q := 22) rfl ?_
  refine g_aloadN X475 hx (hb hby d26_22) (v := (.ref ha)) rfl rfl (q := 23) rfl ?_
  refine g_len X475 hx hZ e475 f476 (z := (1 : Int32)) rfl (hb hby d26_23) (q := 24) rfl ?_
  refine g_iloadN X475 hx (hb hby d26_24) (v := (4 : Int32)) rfl (q := 25) rfl ?_
  refine g_callS X475 hx hZ hown (hw _ (List.mem_of_getElem? (i := 146) rfl)) (hw _ (List.mem_of_getElem? (i := 147) rfl)) (hw _ (List.mem_of_getElem? (i := 130) rfl)) (hw _ (List.mem_of_getElem? (i := 148) rfl)) (by decide) e475 (rm_min_1_4 l Z a0 hw h475) (by exact hml.symm) (argsL := [(.int (1 : Int32)), (.int (4 : Int32))]) (rest := [(.int (0 : Int32)), (.ref nb), (.int (0 : Int32)), (.ref ha)]) rfl rfl pd_10 rfl (Nat.le_of_ble_eq_true rfl) (Nat.le_of_ble_eq_true rfl) (Nat.le_of_ble_eq_true rfl) (Nat.le_of_ble_eq_true rfl) (hb hby d26_25) (q := 28) rfl (g_pure rfl rfl fun T477 X477 e477 => ?_)
  show Go p e below _ (T477.setTop (mkF m 28 #[.val (.ref ha), .val (.int (4 : Int32)), .val (.ref nb)] [(.int (1 : Int32)), (.int (0 : Int32)), (.ref nb), (.int (0 : Int32)), (.ref ha)]))
  refine g_cp X477 hx hZ hown (hw _ (List.mem_of_getElem? (i := 149) rfl)) (hw _ (List.mem_of_getElem? (i := 152) rfl)) (hw _ (List.mem_of_getElem? (i := 150) rfl)) (hw _ (List.mem_of_getElem? (i := 151) rfl)) e477 f476 V475 (by decide) (by decide) (by decide) (by decide) (by decide) (fun i hi => by
        have hi' : i = 0 := by have : i < 1 := hi; omega
        subst hi'
        exact ⟨by show fits .int (f 0) = true; rw [hi0]; rfl, fun q => by cases q⟩) hml.symm (hb hby d26_28) (Nat.le_of_ble_eq_true rfl) (Nat.le_of_ble_eq_true rfl) (q := 31) rfl fun T478 h478 L478 B478 X478 e478 K478 U478 => ?_
  have N478 := Fr.app (Fr.nil n0) (fun y hy => by rw [B478 y hy]; exact ge_nb : Fr n0 L478)
  have z_478 := Nat.le_trans z_475 K478.1
  have kp_478 := kp_475.trans K478 (allS (P := fun x => x ∈ [] ∨ h0.size ≤ x) (Or.inr sz_nb) all0)
  have f479 := (f476.keep K478 (ninS ne_ha_nb nin0))
  have V478 := U478.congr (g := (fun j => if j = 0 then f 0 else .int (0 : Int32))) (fun i hi => by
        match i, hi with
        | 0, _ => rfl
        | 1, _ => rfl
        | 2, _ => rfl
        | 3, _ => rfl)
  refine g_aloadN X478 hx (hb hby d26_31) (v := (.ref nb)) rfl rfl (q := 32) rfl ?_
  exact g_retA X478 hx hret hlk (hb hby d26_32) rfl rfl rfl ⟨nb, rfl, by simpa using N478, by rw [e478]; exact kp_478, sz_nb, by rw [e478]; exact V478⟩ (Nat.le_of_ble_eq_true rfl) (Nat.le_of_ble_eq_true rfl)
theorem d16_0 : decode prog_18_method_17_code 0 = .ok (.aload_n 1, 1) := by decide +kernel
theorem d16_1 : decode prog_18_method_17_code 1 = .ok (.ldc 96, 2) := by decide +kernel
theorem d16_3 : decode prog_18_method_17_code 3 = .ok (.invokestatic 98, 3) := by decide +kernel
theorem d16_6 : decode prog_18_method_17_code 6 = .ok (.pop, 1) := by decide +kernel
theorem d16_7 : decode prog_18_method_17_code 7 = .ok (.aload_n 0, 1) := by decide +kernel
theorem d16_8 : decode prog_18_method_17_code 8 = .ok (.getfield 19, 3) := by decide +kernel
theorem d16_11 : decode prog_18_method_17_code 11 = .ok (.aload_n 0, 1) := by decide +kernel
theorem d16_12 : decode prog_18_method_17_code 12 = .ok (.getfield 15, 3) := by decide +kernel
theorem d16_15 : decode prog_18_method_17_code 15 = .ok (.arraylength, 1) := by decide +kernel
theorem d16_16 : decode prog_18_method_17_code 16 = .ok (.if_icmp .ne 40, 3) := by decide +kernel
theorem d16_19 : decode prog_18_method_17_code 19 = .ok (.iconst 4, 1) := by decide +kernel
theorem d16_20 : decode prog_18_method_17_code 20 = .ok (.iconst 2, 1) := by decide +kernel
theorem d16_21 : decode prog_18_method_17_code 21 = .ok (.aload_n 0, 1) := by decide +kernel
theorem d16_22 : decode prog_18_method_17_code 22 = .ok (.getfield 19, 3) := by decide +kernel
theorem d16_25 : decode prog_18_method_17_code 25 = .ok (.imul, 1) := by decide +kernel
theorem d16_26 : decode prog_18_method_17_code 26 = .ok (.invokestatic 104, 3) := by decide +kernel
theorem d16_29 : decode prog_18_method_17_code 29 = .ok (.istore_n 3, 1) := by decide +kernel
theorem d16_30 : decode prog_18_method_17_code 30 = .ok (.aload_n 0, 1) := by decide +kernel
theorem d16_31 : decode prog_18_method_17_code 31 = .ok (.aload_n 0, 1) := by decide +kernel
theorem d16_32 : decode prog_18_method_17_code 32 = .ok (.getfield 11, 3) := by decide +kernel
theorem d16_35 : decode prog_18_method_17_code 35 = .ok (.iconst 2, 1) := by decide +kernel
theorem d16_36 : decode prog_18_method_17_code 36 = .ok (.iload_n 3, 1) := by decide +kernel
theorem d16_37 : decode prog_18_method_17_code 37 = .ok (.imul, 1) := by decide +kernel
theorem d16_38 : decode prog_18_method_17_code 38 = .ok (.invokestatic 110, 3) := by decide +kernel
theorem d16_41 : decode prog_18_method_17_code 41 = .ok (.putfield 11, 3) := by decide +kernel
theorem d16_44 : decode prog_18_method_17_code 44 = .ok (.aload_n 0, 1) := by decide +kernel
theorem d16_45 : decode prog_18_method_17_code 45 = .ok (.aload_n 0, 1) := by decide +kernel
theorem d16_46 : decode prog_18_method_17_code 46 = .ok (.getfield 15, 3) := by decide +kernel
theorem d16_49 : decode prog_18_method_17_code 49 = .ok (.iload_n 3, 1) := by decide +kernel
theorem d16_50 : decode prog_18_method_17_code 50 = .ok (.invokestatic 114, 3) := by decide +kernel
theorem d16_53 : decode prog_18_method_17_code 53 = .ok (.putfield 15, 3) := by decide +kernel
theorem d16_56 : decode prog_18_method_17_code 56 = .ok (.aload_n 0, 1) := by decide +kernel
theorem d16_57 : decode prog_18_method_17_code 57 = .ok (.getfield 11, 3) := by decide +kernel
theorem d16_60 : decode prog_18_method_17_code 60 = .ok (.iconst 2, 1) := by decide +kernel
theorem d16_61 : decode prog_18_method_17_code 61 = .ok (.aload_n 0, 1) := by decide +kernel
theorem d16_62 : decode prog_18_method_17_code 62 = .ok (.getfield 19, 3) := by decide +kernel
theorem d16_65 : decode prog_18_method_17_code 65 = .ok (.imul, 1) := by decide +kernel
theorem d16_66 : decode prog_18_method_17_code 66 = .ok (.aload_n 1, 1) := by decide +kernel
theorem d16_67 : decode prog_18_method_17_code 67 = .ok (.aastore, 1) := by decide +kernel
theorem d16_68 : decode prog_18_method_17_code 68 = .ok (.aload_n 0, 1) := by decide +kernel
theorem d16_69 : decode prog_18_method_17_code 69 = .ok (.getfield 11, 3) := by decide +kernel
theorem d16_72 : decode prog_18_method_17_code 72 = .ok (.iconst 2, 1) := by decide +kernel
theorem d16_73 : decode prog_18_method_17_code 73 = .ok (.aload_n 0, 1) := by decide +kernel
theorem d16_74 : decode prog_18_method_17_code 74 = .ok (.getfield 19, 3) := by decide +kernel
theorem d16_77 : decode prog_18_method_17_code 77 = .ok (.imul, 1) := by decide +kernel
theorem d16_78 : decode prog_18_method_17_code 78 = .ok (.iconst 1, 1) := by decide +kernel
theorem d16_79 : decode prog_18_method_17_code 79 = .ok (.iadd, 1) := by decide +kernel
theorem d16_80 : decode prog_18_method_17_code 80 = .ok (.aload_n 2, 1) := by decide +kernel
theorem d16_81 : decode prog_18_method_17_code 81 = .ok (.aastore, 1) := by decide +kernel
theorem d16_82 : decode prog_18_method_17_code 82 = .ok (.aload_n 0, 1) := by decide +kernel
theorem d16_83 : decode prog_18_method_17_code 83 = .ok (.getfield 15, 3) := by decide +kernel
theorem d16_86 : decode prog_18_method_17_code 86 = .ok (.aload_n 0, 1) := by decide +kernel
theorem d16_87 : decode prog_18_method_17_code 87 = .ok (.getfield 19, 3) := by decide +kernel
theorem d16_90 : decode prog_18_method_17_code 90 = .ok (.aload_n 1, 1) := by decide +kernel
theorem d16_91 : decode prog_18_method_17_code 91 = .ok (.invokevirtual 117, 3) := by decide +kernel
theorem d16_94 : decode prog_18_method_17_code 94 = .ok (.iastore, 1) := by decide +kernel
theorem d16_95 : decode prog_18_method_17_code 95 = .ok (.aload_n 0, 1) := by decide +kernel
theorem d16_96 : decode prog_18_method_17_code 96 = .ok (.dup, 1) := by decide +kernel
theorem d16_97 : decode prog_18_method_17_code 97 = .ok (.getfield 19, 3) := by decide +kernel
theorem d16_100 : decode prog_18_method_17_code 100 = .ok (.iconst 1, 1) := by decide +kernel
theorem d16_101 : decode prog_18_method_17_code 101 = .ok (.iadd, 1) := by decide +kernel
theorem d16_102 : decode prog_18_method_17_code 102 = .ok (.putfield 19, 3) := by decide +kernel
theorem d16_105 : decode prog_18_method_17_code 105 = .ok (.aload_n 0, 1) := by decide +kernel
theorem d16_106 : decode prog_18_method_17_code 106 = .ok (.dup, 1) := by decide +kernel
theorem d16_107 : decode prog_18_method_17_code 107 = .ok (.getfield 31, 3) := by decide +kernel
theorem d16_110 : decode prog_18_method_17_code 110 = .ok (.iconst 1, 1) := by decide +kernel
theorem d16_111 : decode prog_18_method_17_code 111 = .ok (.iadd, 1) := by decide +kernel
theorem d16_112 : decode prog_18_method_17_code 112 = .ok (.putfield 31, 3) := by decide +kernel
theorem d16_115 : decode prog_18_method_17_code 115 = .ok (.aload_n 0, 1) := by decide +kernel
theorem d16_116 : decode prog_18_method_17_code 116 = .ok (.getfield 63, 3) := by decide +kernel
theorem d16_119 : decode prog_18_method_17_code 119 = .ok (.ifnull 26, 3) := by decide +kernel
theorem d16_145 : decode prog_18_method_17_code 145 = .ok (.aload_n 0, 1) := by decide +kernel
theorem d16_146 : decode prog_18_method_17_code 146 = .ok (.getfield 19, 3) := by decide +kernel
theorem d16_149 : decode prog_18_method_17_code 149 = .ok (.bipush 16, 2) := by decide +kernel
theorem d16_151 : decode prog_18_method_17_code 151 = .ok (.if_icmp .le 7, 3) := by decide +kernel
theorem d16_158 : decode prog_18_method_17_code 158 = .ok (.return_, 1) := by decide +kernel
set_option maxRecDepth 65536 in
set_option maxHeartbeats 40000000 in
theorem rmApG0 (l : Launch) (Z : State) (a0 : Array Value) (hw : ∀ d ∈ tables_1, d.before a0 Z = true) (t ma ha : Addr) (fm fh : Nat → Value) (cg : Int32) (a va mr : Addr) (val : Value) (ch cs : Int32) (hcs : ¬ cs = 0) (h0 : Heap) (n0 : Nat) (Z0 : n0 ≤ h0.size) (hga : n0 ≤ a) (hgt : n0 ≤ t) (SC : Sta Z h0 "java/lang/String" "COMPACT_STRINGS" "Z" (.int cs)) (SA : Str Z h0 a va ch) (SV : Sb Z h0 val) (hvr : val.isRef = true) (MR : Mr Z "[Ljava/lang/Object;" mr) (hat : a < t) (hvt : va < t) (TC : TrC Z h0 t (0 : Int32) ma ha 0 fm fh cg) :
    ConW l Z h0 (⟨"com/example/kehys/kehys/io/TreeObject", "append", "(Ljava/lang/String;Ljava/lang/Object;)V"⟩ : MethodName) prog_18_method_17_code 4 none ({ frames := 3, cells := 4, slots := 32, locals := 60 } : Room) #[(.ref t), (.ref a), val] (fun v h L => v = none ∧ Fr n0 L ∧ Up h0 h a t ∧ Str Z h a va ch ∧ Tr1 Z h t a ch) := by
  obtain ⟨E0, F0, F1, F2, F3, F4, V0, O0, A0, V1, tma, tha, nmh, hr8⟩ := TC
  refine con_ofW (plainFor_of_name pn_5) (Ls := #[.val (.ref t), .val (.ref a), .val val, .unset]) (fun m => by cases val <;> first | (simp [Value.isRef] at hvr; done) | (simp [entryFrame, mkF, argsToLocals, Value.category]; done) | rfl) ?_
  intro p e s m below meth c s₁ vm0 k0 hx hZ hby hml hret hlk hnm hown X0 e0 hS hk
  refine g_aloadN X0 hx (hb hby d16_0) (v := (.ref a)) rfl rfl (q := 1) rfl ?_
  refine g_ldcS X0 hx hZ hown (hw _ (List.mem_of_getElem? (i := 97) rfl)) (own_strA hw) e0 hS hk (hb hby d16_1) (n := 16) (by decide) (by decide) (Nat.le_of_ble_eq_true rfl) (Nat.le_of_ble_eq_true rfl) (q := 3) rfl fun b480 T480 h480 k480 X480 e480 E480 hS480 hk480 hZ480 hown480 => ?_
  have z_480 := Nat.le_trans Z0 E480.1
  have kp_480 := (Keep.refl h0 [t, ma, ha, a]).ext E480
  have f481 := (E0.ext E480)
  have f482 := (F0.ext E480)
  have f483 := (F1.ext E480)
  have f484 := (F2.ext E480)
  have f485 := (F3.ext E480)
  have f486 := (F4.ext E480)
  have f487 := (V0.ext E480)
  have f488 := (O0.ext E480)
  have f489 := (A0.ext E480)
  have f490 := (V1.ext E480)
  have f491 := (SC.ext E480)
  have f492 := (SA.ext E480)
  have f493 := (SA.1.ext E480)
  have f494 := (SV.ext E480)
  refine g_callS X480 hx hZ480 hown480 (hw _ (List.mem_of_getElem? (i := 100) rfl)) (hw _ (List.mem_of_getElem? (i := 101) rfl)) (hw _ (List.mem_of_getElem? (i := 102) rfl)) (hw _ (List.mem_of_getElem? (i := 103) rfl)) (by decide) e480 (rmRN l Z a0 hw a b480 h480) (by exact hml.symm) (argsL := [(.ref a), (.ref b480)]) (rest := []) rfl rfl pd_12 rfl (Nat.le_of_ble_eq_true rfl) (Nat.le_of_ble_eq_true rfl) (Nat.le_of_ble_eq_true rfl) (Nat.le_of_ble_eq_true rfl) (hb hby d16_3) (q := 6) rfl (g_pure rfl rfl fun T495 X495 e495 => ?_)
  show Go p e below _ (T495.setTop (mkF m 6 #[.val (.ref t), .val (.ref a), .val val, .unset] [(.ref a)]))
  refine g_pop X495 hx (hb hby d16_6) rfl (q := 7) rfl ?_
  refine g_aloadN X495 hx (hb hby d16_7) (v := (.ref t)) rfl rfl (q := 8) rfl ?_
  refine g_getF X495 hx hZ480 hown480 (hw _ (List.mem_of_getElem? (i := 57) rfl)) Via.refl e495 f484 (hb hby d16_8) (q := 11) rfl fun T496 X496 e496 => ?_
  refine g_aloadN X496 hx (hb hby d16_11) (v := (.ref t)) rfl rfl (q := 12) rfl ?_
  refine g_getF X496 hx hZ480 hown480 (hw _ (List.mem_of_getElem? (i := 50) rfl)) Via.refl e496 f483 (hb hby d16_12) (q := 15) rfl fun T497 X497 e497 => ?_
  refine g_len X497 hx hZ480 e497 f490 (z := (0 : Int32)) rfl (hb hby d16_15) (q := 16) rfl ?_
  refine g_icmp_ne X497 hx (hb hby d16_16) (by decide) (q := 56) (by decide) (q2 := 19) rfl (fun hb16 => absurd hb16 (by decide)) (fun hb16 => ?_)
  refine g_iconst X497 hx (hb hby d16_19) (n := (4 : Int32)) (by decide) (q := 20) rfl ?_
  refine g_iconst X497 hx (hb hby d16_20) (n := (2 : Int32)) (by decide) (q := 21) rfl ?_
  refine g_aloadN X497 hx (hb hby d16_21) (v := (.ref t)) rfl rfl (q := 22) rfl ?_
  refine g_getF X497 hx hZ480 hown480 (hw _ (List.mem_of_getElem? (i := 57) rfl)) Via.refl e497 f484 (hb hby d16_22) (q := 25) rfl fun T498 X498 e498 => ?_
  refine g_imul X498 hx (hb hby d16_25) (z := (0 : Int32)) (by decide) (q := 26) rfl ?_
  refine g_callS X498 hx hZ480 hown480 (hw _ (List.mem_of_getElem? (i := 128) rfl)) (hw _ (List.mem_of_getElem? (i := 129) rfl)) (hw _ (List.mem_of_getElem? (i := 130) rfl)) (hw _ (List.mem_of_getElem? (i := 131) rfl)) (by decide) e498 (rm_max_4_0 l Z a0 hw h480) (by exact hml.symm) (argsL := [(.int (4 : Int32)), (.int (0 : Int32))]) (rest := []) rfl rfl pd_10 rfl (Nat.le_of_ble_eq_true rfl) (Nat.le_of_ble_eq_true rfl) (Nat.le_of_ble_eq_true rfl) (Nat.le_of_ble_eq_true rfl) (hb hby d16_26) (q := 29) rfl (g_pure rfl rfl fun T499 X499 e499 => ?_)
  show Go p e below _ (T499.setTop (mkF m 29 #[.val (.ref t), .val (.ref a), .val val, .unset] [(.int (4 : Int32))]))
  refine g_istoreN X499 hx (hb hby d16_29) (L' := #[.val (.ref t), .val (.ref a), .val val, .val (.int (4 : Int32))]) rfl (q := 30) rfl ?_
  refine g_aloadN X499 hx (hb hby d16_30) (v := (.ref t)) rfl rfl (q := 31) rfl ?_
  refine g_aloadN X499 hx (hb hby d16_31) (v := (.ref t)) rfl rfl (q := 32) rfl ?_
  refine g_getF X499 hx hZ480 hown480 (hw _ (List.mem_of_getElem? (i := 47) rfl)) Via.refl e499 f482 (hb hby d16_32) (q := 35) rfl fun T500 X500 e500 => ?_
  refine g_iconst X500 hx (hb hby d16_35) (n := (2 : Int32)) (by decide) (q := 36) rfl ?_
  refine g_iloadN X500 hx (hb hby d16_36) (v := (4 : Int32)) rfl (q := 37) rfl ?_
  refine g_imul X500 hx (hb hby d16_37) (z := (8 : Int32)) (by decide) (q := 38) rfl ?_
  refine g_callS X500 hx hZ480 hown480 (hw _ (List.mem_of_getElem? (i := 132) rfl)) (hw _ (List.mem_of_getElem? (i := 133) rfl)) (hw _ (List.mem_of_getElem? (i := 123) rfl)) (hw _ (List.mem_of_getElem? (i := 134) rfl)) (by decide) e500 (rmC2_0 l Z a0 hw ma mr fm h480 n0 z_480 MR f487 f489) (by exact hml.symm) (argsL := [(.ref ma), (.int (8 : Int32))]) (rest := [(.ref t)]) rfl rfl pd_13 rfl (Nat.le_of_ble_eq_true rfl) (Nat.le_of_ble_eq_true rfl) (Nat.le_of_ble_eq_true rfl) (Nat.le_of_ble_eq_true rfl) (hb hby d16_38) (q := 41) rfl (fun v501 T501 L501 X501 hQ501 => ?_)
  generalize e501 : T501.heap = h501 at hQ501
  obtain ⟨nm, rfl, M501, K501, g501, A501, Q501, V501⟩ := hQ501
  have ne_t_nm : t ≠ nm := Nat.ne_of_lt (Nat.lt_of_lt_of_le f481.lt g501)
  have ne_ma_nm : ma ≠ nm := Nat.ne_of_lt (Nat.lt_of_lt_of_le f489.lt g501)
  have ne_ha_nm : ha ≠ nm := Nat.ne_of_lt (Nat.lt_of_lt_of_le f490.lt g501)
  have ne_a_nm : a ≠ nm := Nat.ne_of_lt (Nat.lt_of_lt_of_le f493.lt g501)
  have ne_va_nm : va ≠ nm := Nat.ne_of_lt (Nat.lt_of_lt_of_le f492.vlt g501)
  have ge_nm : n0 ≤ nm := Nat.le_trans z_480 g501
  have sz_nm : h0.size ≤ nm := Nat.le_trans kp_480.1 g501
  have N501 := Fr.app (Fr.nil n0) M501
  have z_501 := Nat.le_trans z_480 K501.1
  have hk_501 := Nat.le_trans hk480 K501.1
  have kp_501 := kp_480.trans K501 all0
  have f502 := (f481.keep K501)
  have f503 := (f482.keep K501 nin0)
  have f504 := (f483.keep K501 nin0)
  have f505 := (f484.keep K501 nin0)
  have f506 := (f485.keep K501 nin0)
  have f507 := (f486.keep K501 nin0)
  have f508 := (f487.keep K501 nin0)
  have f509 := (f488.keep K501)
  have f510 := (f489.keep K501)
  have f511 := (f490.keep K501 nin0)
  have f512 := (own_sta_keep f491 K501 ns0)
  have f513 := (f492.keep K501 nin0 nin0)
  have f514 := (f493.keep K501)
  have f515 := (f494.keep K501)
  show Go p e below _ (T501.setTop (mkF m 41 #[.val (.ref t), .val (.ref a), .val val, .val (.int (4 : Int32))] [(.ref nm), (.ref t)]))
  refine g_putF X501 hx hZ480 hown480 (hw _ (List.mem_of_getElem? (i := 47) rfl)) Via.refl e501 f503 f502 (Or.inl (hw _ (List.mem_of_getElem? (i := 48) rfl))) (hw _ (List.mem_of_getElem? (i := 34) rfl)) (ty := (.array (.object "java/lang/Object"))) (by decide) rfl rfl (hb hby d16_41) (q := 44) rfl fun T516 h516 X516 e516 W516 => ?_
  have fw516 := f503.same W516
  have N516 := Fr.snoc X516 N501 hgt
  have z_516 := Nat.le_trans z_501 (Keep.of_wr W516).1
  have hk_516 := Nat.le_trans hk_501 (Keep.of_wr W516).1
  have kp_516 := kp_501.wr W516 (Or.inl (List.mem_of_getElem? (i := 0) rfl))
  have f517 := (f502.wr W516)
  have f518 := (f504.other W516 (Or.inr (slot_ne (Or.inl (hw _ (List.mem_of_getElem? (i := 51) rfl))) (Or.inl (hw _ (List.mem_of_getElem? (i := 48) rfl))) (by decide) (t := (.array .int)) (t' := (.array (.object "java/lang/Object"))) (by decide) (by decide))))
  have f519 := (f505.other W516 (Or.inr (slot_ne (Or.inl (hw _ (List.mem_of_getElem? (i := 58) rfl))) (Or.inl (hw _ (List.mem_of_getElem? (i := 48) rfl))) (by decide) (t := .int) (t' := (.array (.object "java/lang/Object"))) (by decide) (by decide))))
  have f520 := (f506.other W516 (Or.inr (slot_ne (Or.inl (hw _ (List.mem_of_getElem? (i := 74) rfl))) (Or.inl (hw _ (List.mem_of_getElem? (i := 48) rfl))) (by decide) (t := (.object "java/util/Map")) (t' := (.array (.object "java/lang/Object"))) (by decide) (by decide))))
  have f521 := (f507.other W516 (Or.inr (slot_ne (Or.inl (hw _ (List.mem_of_getElem? (i := 110) rfl))) (Or.inl (hw _ (List.mem_of_getElem? (i := 48) rfl))) (by decide) (t := .int) (t' := (.array (.object "java/lang/Object"))) (by decide) (by decide))))
  have f522 := (f508.other W516 (Ne.symm (Nat.ne_of_lt tma)))
  have f523 := (f509.wr W516)
  have f524 := (f510.wr W516)
  have f525 := (f511.other W516 (Ne.symm (Nat.ne_of_lt tha)))
  have f526 := (f512.wr W516)
  have f527 := (f513.other W516 (Nat.ne_of_lt hat) (Nat.ne_of_lt hvt))
  have f528 := (f514.wr W516)
  have f529 := (f515.wr W516)
  have f530 := (A501.wr W516)
  have f531 := (Q501.wr W516)
  have f532 := (V501.other W516 (Ne.symm ne_t_nm))
  refine g_aloadN X516 hx (hb hby d16_44) (v := (.ref t)) rfl rfl (q := 45) rfl ?_
  refine g_aloadN X516 hx (hb hby d16_45) (v := (.ref t)) rfl rfl (q := 46) rfl ?_
  refine g_getF X516 hx hZ480 hown480 (hw _ (List.mem_of_getElem? (i := 50) rfl)) Via.refl e516 f518 (hb hby d16_46) (q := 49) rfl fun T533 X533 e533 => ?_
  refine g_iloadN X533 hx (hb hby d16_49) (v := (4 : Int32)) rfl (q := 50) rfl ?_
  refine g_callS X533 hx hZ480 hown480 (hw _ (List.mem_of_getElem? (i := 153) rfl)) (hw _ (List.mem_of_getElem? (i := 154) rfl)) (hw _ (List.mem_of_getElem? (i := 123) rfl)) (hw _ (List.mem_of_getElem? (i := 155) rfl)) (by decide) e533 (rmCI_0 l Z a0 hw ha fh h516 n0 z_516 f525) (by exact hml.symm) (argsL := [(.ref ha), (.int (4 : Int32))]) (rest := [(.ref t)]) rfl rfl pd_14 rfl (Nat.le_of_ble_eq_true rfl) (Nat.le_of_ble_eq_true rfl) (Nat.le_of_ble_eq_true rfl) (Nat.le_of_ble_eq_true rfl) (hb hby d16_50) (q := 53) rfl (fun v534 T534 L534 X534 hQ534 => ?_)
  generalize e534 : T534.heap = h534 at hQ534
  obtain ⟨nh, rfl, M534, K534, g534, V534⟩ := hQ534
  have ne_t_nh : t ≠ nh := Nat.ne_of_lt (Nat.lt_of_lt_of_le f517.lt g534)
  have ne_ma_nh : ma ≠ nh := Nat.ne_of_lt (Nat.lt_of_lt_of_le f524.lt g534)
  have ne_ha_nh : ha ≠ nh := Nat.ne_of_lt (Nat.lt_of_lt_of_le f525.lt g534)
  have ne_a_nh : a ≠ nh := Nat.ne_of_lt (Nat.lt_of_lt_of_le f528.lt g534)
  have ne_nm_nh : nm ≠ nh := Nat.ne_of_lt (Nat.lt_of_lt_of_le f530.lt g534)
  have ne_va_nh : va ≠ nh := Nat.ne_of_lt (Nat.lt_of_lt_of_le f527.vlt g534)
  have ge_nh : n0 ≤ nh := Nat.le_trans z_516 g534
  have sz_nh : h0.size ≤ nh := Nat.le_trans kp_516.1 g534
  have N534 := Fr.app N516 M534
  have z_534 := Nat.le_trans z_516 K534.1
  have hk_534 := Nat.le_trans hk_516 K534.1
  have kp_534 := kp_516.trans K534 all0
  have f535 := (f517.keep K534)
  have f536 := (fw516.keep K534 nin0)
  have f537 := (f518.keep K534 nin0)
  have f538 := (f519.keep K534 nin0)
  have f539 := (f520.keep K534 nin0)
  have f540 := (f521.keep K534 nin0)
  have f541 := (f522.keep K534 nin0)
  have f542 := (f523.keep K534)
  have f543 := (f524.keep K534)
  have f544 := (f525.keep K534 nin0)
  have f545 := (own_sta_keep f526 K534 ns0)
  have f546 := (f527.keep K534 nin0 nin0)
  have f547 := (f528.keep K534)
  have f548 := (f529.keep K534)
  have f549 := (f530.keep K534)
  have f550 := (f531.keep K534)
  have f551 := (f532.keep K534 nin0)
  show Go p e below _ (T534.setTop (mkF m 53 #[.val (.ref t), .val (.ref a), .val val, .val (.int (4 : Int32))] [(.ref nh), (.ref t)]))
  refine g_putF X534 hx hZ480 hown480 (hw _ (List.mem_of_getElem? (i := 50) rfl)) Via.refl e534 f537 f535 (Or.inl (hw _ (List.mem_of_getElem? (i := 51) rfl))) (hw _ (List.mem_of_getElem? (i := 34) rfl)) (ty := (.array .int)) (by decide) rfl rfl (hb hby d16_53) (q := 56) rfl fun T552 h552 X552 e552 W552 => ?_
  have fw552 := f537.same W552
  have N552 := Fr.snoc X552 N534 hgt
  have z_552 := Nat.le_trans z_534 (Keep.of_wr W552).1
  have hk_552 := Nat.le_trans hk_534 (Keep.of_wr W552).1
  have kp_552 := kp_534.wr W552 (Or.inl (List.mem_of_getElem? (i := 0) rfl))
  have f553 := (f535.wr W552)
  have f554 := (f536.other W552 (Or.inr (slot_ne (Or.inl (hw _ (List.mem_of_getElem? (i := 48) rfl))) (Or.inl (hw _ (List.mem_of_getElem? (i := 51) rfl))) (by decide) (t := (.array (.object "java/lang/Object"))) (t' := (.array .int)) (by decide) (by decide))))
  have f555 := (f538.other W552 (Or.inr (slot_ne (Or.inl (hw _ (List.mem_of_getElem? (i := 58) rfl))) (Or.inl (hw _ (List.mem_of_getElem? (i := 51) rfl))) (by decide) (t := .int) (t' := (.array .int)) (by decide) (by decide))))
  have f556 := (f539.other W552 (Or.inr (slot_ne (Or.inl (hw _ (List.mem_of_getElem? (i := 74) rfl))) (Or.inl (hw _ (List.mem_of_getElem? (i := 51) rfl))) (by decide) (t := (.object "java/util/Map")) (t' := (.array .int)) (by decide) (by decide))))
  have f557 := (f540.other W552 (Or.inr (slot_ne (Or.inl (hw _ (List.mem_of_getElem? (i := 110) rfl))) (Or.inl (hw _ (List.mem_of_getElem? (i := 51) rfl))) (by decide) (t := .int) (t' := (.array .int)) (by decide) (by decide))))
  have f558 := (f541.other W552 (Ne.symm (Nat.ne_of_lt tma)))
  have f559 := (f542.wr W552)
  have f560 := (f543.wr W552)
  have f561 := (f544.other W552 (Ne.symm (Nat.ne_of_lt tha)))
  have f562 := (f545.wr W552)
  have f563 := (f546.other W552 (Nat.ne_of_lt hat) (Nat.ne_of_lt hvt))
  have f564 := (f547.wr W552)
  have f565 := (f548.wr W552)
  have f566 := (f549.wr W552)
  have f567 := (f550.wr W552)
  have f568 := (f551.other W552 (Ne.symm ne_t_nm))
  have f569 := (V534.other W552 (Ne.symm ne_t_nh))
  refine g_aloadN X552 hx (hb hby d16_56) (v := (.ref t)) rfl rfl (q := 57) rfl ?_
  refine g_getF X552 hx hZ480 hown480 (hw _ (List.mem_of_getElem? (i := 47) rfl)) Via.refl e552 f554 (hb hby d16_57) (q := 60) rfl fun T570 X570 e570 => ?_
  refine g_iconst X570 hx (hb hby d16_60) (n := (2 : Int32)) (by decide) (q := 61) rfl ?_
  refine g_aloadN X570 hx (hb hby d16_61) (v := (.ref t)) rfl rfl (q := 62) rfl ?_
  refine g_getF X570 hx hZ480 hown480 (hw _ (List.mem_of_getElem? (i := 57) rfl)) Via.refl e570 f555 (hb hby d16_62) (q := 65) rfl fun T571 X571 e571 => ?_
  refine g_imul X571 hx (hb hby d16_65) (z := (0 : Int32)) (by decide) (q := 66) rfl ?_
  refine g_aloadN X571 hx (hb hby d16_66) (v := (.ref a)) rfl rfl (q := 67) rfl ?_
  refine g_aastore X571 hx hZ480 e571 f568 rfl (by decide) (by decide) (Ov.sto f567 (Ins.of_exa f564 (hw _ (List.mem_of_getElem? (i := 104) rfl)))) (hb hby d16_67) (q := 68) rfl fun T572 h572 X572 e572 W572 U572 => ?_
  have N572 := Fr.snoc X572 N552 ge_nm
  have z_572 := Nat.le_trans z_552 (Keep.of_wr W572).1
  have hk_572 := Nat.le_trans hk_552 (Keep.of_wr W572).1
  have kp_572 := kp_552.wr W572 (Or.inr sz_nm)
  have f573 := (f553.wr W572)
  have f574 := (f554.other W572 (Or.inl ne_t_nm))
  have f575 := (fw552.other W572 (Or.inl ne_t_nm))
  have f576 := (f555.other W572 (Or.inl ne_t_nm))
  have f577 := (f556.other W572 (Or.inl ne_t_nm))
  have f578 := (f557.other W572 (Or.inl ne_t_nm))
  have f579 := (f558.other W572 ne_ma_nm)
  have f580 := (f559.wr W572)
  have f581 := (f560.wr W572)
  have f582 := (f561.other W572 ne_ha_nm)
  have f583 := (f562.wr W572)
  have f584 := (f563.other W572 ne_a_nm ne_va_nm)
  have f585 := (f564.wr W572)
  have f586 := (f565.wr W572)
  have f587 := (f566.wr W572)
  have f588 := (f567.wr W572)
  have f589 := (f569.other W572 (Ne.symm ne_nm_nh))
  refine g_aloadN X572 hx (hb hby d16_68) (v := (.ref t)) rfl rfl (q := 69) rfl ?_
  refine g_getF X572 hx hZ480 hown480 (hw _ (List.mem_of_getElem? (i := 47) rfl)) Via.refl e572 f574 (hb hby d16_69) (q := 72) rfl fun T590 X590 e590 => ?_
  refine g_iconst X590 hx (hb hby d16_72) (n := (2 : Int32)) (by decide) (q := 73) rfl ?_
  refine g_aloadN X590 hx (hb hby d16_73) (v := (.ref t)) rfl rfl (q := 74) rfl ?_
  refine g_getF X590 hx hZ480 hown480 (hw _ (List.mem_of_getElem? (i := 57) rfl)) Via.refl e590 f576 (hb hby d16_74) (q := 77) rfl fun T591 X591 e591 => ?_
  refine g_imul X591 hx (hb hby d16_77) (z := (0 : Int32)) (by decide) (q := 78) rfl ?_
  refine g_iconst X591 hx (hb hby d16_78) (n := (1 : Int32)) (by decide) (q := 79) rfl ?_
  refine g_iadd X591 hx (hb hby d16_79) (z := (1 : Int32)) (by decide) (q := 80) rfl ?_
  refine g_aloadN X591 hx (hb hby d16_80) (v := val) rfl hvr (q := 81) rfl ?_
  refine g_aastore X591 hx hZ480 e591 U572 rfl (by decide) (by decide) (f586.sto f588 (hw _ (List.mem_of_getElem? (i := 104) rfl)) (hw _ (List.mem_of_getElem? (i := 105) rfl))) (hb hby d16_81) (q := 82) rfl fun T592 h592 X592 e592 W592 U592 => ?_
  have N592 := Fr.snoc X592 N572 ge_nm
  have z_592 := Nat.le_trans z_572 (Keep.of_wr W592).1
  have hk_592 := Nat.le_trans hk_572 (Keep.of_wr W592).1
  have kp_592 := kp_572.wr W592 (Or.inr sz_nm)
  have f593 := (f573.wr W592)
  have f594 := (f574.other W592 (Or.inl ne_t_nm))
  have f595 := (f575.other W592 (Or.inl ne_t_nm))
  have f596 := (f576.other W592 (Or.inl ne_t_nm))
  have f597 := (f577.other W592 (Or.inl ne_t_nm))
  have f598 := (f578.other W592 (Or.inl ne_t_nm))
  have f599 := (f579.other W592 ne_ma_nm)
  have f600 := (f580.wr W592)
  have f601 := (f581.wr W592)
  have f602 := (f582.other W592 ne_ha_nm)
  have f603 := (f583.wr W592)
  have f604 := (f584.other W592 ne_a_nm ne_va_nm)
  have f605 := (f585.wr W592)
  have f606 := (f586.wr W592)
  have f607 := (f587.wr W592)
  have f608 := (f588.wr W592)
  have f609 := (f589.other W592 (Ne.symm ne_nm_nh))
  refine g_aloadN X592 hx (hb hby d16_82) (v := (.ref t)) rfl rfl (q := 83) rfl ?_
  refine g_getF X592 hx hZ480 hown480 (hw _ (List.mem_of_getElem? (i := 50) rfl)) Via.refl e592 f595 (hb hby d16_83) (q := 86) rfl fun T610 X610 e610 => ?_
  refine g_aloadN X610 hx (hb hby d16_86) (v := (.ref t)) rfl rfl (q := 87) rfl ?_
  refine g_getF X610 hx hZ480 hown480 (hw _ (List.mem_of_getElem? (i := 57) rfl)) Via.refl e610 f596 (hb hby d16_87) (q := 90) rfl fun T611 X611 e611 => ?_
  refine g_aloadN X611 hx (hb hby d16_90) (v := (.ref a)) rfl rfl (q := 91) rfl ?_
  refine g_callV X611 hx hZ480 hown480 (hw _ (List.mem_of_getElem? (i := 106) rfl)) (hw _ (List.mem_of_getElem? (i := 107) rfl)) (hw _ (List.mem_of_getElem? (i := 108) rfl)) (hw _ (List.mem_of_getElem? (i := 79) rfl)) (hw _ (List.mem_of_getElem? (i := 80) rfl)) (hw _ (List.mem_of_getElem? (i := 2) rfl)) (notFace_of_selects (args := #[]) (mvT hZ480 (hw _ (List.mem_of_getElem? (i := 108) rfl)))) (by decide) e611 f605 (rmSH l Z a0 hw a va ch cs hcs h592 n0 hga f603 f604) (by exact hml.symm) (argsL := []) (rest := [(.int (0 : Int32)), (.ref nh)]) rfl rfl pd_8 rfl (Nat.le_of_ble_eq_true rfl) (Nat.le_of_ble_eq_true rfl) (Nat.le_of_ble_eq_true rfl) (Nat.le_of_ble_eq_true rfl) (hb hby d16_91) (q := 94) rfl (fun v612 T612 L612 X612 hQ612 => ?_)
  generalize e612 : T612.heap = h612 at hQ612
  obtain ⟨rfl, M612, K612, U612⟩ := hQ612
  have N612 := Fr.app N592 M612
  have z_612 := Nat.le_trans z_592 K612.1
  have hk_612 := Nat.le_trans hk_592 K612.1
  have kp_612 := kp_592.trans K612 (allS (P := fun x => x ∈ [t, ma, ha, a] ∨ h0.size ≤ x) (Or.inl (List.mem_of_getElem? (i := 3) rfl)) all0)
  have f613 := (f593.keep K612)
  have f614 := (f594.keep K612 (ninS (Ne.symm (Nat.ne_of_lt hat)) nin0))
  have f615 := (f595.keep K612 (ninS (Ne.symm (Nat.ne_of_lt hat)) nin0))
  have f616 := (f596.keep K612 (ninS (Ne.symm (Nat.ne_of_lt hat)) nin0))
  have f617 := (f597.keep K612 (ninS (Ne.symm (Nat.ne_of_lt hat)) nin0))
  have f618 := (f598.keep K612 (ninS (Ne.symm (Nat.ne_of_lt hat)) nin0))
  have f619 := (f599.keep K612 (ninS (Ne.symm (Nat.ne_of_lt (Nat.lt_trans hat tma))) nin0))
  have f620 := (f600.keep K612)
  have f621 := (f601.keep K612)
  have f622 := (f602.keep K612 (ninS (Ne.symm (Nat.ne_of_lt (Nat.lt_trans hat tha))) nin0))
  have f623 := (own_sta_keep f603 K612 (nsS f605.nostat ns0))
  have f624 := (f605.keep K612)
  have f625 := (f606.keep K612)
  have f626 := (f607.keep K612)
  have f627 := (f608.keep K612)
  have f628 := (U592.keep K612 (ninS (Ne.symm ne_a_nm) nin0))
  have f629 := (f609.keep K612 (ninS (Ne.symm ne_a_nh) nin0))
  show Go p e below _ (T612.setTop (mkF m 94 #[.val (.ref t), .val (.ref a), .val val, .val (.int (4 : Int32))] [(.int ch), (.int (0 : Int32)), (.ref nh)]))
  refine g_iastore X612 hx hZ480 e612 f629 (by decide) (by decide)  (hb hby d16_94) (q := 95) rfl fun T630 h630 X630 e630 W630 U630 => ?_
  have N630 := Fr.snoc X630 N612 ge_nh
  have z_630 := Nat.le_trans z_612 (Keep.of_wr W630).1
  have hk_630 := Nat.le_trans hk_612 (Keep.of_wr W630).1
  have kp_630 := kp_612.wr W630 (Or.inr sz_nh)
  have f631 := (f613.wr W630)
  have f632 := (f614.other W630 (Or.inl ne_t_nh))
  have f633 := (f615.other W630 (Or.inl ne_t_nh))
  have f634 := (f616.other W630 (Or.inl ne_t_nh))
  have f635 := (f617.other W630 (Or.inl ne_t_nh))
  have f636 := (f618.other W630 (Or.inl ne_t_nh))
  have f637 := (f619.other W630 ne_ma_nh)
  have f638 := (f620.wr W630)
  have f639 := (f621.wr W630)
  have f640 := (f622.other W630 ne_ha_nh)
  have f641 := (f623.wr W630)
  have f642 := (U612.other W630 ne_a_nh ne_va_nh)
  have f643 := (f624.wr W630)
  have f644 := (f625.wr W630)
  have f645 := (f626.wr W630)
  have f646 := (f627.wr W630)
  have f647 := (f628.other W630 ne_nm_nh)
  refine g_aloadN X630 hx (hb hby d16_95) (v := (.ref t)) rfl rfl (q := 96) rfl ?_
  refine g_dup X630 hx (hb hby d16_96) rfl (q := 97) rfl ?_
  refine g_getF X630 hx hZ480 hown480 (hw _ (List.mem_of_getElem? (i := 57) rfl)) Via.refl e630 f634 (hb hby d16_97) (q := 100) rfl fun T648 X648 e648 => ?_
  refine g_iconst X648 hx (hb hby d16_100) (n := (1 : Int32)) (by decide) (q := 101) rfl ?_
  refine g_iadd X648 hx (hb hby d16_101) (z := (1 : Int32)) (by decide) (q := 102) rfl ?_
  refine g_putF X648 hx hZ480 hown480 (hw _ (List.mem_of_getElem? (i := 57) rfl)) Via.refl e648 f634 f631 (Or.inl (hw _ (List.mem_of_getElem? (i := 58) rfl))) (hw _ (List.mem_of_getElem? (i := 34) rfl)) (ty := .int) (by decide) rfl rfl (hb hby d16_102) (q := 105) rfl fun T649 h649 X649 e649 W649 => ?_
  have fw649 := f634.same W649
  have N649 := Fr.snoc X649 N630 hgt
  have z_649 := Nat.le_trans z_630 (Keep.of_wr W649).1
  have hk_649 := Nat.le_trans hk_630 (Keep.of_wr W649).1
  have kp_649 := kp_630.wr W649 (Or.inl (List.mem_of_getElem? (i := 0) rfl))
  have f650 := (f631.wr W649)
  have f651 := (f632.other W649 (Or.inr (slot_ne (Or.inl (hw _ (List.mem_of_getElem? (i := 48) rfl))) (Or.inl (hw _ (List.mem_of_getElem? (i := 58) rfl))) (by decide) (t := (.array (.object "java/lang/Object"))) (t' := .int) (by decide) (by decide))))
  have f652 := (f633.other W649 (Or.inr (slot_ne (Or.inl (hw _ (List.mem_of_getElem? (i := 51) rfl))) (Or.inl (hw _ (List.mem_of_getElem? (i := 58) rfl))) (by decide) (t := (.array .int)) (t' := .int) (by decide) (by decide))))
  have f653 := (f635.other W649 (Or.inr (slot_ne (Or.inl (hw _ (List.mem_of_getElem? (i := 74) rfl))) (Or.inl (hw _ (List.mem_of_getElem? (i := 58) rfl))) (by decide) (t := (.object "java/util/Map")) (t' := .int) (by decide) (by decide))))
  have f654 := (f636.other W649 (Or.inr (slot_ne (Or.inl (hw _ (List.mem_of_getElem? (i := 110) rfl))) (Or.inl (hw _ (List.mem_of_getElem? (i := 58) rfl))) (by decide) (t := .int) (t' := .int) (by decide) (by decide))))
  have f655 := (f637.other W649 (Ne.symm (Nat.ne_of_lt tma)))
  have f656 := (f638.wr W649)
  have f657 := (f639.wr W649)
  have f658 := (f640.other W649 (Ne.symm (Nat.ne_of_lt tha)))
  have f659 := (f641.wr W649)
  have f660 := (f642.other W649 (Nat.ne_of_lt hat) (Nat.ne_of_lt hvt))
  have f661 := (f643.wr W649)
  have f662 := (f644.wr W649)
  have f663 := (f645.wr W649)
  have f664 := (f646.wr W649)
  have f665 := (f647.other W649 (Ne.symm ne_t_nm))
  have f666 := (U630.other W649 (Ne.symm ne_t_nh))
  refine g_aloadN X649 hx (hb hby d16_105) (v := (.ref t)) rfl rfl (q := 106) rfl ?_
  refine g_dup X649 hx (hb hby d16_106) rfl (q := 107) rfl ?_
  refine g_getF X649 hx hZ480 hown480 (hw _ (List.mem_of_getElem? (i := 109) rfl)) Via.refl e649 f654 (hb hby d16_107) (q := 110) rfl fun T667 X667 e667 => ?_
  refine g_iconst X667 hx (hb hby d16_110) (n := (1 : Int32)) (by decide) (q := 111) rfl ?_
  refine g_iadd X667 hx (hb hby d16_111) (z := (cg + (1 : Int32))) rfl (q := 112) rfl ?_
  refine g_putF X667 hx hZ480 hown480 (hw _ (List.mem_of_getElem? (i := 109) rfl)) Via.refl e667 f654 f650 (Or.inl (hw _ (List.mem_of_getElem? (i := 110) rfl))) (hw _ (List.mem_of_getElem? (i := 34) rfl)) (ty := .int) (by decide) rfl rfl (hb hby d16_112) (q := 115) rfl fun T668 h668 X668 e668 W668 => ?_
  have fw668 := f654.same W668
  have N668 := Fr.snoc X668 N649 hgt
  have z_668 := Nat.le_trans z_649 (Keep.of_wr W668).1
  have hk_668 := Nat.le_trans hk_649 (Keep.of_wr W668).1
  have kp_668 := kp_649.wr W668 (Or.inl (List.mem_of_getElem? (i := 0) rfl))
  have f669 := (f650.wr W668)
  have f670 := (f651.other W668 (Or.inr (slot_ne (Or.inl (hw _ (List.mem_of_getElem? (i := 48) rfl))) (Or.inl (hw _ (List.mem_of_getElem? (i := 110) rfl))) (by decide) (t := (.array (.object "java/lang/Object"))) (t' := .int) (by decide) (by decide))))
  have f671 := (f652.other W668 (Or.inr (slot_ne (Or.inl (hw _ (List.mem_of_getElem? (i := 51) rfl))) (Or.inl (hw _ (List.mem_of_getElem? (i := 110) rfl))) (by decide) (t := (.array .int)) (t' := .int) (by decide) (by decide))))
  have f672 := (fw649.other W668 (Or.inr (slot_ne (Or.inl (hw _ (List.mem_of_getElem? (i := 58) rfl))) (Or.inl (hw _ (List.mem_of_getElem? (i := 110) rfl))) (by decide) (t := .int) (t' := .int) (by decide) (by decide))))
  have f673 := (f653.other W668 (Or.inr (slot_ne (Or.inl (hw _ (List.mem_of_getElem? (i := 74) rfl))) (Or.inl (hw _ (List.mem_of_getElem? (i := 110) rfl))) (by decide) (t := (.object "java/util/Map")) (t' := .int) (by decide) (by decide))))
  have f674 := (f655.other W668 (Ne.symm (Nat.ne_of_lt tma)))
  have f675 := (f656.wr W668)
  have f676 := (f657.wr W668)
  have f677 := (f658.other W668 (Ne.symm (Nat.ne_of_lt tha)))
  have f678 := (f659.wr W668)
  have f679 := (f660.other W668 (Nat.ne_of_lt hat) (Nat.ne_of_lt hvt))
  have f680 := (f661.wr W668)
  have f681 := (f662.wr W668)
  have f682 := (f663.wr W668)
  have f683 := (f664.wr W668)
  have f684 := (f665.other W668 (Ne.symm ne_t_nm))
  have f685 := (f666.other W668 (Ne.symm ne_t_nh))
  refine g_aloadN X668 hx (hb hby d16_115) (v := (.ref t)) rfl rfl (q := 116) rfl ?_
  refine g_getF X668 hx hZ480 hown480 (hw _ (List.mem_of_getElem? (i := 73) rfl)) Via.refl e668 f673 (hb hby d16_116) (q := 119) rfl fun T686 X686 e686 => ?_
  refine g_ifnullY X686 hx (hb hby d16_119) (by decide) (q := 145) (by decide) ?_
  refine g_aloadN X686 hx (hb hby d16_145) (v := (.ref t)) rfl rfl (q := 146) rfl ?_
  refine g_getF X686 hx hZ480 hown480 (hw _ (List.mem_of_getElem? (i := 57) rfl)) Via.refl e686 f672 (hb hby d16_146) (q := 149) rfl fun T687 X687 e687 => ?_
  refine g_bipush X687 hx (hb hby d16_149) (n := (16 : Int32)) (by decide) (q := 151) rfl ?_
  refine g_icmp_le X687 hx (hb hby d16_151) (by decide) (q := 158) (by decide) (q2 := 154) rfl (fun hb151 => ?_) (fun hb151 => absurd hb151 (by decide))
  exact g_retVW X687 hS480 (by rw [e687]; exact hk_668) hx hret hlk (hb hby d16_158) ⟨rfl, by simpa using N668, ⟨[t, ma, ha, a], by rw [e687]; exact kp_668, own_all4 E0 A0 V1 SA.1 tma tha⟩, by rw [e687]; exact f679, nm, nh, 4, _, _, _, ⟨by rw [e687]; exact f669, by rw [e687]; exact f670, by rw [e687]; exact f671, by rw [e687]; exact f672, by rw [e687]; exact f673, by rw [e687]; exact fw668, by rw [e687]; exact f684, by rw [e687]; exact f683, by rw [e687]; exact f682, by rw [e687]; exact f685, Nat.lt_of_lt_of_le E0.lt sz_nm, Nat.lt_of_lt_of_le E0.lt sz_nh, ne_nm_nh, by decide⟩, by decide, rfl, by rw [e687]; exact f681, rfl⟩ (Nat.le_of_ble_eq_true rfl) (Nat.le_of_ble_eq_true rfl)
set_option maxRecDepth 65536 in
set_option maxHeartbeats 40000000 in
theorem rmApN0 (l : Launch) (Z : State) (a0 : Array Value) (hw : ∀ d ∈ tables_1, d.before a0 Z = true) (t ma ha : Addr) (r : Nat) (fm fh : Nat → Value) (cg : Int32) (a va mr : Addr) (val : Value) (ch cs : Int32) (hcs : ¬ cs = 0) (h0 : Heap) (n0 : Nat) (Z0 : n0 ≤ h0.size) (hga : n0 ≤ a) (hgt : n0 ≤ t) (SC : Sta Z h0 "java/lang/String" "COMPACT_STRINGS" "Z" (.int cs)) (SA : Str Z h0 a va ch) (SV : Sb Z h0 val) (hvr : val.isRef = true) (MR : Mr Z "[Ljava/lang/Object;" mr) (hat : a < t) (hvt : va < t) (TC : TrC Z h0 t (0 : Int32) ma ha r fm fh cg) (hlt : 0 < r) :
    ConW l Z h0 (⟨"com/example/kehys/kehys/io/TreeObject", "append", "(Ljava/lang/String;Ljava/lang/Object;)V"⟩ : MethodName) prog_18_method_17_code 4 none ({ frames := 3, cells := 4, slots := 32, locals := 60 } : Room) #[(.ref t), (.ref a), val] (fun v h L => v = none ∧ Fr n0 L ∧ Up h0 h a t ∧ Str Z h a va ch ∧ Tr1 Z h t a ch) := by
  obtain ⟨E0, F0, F1, F2, F3, F4, V0, O0, A0, V1, tma, tha, nmh, hr8⟩ := TC
  refine con_ofW (plainFor_of_name pn_5) (Ls := #[.val (.ref t), .val (.ref a), .val val, .unset]) (fun m => by cases val <;> first | (simp [Value.isRef] at hvr; done) | (simp [entryFrame, mkF, argsToLocals, Value.category]; done) | rfl) ?_
  intro p e s m below meth c s₁ vm0 k0 hx hZ hby hml hret hlk hnm hown X0 e0 hS hk
  refine g_aloadN X0 hx (hb hby d16_0) (v := (.ref a)) rfl rfl (q := 1) rfl ?_
  refine g_ldcS X0 hx hZ hown (hw _ (List.mem_of_getElem? (i := 97) rfl)) (own_strA hw) e0 hS hk (hb hby d16_1) (n := 16) (by decide) (by decide) (Nat.le_of_ble_eq_true rfl) (Nat.le_of_ble_eq_true rfl) (q := 3) rfl fun b688 T688 h688 k688 X688 e688 E688 hS688 hk688 hZ688 hown688 => ?_
  have z_688 := Nat.le_trans Z0 E688.1
  have kp_688 := (Keep.refl h0 [t, ma, ha, a]).ext E688
  have f689 := (E0.ext E688)
  have f690 := (F0.ext E688)
  have f691 := (F1.ext E688)
  have f692 := (F2.ext E688)
  have f693 := (F3.ext E688)
  have f694 := (F4.ext E688)
  have f695 := (V0.ext E688)
  have f696 := (O0.ext E688)
  have f697 := (A0.ext E688)
  have f698 := (V1.ext E688)
  have f699 := (SC.ext E688)
  have f700 := (SA.ext E688)
  have f701 := (SA.1.ext E688)
  have f702 := (SV.ext E688)
  refine g_callS X688 hx hZ688 hown688 (hw _ (List.mem_of_getElem? (i := 100) rfl)) (hw _ (List.mem_of_getElem? (i := 101) rfl)) (hw _ (List.mem_of_getElem? (i := 102) rfl)) (hw _ (List.mem_of_getElem? (i := 103) rfl)) (by decide) e688 (rmRN l Z a0 hw a b688 h688) (by exact hml.symm) (argsL := [(.ref a), (.ref b688)]) (rest := []) rfl rfl pd_12 rfl (Nat.le_of_ble_eq_true rfl) (Nat.le_of_ble_eq_true rfl) (Nat.le_of_ble_eq_true rfl) (Nat.le_of_ble_eq_true rfl) (hb hby d16_3) (q := 6) rfl (g_pure rfl rfl fun T703 X703 e703 => ?_)
  show Go p e below _ (T703.setTop (mkF m 6 #[.val (.ref t), .val (.ref a), .val val, .unset] [(.ref a)]))
  refine g_pop X703 hx (hb hby d16_6) rfl (q := 7) rfl ?_
  refine g_aloadN X703 hx (hb hby d16_7) (v := (.ref t)) rfl rfl (q := 8) rfl ?_
  refine g_getF X703 hx hZ688 hown688 (hw _ (List.mem_of_getElem? (i := 57) rfl)) Via.refl e703 f692 (hb hby d16_8) (q := 11) rfl fun T704 X704 e704 => ?_
  refine g_aloadN X704 hx (hb hby d16_11) (v := (.ref t)) rfl rfl (q := 12) rfl ?_
  refine g_getF X704 hx hZ688 hown688 (hw _ (List.mem_of_getElem? (i := 50) rfl)) Via.refl e704 f691 (hb hby d16_12) (q := 15) rfl fun T705 X705 e705 => ?_
  refine g_len X705 hx hZ688 e705 f698 (z := (r.toInt32)) rfl (hb hby d16_15) (q := 16) rfl ?_
  refine g_icmp_ne X705 hx (hb hby d16_16) (by decide) (q := 56) (by decide) (q2 := 19) rfl (fun hb16 => ?_) (fun hb16 => absurd hb16 ((own_r32 r hr8).1 hlt))
  refine g_aloadN X705 hx (hb hby d16_56) (v := (.ref t)) rfl rfl (q := 57) rfl ?_
  refine g_getF X705 hx hZ688 hown688 (hw _ (List.mem_of_getElem? (i := 47) rfl)) Via.refl e705 f690 (hb hby d16_57) (q := 60) rfl fun T706 X706 e706 => ?_
  refine g_iconst X706 hx (hb hby d16_60) (n := (2 : Int32)) (by decide) (q := 61) rfl ?_
  refine g_aloadN X706 hx (hb hby d16_61) (v := (.ref t)) rfl rfl (q := 62) rfl ?_
  refine g_getF X706 hx hZ688 hown688 (hw _ (List.mem_of_getElem? (i := 57) rfl)) Via.refl e706 f692 (hb hby d16_62) (q := 65) rfl fun T707 X707 e707 => ?_
  refine g_imul X707 hx (hb hby d16_65) (z := (0 : Int32)) (by decide) (q := 66) rfl ?_
  refine g_aloadN X707 hx (hb hby d16_66) (v := (.ref a)) rfl rfl (q := 67) rfl ?_
  refine g_aastore X707 hx hZ688 e707 f695 rfl (by decide) (by show 0 < 2 * r; omega) (Ov.sto f696 (Ins.of_exa f701 (hw _ (List.mem_of_getElem? (i := 104) rfl)))) (hb hby d16_67) (q := 68) rfl fun T708 h708 X708 e708 W708 U708 => ?_
  have N708 := Fr.snoc X708 (Fr.nil n0) (Nat.le_trans hgt (Nat.le_of_lt tma))
  have z_708 := Nat.le_trans z_688 (Keep.of_wr W708).1
  have hk_708 := Nat.le_trans hk688 (Keep.of_wr W708).1
  have kp_708 := kp_688.wr W708 (Or.inl (List.mem_of_getElem? (i := 1) rfl))
  have f709 := (f689.wr W708)
  have f710 := (f690.other W708 (Or.inl (Nat.ne_of_lt tma)))
  have f711 := (f691.other W708 (Or.inl (Nat.ne_of_lt tma)))
  have f712 := (f692.other W708 (Or.inl (Nat.ne_of_lt tma)))
  have f713 := (f693.other W708 (Or.inl (Nat.ne_of_lt tma)))
  have f714 := (f694.other W708 (Or.inl (Nat.ne_of_lt tma)))
  have f715 := (f696.wr W708)
  have f716 := (f697.wr W708)
  have f717 := (f698.other W708 (Ne.symm nmh))
  have f718 := (f699.wr W708)
  have f719 := (f700.other W708 (Nat.ne_of_lt (Nat.lt_trans hat tma)) (Nat.ne_of_lt (Nat.lt_trans hvt tma)))
  have f720 := (f701.wr W708)
  have f721 := (f702.wr W708)
  refine g_aloadN X708 hx (hb hby d16_68) (v := (.ref t)) rfl rfl (q := 69) rfl ?_
  refine g_getF X708 hx hZ688 hown688 (hw _ (List.mem_of_getElem? (i := 47) rfl)) Via.refl e708 f710 (hb hby d16_69) (q := 72) rfl fun T722 X722 e722 => ?_
  refine g_iconst X722 hx (hb hby d16_72) (n := (2 : Int32)) (by decide) (q := 73) rfl ?_
  refine g_aloadN X722 hx (hb hby d16_73) (v := (.ref t)) rfl rfl (q := 74) rfl ?_
  refine g_getF X722 hx hZ688 hown688 (hw _ (List.mem_of_getElem? (i := 57) rfl)) Via.refl e722 f712 (hb hby d16_74) (q := 77) rfl fun T723 X723 e723 => ?_
  refine g_imul X723 hx (hb hby d16_77) (z := (0 : Int32)) (by decide) (q := 78) rfl ?_
  refine g_iconst X723 hx (hb hby d16_78) (n := (1 : Int32)) (by decide) (q := 79) rfl ?_
  refine g_iadd X723 hx (hb hby d16_79) (z := (1 : Int32)) (by decide) (q := 80) rfl ?_
  refine g_aloadN X723 hx (hb hby d16_80) (v := val) rfl hvr (q := 81) rfl ?_
  refine g_aastore X723 hx hZ688 e723 U708 rfl (by decide) (by show 1 < 2 * r; omega) (f721.sto f715 (hw _ (List.mem_of_getElem? (i := 104) rfl)) (hw _ (List.mem_of_getElem? (i := 105) rfl))) (hb hby d16_81) (q := 82) rfl fun T724 h724 X724 e724 W724 U724 => ?_
  have N724 := Fr.snoc X724 N708 (Nat.le_trans hgt (Nat.le_of_lt tma))
  have z_724 := Nat.le_trans z_708 (Keep.of_wr W724).1
  have hk_724 := Nat.le_trans hk_708 (Keep.of_wr W724).1
  have kp_724 := kp_708.wr W724 (Or.inl (List.mem_of_getElem? (i := 1) rfl))
  have f725 := (f709.wr W724)
  have f726 := (f710.other W724 (Or.inl (Nat.ne_of_lt tma)))
  have f727 := (f711.other W724 (Or.inl (Nat.ne_of_lt tma)))
  have f728 := (f712.other W724 (Or.inl (Nat.ne_of_lt tma)))
  have f729 := (f713.other W724 (Or.inl (Nat.ne_of_lt tma)))
  have f730 := (f714.other W724 (Or.inl (Nat.ne_of_lt tma)))
  have f731 := (f715.wr W724)
  have f732 := (f716.wr W724)
  have f733 := (f717.other W724 (Ne.symm nmh))
  have f734 := (f718.wr W724)
  have f735 := (f719.other W724 (Nat.ne_of_lt (Nat.lt_trans hat tma)) (Nat.ne_of_lt (Nat.lt_trans hvt tma)))
  have f736 := (f720.wr W724)
  have f737 := (f721.wr W724)
  refine g_aloadN X724 hx (hb hby d16_82) (v := (.ref t)) rfl rfl (q := 83) rfl ?_
  refine g_getF X724 hx hZ688 hown688 (hw _ (List.mem_of_getElem? (i := 50) rfl)) Via.refl e724 f727 (hb hby d16_83) (q := 86) rfl fun T738 X738 e738 => ?_
  refine g_aloadN X738 hx (hb hby d16_86) (v := (.ref t)) rfl rfl (q := 87) rfl ?_
  refine g_getF X738 hx hZ688 hown688 (hw _ (List.mem_of_getElem? (i := 57) rfl)) Via.refl e738 f728 (hb hby d16_87) (q := 90) rfl fun T739 X739 e739 => ?_
  refine g_aloadN X739 hx (hb hby d16_90) (v := (.ref a)) rfl rfl (q := 91) rfl ?_
  refine g_callV X739 hx hZ688 hown688 (hw _ (List.mem_of_getElem? (i := 106) rfl)) (hw _ (List.mem_of_getElem? (i := 107) rfl)) (hw _ (List.mem_of_getElem? (i := 108) rfl)) (hw _ (List.mem_of_getElem? (i := 79) rfl)) (hw _ (List.mem_of_getElem? (i := 80) rfl)) (hw _ (List.mem_of_getElem? (i := 2) rfl)) (notFace_of_selects (args := #[]) (mvT hZ688 (hw _ (List.mem_of_getElem? (i := 108) rfl)))) (by decide) e739 f736 (rmSH l Z a0 hw a va ch cs hcs h724 n0 hga f734 f735) (by exact hml.symm) (argsL := []) (rest := [(.int (0 : Int32)), (.ref ha)]) rfl rfl pd_8 rfl (Nat.le_of_ble_eq_true rfl) (Nat.le_of_ble_eq_true rfl) (Nat.le_of_ble_eq_true rfl) (Nat.le_of_ble_eq_true rfl) (hb hby d16_91) (q := 94) rfl (fun v740 T740 L740 X740 hQ740 => ?_)
  generalize e740 : T740.heap = h740 at hQ740
  obtain ⟨rfl, M740, K740, U740⟩ := hQ740
  have N740 := Fr.app N724 M740
  have z_740 := Nat.le_trans z_724 K740.1
  have hk_740 := Nat.le_trans hk_724 K740.1
  have kp_740 := kp_724.trans K740 (allS (P := fun x => x ∈ [t, ma, ha, a] ∨ h0.size ≤ x) (Or.inl (List.mem_of_getElem? (i := 3) rfl)) all0)
  have f741 := (f725.keep K740)
  have f742 := (f726.keep K740 (ninS (Ne.symm (Nat.ne_of_lt hat)) nin0))
  have f743 := (f727.keep K740 (ninS (Ne.symm (Nat.ne_of_lt hat)) nin0))
  have f744 := (f728.keep K740 (ninS (Ne.symm (Nat.ne_of_lt hat)) nin0))
  have f745 := (f729.keep K740 (ninS (Ne.symm (Nat.ne_of_lt hat)) nin0))
  have f746 := (f730.keep K740 (ninS (Ne.symm (Nat.ne_of_lt hat)) nin0))
  have f747 := (U724.keep K740 (ninS (Ne.symm (Nat.ne_of_lt (Nat.lt_trans hat tma))) nin0))
  have f748 := (f731.keep K740)
  have f749 := (f732.keep K740)
  have f750 := (f733.keep K740 (ninS (Ne.symm (Nat.ne_of_lt (Nat.lt_trans hat tha))) nin0))
  have f751 := (own_sta_keep f734 K740 (nsS f736.nostat ns0))
  have f752 := (f736.keep K740)
  have f753 := (f737.keep K740)
  show Go p e below _ (T740.setTop (mkF m 94 #[.val (.ref t), .val (.ref a), .val val, .unset] [(.int ch), (.int (0 : Int32)), (.ref ha)]))
  refine g_iastore X740 hx hZ688 e740 f750 (by decide) (by show 0 < r; omega)  (hb hby d16_94) (q := 95) rfl fun T754 h754 X754 e754 W754 U754 => ?_
  have N754 := Fr.snoc X754 N740 (Nat.le_trans hgt (Nat.le_of_lt tha))
  have z_754 := Nat.le_trans z_740 (Keep.of_wr W754).1
  have hk_754 := Nat.le_trans hk_740 (Keep.of_wr W754).1
  have kp_754 := kp_740.wr W754 (Or.inl (List.mem_of_getElem? (i := 2) rfl))
  have f755 := (f741.wr W754)
  have f756 := (f742.other W754 (Or.inl (Nat.ne_of_lt tha)))
  have f757 := (f743.other W754 (Or.inl (Nat.ne_of_lt tha)))
  have f758 := (f744.other W754 (Or.inl (Nat.ne_of_lt tha)))
  have f759 := (f745.other W754 (Or.inl (Nat.ne_of_lt tha)))
  have f760 := (f746.other W754 (Or.inl (Nat.ne_of_lt tha)))
  have f761 := (f747.other W754 nmh)
  have f762 := (f748.wr W754)
  have f763 := (f749.wr W754)
  have f764 := (f751.wr W754)
  have f765 := (U740.other W754 (Nat.ne_of_lt (Nat.lt_trans hat tha)) (Nat.ne_of_lt (Nat.lt_trans hvt tha)))
  have f766 := (f752.wr W754)
  have f767 := (f753.wr W754)
  refine g_aloadN X754 hx (hb hby d16_95) (v := (.ref t)) rfl rfl (q := 96) rfl ?_
  refine g_dup X754 hx (hb hby d16_96) rfl (q := 97) rfl ?_
  refine g_getF X754 hx hZ688 hown688 (hw _ (List.mem_of_getElem? (i := 57) rfl)) Via.refl e754 f758 (hb hby d16_97) (q := 100) rfl fun T768 X768 e768 => ?_
  refine g_iconst X768 hx (hb hby d16_100) (n := (1 : Int32)) (by decide) (q := 101) rfl ?_
  refine g_iadd X768 hx (hb hby d16_101) (z := (1 : Int32)) (by decide) (q := 102) rfl ?_
  refine g_putF X768 hx hZ688 hown688 (hw _ (List.mem_of_getElem? (i := 57) rfl)) Via.refl e768 f758 f755 (Or.inl (hw _ (List.mem_of_getElem? (i := 58) rfl))) (hw _ (List.mem_of_getElem? (i := 34) rfl)) (ty := .int) (by decide) rfl rfl (hb hby d16_102) (q := 105) rfl fun T769 h769 X769 e769 W769 => ?_
  have fw769 := f758.same W769
  have N769 := Fr.snoc X769 N754 hgt
  have z_769 := Nat.le_trans z_754 (Keep.of_wr W769).1
  have hk_769 := Nat.le_trans hk_754 (Keep.of_wr W769).1
  have kp_769 := kp_754.wr W769 (Or.inl (List.mem_of_getElem? (i := 0) rfl))
  have f770 := (f755.wr W769)
  have f771 := (f756.other W769 (Or.inr (slot_ne (Or.inl (hw _ (List.mem_of_getElem? (i := 48) rfl))) (Or.inl (hw _ (List.mem_of_getElem? (i := 58) rfl))) (by decide) (t := (.array (.object "java/lang/Object"))) (t' := .int) (by decide) (by decide))))
  have f772 := (f757.other W769 (Or.inr (slot_ne (Or.inl (hw _ (List.mem_of_getElem? (i := 51) rfl))) (Or.inl (hw _ (List.mem_of_getElem? (i := 58) rfl))) (by decide) (t := (.array .int)) (t' := .int) (by decide) (by decide))))
  have f773 := (f759.other W769 (Or.inr (slot_ne (Or.inl (hw _ (List.mem_of_getElem? (i := 74) rfl))) (Or.inl (hw _ (List.mem_of_getElem? (i := 58) rfl))) (by decide) (t := (.object "java/util/Map")) (t' := .int) (by decide) (by decide))))
  have f774 := (f760.other W769 (Or.inr (slot_ne (Or.inl (hw _ (List.mem_of_getElem? (i := 110) rfl))) (Or.inl (hw _ (List.mem_of_getElem? (i := 58) rfl))) (by decide) (t := .int) (t' := .int) (by decide) (by decide))))
  have f775 := (f761.other W769 (Ne.symm (Nat.ne_of_lt tma)))
  have f776 := (f762.wr W769)
  have f777 := (f763.wr W769)
  have f778 := (U754.other W769 (Ne.symm (Nat.ne_of_lt tha)))
  have f779 := (f764.wr W769)
  have f780 := (f765.other W769 (Nat.ne_of_lt hat) (Nat.ne_of_lt hvt))
  have f781 := (f766.wr W769)
  have f782 := (f767.wr W769)
  refine g_aloadN X769 hx (hb hby d16_105) (v := (.ref t)) rfl rfl (q := 106) rfl ?_
  refine g_dup X769 hx (hb hby d16_106) rfl (q := 107) rfl ?_
  refine g_getF X769 hx hZ688 hown688 (hw _ (List.mem_of_getElem? (i := 109) rfl)) Via.refl e769 f774 (hb hby d16_107) (q := 110) rfl fun T783 X783 e783 => ?_
  refine g_iconst X783 hx (hb hby d16_110) (n := (1 : Int32)) (by decide) (q := 111) rfl ?_
  refine g_iadd X783 hx (hb hby d16_111) (z := (cg + (1 : Int32))) rfl (q := 112) rfl ?_
  refine g_putF X783 hx hZ688 hown688 (hw _ (List.mem_of_getElem? (i := 109) rfl)) Via.refl e783 f774 f770 (Or.inl (hw _ (List.mem_of_getElem? (i := 110) rfl))) (hw _ (List.mem_of_getElem? (i := 34) rfl)) (ty := .int) (by decide) rfl rfl (hb hby d16_112) (q := 115) rfl fun T784 h784 X784 e784 W784 => ?_
  have fw784 := f774.same W784
  have N784 := Fr.snoc X784 N769 hgt
  have z_784 := Nat.le_trans z_769 (Keep.of_wr W784).1
  have hk_784 := Nat.le_trans hk_769 (Keep.of_wr W784).1
  have kp_784 := kp_769.wr W784 (Or.inl (List.mem_of_getElem? (i := 0) rfl))
  have f785 := (f770.wr W784)
  have f786 := (f771.other W784 (Or.inr (slot_ne (Or.inl (hw _ (List.mem_of_getElem? (i := 48) rfl))) (Or.inl (hw _ (List.mem_of_getElem? (i := 110) rfl))) (by decide) (t := (.array (.object "java/lang/Object"))) (t' := .int) (by decide) (by decide))))
  have f787 := (f772.other W784 (Or.inr (slot_ne (Or.inl (hw _ (List.mem_of_getElem? (i := 51) rfl))) (Or.inl (hw _ (List.mem_of_getElem? (i := 110) rfl))) (by decide) (t := (.array .int)) (t' := .int) (by decide) (by decide))))
  have f788 := (fw769.other W784 (Or.inr (slot_ne (Or.inl (hw _ (List.mem_of_getElem? (i := 58) rfl))) (Or.inl (hw _ (List.mem_of_getElem? (i := 110) rfl))) (by decide) (t := .int) (t' := .int) (by decide) (by decide))))
  have f789 := (f773.other W784 (Or.inr (slot_ne (Or.inl (hw _ (List.mem_of_getElem? (i := 74) rfl))) (Or.inl (hw _ (List.mem_of_getElem? (i := 110) rfl))) (by decide) (t := (.object "java/util/Map")) (t' := .int) (by decide) (by decide))))
  have f790 := (f775.other W784 (Ne.symm (Nat.ne_of_lt tma)))
  have f791 := (f776.wr W784)
  have f792 := (f777.wr W784)
  have f793 := (f778.other W784 (Ne.symm (Nat.ne_of_lt tha)))
  have f794 := (f779.wr W784)
  have f795 := (f780.other W784 (Nat.ne_of_lt hat) (Nat.ne_of_lt hvt))
  have f796 := (f781.wr W784)
  have f797 := (f782.wr W784)
  refine g_aloadN X784 hx (hb hby d16_115) (v := (.ref t)) rfl rfl (q := 116) rfl ?_
  refine g_getF X784 hx hZ688 hown688 (hw _ (List.mem_of_getElem? (i := 73) rfl)) Via.refl e784 f789 (hb hby d16_116) (q := 119) rfl fun T798 X798 e798 => ?_
  refine g_ifnullY X798 hx (hb hby d16_119) (by decide) (q := 145) (by decide) ?_
  refine g_aloadN X798 hx (hb hby d16_145) (v := (.ref t)) rfl rfl (q := 146) rfl ?_
  refine g_getF X798 hx hZ688 hown688 (hw _ (List.mem_of_getElem? (i := 57) rfl)) Via.refl e798 f788 (hb hby d16_146) (q := 149) rfl fun T799 X799 e799 => ?_
  refine g_bipush X799 hx (hb hby d16_149) (n := (16 : Int32)) (by decide) (q := 151) rfl ?_
  refine g_icmp_le X799 hx (hb hby d16_151) (by decide) (q := 158) (by decide) (q2 := 154) rfl (fun hb151 => ?_) (fun hb151 => absurd hb151 (by decide))
  exact g_retVW X799 hS688 (by rw [e799]; exact hk_784) hx hret hlk (hb hby d16_158) ⟨rfl, by simpa using N784, ⟨[t, ma, ha, a], by rw [e799]; exact kp_784, own_all4 E0 A0 V1 SA.1 tma tha⟩, by rw [e799]; exact f795, ma, ha, r, _, _, _, ⟨by rw [e799]; exact f785, by rw [e799]; exact f786, by rw [e799]; exact f787, by rw [e799]; exact f788, by rw [e799]; exact f789, by rw [e799]; exact fw784, by rw [e799]; exact f790, by rw [e799]; exact f791, by rw [e799]; exact f792, by rw [e799]; exact f793, tma, tha, nmh, hr8⟩, hlt, rfl, by rw [e799]; exact f797, rfl⟩ (Nat.le_of_ble_eq_true rfl) (Nat.le_of_ble_eq_true rfl)
theorem rmAp0 (l : Launch) (Z : State) (a0 : Array Value) (hw : ∀ d ∈ tables_1, d.before a0 Z = true) (t ma ha : Addr) (r : Nat) (fm fh : Nat → Value) (cg : Int32) (a va mr : Addr) (val : Value) (ch cs : Int32) (hcs : ¬ cs = 0) (h0 : Heap) (n0 : Nat) (Z0 : n0 ≤ h0.size) (hga : n0 ≤ a) (hgt : n0 ≤ t) (SC : Sta Z h0 "java/lang/String" "COMPACT_STRINGS" "Z" (.int cs)) (SA : Str Z h0 a va ch) (SV : Sb Z h0 val) (hvr : val.isRef = true) (MR : Mr Z "[Ljava/lang/Object;" mr) (hat : a < t) (hvt : va < t) (TC : TrC Z h0 t (0 : Int32) ma ha r fm fh cg) (hnr : 0 ≤ r) :
    ConW l Z h0 (⟨"com/example/kehys/kehys/io/TreeObject", "append", "(Ljava/lang/String;Ljava/lang/Object;)V"⟩ : MethodName) prog_18_method_17_code 4 none ({ frames := 3, cells := 4, slots := 32, locals := 60 } : Room) #[(.ref t), (.ref a), val] (fun v h L => v = none ∧ Fr n0 L ∧ Up h0 h a t ∧ Str Z h a va ch ∧ Tr1 Z h t a ch) := by
  rcases Nat.eq_or_lt_of_le hnr with q | q
  · subst q; exact rmApG0 l Z a0 hw t ma ha fm fh cg a va mr val ch cs hcs h0 n0 Z0 hga hgt SC SA SV hvr MR hat hvt TC
  · exact rmApN0 l Z a0 hw t ma ha r fm fh cg a va mr val ch cs hcs h0 n0 Z0 hga hgt SC SA SV hvr MR hat hvt TC q
set_option maxRecDepth 65536 in
set_option maxHeartbeats 40000000 in
theorem rmApG1 (l : Launch) (Z : State) (a0 : Array Value) (hw : ∀ d ∈ tables_1, d.before a0 Z = true) (t ma ha : Addr) (fm fh : Nat → Value) (cg : Int32) (a va mr : Addr) (val : Value) (ch cs : Int32) (hcs : ¬ cs = 0) (h0 : Heap) (n0 : Nat) (Z0 : n0 ≤ h0.size) (hga : n0 ≤ a) (hgt : n0 ≤ t) (SC : Sta Z h0 "java/lang/String" "COMPACT_STRINGS" "Z" (.int cs)) (SA : Str Z h0 a va ch) (SV : Sb Z h0 val) (hvr : val.isRef = true) (MR : Mr Z "[Ljava/lang/Object;" mr) (hat : a < t) (hvt : va < t) (TC : TrC Z h0 t (1 : Int32) ma ha 1 fm fh cg) (s0 : Addr) (c0 : Int32) (hm0 : fm 0 = .ref s0) (hv0 : Sb Z h0 (fm 1)) (hh0 : fh 0 = .int c0) (hs0 : Sb Z h0 (.ref s0)) :
    ConW l Z h0 (⟨"com/example/kehys/kehys/io/TreeObject", "append", "(Ljava/lang/String;Ljava/lang/Object;)V"⟩ : MethodName) prog_18_method_17_code 4 none ({ frames := 3, cells := 4, slots := 32, locals := 60 } : Room) #[(.ref t), (.ref a), val] (fun v h L => v = none ∧ Fr n0 L ∧ Up h0 h a t ∧ Str Z h a va ch ∧ Tr2 Z h t s0 c0 a ch) := by
  obtain ⟨E0, F0, F1, F2, F3, F4, V0, O0, A0, V1, tma, tha, nmh, hr8⟩ := TC
  refine con_ofW (plainFor_of_name pn_5) (Ls := #[.val (.ref t), .val (.ref a), .val val, .unset]) (fun m => by cases val <;> first | (simp [Value.isRef] at hvr; done) | (simp [entryFrame, mkF, argsToLocals, Value.category]; done) | rfl) ?_
  intro p e s m below meth c s₁ vm0 k0 hx hZ hby hml hret hlk hnm hown X0 e0 hS hk
  refine g_aloadN X0 hx (hb hby d16_0) (v := (.ref a)) rfl rfl (q := 1) rfl ?_
  refine g_ldcS X0 hx hZ hown (hw _ (List.mem_of_getElem? (i := 97) rfl)) (own_strA hw) e0 hS hk (hb hby d16_1) (n := 16) (by decide) (by decide) (Nat.le_of_ble_eq_true rfl) (Nat.le_of_ble_eq_true rfl) (q := 3) rfl fun b800 T800 h800 k800 X800 e800 E800 hS800 hk800 hZ800 hown800 => ?_
  have z_800 := Nat.le_trans Z0 E800.1
  have kp_800 := (Keep.refl h0 [t, ma, ha, a]).ext E800
  have f801 := (E0.ext E800)
  have f802 := (F0.ext E800)
  have f803 := (F1.ext E800)
  have f804 := (F2.ext E800)
  have f805 := (F3.ext E800)
  have f806 := (F4.ext E800)
  have f807 := (V0.ext E800)
  have f808 := (O0.ext E800)
  have f809 := (A0.ext E800)
  have f810 := (V1.ext E800)
  have f811 := (SC.ext E800)
  have f812 := (SA.ext E800)
  have f813 := (SA.1.ext E800)
  have f814 := (SV.ext E800)
  have f815 := (hv0.ext E800)
  have f816 := (hs0.ext E800)
  refine g_callS X800 hx hZ800 hown800 (hw _ (List.mem_of_getElem? (i := 100) rfl)) (hw _ (List.mem_of_getElem? (i := 101) rfl)) (hw _ (List.mem_of_getElem? (i := 102) rfl)) (hw _ (List.mem_of_getElem? (i := 103) rfl)) (by decide) e800 (rmRN l Z a0 hw a b800 h800) (by exact hml.symm) (argsL := [(.ref a), (.ref b800)]) (rest := []) rfl rfl pd_12 rfl (Nat.le_of_ble_eq_true rfl) (Nat.le_of_ble_eq_true rfl) (Nat.le_of_ble_eq_true rfl) (Nat.le_of_ble_eq_true rfl) (hb hby d16_3) (q := 6) rfl (g_pure rfl rfl fun T817 X817 e817 => ?_)
  show Go p e below _ (T817.setTop (mkF m 6 #[.val (.ref t), .val (.ref a), .val val, .unset] [(.ref a)]))
  refine g_pop X817 hx (hb hby d16_6) rfl (q := 7) rfl ?_
  refine g_aloadN X817 hx (hb hby d16_7) (v := (.ref t)) rfl rfl (q := 8) rfl ?_
  refine g_getF X817 hx hZ800 hown800 (hw _ (List.mem_of_getElem? (i := 57) rfl)) Via.refl e817 f804 (hb hby d16_8) (q := 11) rfl fun T818 X818 e818 => ?_
  refine g_aloadN X818 hx (hb hby d16_11) (v := (.ref t)) rfl rfl (q := 12) rfl ?_
  refine g_getF X818 hx hZ800 hown800 (hw _ (List.mem_of_getElem? (i := 50) rfl)) Via.refl e818 f803 (hb hby d16_12) (q := 15) rfl fun T819 X819 e819 => ?_
  refine g_len X819 hx hZ800 e819 f810 (z := (1 : Int32)) rfl (hb hby d16_15) (q := 16) rfl ?_
  refine g_icmp_ne X819 hx (hb hby d16_16) (by decide) (q := 56) (by decide) (q2 := 19) rfl (fun hb16 => absurd hb16 (by decide)) (fun hb16 => ?_)
  refine g_iconst X819 hx (hb hby d16_19) (n := (4 : Int32)) (by decide) (q := 20) rfl ?_
  refine g_iconst X819 hx (hb hby d16_20) (n := (2 : Int32)) (by decide) (q := 21) rfl ?_
  refine g_aloadN X819 hx (hb hby d16_21) (v := (.ref t)) rfl rfl (q := 22) rfl ?_
  refine g_getF X819 hx hZ800 hown800 (hw _ (List.mem_of_getElem? (i := 57) rfl)) Via.refl e819 f804 (hb hby d16_22) (q := 25) rfl fun T820 X820 e820 => ?_
  refine g_imul X820 hx (hb hby d16_25) (z := (2 : Int32)) (by decide) (q := 26) rfl ?_
  refine g_callS X820 hx hZ800 hown800 (hw _ (List.mem_of_getElem? (i := 128) rfl)) (hw _ (List.mem_of_getElem? (i := 129) rfl)) (hw _ (List.mem_of_getElem? (i := 130) rfl)) (hw _ (List.mem_of_getElem? (i := 131) rfl)) (by decide) e820 (rm_max_4_2 l Z a0 hw h800) (by exact hml.symm) (argsL := [(.int (4 : Int32)), (.int (2 : Int32))]) (rest := []) rfl rfl pd_10 rfl (Nat.le_of_ble_eq_true rfl) (Nat.le_of_ble_eq_true rfl) (Nat.le_of_ble_eq_true rfl) (Nat.le_of_ble_eq_true rfl) (hb hby d16_26) (q := 29) rfl (g_pure rfl rfl fun T821 X821 e821 => ?_)
  show Go p e below _ (T821.setTop (mkF m 29 #[.val (.ref t), .val (.ref a), .val val, .unset] [(.int (4 : Int32))]))
  refine g_istoreN X821 hx (hb hby d16_29) (L' := #[.val (.ref t), .val (.ref a), .val val, .val (.int (4 : Int32))]) rfl (q := 30) rfl ?_
  refine g_aloadN X821 hx (hb hby d16_30) (v := (.ref t)) rfl rfl (q := 31) rfl ?_
  refine g_aloadN X821 hx (hb hby d16_31) (v := (.ref t)) rfl rfl (q := 32) rfl ?_
  refine g_getF X821 hx hZ800 hown800 (hw _ (List.mem_of_getElem? (i := 47) rfl)) Via.refl e821 f802 (hb hby d16_32) (q := 35) rfl fun T822 X822 e822 => ?_
  refine g_iconst X822 hx (hb hby d16_35) (n := (2 : Int32)) (by decide) (q := 36) rfl ?_
  refine g_iloadN X822 hx (hb hby d16_36) (v := (4 : Int32)) rfl (q := 37) rfl ?_
  refine g_imul X822 hx (hb hby d16_37) (z := (8 : Int32)) (by decide) (q := 38) rfl ?_
  refine g_callS X822 hx hZ800 hown800 (hw _ (List.mem_of_getElem? (i := 132) rfl)) (hw _ (List.mem_of_getElem? (i := 133) rfl)) (hw _ (List.mem_of_getElem? (i := 123) rfl)) (hw _ (List.mem_of_getElem? (i := 134) rfl)) (by decide) e822 (rmC2_1 l Z a0 hw ma mr fm h800 n0 z_800 MR f807 (by rw [hm0]; exact f816) f815 f809) (by exact hml.symm) (argsL := [(.ref ma), (.int (8 : Int32))]) (rest := [(.ref t)]) rfl rfl pd_13 rfl (Nat.le_of_ble_eq_true rfl) (Nat.le_of_ble_eq_true rfl) (Nat.le_of_ble_eq_true rfl) (Nat.le_of_ble_eq_true rfl) (hb hby d16_38) (q := 41) rfl (fun v823 T823 L823 X823 hQ823 => ?_)
  generalize e823 : T823.heap = h823 at hQ823
  obtain ⟨nm, rfl, M823, K823, g823, A823, Q823, V823⟩ := hQ823
  have ne_t_nm : t ≠ nm := Nat.ne_of_lt (Nat.lt_of_lt_of_le f801.lt g823)
  have ne_ma_nm : ma ≠ nm := Nat.ne_of_lt (Nat.lt_of_lt_of_le f809.lt g823)
  have ne_ha_nm : ha ≠ nm := Nat.ne_of_lt (Nat.lt_of_lt_of_le f810.lt g823)
  have ne_a_nm : a ≠ nm := Nat.ne_of_lt (Nat.lt_of_lt_of_le f813.lt g823)
  have ne_va_nm : va ≠ nm := Nat.ne_of_lt (Nat.lt_of_lt_of_le f812.vlt g823)
  have ge_nm : n0 ≤ nm := Nat.le_trans z_800 g823
  have sz_nm : h0.size ≤ nm := Nat.le_trans kp_800.1 g823
  have N823 := Fr.app (Fr.nil n0) M823
  have z_823 := Nat.le_trans z_800 K823.1
  have hk_823 := Nat.le_trans hk800 K823.1
  have kp_823 := kp_800.trans K823 all0
  have f824 := (f801.keep K823)
  have f825 := (f802.keep K823 nin0)
  have f826 := (f803.keep K823 nin0)
  have f827 := (f804.keep K823 nin0)
  have f828 := (f805.keep K823 nin0)
  have f829 := (f806.keep K823 nin0)
  have f830 := (f807.keep K823 nin0)
  have f831 := (f808.keep K823)
  have f832 := (f809.keep K823)
  have f833 := (f810.keep K823 nin0)
  have f834 := (own_sta_keep f811 K823 ns0)
  have f835 := (f812.keep K823 nin0 nin0)
  have f836 := (f813.keep K823)
  have f837 := (f814.keep K823)
  have f838 := (f815.keep K823)
  have f839 := (f816.keep K823)
  show Go p e below _ (T823.setTop (mkF m 41 #[.val (.ref t), .val (.ref a), .val val, .val (.int (4 : Int32))] [(.ref nm), (.ref t)]))
  refine g_putF X823 hx hZ800 hown800 (hw _ (List.mem_of_getElem? (i := 47) rfl)) Via.refl e823 f825 f824 (Or.inl (hw _ (List.mem_of_getElem? (i := 48) rfl))) (hw _ (List.mem_of_getElem? (i := 34) rfl)) (ty := (.array (.object "java/lang/Object"))) (by decide) rfl rfl (hb hby d16_41) (q := 44) rfl fun T840 h840 X840 e840 W840 => ?_
  have fw840 := f825.same W840
  have N840 := Fr.snoc X840 N823 hgt
  have z_840 := Nat.le_trans z_823 (Keep.of_wr W840).1
  have hk_840 := Nat.le_trans hk_823 (Keep.of_wr W840).1
  have kp_840 := kp_823.wr W840 (Or.inl (List.mem_of_getElem? (i := 0) rfl))
  have f841 := (f824.wr W840)
  have f842 := (f826.other W840 (Or.inr (slot_ne (Or.inl (hw _ (List.mem_of_getElem? (i := 51) rfl))) (Or.inl (hw _ (List.mem_of_getElem? (i := 48) rfl))) (by decide) (t := (.array .int)) (t' := (.array (.object "java/lang/Object"))) (by decide) (by decide))))
  have f843 := (f827.other W840 (Or.inr (slot_ne (Or.inl (hw _ (List.mem_of_getElem? (i := 58) rfl))) (Or.inl (hw _ (List.mem_of_getElem? (i := 48) rfl))) (by decide) (t := .int) (t' := (.array (.object "java/lang/Object"))) (by decide) (by decide))))
  have f844 := (f828.other W840 (Or.inr (slot_ne (Or.inl (hw _ (List.mem_of_getElem? (i := 74) rfl))) (Or.inl (hw _ (List.mem_of_getElem? (i := 48) rfl))) (by decide) (t := (.object "java/util/Map")) (t' := (.array (.object "java/lang/Object"))) (by decide) (by decide))))
  have f845 := (f829.other W840 (Or.inr (slot_ne (Or.inl (hw _ (List.mem_of_getElem? (i := 110) rfl))) (Or.inl (hw _ (List.mem_of_getElem? (i := 48) rfl))) (by decide) (t := .int) (t' := (.array (.object "java/lang/Object"))) (by decide) (by decide))))
  have f846 := (f830.other W840 (Ne.symm (Nat.ne_of_lt tma)))
  have f847 := (f831.wr W840)
  have f848 := (f832.wr W840)
  have f849 := (f833.other W840 (Ne.symm (Nat.ne_of_lt tha)))
  have f850 := (f834.wr W840)
  have f851 := (f835.other W840 (Nat.ne_of_lt hat) (Nat.ne_of_lt hvt))
  have f852 := (f836.wr W840)
  have f853 := (f837.wr W840)
  have f854 := (f838.wr W840)
  have f855 := (f839.wr W840)
  have f856 := (A823.wr W840)
  have f857 := (Q823.wr W840)
  have f858 := (V823.other W840 (Ne.symm ne_t_nm))
  refine g_aloadN X840 hx (hb hby d16_44) (v := (.ref t)) rfl rfl (q := 45) rfl ?_
  refine g_aloadN X840 hx (hb hby d16_45) (v := (.ref t)) rfl rfl (q := 46) rfl ?_
  refine g_getF X840 hx hZ800 hown800 (hw _ (List.mem_of_getElem? (i := 50) rfl)) Via.refl e840 f842 (hb hby d16_46) (q := 49) rfl fun T859 X859 e859 => ?_
  refine g_iloadN X859 hx (hb hby d16_49) (v := (4 : Int32)) rfl (q := 50) rfl ?_
  refine g_callS X859 hx hZ800 hown800 (hw _ (List.mem_of_getElem? (i := 153) rfl)) (hw _ (List.mem_of_getElem? (i := 154) rfl)) (hw _ (List.mem_of_getElem? (i := 123) rfl)) (hw _ (List.mem_of_getElem? (i := 155) rfl)) (by decide) e859 (rmCI_1 l Z a0 hw ha fh h840 n0 z_840 f849 c0 hh0) (by exact hml.symm) (argsL := [(.ref ha), (.int (4 : Int32))]) (rest := [(.ref t)]) rfl rfl pd_14 rfl (Nat.le_of_ble_eq_true rfl) (Nat.le_of_ble_eq_true rfl) (Nat.le_of_ble_eq_true rfl) (Nat.le_of_ble_eq_true rfl) (hb hby d16_50) (q := 53) rfl (fun v860 T860 L860 X860 hQ860 => ?_)
  generalize e860 : T860.heap = h860 at hQ860
  obtain ⟨nh, rfl, M860, K860, g860, V860⟩ := hQ860
  have ne_t_nh : t ≠ nh := Nat.ne_of_lt (Nat.lt_of_lt_of_le f841.lt g860)
  have ne_ma_nh : ma ≠ nh := Nat.ne_of_lt (Nat.lt_of_lt_of_le f848.lt g860)
  have ne_ha_nh : ha ≠ nh := Nat.ne_of_lt (Nat.lt_of_lt_of_le f849.lt g860)
  have ne_a_nh : a ≠ nh := Nat.ne_of_lt (Nat.lt_of_lt_of_le f852.lt g860)
  have ne_nm_nh : nm ≠ nh := Nat.ne_of_lt (Nat.lt_of_lt_of_le f856.lt g860)
  have ne_va_nh : va ≠ nh := Nat.ne_of_lt (Nat.lt_of_lt_of_le f851.vlt g860)
  have ge_nh : n0 ≤ nh := Nat.le_trans z_840 g860
  have sz_nh : h0.size ≤ nh := Nat.le_trans kp_840.1 g860
  have N860 := Fr.app N840 M860
  have z_860 := Nat.le_trans z_840 K860.1
  have hk_860 := Nat.le_trans hk_840 K860.1
  have kp_860 := kp_840.trans K860 all0
  have f861 := (f841.keep K860)
  have f862 := (fw840.keep K860 nin0)
  have f863 := (f842.keep K860 nin0)
  have f864 := (f843.keep K860 nin0)
  have f865 := (f844.keep K860 nin0)
  have f866 := (f845.keep K860 nin0)
  have f867 := (f846.keep K860 nin0)
  have f868 := (f847.keep K860)
  have f869 := (f848.keep K860)
  have f870 := (f849.keep K860 nin0)
  have f871 := (own_sta_keep f850 K860 ns0)
  have f872 := (f851.keep K860 nin0 nin0)
  have f873 := (f852.keep K860)
  have f874 := (f853.keep K860)
  have f875 := (f854.keep K860)
  have f876 := (f855.keep K860)
  have f877 := (f856.keep K860)
  have f878 := (f857.keep K860)
  have f879 := (f858.keep K860 nin0)
  show Go p e below _ (T860.setTop (mkF m 53 #[.val (.ref t), .val (.ref a), .val val, .val (.int (4 : Int32))] [(.ref nh), (.ref t)]))
  refine g_putF X860 hx hZ800 hown800 (hw _ (List.mem_of_getElem? (i := 50) rfl)) Via.refl e860 f863 f861 (Or.inl (hw _ (List.mem_of_getElem? (i := 51) rfl))) (hw _ (List.mem_of_getElem? (i := 34) rfl)) (ty := (.array .int)) (by decide) rfl rfl (hb hby d16_53) (q := 56) rfl fun T880 h880 X880 e880 W880 => ?_
  have fw880 := f863.same W880
  have N880 := Fr.snoc X880 N860 hgt
  have z_880 := Nat.le_trans z_860 (Keep.of_wr W880).1
  have hk_880 := Nat.le_trans hk_860 (Keep.of_wr W880).1
  have kp_880 := kp_860.wr W880 (Or.inl (List.mem_of_getElem? (i := 0) rfl))
  have f881 := (f861.wr W880)
  have f882 := (f862.other W880 (Or.inr (slot_ne (Or.inl (hw _ (List.mem_of_getElem? (i := 48) rfl))) (Or.inl (hw _ (List.mem_of_getElem? (i := 51) rfl))) (by decide) (t := (.array (.object "java/lang/Object"))) (t' := (.array .int)) (by decide) (by decide))))
  have f883 := (f864.other W880 (Or.inr (slot_ne (Or.inl (hw _ (List.mem_of_getElem? (i := 58) rfl))) (Or.inl (hw _ (List.mem_of_getElem? (i := 51) rfl))) (by decide) (t := .int) (t' := (.array .int)) (by decide) (by decide))))
  have f884 := (f865.other W880 (Or.inr (slot_ne (Or.inl (hw _ (List.mem_of_getElem? (i := 74) rfl))) (Or.inl (hw _ (List.mem_of_getElem? (i := 51) rfl))) (by decide) (t := (.object "java/util/Map")) (t' := (.array .int)) (by decide) (by decide))))
  have f885 := (f866.other W880 (Or.inr (slot_ne (Or.inl (hw _ (List.mem_of_getElem? (i := 110) rfl))) (Or.inl (hw _ (List.mem_of_getElem? (i := 51) rfl))) (by decide) (t := .int) (t' := (.array .int)) (by decide) (by decide))))
  have f886 := (f867.other W880 (Ne.symm (Nat.ne_of_lt tma)))
  have f887 := (f868.wr W880)
  have f888 := (f869.wr W880)
  have f889 := (f870.other W880 (Ne.symm (Nat.ne_of_lt tha)))
  have f890 := (f871.wr W880)
  have f891 := (f872.other W880 (Nat.ne_of_lt hat) (Nat.ne_of_lt hvt))
  have f892 := (f873.wr W880)
  have f893 := (f874.wr W880)
  have f894 := (f875.wr W880)
  have f895 := (f876.wr W880)
  have f896 := (f877.wr W880)
  have f897 := (f878.wr W880)
  have f898 := (f879.other W880 (Ne.symm ne_t_nm))
  have f899 := (V860.other W880 (Ne.symm ne_t_nh))
  refine g_aloadN X880 hx (hb hby d16_56) (v := (.ref t)) rfl rfl (q := 57) rfl ?_
  refine g_getF X880 hx hZ800 hown800 (hw _ (List.mem_of_getElem? (i := 47) rfl)) Via.refl e880 f882 (hb hby d16_57) (q := 60) rfl fun T900 X900 e900 => ?_
  refine g_iconst X900 hx (hb hby d16_60) (n := (2 : Int32)) (by decide) (q := 61) rfl ?_
  refine g_aloadN X900 hx (hb hby d16_61) (v := (.ref t)) rfl rfl (q := 62) rfl ?_
  refine g_getF X900 hx hZ800 hown800 (hw _ (List.mem_of_getElem? (i := 57) rfl)) Via.refl e900 f883 (hb hby d16_62) (q := 65) rfl fun T901 X901 e901 => ?_
  refine g_imul X901 hx (hb hby d16_65) (z := (2 : Int32)) (by decide) (q := 66) rfl ?_
  refine g_aloadN X901 hx (hb hby d16_66) (v := (.ref a)) rfl rfl (q := 67) rfl ?_
  refine g_aastore X901 hx hZ800 e901 f898 rfl (by decide) (by decide) (Ov.sto f897 (Ins.of_exa f892 (hw _ (List.mem_of_getElem? (i := 104) rfl)))) (hb hby d16_67) (q := 68) rfl fun T902 h902 X902 e902 W902 U902 => ?_
  have N902 := Fr.snoc X902 N880 ge_nm
  have z_902 := Nat.le_trans z_880 (Keep.of_wr W902).1
  have hk_902 := Nat.le_trans hk_880 (Keep.of_wr W902).1
  have kp_902 := kp_880.wr W902 (Or.inr sz_nm)
  have f903 := (f881.wr W902)
  have f904 := (f882.other W902 (Or.inl ne_t_nm))
  have f905 := (fw880.other W902 (Or.inl ne_t_nm))
  have f906 := (f883.other W902 (Or.inl ne_t_nm))
  have f907 := (f884.other W902 (Or.inl ne_t_nm))
  have f908 := (f885.other W902 (Or.inl ne_t_nm))
  have f909 := (f886.other W902 ne_ma_nm)
  have f910 := (f887.wr W902)
  have f911 := (f888.wr W902)
  have f912 := (f889.other W902 ne_ha_nm)
  have f913 := (f890.wr W902)
  have f914 := (f891.other W902 ne_a_nm ne_va_nm)
  have f915 := (f892.wr W902)
  have f916 := (f893.wr W902)
  have f917 := (f894.wr W902)
  have f918 := (f895.wr W902)
  have f919 := (f896.wr W902)
  have f920 := (f897.wr W902)
  have f921 := (f899.other W902 (Ne.symm ne_nm_nh))
  refine g_aloadN X902 hx (hb hby d16_68) (v := (.ref t)) rfl rfl (q := 69) rfl ?_
  refine g_getF X902 hx hZ800 hown800 (hw _ (List.mem_of_getElem? (i := 47) rfl)) Via.refl e902 f904 (hb hby d16_69) (q := 72) rfl fun T922 X922 e922 => ?_
  refine g_iconst X922 hx (hb hby d16_72) (n := (2 : Int32)) (by decide) (q := 73) rfl ?_
  refine g_aloadN X922 hx (hb hby d16_73) (v := (.ref t)) rfl rfl (q := 74) rfl ?_
  refine g_getF X922 hx hZ800 hown800 (hw _ (List.mem_of_getElem? (i := 57) rfl)) Via.refl e922 f906 (hb hby d16_74) (q := 77) rfl fun T923 X923 e923 => ?_
  refine g_imul X923 hx (hb hby d16_77) (z := (2 : Int32)) (by decide) (q := 78) rfl ?_
  refine g_iconst X923 hx (hb hby d16_78) (n := (1 : Int32)) (by decide) (q := 79) rfl ?_
  refine g_iadd X923 hx (hb hby d16_79) (z := (3 : Int32)) (by decide) (q := 80) rfl ?_
  refine g_aloadN X923 hx (hb hby d16_80) (v := val) rfl hvr (q := 81) rfl ?_
  refine g_aastore X923 hx hZ800 e923 U902 rfl (by decide) (by decide) (f916.sto f920 (hw _ (List.mem_of_getElem? (i := 104) rfl)) (hw _ (List.mem_of_getElem? (i := 105) rfl))) (hb hby d16_81) (q := 82) rfl fun T924 h924 X924 e924 W924 U924 => ?_
  have N924 := Fr.snoc X924 N902 ge_nm
  have z_924 := Nat.le_trans z_902 (Keep.of_wr W924).1
  have hk_924 := Nat.le_trans hk_902 (Keep.of_wr W924).1
  have kp_924 := kp_902.wr W924 (Or.inr sz_nm)
  have f925 := (f903.wr W924)
  have f926 := (f904.other W924 (Or.inl ne_t_nm))
  have f927 := (f905.other W924 (Or.inl ne_t_nm))
  have f928 := (f906.other W924 (Or.inl ne_t_nm))
  have f929 := (f907.other W924 (Or.inl ne_t_nm))
  have f930 := (f908.other W924 (Or.inl ne_t_nm))
  have f931 := (f909.other W924 ne_ma_nm)
  have f932 := (f910.wr W924)
  have f933 := (f911.wr W924)
  have f934 := (f912.other W924 ne_ha_nm)
  have f935 := (f913.wr W924)
  have f936 := (f914.other W924 ne_a_nm ne_va_nm)
  have f937 := (f915.wr W924)
  have f938 := (f916.wr W924)
  have f939 := (f917.wr W924)
  have f940 := (f918.wr W924)
  have f941 := (f919.wr W924)
  have f942 := (f920.wr W924)
  have f943 := (f921.other W924 (Ne.symm ne_nm_nh))
  refine g_aloadN X924 hx (hb hby d16_82) (v := (.ref t)) rfl rfl (q := 83) rfl ?_
  refine g_getF X924 hx hZ800 hown800 (hw _ (List.mem_of_getElem? (i := 50) rfl)) Via.refl e924 f927 (hb hby d16_83) (q := 86) rfl fun T944 X944 e944 => ?_
  refine g_aloadN X944 hx (hb hby d16_86) (v := (.ref t)) rfl rfl (q := 87) rfl ?_
  refine g_getF X944 hx hZ800 hown800 (hw _ (List.mem_of_getElem? (i := 57) rfl)) Via.refl e944 f928 (hb hby d16_87) (q := 90) rfl fun T945 X945 e945 => ?_
  refine g_aloadN X945 hx (hb hby d16_90) (v := (.ref a)) rfl rfl (q := 91) rfl ?_
  refine g_callV X945 hx hZ800 hown800 (hw _ (List.mem_of_getElem? (i := 106) rfl)) (hw _ (List.mem_of_getElem? (i := 107) rfl)) (hw _ (List.mem_of_getElem? (i := 108) rfl)) (hw _ (List.mem_of_getElem? (i := 79) rfl)) (hw _ (List.mem_of_getElem? (i := 80) rfl)) (hw _ (List.mem_of_getElem? (i := 2) rfl)) (notFace_of_selects (args := #[]) (mvT hZ800 (hw _ (List.mem_of_getElem? (i := 108) rfl)))) (by decide) e945 f937 (rmSH l Z a0 hw a va ch cs hcs h924 n0 hga f935 f936) (by exact hml.symm) (argsL := []) (rest := [(.int (1 : Int32)), (.ref nh)]) rfl rfl pd_8 rfl (Nat.le_of_ble_eq_true rfl) (Nat.le_of_ble_eq_true rfl) (Nat.le_of_ble_eq_true rfl) (Nat.le_of_ble_eq_true rfl) (hb hby d16_91) (q := 94) rfl (fun v946 T946 L946 X946 hQ946 => ?_)
  generalize e946 : T946.heap = h946 at hQ946
  obtain ⟨rfl, M946, K946, U946⟩ := hQ946
  have N946 := Fr.app N924 M946
  have z_946 := Nat.le_trans z_924 K946.1
  have hk_946 := Nat.le_trans hk_924 K946.1
  have kp_946 := kp_924.trans K946 (allS (P := fun x => x ∈ [t, ma, ha, a] ∨ h0.size ≤ x) (Or.inl (List.mem_of_getElem? (i := 3) rfl)) all0)
  have f947 := (f925.keep K946)
  have f948 := (f926.keep K946 (ninS (Ne.symm (Nat.ne_of_lt hat)) nin0))
  have f949 := (f927.keep K946 (ninS (Ne.symm (Nat.ne_of_lt hat)) nin0))
  have f950 := (f928.keep K946 (ninS (Ne.symm (Nat.ne_of_lt hat)) nin0))
  have f951 := (f929.keep K946 (ninS (Ne.symm (Nat.ne_of_lt hat)) nin0))
  have f952 := (f930.keep K946 (ninS (Ne.symm (Nat.ne_of_lt hat)) nin0))
  have f953 := (f931.keep K946 (ninS (Ne.symm (Nat.ne_of_lt (Nat.lt_trans hat tma))) nin0))
  have f954 := (f932.keep K946)
  have f955 := (f933.keep K946)
  have f956 := (f934.keep K946 (ninS (Ne.symm (Nat.ne_of_lt (Nat.lt_trans hat tha))) nin0))
  have f957 := (own_sta_keep f935 K946 (nsS f937.nostat ns0))
  have f958 := (f937.keep K946)
  have f959 := (f938.keep K946)
  have f960 := (f939.keep K946)
  have f961 := (f940.keep K946)
  have f962 := (f941.keep K946)
  have f963 := (f942.keep K946)
  have f964 := (U924.keep K946 (ninS (Ne.symm ne_a_nm) nin0))
  have f965 := (f943.keep K946 (ninS (Ne.symm ne_a_nh) nin0))
  show Go p e below _ (T946.setTop (mkF m 94 #[.val (.ref t), .val (.ref a), .val val, .val (.int (4 : Int32))] [(.int ch), (.int (1 : Int32)), (.ref nh)]))
  refine g_iastore X946 hx hZ800 e946 f965 (by decide) (by decide)  (hb hby d16_94) (q := 95) rfl fun T966 h966 X966 e966 W966 U966 => ?_
  have N966 := Fr.snoc X966 N946 ge_nh
  have z_966 := Nat.le_trans z_946 (Keep.of_wr W966).1
  have hk_966 := Nat.le_trans hk_946 (Keep.of_wr W966).1
  have kp_966 := kp_946.wr W966 (Or.inr sz_nh)
  have f967 := (f947.wr W966)
  have f968 := (f948.other W966 (Or.inl ne_t_nh))
  have f969 := (f949.other W966 (Or.inl ne_t_nh))
  have f970 := (f950.other W966 (Or.inl ne_t_nh))
  have f971 := (f951.other W966 (Or.inl ne_t_nh))
  have f972 := (f952.other W966 (Or.inl ne_t_nh))
  have f973 := (f953.other W966 ne_ma_nh)
  have f974 := (f954.wr W966)
  have f975 := (f955.wr W966)
  have f976 := (f956.other W966 ne_ha_nh)
  have f977 := (f957.wr W966)
  have f978 := (U946.other W966 ne_a_nh ne_va_nh)
  have f979 := (f958.wr W966)
  have f980 := (f959.wr W966)
  have f981 := (f960.wr W966)
  have f982 := (f961.wr W966)
  have f983 := (f962.wr W966)
  have f984 := (f963.wr W966)
  have f985 := (f964.other W966 ne_nm_nh)
  refine g_aloadN X966 hx (hb hby d16_95) (v := (.ref t)) rfl rfl (q := 96) rfl ?_
  refine g_dup X966 hx (hb hby d16_96) rfl (q := 97) rfl ?_
  refine g_getF X966 hx hZ800 hown800 (hw _ (List.mem_of_getElem? (i := 57) rfl)) Via.refl e966 f970 (hb hby d16_97) (q := 100) rfl fun T986 X986 e986 => ?_
  refine g_iconst X986 hx (hb hby d16_100) (n := (1 : Int32)) (by decide) (q := 101) rfl ?_
  refine g_iadd X986 hx (hb hby d16_101) (z := (2 : Int32)) (by decide) (q := 102) rfl ?_
  refine g_putF X986 hx hZ800 hown800 (hw _ (List.mem_of_getElem? (i := 57) rfl)) Via.refl e986 f970 f967 (Or.inl (hw _ (List.mem_of_getElem? (i := 58) rfl))) (hw _ (List.mem_of_getElem? (i := 34) rfl)) (ty := .int) (by decide) rfl rfl (hb hby d16_102) (q := 105) rfl fun T987 h987 X987 e987 W987 => ?_
  have fw987 := f970.same W987
  have N987 := Fr.snoc X987 N966 hgt
  have z_987 := Nat.le_trans z_966 (Keep.of_wr W987).1
  have hk_987 := Nat.le_trans hk_966 (Keep.of_wr W987).1
  have kp_987 := kp_966.wr W987 (Or.inl (List.mem_of_getElem? (i := 0) rfl))
  have f988 := (f967.wr W987)
  have f989 := (f968.other W987 (Or.inr (slot_ne (Or.inl (hw _ (List.mem_of_getElem? (i := 48) rfl))) (Or.inl (hw _ (List.mem_of_getElem? (i := 58) rfl))) (by decide) (t := (.array (.object "java/lang/Object"))) (t' := .int) (by decide) (by decide))))
  have f990 := (f969.other W987 (Or.inr (slot_ne (Or.inl (hw _ (List.mem_of_getElem? (i := 51) rfl))) (Or.inl (hw _ (List.mem_of_getElem? (i := 58) rfl))) (by decide) (t := (.array .int)) (t' := .int) (by decide) (by decide))))
  have f991 := (f971.other W987 (Or.inr (slot_ne (Or.inl (hw _ (List.mem_of_getElem? (i := 74) rfl))) (Or.inl (hw _ (List.mem_of_getElem? (i := 58) rfl))) (by decide) (t := (.object "java/util/Map")) (t' := .int) (by decide) (by decide))))
  have f992 := (f972.other W987 (Or.inr (slot_ne (Or.inl (hw _ (List.mem_of_getElem? (i := 110) rfl))) (Or.inl (hw _ (List.mem_of_getElem? (i := 58) rfl))) (by decide) (t := .int) (t' := .int) (by decide) (by decide))))
  have f993 := (f973.other W987 (Ne.symm (Nat.ne_of_lt tma)))
  have f994 := (f974.wr W987)
  have f995 := (f975.wr W987)
  have f996 := (f976.other W987 (Ne.symm (Nat.ne_of_lt tha)))
  have f997 := (f977.wr W987)
  have f998 := (f978.other W987 (Nat.ne_of_lt hat) (Nat.ne_of_lt hvt))
  have f999 := (f979.wr W987)
  have f1000 := (f980.wr W987)
  have f1001 := (f981.wr W987)
  have f1002 := (f982.wr W987)
  have f1003 := (f983.wr W987)
  have f1004 := (f984.wr W987)
  have f1005 := (f985.other W987 (Ne.symm ne_t_nm))
  have f1006 := (U966.other W987 (Ne.symm ne_t_nh))
  refine g_aloadN X987 hx (hb hby d16_105) (v := (.ref t)) rfl rfl (q := 106) rfl ?_
  refine g_dup X987 hx (hb hby d16_106) rfl (q := 107) rfl ?_
  refine g_getF X987 hx hZ800 hown800 (hw _ (List.mem_of_getElem? (i := 109) rfl)) Via.refl e987 f992 (hb hby d16_107) (q := 110) rfl fun T1007 X1007 e1007 => ?_
  refine g_iconst X1007 hx (hb hby d16_110) (n := (1 : Int32)) (by decide) (q := 111) rfl ?_
  refine g_iadd X1007 hx (hb hby d16_111) (z := (cg + (1 : Int32))) rfl (q := 112) rfl ?_
  refine g_putF X1007 hx hZ800 hown800 (hw _ (List.mem_of_getElem? (i := 109) rfl)) Via.refl e1007 f992 f988 (Or.inl (hw _ (List.mem_of_getElem? (i := 110) rfl))) (hw _ (List.mem_of_getElem? (i := 34) rfl)) (ty := .int) (by decide) rfl rfl (hb hby d16_112) (q := 115) rfl fun T1008 h1008 X1008 e1008 W1008 => ?_
  have fw1008 := f992.same W1008
  have N1008 := Fr.snoc X1008 N987 hgt
  have z_1008 := Nat.le_trans z_987 (Keep.of_wr W1008).1
  have hk_1008 := Nat.le_trans hk_987 (Keep.of_wr W1008).1
  have kp_1008 := kp_987.wr W1008 (Or.inl (List.mem_of_getElem? (i := 0) rfl))
  have f1009 := (f988.wr W1008)
  have f1010 := (f989.other W1008 (Or.inr (slot_ne (Or.inl (hw _ (List.mem_of_getElem? (i := 48) rfl))) (Or.inl (hw _ (List.mem_of_getElem? (i := 110) rfl))) (by decide) (t := (.array (.object "java/lang/Object"))) (t' := .int) (by decide) (by decide))))
  have f1011 := (f990.other W1008 (Or.inr (slot_ne (Or.inl (hw _ (List.mem_of_getElem? (i := 51) rfl))) (Or.inl (hw _ (List.mem_of_getElem? (i := 110) rfl))) (by decide) (t := (.array .int)) (t' := .int) (by decide) (by decide))))
  have f1012 := (fw987.other W1008 (Or.inr (slot_ne (Or.inl (hw _ (List.mem_of_getElem? (i := 58) rfl))) (Or.inl (hw _ (List.mem_of_getElem? (i := 110) rfl))) (by decide) (t := .int) (t' := .int) (by decide) (by decide))))
  have f1013 := (f991.other W1008 (Or.inr (slot_ne (Or.inl (hw _ (List.mem_of_getElem? (i := 74) rfl))) (Or.inl (hw _ (List.mem_of_getElem? (i := 110) rfl))) (by decide) (t := (.object "java/util/Map")) (t' := .int) (by decide) (by decide))))
  have f1014 := (f993.other W1008 (Ne.symm (Nat.ne_of_lt tma)))
  have f1015 := (f994.wr W1008)
  have f1016 := (f995.wr W1008)
  have f1017 := (f996.other W1008 (Ne.symm (Nat.ne_of_lt tha)))
  have f1018 := (f997.wr W1008)
  have f1019 := (f998.other W1008 (Nat.ne_of_lt hat) (Nat.ne_of_lt hvt))
  have f1020 := (f999.wr W1008)
  have f1021 := (f1000.wr W1008)
  have f1022 := (f1001.wr W1008)
  have f1023 := (f1002.wr W1008)
  have f1024 := (f1003.wr W1008)
  have f1025 := (f1004.wr W1008)
  have f1026 := (f1005.other W1008 (Ne.symm ne_t_nm))
  have f1027 := (f1006.other W1008 (Ne.symm ne_t_nh))
  refine g_aloadN X1008 hx (hb hby d16_115) (v := (.ref t)) rfl rfl (q := 116) rfl ?_
  refine g_getF X1008 hx hZ800 hown800 (hw _ (List.mem_of_getElem? (i := 73) rfl)) Via.refl e1008 f1013 (hb hby d16_116) (q := 119) rfl fun T1028 X1028 e1028 => ?_
  refine g_ifnullY X1028 hx (hb hby d16_119) (by decide) (q := 145) (by decide) ?_
  refine g_aloadN X1028 hx (hb hby d16_145) (v := (.ref t)) rfl rfl (q := 146) rfl ?_
  refine g_getF X1028 hx hZ800 hown800 (hw _ (List.mem_of_getElem? (i := 57) rfl)) Via.refl e1028 f1012 (hb hby d16_146) (q := 149) rfl fun T1029 X1029 e1029 => ?_
  refine g_bipush X1029 hx (hb hby d16_149) (n := (16 : Int32)) (by decide) (q := 151) rfl ?_
  refine g_icmp_le X1029 hx (hb hby d16_151) (by decide) (q := 158) (by decide) (q2 := 154) rfl (fun hb151 => ?_) (fun hb151 => absurd hb151 (by decide))
  exact g_retVW X1029 hS800 (by rw [e1029]; exact hk_1008) hx hret hlk (hb hby d16_158) ⟨rfl, by simpa using N1008, ⟨[t, ma, ha, a], by rw [e1029]; exact kp_1008, own_all4 E0 A0 V1 SA.1 tma tha⟩, by rw [e1029]; exact f1019, nm, nh, 4, _, _, _, ⟨by rw [e1029]; exact f1009, by rw [e1029]; exact f1010, by rw [e1029]; exact f1011, by rw [e1029]; exact f1012, by rw [e1029]; exact f1013, by rw [e1029]; exact fw1008, by rw [e1029]; exact f1026, by rw [e1029]; exact f1025, by rw [e1029]; exact f1024, by rw [e1029]; exact f1027, Nat.lt_of_lt_of_le E0.lt sz_nm, Nat.lt_of_lt_of_le E0.lt sz_nh, ne_nm_nh, by decide⟩, by decide, by exact hm0, by rw [e1029]; exact f1022, by exact hh0, by exact rfl, by rw [e1029]; exact f1021, by exact rfl⟩ (Nat.le_of_ble_eq_true rfl) (Nat.le_of_ble_eq_true rfl)
set_option maxRecDepth 65536 in
set_option maxHeartbeats 40000000 in
theorem rmApN1 (l : Launch) (Z : State) (a0 : Array Value) (hw : ∀ d ∈ tables_1, d.before a0 Z = true) (t ma ha : Addr) (r : Nat) (fm fh : Nat → Value) (cg : Int32) (a va mr : Addr) (val : Value) (ch cs : Int32) (hcs : ¬ cs = 0) (h0 : Heap) (n0 : Nat) (Z0 : n0 ≤ h0.size) (hga : n0 ≤ a) (hgt : n0 ≤ t) (SC : Sta Z h0 "java/lang/String" "COMPACT_STRINGS" "Z" (.int cs)) (SA : Str Z h0 a va ch) (SV : Sb Z h0 val) (hvr : val.isRef = true) (MR : Mr Z "[Ljava/lang/Object;" mr) (hat : a < t) (hvt : va < t) (TC : TrC Z h0 t (1 : Int32) ma ha r fm fh cg) (hlt : 1 < r) (s0 : Addr) (c0 : Int32) (hm0 : fm 0 = .ref s0) (hv0 : Sb Z h0 (fm 1)) (hh0 : fh 0 = .int c0) (hs0 : Sb Z h0 (.ref s0)) :
    ConW l Z h0 (⟨"com/example/kehys/kehys/io/TreeObject", "append", "(Ljava/lang/String;Ljava/lang/Object;)V"⟩ : MethodName) prog_18_method_17_code 4 none ({ frames := 3, cells := 4, slots := 32, locals := 60 } : Room) #[(.ref t), (.ref a), val] (fun v h L => v = none ∧ Fr n0 L ∧ Up h0 h a t ∧ Str Z h a va ch ∧ Tr2 Z h t s0 c0 a ch) := by
  obtain ⟨E0, F0, F1, F2, F3, F4, V0, O0, A0, V1, tma, tha, nmh, hr8⟩ := TC
  refine con_ofW (plainFor_of_name pn_5) (Ls := #[.val (.ref t), .val (.ref a), .val val, .unset]) (fun m => by cases val <;> first | (simp [Value.isRef] at hvr; done) | (simp [entryFrame, mkF, argsToLocals, Value.category]; done) | rfl) ?_
  intro p e s m below meth c s₁ vm0 k0 hx hZ hby hml hret hlk hnm hown X0 e0 hS hk
  refine g_aloadN X0 hx (hb hby d16_0) (v := (.ref a)) rfl rfl (q := 1) rfl ?_
  refine g_ldcS X0 hx hZ hown (hw _ (List.mem_of_getElem? (i := 97) rfl)) (own_strA hw) e0 hS hk (hb hby d16_1) (n := 16) (by decide) (by decide) (Nat.le_of_ble_eq_true rfl) (Nat.le_of_ble_eq_true rfl) (q := 3) rfl fun b1030 T1030 h1030 k1030 X1030 e1030 E1030 hS1030 hk1030 hZ1030 hown1030 => ?_
  have z_1030 := Nat.le_trans Z0 E1030.1
  have kp_1030 := (Keep.refl h0 [t, ma, ha, a]).ext E1030
  have f1031 := (E0.ext E1030)
  have f1032 := (F0.ext E1030)
  have f1033 := (F1.ext E1030)
  have f1034 := (F2.ext E1030)
  have f1035 := (F3.ext E1030)
  have f1036 := (F4.ext E1030)
  have f1037 := (V0.ext E1030)
  have f1038 := (O0.ext E1030)
  have f1039 := (A0.ext E1030)
  have f1040 := (V1.ext E1030)
  have f1041 := (SC.ext E1030)
  have f1042 := (SA.ext E1030)
  have f1043 := (SA.1.ext E1030)
  have f1044 := (SV.ext E1030)
  have f1045 := (hv0.ext E1030)
  have f1046 := (hs0.ext E1030)
  refine g_callS X1030 hx hZ1030 hown1030 (hw _ (List.mem_of_getElem? (i := 100) rfl)) (hw _ (List.mem_of_getElem? (i := 101) rfl)) (hw _ (List.mem_of_getElem? (i := 102) rfl)) (hw _ (List.mem_of_getElem? (i := 103) rfl)) (by decide) e1030 (rmRN l Z a0 hw a b1030 h1030) (by exact hml.symm) (argsL := [(.ref a), (.ref b1030)]) (rest := []) rfl rfl pd_12 rfl (Nat.le_of_ble_eq_true rfl) (Nat.le_of_ble_eq_true rfl) (Nat.le_of_ble_eq_true rfl) (Nat.le_of_ble_eq_true rfl) (hb hby d16_3) (q := 6) rfl (g_pure rfl rfl fun T1047 X1047 e1047 => ?_)
  show Go p e below _ (T1047.setTop (mkF m 6 #[.val (.ref t), .val (.ref a), .val val, .unset] [(.ref a)]))
  refine g_pop X1047 hx (hb hby d16_6) rfl (q := 7) rfl ?_
  refine g_aloadN X1047 hx (hb hby d16_7) (v := (.ref t)) rfl rfl (q := 8) rfl ?_
  refine g_getF X1047 hx hZ1030 hown1030 (hw _ (List.mem_of_getElem? (i := 57) rfl)) Via.refl e1047 f1034 (hb hby d16_8) (q := 11) rfl fun T1048 X1048 e1048 => ?_
  refine g_aloadN X1048 hx (hb hby d16_11) (v := (.ref t)) rfl rfl (q := 12) rfl ?_
  refine g_getF X1048 hx hZ1030 hown1030 (hw _ (List.mem_of_getElem? (i := 50) rfl)) Via.refl e1048 f1033 (hb hby d16_12) (q := 15) rfl fun T1049 X1049 e1049 => ?_
  refine g_len X1049 hx hZ1030 e1049 f1040 (z := (r.toInt32)) rfl (hb hby d16_15) (q := 16) rfl ?_
  refine g_icmp_ne X1049 hx (hb hby d16_16) (by decide) (q := 56) (by decide) (q2 := 19) rfl (fun hb16 => ?_) (fun hb16 => absurd hb16 ((own_r32 r hr8).2.1 hlt))
  refine g_aloadN X1049 hx (hb hby d16_56) (v := (.ref t)) rfl rfl (q := 57) rfl ?_
  refine g_getF X1049 hx hZ1030 hown1030 (hw _ (List.mem_of_getElem? (i := 47) rfl)) Via.refl e1049 f1032 (hb hby d16_57) (q := 60) rfl fun T1050 X1050 e1050 => ?_
  refine g_iconst X1050 hx (hb hby d16_60) (n := (2 : Int32)) (by decide) (q := 61) rfl ?_
  refine g_aloadN X1050 hx (hb hby d16_61) (v := (.ref t)) rfl rfl (q := 62) rfl ?_
  refine g_getF X1050 hx hZ1030 hown1030 (hw _ (List.mem_of_getElem? (i := 57) rfl)) Via.refl e1050 f1034 (hb hby d16_62) (q := 65) rfl fun T1051 X1051 e1051 => ?_
  refine g_imul X1051 hx (hb hby d16_65) (z := (2 : Int32)) (by decide) (q := 66) rfl ?_
  refine g_aloadN X1051 hx (hb hby d16_66) (v := (.ref a)) rfl rfl (q := 67) rfl ?_
  refine g_aastore X1051 hx hZ1030 e1051 f1037 rfl (by decide) (by show 2 < 2 * r; omega) (Ov.sto f1038 (Ins.of_exa f1043 (hw _ (List.mem_of_getElem? (i := 104) rfl)))) (hb hby d16_67) (q := 68) rfl fun T1052 h1052 X1052 e1052 W1052 U1052 => ?_
  have N1052 := Fr.snoc X1052 (Fr.nil n0) (Nat.le_trans hgt (Nat.le_of_lt tma))
  have z_1052 := Nat.le_trans z_1030 (Keep.of_wr W1052).1
  have hk_1052 := Nat.le_trans hk1030 (Keep.of_wr W1052).1
  have kp_1052 := kp_1030.wr W1052 (Or.inl (List.mem_of_getElem? (i := 1) rfl))
  have f1053 := (f1031.wr W1052)
  have f1054 := (f1032.other W1052 (Or.inl (Nat.ne_of_lt tma)))
  have f1055 := (f1033.other W1052 (Or.inl (Nat.ne_of_lt tma)))
  have f1056 := (f1034.other W1052 (Or.inl (Nat.ne_of_lt tma)))
  have f1057 := (f1035.other W1052 (Or.inl (Nat.ne_of_lt tma)))
  have f1058 := (f1036.other W1052 (Or.inl (Nat.ne_of_lt tma)))
  have f1059 := (f1038.wr W1052)
  have f1060 := (f1039.wr W1052)
  have f1061 := (f1040.other W1052 (Ne.symm nmh))
  have f1062 := (f1041.wr W1052)
  have f1063 := (f1042.other W1052 (Nat.ne_of_lt (Nat.lt_trans hat tma)) (Nat.ne_of_lt (Nat.lt_trans hvt tma)))
  have f1064 := (f1043.wr W1052)
  have f1065 := (f1044.wr W1052)
  have f1066 := (f1045.wr W1052)
  have f1067 := (f1046.wr W1052)
  refine g_aloadN X1052 hx (hb hby d16_68) (v := (.ref t)) rfl rfl (q := 69) rfl ?_
  refine g_getF X1052 hx hZ1030 hown1030 (hw _ (List.mem_of_getElem? (i := 47) rfl)) Via.refl e1052 f1054 (hb hby d16_69) (q := 72) rfl fun T1068 X1068 e1068 => ?_
  refine g_iconst X1068 hx (hb hby d16_72) (n := (2 : Int32)) (by decide) (q := 73) rfl ?_
  refine g_aloadN X1068 hx (hb hby d16_73) (v := (.ref t)) rfl rfl (q := 74) rfl ?_
  refine g_getF X1068 hx hZ1030 hown1030 (hw _ (List.mem_of_getElem? (i := 57) rfl)) Via.refl e1068 f1056 (hb hby d16_74) (q := 77) rfl fun T1069 X1069 e1069 => ?_
  refine g_imul X1069 hx (hb hby d16_77) (z := (2 : Int32)) (by decide) (q := 78) rfl ?_
  refine g_iconst X1069 hx (hb hby d16_78) (n := (1 : Int32)) (by decide) (q := 79) rfl ?_
  refine g_iadd X1069 hx (hb hby d16_79) (z := (3 : Int32)) (by decide) (q := 80) rfl ?_
  refine g_aloadN X1069 hx (hb hby d16_80) (v := val) rfl hvr (q := 81) rfl ?_
  refine g_aastore X1069 hx hZ1030 e1069 U1052 rfl (by decide) (by show 3 < 2 * r; omega) (f1065.sto f1059 (hw _ (List.mem_of_getElem? (i := 104) rfl)) (hw _ (List.mem_of_getElem? (i := 105) rfl))) (hb hby d16_81) (q := 82) rfl fun T1070 h1070 X1070 e1070 W1070 U1070 => ?_
  have N1070 := Fr.snoc X1070 N1052 (Nat.le_trans hgt (Nat.le_of_lt tma))
  have z_1070 := Nat.le_trans z_1052 (Keep.of_wr W1070).1
  have hk_1070 := Nat.le_trans hk_1052 (Keep.of_wr W1070).1
  have kp_1070 := kp_1052.wr W1070 (Or.inl (List.mem_of_getElem? (i := 1) rfl))
  have f1071 := (f1053.wr W1070)
  have f1072 := (f1054.other W1070 (Or.inl (Nat.ne_of_lt tma)))
  have f1073 := (f1055.other W1070 (Or.inl (Nat.ne_of_lt tma)))
  have f1074 := (f1056.other W1070 (Or.inl (Nat.ne_of_lt tma)))
  have f1075 := (f1057.other W1070 (Or.inl (Nat.ne_of_lt tma)))
  have f1076 := (f1058.other W1070 (Or.inl (Nat.ne_of_lt tma)))
  have f1077 := (f1059.wr W1070)
  have f1078 := (f1060.wr W1070)
  have f1079 := (f1061.other W1070 (Ne.symm nmh))
  have f1080 := (f1062.wr W1070)
  have f1081 := (f1063.other W1070 (Nat.ne_of_lt (Nat.lt_trans hat tma)) (Nat.ne_of_lt (Nat.lt_trans hvt tma)))
  have f1082 := (f1064.wr W1070)
  have f1083 := (f1065.wr W1070)
  have f1084 := (f1066.wr W1070)
  have f1085 := (f1067.wr W1070)
  refine g_aloadN X1070 hx (hb hby d16_82) (v := (.ref t)) rfl rfl (q := 83) rfl ?_
  refine g_getF X1070 hx hZ1030 hown1030 (hw _ (List.mem_of_getElem? (i := 50) rfl)) Via.refl e1070 f1073 (hb hby d16_83) (q := 86) rfl fun T1086 X1086 e1086 => ?_
  refine g_aloadN X1086 hx (hb hby d16_86) (v := (.ref t)) rfl rfl (q := 87) rfl ?_
  refine g_getF X1086 hx hZ1030 hown1030 (hw _ (List.mem_of_getElem? (i := 57) rfl)) Via.refl e1086 f1074 (hb hby d16_87) (q := 90) rfl fun T1087 X1087 e1087 => ?_
  refine g_aloadN X1087 hx (hb hby d16_90) (v := (.ref a)) rfl rfl (q := 91) rfl ?_
  refine g_callV X1087 hx hZ1030 hown1030 (hw _ (List.mem_of_getElem? (i := 106) rfl)) (hw _ (List.mem_of_getElem? (i := 107) rfl)) (hw _ (List.mem_of_getElem? (i := 108) rfl)) (hw _ (List.mem_of_getElem? (i := 79) rfl)) (hw _ (List.mem_of_getElem? (i := 80) rfl)) (hw _ (List.mem_of_getElem? (i := 2) rfl)) (notFace_of_selects (args := #[]) (mvT hZ1030 (hw _ (List.mem_of_getElem? (i := 108) rfl)))) (by decide) e1087 f1082 (rmSH l Z a0 hw a va ch cs hcs h1070 n0 hga f1080 f1081) (by exact hml.symm) (argsL := []) (rest := [(.int (1 : Int32)), (.ref ha)]) rfl rfl pd_8 rfl (Nat.le_of_ble_eq_true rfl) (Nat.le_of_ble_eq_true rfl) (Nat.le_of_ble_eq_true rfl) (Nat.le_of_ble_eq_true rfl) (hb hby d16_91) (q := 94) rfl (fun v1088 T1088 L1088 X1088 hQ1088 => ?_)
  generalize e1088 : T1088.heap = h1088 at hQ1088
  obtain ⟨rfl, M1088, K1088, U1088⟩ := hQ1088
  have N1088 := Fr.app N1070 M1088
  have z_1088 := Nat.le_trans z_1070 K1088.1
  have hk_1088 := Nat.le_trans hk_1070 K1088.1
  have kp_1088 := kp_1070.trans K1088 (allS (P := fun x => x ∈ [t, ma, ha, a] ∨ h0.size ≤ x) (Or.inl (List.mem_of_getElem? (i := 3) rfl)) all0)
  have f1089 := (f1071.keep K1088)
  have f1090 := (f1072.keep K1088 (ninS (Ne.symm (Nat.ne_of_lt hat)) nin0))
  have f1091 := (f1073.keep K1088 (ninS (Ne.symm (Nat.ne_of_lt hat)) nin0))
  have f1092 := (f1074.keep K1088 (ninS (Ne.symm (Nat.ne_of_lt hat)) nin0))
  have f1093 := (f1075.keep K1088 (ninS (Ne.symm (Nat.ne_of_lt hat)) nin0))
  have f1094 := (f1076.keep K1088 (ninS (Ne.symm (Nat.ne_of_lt hat)) nin0))
  have f1095 := (U1070.keep K1088 (ninS (Ne.symm (Nat.ne_of_lt (Nat.lt_trans hat tma))) nin0))
  have f1096 := (f1077.keep K1088)
  have f1097 := (f1078.keep K1088)
  have f1098 := (f1079.keep K1088 (ninS (Ne.symm (Nat.ne_of_lt (Nat.lt_trans hat tha))) nin0))
  have f1099 := (own_sta_keep f1080 K1088 (nsS f1082.nostat ns0))
  have f1100 := (f1082.keep K1088)
  have f1101 := (f1083.keep K1088)
  have f1102 := (f1084.keep K1088)
  have f1103 := (f1085.keep K1088)
  show Go p e below _ (T1088.setTop (mkF m 94 #[.val (.ref t), .val (.ref a), .val val, .unset] [(.int ch), (.int (1 : Int32)), (.ref ha)]))
  refine g_iastore X1088 hx hZ1030 e1088 f1098 (by decide) (by show 1 < r; omega)  (hb hby d16_94) (q := 95) rfl fun T1104 h1104 X1104 e1104 W1104 U1104 => ?_
  have N1104 := Fr.snoc X1104 N1088 (Nat.le_trans hgt (Nat.le_of_lt tha))
  have z_1104 := Nat.le_trans z_1088 (Keep.of_wr W1104).1
  have hk_1104 := Nat.le_trans hk_1088 (Keep.of_wr W1104).1
  have kp_1104 := kp_1088.wr W1104 (Or.inl (List.mem_of_getElem? (i := 2) rfl))
  have f1105 := (f1089.wr W1104)
  have f1106 := (f1090.other W1104 (Or.inl (Nat.ne_of_lt tha)))
  have f1107 := (f1091.other W1104 (Or.inl (Nat.ne_of_lt tha)))
  have f1108 := (f1092.other W1104 (Or.inl (Nat.ne_of_lt tha)))
  have f1109 := (f1093.other W1104 (Or.inl (Nat.ne_of_lt tha)))
  have f1110 := (f1094.other W1104 (Or.inl (Nat.ne_of_lt tha)))
  have f1111 := (f1095.other W1104 nmh)
  have f1112 := (f1096.wr W1104)
  have f1113 := (f1097.wr W1104)
  have f1114 := (f1099.wr W1104)
  have f1115 := (U1088.other W1104 (Nat.ne_of_lt (Nat.lt_trans hat tha)) (Nat.ne_of_lt (Nat.lt_trans hvt tha)))
  have f1116 := (f1100.wr W1104)
  have f1117 := (f1101.wr W1104)
  have f1118 := (f1102.wr W1104)
  have f1119 := (f1103.wr W1104)
  refine g_aloadN X1104 hx (hb hby d16_95) (v := (.ref t)) rfl rfl (q := 96) rfl ?_
  refine g_dup X1104 hx (hb hby d16_96) rfl (q := 97) rfl ?_
  refine g_getF X1104 hx hZ1030 hown1030 (hw _ (List.mem_of_getElem? (i := 57) rfl)) Via.refl e1104 f1108 (hb hby d16_97) (q := 100) rfl fun T1120 X1120 e1120 => ?_
  refine g_iconst X1120 hx (hb hby d16_100) (n := (1 : Int32)) (by decide) (q := 101) rfl ?_
  refine g_iadd X1120 hx (hb hby d16_101) (z := (2 : Int32)) (by decide) (q := 102) rfl ?_
  refine g_putF X1120 hx hZ1030 hown1030 (hw _ (List.mem_of_getElem? (i := 57) rfl)) Via.refl e1120 f1108 f1105 (Or.inl (hw _ (List.mem_of_getElem? (i := 58) rfl))) (hw _ (List.mem_of_getElem? (i := 34) rfl)) (ty := .int) (by decide) rfl rfl (hb hby d16_102) (q := 105) rfl fun T1121 h1121 X1121 e1121 W1121 => ?_
  have fw1121 := f1108.same W1121
  have N1121 := Fr.snoc X1121 N1104 hgt
  have z_1121 := Nat.le_trans z_1104 (Keep.of_wr W1121).1
  have hk_1121 := Nat.le_trans hk_1104 (Keep.of_wr W1121).1
  have kp_1121 := kp_1104.wr W1121 (Or.inl (List.mem_of_getElem? (i := 0) rfl))
  have f1122 := (f1105.wr W1121)
  have f1123 := (f1106.other W1121 (Or.inr (slot_ne (Or.inl (hw _ (List.mem_of_getElem? (i := 48) rfl))) (Or.inl (hw _ (List.mem_of_getElem? (i := 58) rfl))) (by decide) (t := (.array (.object "java/lang/Object"))) (t' := .int) (by decide) (by decide))))
  have f1124 := (f1107.other W1121 (Or.inr (slot_ne (Or.inl (hw _ (List.mem_of_getElem? (i := 51) rfl))) (Or.inl (hw _ (List.mem_of_getElem? (i := 58) rfl))) (by decide) (t := (.array .int)) (t' := .int) (by decide) (by decide))))
  have f1125 := (f1109.other W1121 (Or.inr (slot_ne (Or.inl (hw _ (List.mem_of_getElem? (i := 74) rfl))) (Or.inl (hw _ (List.mem_of_getElem? (i := 58) rfl))) (by decide) (t := (.object "java/util/Map")) (t' := .int) (by decide) (by decide))))
  have f1126 := (f1110.other W1121 (Or.inr (slot_ne (Or.inl (hw _ (List.mem_of_getElem? (i := 110) rfl))) (Or.inl (hw _ (List.mem_of_getElem? (i := 58) rfl))) (by decide) (t := .int) (t' := .int) (by decide) (by decide))))
  have f1127 := (f1111.other W1121 (Ne.symm (Nat.ne_of_lt tma)))
  have f1128 := (f1112.wr W1121)
  have f1129 := (f1113.wr W1121)
  have f1130 := (U1104.other W1121 (Ne.symm (Nat.ne_of_lt tha)))
  have f1131 := (f1114.wr W1121)
  have f1132 := (f1115.other W1121 (Nat.ne_of_lt hat) (Nat.ne_of_lt hvt))
  have f1133 := (f1116.wr W1121)
  have f1134 := (f1117.wr W1121)
  have f1135 := (f1118.wr W1121)
  have f1136 := (f1119.wr W1121)
  refine g_aloadN X1121 hx (hb hby d16_105) (v := (.ref t)) rfl rfl (q := 106) rfl ?_
  refine g_dup X1121 hx (hb hby d16_106) rfl (q := 107) rfl ?_
  refine g_getF X1121 hx hZ1030 hown1030 (hw _ (List.mem_of_getElem? (i := 109) rfl)) Via.refl e1121 f1126 (hb hby d16_107) (q := 110) rfl fun T1137 X1137 e1137 => ?_
  refine g_iconst X1137 hx (hb hby d16_110) (n := (1 : Int32)) (by decide) (q := 111) rfl ?_
  refine g_iadd X1137 hx (hb hby d16_111) (z := (cg + (1 : Int32))) rfl (q := 112) rfl ?_
  refine g_putF X1137 hx hZ1030 hown1030 (hw _ (List.mem_of_getElem? (i := 109) rfl)) Via.refl e1137 f1126 f1122 (Or.inl (hw _ (List.mem_of_getElem? (i := 110) rfl))) (hw _ (List.mem_of_getElem? (i := 34) rfl)) (ty := .int) (by decide) rfl rfl (hb hby d16_112) (q := 115) rfl fun T1138 h1138 X1138 e1138 W1138 => ?_
  have fw1138 := f1126.same W1138
  have N1138 := Fr.snoc X1138 N1121 hgt
  have z_1138 := Nat.le_trans z_1121 (Keep.of_wr W1138).1
  have hk_1138 := Nat.le_trans hk_1121 (Keep.of_wr W1138).1
  have kp_1138 := kp_1121.wr W1138 (Or.inl (List.mem_of_getElem? (i := 0) rfl))
  have f1139 := (f1122.wr W1138)
  have f1140 := (f1123.other W1138 (Or.inr (slot_ne (Or.inl (hw _ (List.mem_of_getElem? (i := 48) rfl))) (Or.inl (hw _ (List.mem_of_getElem? (i := 110) rfl))) (by decide) (t := (.array (.object "java/lang/Object"))) (t' := .int) (by decide) (by decide))))
  have f1141 := (f1124.other W1138 (Or.inr (slot_ne (Or.inl (hw _ (List.mem_of_getElem? (i := 51) rfl))) (Or.inl (hw _ (List.mem_of_getElem? (i := 110) rfl))) (by decide) (t := (.array .int)) (t' := .int) (by decide) (by decide))))
  have f1142 := (fw1121.other W1138 (Or.inr (slot_ne (Or.inl (hw _ (List.mem_of_getElem? (i := 58) rfl))) (Or.inl (hw _ (List.mem_of_getElem? (i := 110) rfl))) (by decide) (t := .int) (t' := .int) (by decide) (by decide))))
  have f1143 := (f1125.other W1138 (Or.inr (slot_ne (Or.inl (hw _ (List.mem_of_getElem? (i := 74) rfl))) (Or.inl (hw _ (List.mem_of_getElem? (i := 110) rfl))) (by decide) (t := (.object "java/util/Map")) (t' := .int) (by decide) (by decide))))
  have f1144 := (f1127.other W1138 (Ne.symm (Nat.ne_of_lt tma)))
  have f1145 := (f1128.wr W1138)
  have f1146 := (f1129.wr W1138)
  have f1147 := (f1130.other W1138 (Ne.symm (Nat.ne_of_lt tha)))
  have f1148 := (f1131.wr W1138)
  have f1149 := (f1132.other W1138 (Nat.ne_of_lt hat) (Nat.ne_of_lt hvt))
  have f1150 := (f1133.wr W1138)
  have f1151 := (f1134.wr W1138)
  have f1152 := (f1135.wr W1138)
  have f1153 := (f1136.wr W1138)
  refine g_aloadN X1138 hx (hb hby d16_115) (v := (.ref t)) rfl rfl (q := 116) rfl ?_
  refine g_getF X1138 hx hZ1030 hown1030 (hw _ (List.mem_of_getElem? (i := 73) rfl)) Via.refl e1138 f1143 (hb hby d16_116) (q := 119) rfl fun T1154 X1154 e1154 => ?_
  refine g_ifnullY X1154 hx (hb hby d16_119) (by decide) (q := 145) (by decide) ?_
  refine g_aloadN X1154 hx (hb hby d16_145) (v := (.ref t)) rfl rfl (q := 146) rfl ?_
  refine g_getF X1154 hx hZ1030 hown1030 (hw _ (List.mem_of_getElem? (i := 57) rfl)) Via.refl e1154 f1142 (hb hby d16_146) (q := 149) rfl fun T1155 X1155 e1155 => ?_
  refine g_bipush X1155 hx (hb hby d16_149) (n := (16 : Int32)) (by decide) (q := 151) rfl ?_
  refine g_icmp_le X1155 hx (hb hby d16_151) (by decide) (q := 158) (by decide) (q2 := 154) rfl (fun hb151 => ?_) (fun hb151 => absurd hb151 (by decide))
  exact g_retVW X1155 hS1030 (by rw [e1155]; exact hk_1138) hx hret hlk (hb hby d16_158) ⟨rfl, by simpa using N1138, ⟨[t, ma, ha, a], by rw [e1155]; exact kp_1138, own_all4 E0 A0 V1 SA.1 tma tha⟩, by rw [e1155]; exact f1149, ma, ha, r, _, _, _, ⟨by rw [e1155]; exact f1139, by rw [e1155]; exact f1140, by rw [e1155]; exact f1141, by rw [e1155]; exact f1142, by rw [e1155]; exact f1143, by rw [e1155]; exact fw1138, by rw [e1155]; exact f1144, by rw [e1155]; exact f1145, by rw [e1155]; exact f1146, by rw [e1155]; exact f1147, tma, tha, nmh, hr8⟩, hlt, by exact hm0, by rw [e1155]; exact f1152, by exact hh0, by exact rfl, by rw [e1155]; exact f1151, by exact rfl⟩ (Nat.le_of_ble_eq_true rfl) (Nat.le_of_ble_eq_true rfl)
theorem rmAp1 (l : Launch) (Z : State) (a0 : Array Value) (hw : ∀ d ∈ tables_1, d.before a0 Z = true) (t ma ha : Addr) (r : Nat) (fm fh : Nat → Value) (cg : Int32) (a va mr : Addr) (val : Value) (ch cs : Int32) (hcs : ¬ cs = 0) (h0 : Heap) (n0 : Nat) (Z0 : n0 ≤ h0.size) (hga : n0 ≤ a) (hgt : n0 ≤ t) (SC : Sta Z h0 "java/lang/String" "COMPACT_STRINGS" "Z" (.int cs)) (SA : Str Z h0 a va ch) (SV : Sb Z h0 val) (hvr : val.isRef = true) (MR : Mr Z "[Ljava/lang/Object;" mr) (hat : a < t) (hvt : va < t) (TC : TrC Z h0 t (1 : Int32) ma ha r fm fh cg) (hnr : 1 ≤ r) (s0 : Addr) (c0 : Int32) (hm0 : fm 0 = .ref s0) (hv0 : Sb Z h0 (fm 1)) (hh0 : fh 0 = .int c0) (hs0 : Sb Z h0 (.ref s0)) :
    ConW l Z h0 (⟨"com/example/kehys/kehys/io/TreeObject", "append", "(Ljava/lang/String;Ljava/lang/Object;)V"⟩ : MethodName) prog_18_method_17_code 4 none ({ frames := 3, cells := 4, slots := 32, locals := 60 } : Room) #[(.ref t), (.ref a), val] (fun v h L => v = none ∧ Fr n0 L ∧ Up h0 h a t ∧ Str Z h a va ch ∧ Tr2 Z h t s0 c0 a ch) := by
  rcases Nat.eq_or_lt_of_le hnr with q | q
  · subst q; exact rmApG1 l Z a0 hw t ma ha fm fh cg a va mr val ch cs hcs h0 n0 Z0 hga hgt SC SA SV hvr MR hat hvt TC s0 c0 hm0 hv0 hh0 hs0
  · exact rmApN1 l Z a0 hw t ma ha r fm fh cg a va mr val ch cs hcs h0 n0 Z0 hga hgt SC SA SV hvr MR hat hvt TC q s0 c0 hm0 hv0 hh0 hs0
theorem d11_0 : decode prog_18_method_7_code 0 = .ok (.aload_n 0, 1) := by decide +kernel
theorem d11_1 : decode prog_18_method_7_code 1 = .ok (.aload_n 1, 1) := by decide +kernel
theorem d11_2 : decode prog_18_method_7_code 2 = .ok (.invokevirtual 23, 3) := by decide +kernel
theorem d11_5 : decode prog_18_method_7_code 5 = .ok (.istore_n 3, 1) := by decide +kernel
theorem d11_6 : decode prog_18_method_7_code 6 = .ok (.aconst_null, 1) := by decide +kernel
theorem d11_7 : decode prog_18_method_7_code 7 = .ok (.astore 4, 2) := by decide +kernel
theorem d11_9 : decode prog_18_method_7_code 9 = .ok (.iload_n 3, 1) := by decide +kernel
theorem d11_10 : decode prog_18_method_7_code 10 = .ok (.ifCond .lt 29, 3) := by decide +kernel
theorem d11_39 : decode prog_18_method_7_code 39 = .ok (.aload_n 0, 1) := by decide +kernel
theorem d11_40 : decode prog_18_method_7_code 40 = .ok (.aload_n 1, 1) := by decide +kernel
theorem d11_41 : decode prog_18_method_7_code 41 = .ok (.aload_n 2, 1) := by decide +kernel
theorem d11_42 : decode prog_18_method_7_code 42 = .ok (.invokevirtual 27, 3) := by decide +kernel
theorem d11_45 : decode prog_18_method_7_code 45 = .ok (.aload 4, 2) := by decide +kernel
theorem d11_47 : decode prog_18_method_7_code 47 = .ok (.areturn, 1) := by decide +kernel
set_option maxRecDepth 65536 in
set_option maxHeartbeats 40000000 in
theorem rmPut0 (l : Launch) (Z : State) (a0 : Array Value) (hw : ∀ d ∈ tables_1, d.before a0 Z = true) (t ma ha : Addr) (r : Nat) (fm fh : Nat → Value) (cg : Int32) (a va mr : Addr) (val : Value) (ch cs : Int32) (hcs : ¬ cs = 0) (h0 : Heap) (n0 : Nat) (Z0 : n0 ≤ h0.size) (hga : n0 ≤ a) (hgt : n0 ≤ t) (SC : Sta Z h0 "java/lang/String" "COMPACT_STRINGS" "Z" (.int cs)) (SA : Str Z h0 a va ch) (SV : Sb Z h0 val) (hvr : val.isRef = true) (MR : Mr Z "[Ljava/lang/Object;" mr) (hat : a < t) (hvt : va < t) (TC : TrC Z h0 t (0 : Int32) ma ha r fm fh cg) (hnr : 0 ≤ r) :
    ConW l Z h0 (⟨"com/example/kehys/kehys/io/TreeObject", "put", "(Ljava/lang/String;Ljava/lang/Object;)Ljava/lang/Object;"⟩ : MethodName) prog_18_method_7_code 5 (some (.object "java/lang/Object")) ({ frames := 4, cells := 4, slots := 32, locals := 90 } : Room) #[(.ref t), (.ref a), val] (fun v h L => ∃ v', v = some v' ∧ v'.isRef = true ∧ Fr n0 L ∧ Up h0 h a t ∧ Str Z h a va ch ∧ Tr1 Z h t a ch) := by
  have TK := TC
  obtain ⟨E0, F0, F1, F2, F3, F4, V0, O0, A0, V1, tma, tha, nmh, hr8⟩ := TC
  refine con_ofW (plainFor_of_name pn_5) (Ls := #[.val (.ref t), .val (.ref a), .val val, .unset, .unset]) (fun m => by cases val <;> first | (simp [Value.isRef] at hvr; done) | (simp [entryFrame, mkF, argsToLocals, Value.category]; done) | rfl) ?_
  intro p e s m below meth c s₁ vm0 k0 hx hZ hby hml hret hlk hnm hown X0 e0 hS hk
  refine g_aloadN X0 hx (hb hby d11_0) (v := (.ref t)) rfl rfl (q := 1) rfl ?_
  refine g_aloadN X0 hx (hb hby d11_1) (v := (.ref a)) rfl rfl (q := 2) rfl ?_
  refine g_callP X0 hx hZ hown (hw _ (List.mem_of_getElem? (i := 69) rfl)) (hw _ (List.mem_of_getElem? (i := 70) rfl)) (hw _ (List.mem_of_getElem? (i := 71) rfl)) (hw _ (List.mem_of_getElem? (i := 34) rfl)) (hw _ (List.mem_of_getElem? (i := 72) rfl)) (hw _ (List.mem_of_getElem? (i := 35) rfl)) (by decide) e0 E0 (rmFi0 l Z a0 hw t ma ha r fm fh cg a va ch cs hcs h0 n0 hga SC SA TK hat hnr (-1 : Int32) rfl) (by exact hml.symm) (argsL := [(.ref a)]) (rest := []) rfl rfl pd_15 rfl (Nat.le_of_ble_eq_true rfl) (Nat.le_of_ble_eq_true rfl) (Nat.le_of_ble_eq_true rfl) (Nat.le_of_ble_eq_true rfl) (hb hby d11_2) (q := 5) rfl (fun v1156 T1156 L1156 X1156 hQ1156 => ?_)
  generalize e1156 : T1156.heap = h1156 at hQ1156
  obtain ⟨rfl, M1156, K1156, U1156⟩ := hQ1156
  have N1156 := Fr.app (Fr.nil n0) M1156
  have z_1156 := Nat.le_trans Z0 K1156.1
  have hk_1156 := Nat.le_trans hk K1156.1
  have f1157 := (E0.keep K1156)
  have f1158 := (F0.keep K1156 (ninS (Ne.symm (Nat.ne_of_lt hat)) nin0))
  have f1159 := (F1.keep K1156 (ninS (Ne.symm (Nat.ne_of_lt hat)) nin0))
  have f1160 := (F2.keep K1156 (ninS (Ne.symm (Nat.ne_of_lt hat)) nin0))
  have f1161 := (F3.keep K1156 (ninS (Ne.symm (Nat.ne_of_lt hat)) nin0))
  have f1162 := (F4.keep K1156 (ninS (Ne.symm (Nat.ne_of_lt hat)) nin0))
  have f1163 := (V0.keep K1156 (ninS (Ne.symm (Nat.ne_of_lt (Nat.lt_trans hat tma))) nin0))
  have f1164 := (O0.keep K1156)
  have f1165 := (A0.keep K1156)
  have f1166 := (V1.keep K1156 (ninS (Ne.symm (Nat.ne_of_lt (Nat.lt_trans hat tha))) nin0))
  have f1167 := (own_sta_keep SC K1156 (nsS SA.1.nostat ns0))
  have f1168 := (SA.1.keep K1156)
  have f1169 := (SV.keep K1156)
  show Go p e below _ (T1156.setTop (mkF m 5 #[.val (.ref t), .val (.ref a), .val val, .unset, .unset] [(.int (-1 : Int32))]))
  refine g_istoreN X1156 hx (hb hby d11_5) (L' := #[.val (.ref t), .val (.ref a), .val val, .val (.int (-1 : Int32)), .unset]) rfl (q := 6) rfl ?_
  refine g_aconst_null X1156 hx (hb hby d11_6) (q := 7) rfl ?_
  refine g_astore X1156 hx (hb hby d11_7) rfl (L' := #[.val (.ref t), .val (.ref a), .val val, .val (.int (-1 : Int32)), .val .null]) rfl (q := 9) rfl ?_
  refine g_iloadN X1156 hx (hb hby d11_9) (v := (-1 : Int32)) rfl (q := 10) rfl ?_
  refine g_if_lt X1156 hx (hb hby d11_10) (by decide) (q := 39) (by decide) (q2 := 13) rfl (fun hb10 => ?_) (fun hb10 => absurd hb10 (by decide))
  refine g_aloadN X1156 hx (hb hby d11_39) (v := (.ref t)) rfl rfl (q := 40) rfl ?_
  refine g_aloadN X1156 hx (hb hby d11_40) (v := (.ref a)) rfl rfl (q := 41) rfl ?_
  refine g_aloadN X1156 hx (hb hby d11_41) (v := val) rfl hvr (q := 42) rfl ?_
  refine g_callPW X1156 hx hZ hown (hw _ (List.mem_of_getElem? (i := 93) rfl)) (hw _ (List.mem_of_getElem? (i := 94) rfl)) (hw _ (List.mem_of_getElem? (i := 95) rfl)) (hw _ (List.mem_of_getElem? (i := 34) rfl)) (hw _ (List.mem_of_getElem? (i := 96) rfl)) (hw _ (List.mem_of_getElem? (i := 35) rfl)) (by decide) e1156 hS hk_1156 f1157 (rmAp0 l Z a0 hw t ma ha r fm fh cg a va mr val ch cs hcs h1156 n0 z_1156 hga hgt f1167 U1156 f1169 hvr MR hat hvt ⟨f1157, f1158, f1159, f1160, f1161, f1162, f1163, f1164, f1165, f1166, tma, tha, nmh, hr8⟩ hnr) (by exact hml.symm) (argsL := [(.ref a), val]) (rest := []) rfl rfl pd_16 rfl (Nat.le_of_ble_eq_true rfl) (Nat.le_of_ble_eq_true rfl) (Nat.le_of_ble_eq_true rfl) (Nat.le_of_ble_eq_true rfl) (hb hby d11_42) (q := 45) rfl fun v1170 T1170 L1170 h1170 e1170 X1170 hS1170 hZ1170 hown1170 hQ1170 => ?_
  obtain ⟨rfl, M1170, U1170, S1170, R1170⟩ := hQ1170
  have N1170 := Fr.app N1156 M1170
  show Go p e below _ (T1170.setTop (mkF m 45 #[.val (.ref t), .val (.ref a), .val val, .val (.int (-1 : Int32)), .val .null] []))
  refine g_aload X1170 hx (hb hby d11_45) (v := .null) rfl rfl (q := 47) rfl ?_
  exact g_retAW X1170 hS1170 (by rw [e1170]; exact (Nat.le_refl _)) hx hret hlk (hb hby d11_47) rfl rfl rfl ⟨_, rfl, rfl, by simpa using N1170, Up.after K1156 SA.1.nostat (by rw [e1170]; exact U1170), by rw [e1170]; exact S1170, by rw [e1170]; exact R1170⟩ (Nat.le_of_ble_eq_true rfl) (Nat.le_of_ble_eq_true rfl)
set_option maxRecDepth 65536 in
set_option maxHeartbeats 40000000 in
theorem rmPut1 (l : Launch) (Z : State) (a0 : Array Value) (hw : ∀ d ∈ tables_1, d.before a0 Z = true) (t ma ha : Addr) (r : Nat) (fm fh : Nat → Value) (cg : Int32) (a va mr : Addr) (val : Value) (ch cs : Int32) (hcs : ¬ cs = 0) (h0 : Heap) (n0 : Nat) (Z0 : n0 ≤ h0.size) (hga : n0 ≤ a) (hgt : n0 ≤ t) (SC : Sta Z h0 "java/lang/String" "COMPACT_STRINGS" "Z" (.int cs)) (SA : Str Z h0 a va ch) (SV : Sb Z h0 val) (hvr : val.isRef = true) (MR : Mr Z "[Ljava/lang/Object;" mr) (hat : a < t) (hvt : va < t) (TC : TrC Z h0 t (1 : Int32) ma ha r fm fh cg) (hnr : 1 ≤ r) (s0 : Addr) (c0 : Int32) (hm0 : fm 0 = .ref s0) (hv0 : Sb Z h0 (fm 1)) (hh0 : fh 0 = .int c0) (hs0 : Sb Z h0 (.ref s0)) (v0 : Addr) (S0 : Str Z h0 s0 v0 c0) (n0a : s0 ≠ a) (m0a : v0 ≠ a) (hc0 : ¬ c0 = ch) :
    ConW l Z h0 (⟨"com/example/kehys/kehys/io/TreeObject", "put", "(Ljava/lang/String;Ljava/lang/Object;)Ljava/lang/Object;"⟩ : MethodName) prog_18_method_7_code 5 (some (.object "java/lang/Object")) ({ frames := 4, cells := 4, slots := 32, locals := 90 } : Room) #[(.ref t), (.ref a), val] (fun v h L => ∃ v', v = some v' ∧ v'.isRef = true ∧ Fr n0 L ∧ Up h0 h a t ∧ Str Z h a va ch ∧ Tr2 Z h t s0 c0 a ch) := by
  have TK := TC
  obtain ⟨E0, F0, F1, F2, F3, F4, V0, O0, A0, V1, tma, tha, nmh, hr8⟩ := TC
  refine con_ofW (plainFor_of_name pn_5) (Ls := #[.val (.ref t), .val (.ref a), .val val, .unset, .unset]) (fun m => by cases val <;> first | (simp [Value.isRef] at hvr; done) | (simp [entryFrame, mkF, argsToLocals, Value.category]; done) | rfl) ?_
  intro p e s m below meth c s₁ vm0 k0 hx hZ hby hml hret hlk hnm hown X0 e0 hS hk
  refine g_aloadN X0 hx (hb hby d11_0) (v := (.ref t)) rfl rfl (q := 1) rfl ?_
  refine g_aloadN X0 hx (hb hby d11_1) (v := (.ref a)) rfl rfl (q := 2) rfl ?_
  refine g_callP X0 hx hZ hown (hw _ (List.mem_of_getElem? (i := 69) rfl)) (hw _ (List.mem_of_getElem? (i := 70) rfl)) (hw _ (List.mem_of_getElem? (i := 71) rfl)) (hw _ (List.mem_of_getElem? (i := 34) rfl)) (hw _ (List.mem_of_getElem? (i := 72) rfl)) (hw _ (List.mem_of_getElem? (i := 35) rfl)) (by decide) e0 E0 (rmFi1 l Z a0 hw t ma ha r fm fh cg a va ch cs hcs h0 n0 hga SC SA TK hat hnr s0 c0 hm0 hv0 hh0 v0 S0 n0a m0a (-1 : Int32) (if_neg hc0)) (by exact hml.symm) (argsL := [(.ref a)]) (rest := []) rfl rfl pd_15 rfl (Nat.le_of_ble_eq_true rfl) (Nat.le_of_ble_eq_true rfl) (Nat.le_of_ble_eq_true rfl) (Nat.le_of_ble_eq_true rfl) (hb hby d11_2) (q := 5) rfl (fun v1171 T1171 L1171 X1171 hQ1171 => ?_)
  generalize e1171 : T1171.heap = h1171 at hQ1171
  obtain ⟨rfl, M1171, K1171, U1171⟩ := hQ1171
  have N1171 := Fr.app (Fr.nil n0) M1171
  have z_1171 := Nat.le_trans Z0 K1171.1
  have hk_1171 := Nat.le_trans hk K1171.1
  have f1172 := (E0.keep K1171)
  have f1173 := (F0.keep K1171 (ninS (Ne.symm (Nat.ne_of_lt hat)) nin0))
  have f1174 := (F1.keep K1171 (ninS (Ne.symm (Nat.ne_of_lt hat)) nin0))
  have f1175 := (F2.keep K1171 (ninS (Ne.symm (Nat.ne_of_lt hat)) nin0))
  have f1176 := (F3.keep K1171 (ninS (Ne.symm (Nat.ne_of_lt hat)) nin0))
  have f1177 := (F4.keep K1171 (ninS (Ne.symm (Nat.ne_of_lt hat)) nin0))
  have f1178 := (V0.keep K1171 (ninS (Ne.symm (Nat.ne_of_lt (Nat.lt_trans hat tma))) nin0))
  have f1179 := (O0.keep K1171)
  have f1180 := (A0.keep K1171)
  have f1181 := (V1.keep K1171 (ninS (Ne.symm (Nat.ne_of_lt (Nat.lt_trans hat tha))) nin0))
  have f1182 := (own_sta_keep SC K1171 (nsS SA.1.nostat ns0))
  have f1183 := (SA.1.keep K1171)
  have f1184 := (SV.keep K1171)
  have f1185 := (hv0.keep K1171)
  have f1186 := (hs0.keep K1171)
  show Go p e below _ (T1171.setTop (mkF m 5 #[.val (.ref t), .val (.ref a), .val val, .unset, .unset] [(.int (-1 : Int32))]))
  refine g_istoreN X1171 hx (hb hby d11_5) (L' := #[.val (.ref t), .val (.ref a), .val val, .val (.int (-1 : Int32)), .unset]) rfl (q := 6) rfl ?_
  refine g_aconst_null X1171 hx (hb hby d11_6) (q := 7) rfl ?_
  refine g_astore X1171 hx (hb hby d11_7) rfl (L' := #[.val (.ref t), .val (.ref a), .val val, .val (.int (-1 : Int32)), .val .null]) rfl (q := 9) rfl ?_
  refine g_iloadN X1171 hx (hb hby d11_9) (v := (-1 : Int32)) rfl (q := 10) rfl ?_
  refine g_if_lt X1171 hx (hb hby d11_10) (by decide) (q := 39) (by decide) (q2 := 13) rfl (fun hb10 => ?_) (fun hb10 => absurd hb10 (by decide))
  refine g_aloadN X1171 hx (hb hby d11_39) (v := (.ref t)) rfl rfl (q := 40) rfl ?_
  refine g_aloadN X1171 hx (hb hby d11_40) (v := (.ref a)) rfl rfl (q := 41) rfl ?_
  refine g_aloadN X1171 hx (hb hby d11_41) (v := val) rfl hvr (q := 42) rfl ?_
  refine g_callPW X1171 hx hZ hown (hw _ (List.mem_of_getElem? (i := 93) rfl)) (hw _ (List.mem_of_getElem? (i := 94) rfl)) (hw _ (List.mem_of_getElem? (i := 95) rfl)) (hw _ (List.mem_of_getElem? (i := 34) rfl)) (hw _ (List.mem_of_getElem? (i := 96) rfl)) (hw _ (List.mem_of_getElem? (i := 35) rfl)) (by decide) e1171 hS hk_1171 f1172 (rmAp1 l Z a0 hw t ma ha r fm fh cg a va mr val ch cs hcs h1171 n0 z_1171 hga hgt f1182 U1171 f1184 hvr MR hat hvt ⟨f1172, f1173, f1174, f1175, f1176, f1177, f1178, f1179, f1180, f1181, tma, tha, nmh, hr8⟩ hnr s0 c0 hm0 f1185 hh0 f1186) (by exact hml.symm) (argsL := [(.ref a), val]) (rest := []) rfl rfl pd_16 rfl (Nat.le_of_ble_eq_true rfl) (Nat.le_of_ble_eq_true rfl) (Nat.le_of_ble_eq_true rfl) (Nat.le_of_ble_eq_true rfl) (hb hby d11_42) (q := 45) rfl fun v1187 T1187 L1187 h1187 e1187 X1187 hS1187 hZ1187 hown1187 hQ1187 => ?_
  obtain ⟨rfl, M1187, U1187, S1187, R1187⟩ := hQ1187
  have N1187 := Fr.app N1171 M1187
  show Go p e below _ (T1187.setTop (mkF m 45 #[.val (.ref t), .val (.ref a), .val val, .val (.int (-1 : Int32)), .val .null] []))
  refine g_aload X1187 hx (hb hby d11_45) (v := .null) rfl rfl (q := 47) rfl ?_
  exact g_retAW X1187 hS1187 (by rw [e1187]; exact (Nat.le_refl _)) hx hret hlk (hb hby d11_47) rfl rfl rfl ⟨_, rfl, rfl, by simpa using N1187, Up.after K1171 SA.1.nostat (by rw [e1187]; exact U1187), by rw [e1187]; exact S1187, by rw [e1187]; exact R1187⟩ (Nat.le_of_ble_eq_true rfl) (Nat.le_of_ble_eq_true rfl)
theorem d11_13 : decode prog_18_method_7_code 13 = .ok (.aload_n 0, 1) := by decide +kernel
theorem d11_14 : decode prog_18_method_7_code 14 = .ok (.getfield 11, 3) := by decide +kernel
theorem d11_17 : decode prog_18_method_7_code 17 = .ok (.iconst 2, 1) := by decide +kernel
theorem d11_18 : decode prog_18_method_7_code 18 = .ok (.iload_n 3, 1) := by decide +kernel
theorem d11_19 : decode prog_18_method_7_code 19 = .ok (.imul, 1) := by decide +kernel
theorem d11_20 : decode prog_18_method_7_code 20 = .ok (.iconst 1, 1) := by decide +kernel
theorem d11_21 : decode prog_18_method_7_code 21 = .ok (.iadd, 1) := by decide +kernel
theorem d11_22 : decode prog_18_method_7_code 22 = .ok (.aaload, 1) := by decide +kernel
theorem d11_23 : decode prog_18_method_7_code 23 = .ok (.astore 4, 2) := by decide +kernel
theorem d11_25 : decode prog_18_method_7_code 25 = .ok (.aload_n 0, 1) := by decide +kernel
theorem d11_26 : decode prog_18_method_7_code 26 = .ok (.getfield 11, 3) := by decide +kernel
theorem d11_29 : decode prog_18_method_7_code 29 = .ok (.iconst 2, 1) := by decide +kernel
theorem d11_30 : decode prog_18_method_7_code 30 = .ok (.iload_n 3, 1) := by decide +kernel
theorem d11_31 : decode prog_18_method_7_code 31 = .ok (.imul, 1) := by decide +kernel
theorem d11_32 : decode prog_18_method_7_code 32 = .ok (.iconst 1, 1) := by decide +kernel
theorem d11_33 : decode prog_18_method_7_code 33 = .ok (.iadd, 1) := by decide +kernel
theorem d11_34 : decode prog_18_method_7_code 34 = .ok (.aload_n 2, 1) := by decide +kernel
theorem d11_35 : decode prog_18_method_7_code 35 = .ok (.aastore, 1) := by decide +kernel
theorem d11_36 : decode prog_18_method_7_code 36 = .ok (.goto 9, 3) := by decide +kernel
set_option maxRecDepth 65536 in
set_option maxHeartbeats 40000000 in
theorem rmPut1f (l : Launch) (Z : State) (a0 : Array Value) (hw : ∀ d ∈ tables_1, d.before a0 Z = true) (t ma ha : Addr) (r : Nat) (fm fh : Nat → Value) (cg : Int32) (a va mr : Addr) (val : Value) (ch cs : Int32) (hcs : ¬ cs = 0) (h0 : Heap) (n0 : Nat) (Z0 : n0 ≤ h0.size) (hga : n0 ≤ a) (hgt : n0 ≤ t) (SC : Sta Z h0 "java/lang/String" "COMPACT_STRINGS" "Z" (.int cs)) (SA : Str Z h0 a va ch) (SV : Sb Z h0 val) (hvr : val.isRef = true) (MR : Mr Z "[Ljava/lang/Object;" mr) (hat : a < t) (hvt : va < t) (TC : TrC Z h0 t (1 : Int32) ma ha r fm fh cg) (hnr : 1 ≤ r) (s0 : Addr) (c0 : Int32) (hm0 : fm 0 = .ref s0) (hv0 : Sb Z h0 (fm 1)) (hh0 : fh 0 = .int c0) (hs0 : Sb Z h0 (.ref s0)) (v0 : Addr) (S0 : Str Z h0 s0 v0 c0) (n0a : s0 ≠ a) (m0a : v0 ≠ a) (hc0 : c0 = ch) :
    ConW l Z h0 (⟨"com/example/kehys/kehys/io/TreeObject", "put", "(Ljava/lang/String;Ljava/lang/Object;)Ljava/lang/Object;"⟩ : MethodName) prog_18_method_7_code 5 (some (.object "java/lang/Object")) ({ frames := 4, cells := 4, slots := 32, locals := 90 } : Room) #[(.ref t), (.ref a), val] (fun v h L => ∃ v', v = some v' ∧ v'.isRef = true ∧ Fr n0 L ∧ Up h0 h a t ∧ Str Z h a va ch ∧ Tr1 Z h t s0 c0) := by
  have TK := TC
  obtain ⟨E0, F0, F1, F2, F3, F4, V0, O0, A0, V1, tma, tha, nmh, hr8⟩ := TC
  refine con_ofW (plainFor_of_name pn_5) (Ls := #[.val (.ref t), .val (.ref a), .val val, .unset, .unset]) (fun m => by cases val <;> first | (simp [Value.isRef] at hvr; done) | (simp [entryFrame, mkF, argsToLocals, Value.category]; done) | rfl) ?_
  intro p e s m below meth c s₁ vm0 k0 hx hZ hby hml hret hlk hnm hown X0 e0 hS hk
  refine g_aloadN X0 hx (hb hby d11_0) (v := (.ref t)) rfl rfl (q := 1) rfl ?_
  refine g_aloadN X0 hx (hb hby d11_1) (v := (.ref a)) rfl rfl (q := 2) rfl ?_
  refine g_callP X0 hx hZ hown (hw _ (List.mem_of_getElem? (i := 69) rfl)) (hw _ (List.mem_of_getElem? (i := 70) rfl)) (hw _ (List.mem_of_getElem? (i := 71) rfl)) (hw _ (List.mem_of_getElem? (i := 34) rfl)) (hw _ (List.mem_of_getElem? (i := 72) rfl)) (hw _ (List.mem_of_getElem? (i := 35) rfl)) (by decide) e0 E0 (rmFi1 l Z a0 hw t ma ha r fm fh cg a va ch cs hcs h0 n0 hga SC SA TK hat hnr s0 c0 hm0 hv0 hh0 v0 S0 n0a m0a (0 : Int32) (if_pos hc0)) (by exact hml.symm) (argsL := [(.ref a)]) (rest := []) rfl rfl pd_15 rfl (Nat.le_of_ble_eq_true rfl) (Nat.le_of_ble_eq_true rfl) (Nat.le_of_ble_eq_true rfl) (Nat.le_of_ble_eq_true rfl) (hb hby d11_2) (q := 5) rfl (fun v1188 T1188 L1188 X1188 hQ1188 => ?_)
  generalize e1188 : T1188.heap = h1188 at hQ1188
  obtain ⟨rfl, M1188, K1188, U1188⟩ := hQ1188
  have N1188 := Fr.app (Fr.nil n0) M1188
  have z_1188 := Nat.le_trans Z0 K1188.1
  have hk_1188 := Nat.le_trans hk K1188.1
  have kp_1188 := (Keep.refl h0 [a, ma]).trans K1188 (allS (P := fun x => x ∈ [a, ma] ∨ h0.size ≤ x) (Or.inl (List.mem_of_getElem? (i := 0) rfl)) all0)
  have f1189 := (E0.keep K1188)
  have f1190 := (F0.keep K1188 (ninS (Ne.symm (Nat.ne_of_lt hat)) nin0))
  have f1191 := (F1.keep K1188 (ninS (Ne.symm (Nat.ne_of_lt hat)) nin0))
  have f1192 := (F2.keep K1188 (ninS (Ne.symm (Nat.ne_of_lt hat)) nin0))
  have f1193 := (F3.keep K1188 (ninS (Ne.symm (Nat.ne_of_lt hat)) nin0))
  have f1194 := (F4.keep K1188 (ninS (Ne.symm (Nat.ne_of_lt hat)) nin0))
  have f1195 := (V0.keep K1188 (ninS (Ne.symm (Nat.ne_of_lt (Nat.lt_trans hat tma))) nin0))
  have f1196 := (O0.keep K1188)
  have f1197 := (A0.keep K1188)
  have f1198 := (V1.keep K1188 (ninS (Ne.symm (Nat.ne_of_lt (Nat.lt_trans hat tha))) nin0))
  have f1199 := (own_sta_keep SC K1188 (nsS SA.1.nostat ns0))
  have f1200 := (SA.1.keep K1188)
  have f1201 := (SV.keep K1188)
  have f1202 := (hv0.keep K1188)
  have f1203 := (hs0.keep K1188)
  show Go p e below _ (T1188.setTop (mkF m 5 #[.val (.ref t), .val (.ref a), .val val, .unset, .unset] [(.int (0 : Int32))]))
  refine g_istoreN X1188 hx (hb hby d11_5) (L' := #[.val (.ref t), .val (.ref a), .val val, .val (.int (0 : Int32)), .unset]) rfl (q := 6) rfl ?_
  refine g_aconst_null X1188 hx (hb hby d11_6) (q := 7) rfl ?_
  refine g_astore X1188 hx (hb hby d11_7) rfl (L' := #[.val (.ref t), .val (.ref a), .val val, .val (.int (0 : Int32)), .val .null]) rfl (q := 9) rfl ?_
  refine g_iloadN X1188 hx (hb hby d11_9) (v := (0 : Int32)) rfl (q := 10) rfl ?_
  refine g_if_lt X1188 hx (hb hby d11_10) (by decide) (q := 39) (by decide) (q2 := 13) rfl (fun hb10 => absurd hb10 (by decide)) (fun hb10 => ?_)
  refine g_aloadN X1188 hx (hb hby d11_13) (v := (.ref t)) rfl rfl (q := 14) rfl ?_
  refine g_getF X1188 hx hZ hown (hw _ (List.mem_of_getElem? (i := 47) rfl)) Via.refl e1188 f1190 (hb hby d11_14) (q := 17) rfl fun T1204 X1204 e1204 => ?_
  refine g_iconst X1204 hx (hb hby d11_17) (n := (2 : Int32)) (by decide) (q := 18) rfl ?_
  refine g_iloadN X1204 hx (hb hby d11_18) (v := (0 : Int32)) rfl (q := 19) rfl ?_
  refine g_imul X1204 hx (hb hby d11_19) (z := (0 : Int32)) (by decide) (q := 20) rfl ?_
  refine g_iconst X1204 hx (hb hby d11_20) (n := (1 : Int32)) (by decide) (q := 21) rfl ?_
  refine g_iadd X1204 hx (hb hby d11_21) (z := (1 : Int32)) (by decide) (q := 22) rfl ?_
  refine g_aaload X1204 hx hZ e1204 f1195 rfl (by decide) (by show 1 < 2 * r; omega) (v := (fm 1)) rfl (hb hby d11_22) (q := 23) rfl ?_
  refine g_astore X1204 hx (hb hby d11_23) hv0.isRef (L' := #[.val (.ref t), .val (.ref a), .val val, .val (.int (0 : Int32)), .val (fm 1)]) (Jvm.Free.XS.store1 rfl (Or.inr ⟨_, rfl, rfl⟩) (own_cat1 hv0.isRef)) (q := 25) rfl ?_
  refine g_aloadN X1204 hx (hb hby d11_25) (v := (.ref t)) rfl rfl (q := 26) rfl ?_
  refine g_getF X1204 hx hZ hown (hw _ (List.mem_of_getElem? (i := 47) rfl)) Via.refl e1204 f1190 (hb hby d11_26) (q := 29) rfl fun T1205 X1205 e1205 => ?_
  refine g_iconst X1205 hx (hb hby d11_29) (n := (2 : Int32)) (by decide) (q := 30) rfl ?_
  refine g_iloadN X1205 hx (hb hby d11_30) (v := (0 : Int32)) rfl (q := 31) rfl ?_
  refine g_imul X1205 hx (hb hby d11_31) (z := (0 : Int32)) (by decide) (q := 32) rfl ?_
  refine g_iconst X1205 hx (hb hby d11_32) (n := (1 : Int32)) (by decide) (q := 33) rfl ?_
  refine g_iadd X1205 hx (hb hby d11_33) (z := (1 : Int32)) (by decide) (q := 34) rfl ?_
  refine g_aloadN X1205 hx (hb hby d11_34) (v := val) rfl hvr (q := 35) rfl ?_
  refine g_aastore X1205 hx hZ e1205 f1195 rfl (by decide) (by show 1 < 2 * r; omega) (f1201.sto f1196 (hw _ (List.mem_of_getElem? (i := 104) rfl)) (hw _ (List.mem_of_getElem? (i := 105) rfl))) (hb hby d11_35) (q := 36) rfl fun T1206 h1206 X1206 e1206 W1206 U1206 => ?_
  have N1206 := Fr.snoc X1206 N1188 (Nat.le_trans hgt (Nat.le_of_lt tma))
  have z_1206 := Nat.le_trans z_1188 (Keep.of_wr W1206).1
  have hk_1206 := Nat.le_trans hk_1188 (Keep.of_wr W1206).1
  have kp_1206 := kp_1188.wr W1206 (Or.inl (List.mem_of_getElem? (i := 1) rfl))
  have f1207 := (f1189.wr W1206)
  have f1208 := (f1190.other W1206 (Or.inl (Nat.ne_of_lt tma)))
  have f1209 := (f1191.other W1206 (Or.inl (Nat.ne_of_lt tma)))
  have f1210 := (f1192.other W1206 (Or.inl (Nat.ne_of_lt tma)))
  have f1211 := (f1193.other W1206 (Or.inl (Nat.ne_of_lt tma)))
  have f1212 := (f1194.other W1206 (Or.inl (Nat.ne_of_lt tma)))
  have f1213 := (f1196.wr W1206)
  have f1214 := (f1197.wr W1206)
  have f1215 := (f1198.other W1206 (Ne.symm nmh))
  have f1216 := (f1199.wr W1206)
  have f1217 := (U1188.other W1206 (Nat.ne_of_lt (Nat.lt_trans hat tma)) (Nat.ne_of_lt (Nat.lt_trans hvt tma)))
  have f1218 := (f1200.wr W1206)
  have f1219 := (f1201.wr W1206)
  have f1220 := (f1202.wr W1206)
  have f1221 := (f1203.wr W1206)
  refine g_goto X1206 hx (hb hby d11_36) (by decide) (q := 45) (by decide) ?_
  refine g_aload X1206 hx (hb hby d11_45) (v := (fm 1)) rfl hv0.isRef (q := 47) rfl ?_
  exact g_retAW X1206 hS (by rw [e1206]; exact hk_1206) hx hret hlk (hb hby d11_47) rfl hv0.isRef (own_nar hv0.isRef) ⟨_, rfl, hv0.isRef, by simpa using N1206, ⟨[a, ma], by rw [e1206]; exact kp_1206, own_all2 SA.1 A0 tma⟩, by rw [e1206]; exact f1217, ma, ha, r, _, _, _, ⟨by rw [e1206]; exact f1207, by rw [e1206]; exact f1208, by rw [e1206]; exact f1209, by rw [e1206]; exact f1210, by rw [e1206]; exact f1211, by rw [e1206]; exact f1212, by rw [e1206]; exact U1206, by rw [e1206]; exact f1213, by rw [e1206]; exact f1214, by rw [e1206]; exact f1215, tma, tha, nmh, hr8⟩, hnr, by exact hm0, by rw [e1206]; exact f1219, by exact hh0⟩ (Nat.le_of_ble_eq_true rfl) (Nat.le_of_ble_eq_true rfl)
theorem d31_0 : decode prog_18_method_18_code 0 = .ok (.aload_n 0, 1) := by decide +kernel
theorem d31_1 : decode prog_18_method_18_code 1 = .ok (.getfield 11, 3) := by decide +kernel
theorem d31_4 : decode prog_18_method_18_code 4 = .ok (.iconst 2, 1) := by decide +kernel
theorem d31_5 : decode prog_18_method_18_code 5 = .ok (.iload_n 1, 1) := by decide +kernel
theorem d31_6 : decode prog_18_method_18_code 6 = .ok (.imul, 1) := by decide +kernel
theorem d31_7 : decode prog_18_method_18_code 7 = .ok (.iconst 2, 1) := by decide +kernel
theorem d31_8 : decode prog_18_method_18_code 8 = .ok (.iadd, 1) := by decide +kernel
theorem d31_9 : decode prog_18_method_18_code 9 = .ok (.aload_n 0, 1) := by decide +kernel
theorem d31_10 : decode prog_18_method_18_code 10 = .ok (.getfield 11, 3) := by decide +kernel
theorem d31_13 : decode prog_18_method_18_code 13 = .ok (.iconst 2, 1) := by decide +kernel
theorem d31_14 : decode prog_18_method_18_code 14 = .ok (.iload_n 1, 1) := by decide +kernel
theorem d31_15 : decode prog_18_method_18_code 15 = .ok (.imul, 1) := by decide +kernel
theorem d31_16 : decode prog_18_method_18_code 16 = .ok (.iconst 2, 1) := by decide +kernel
theorem d31_17 : decode prog_18_method_18_code 17 = .ok (.aload_n 0, 1) := by decide +kernel
theorem d31_18 : decode prog_18_method_18_code 18 = .ok (.getfield 19, 3) := by decide +kernel
theorem d31_21 : decode prog_18_method_18_code 21 = .ok (.iload_n 1, 1) := by decide +kernel
theorem d31_22 : decode prog_18_method_18_code 22 = .ok (.isub, 1) := by decide +kernel
theorem d31_23 : decode prog_18_method_18_code 23 = .ok (.iconst 1, 1) := by decide +kernel
theorem d31_24 : decode prog_18_method_18_code 24 = .ok (.isub, 1) := by decide +kernel
theorem d31_25 : decode prog_18_method_18_code 25 = .ok (.imul, 1) := by decide +kernel
theorem d31_26 : decode prog_18_method_18_code 26 = .ok (.invokestatic 128, 3) := by decide +kernel
theorem d31_29 : decode prog_18_method_18_code 29 = .ok (.aload_n 0, 1) := by decide +kernel
theorem d31_30 : decode prog_18_method_18_code 30 = .ok (.getfield 15, 3) := by decide +kernel
theorem d31_33 : decode prog_18_method_18_code 33 = .ok (.iload_n 1, 1) := by decide +kernel
theorem d31_34 : decode prog_18_method_18_code 34 = .ok (.iconst 1, 1) := by decide +kernel
theorem d31_35 : decode prog_18_method_18_code 35 = .ok (.iadd, 1) := by decide +kernel
theorem d31_36 : decode prog_18_method_18_code 36 = .ok (.aload_n 0, 1) := by decide +kernel
theorem d31_37 : decode prog_18_method_18_code 37 = .ok (.getfield 15, 3) := by decide +kernel
theorem d31_40 : decode prog_18_method_18_code 40 = .ok (.iload_n 1, 1) := by decide +kernel
theorem d31_41 : decode prog_18_method_18_code 41 = .ok (.aload_n 0, 1) := by decide +kernel
theorem d31_42 : decode prog_18_method_18_code 42 = .ok (.getfield 19, 3) := by decide +kernel
theorem d31_45 : decode prog_18_method_18_code 45 = .ok (.iload_n 1, 1) := by decide +kernel
theorem d31_46 : decode prog_18_method_18_code 46 = .ok (.isub, 1) := by decide +kernel
theorem d31_47 : decode prog_18_method_18_code 47 = .ok (.iconst 1, 1) := by decide +kernel
theorem d31_48 : decode prog_18_method_18_code 48 = .ok (.isub, 1) := by decide +kernel
theorem d31_49 : decode prog_18_method_18_code 49 = .ok (.invokestatic 128, 3) := by decide +kernel
theorem d31_52 : decode prog_18_method_18_code 52 = .ok (.aload_n 0, 1) := by decide +kernel
theorem d31_53 : decode prog_18_method_18_code 53 = .ok (.dup, 1) := by decide +kernel
theorem d31_54 : decode prog_18_method_18_code 54 = .ok (.getfield 19, 3) := by decide +kernel
theorem d31_57 : decode prog_18_method_18_code 57 = .ok (.iconst 1, 1) := by decide +kernel
theorem d31_58 : decode prog_18_method_18_code 58 = .ok (.isub, 1) := by decide +kernel
theorem d31_59 : decode prog_18_method_18_code 59 = .ok (.putfield 19, 3) := by decide +kernel
theorem d31_62 : decode prog_18_method_18_code 62 = .ok (.aload_n 0, 1) := by decide +kernel
theorem d31_63 : decode prog_18_method_18_code 63 = .ok (.getfield 11, 3) := by decide +kernel
theorem d31_66 : decode prog_18_method_18_code 66 = .ok (.iconst 2, 1) := by decide +kernel
theorem d31_67 : decode prog_18_method_18_code 67 = .ok (.aload_n 0, 1) := by decide +kernel
theorem d31_68 : decode prog_18_method_18_code 68 = .ok (.getfield 19, 3) := by decide +kernel
theorem d31_71 : decode prog_18_method_18_code 71 = .ok (.imul, 1) := by decide +kernel
theorem d31_72 : decode prog_18_method_18_code 72 = .ok (.aconst_null, 1) := by decide +kernel
theorem d31_73 : decode prog_18_method_18_code 73 = .ok (.aastore, 1) := by decide +kernel
theorem d31_74 : decode prog_18_method_18_code 74 = .ok (.aload_n 0, 1) := by decide +kernel
theorem d31_75 : decode prog_18_method_18_code 75 = .ok (.getfield 11, 3) := by decide +kernel
theorem d31_78 : decode prog_18_method_18_code 78 = .ok (.iconst 2, 1) := by decide +kernel
theorem d31_79 : decode prog_18_method_18_code 79 = .ok (.aload_n 0, 1) := by decide +kernel
theorem d31_80 : decode prog_18_method_18_code 80 = .ok (.getfield 19, 3) := by decide +kernel
theorem d31_83 : decode prog_18_method_18_code 83 = .ok (.imul, 1) := by decide +kernel
theorem d31_84 : decode prog_18_method_18_code 84 = .ok (.iconst 1, 1) := by decide +kernel
theorem d31_85 : decode prog_18_method_18_code 85 = .ok (.iadd, 1) := by decide +kernel
theorem d31_86 : decode prog_18_method_18_code 86 = .ok (.aconst_null, 1) := by decide +kernel
theorem d31_87 : decode prog_18_method_18_code 87 = .ok (.aastore, 1) := by decide +kernel
theorem d31_88 : decode prog_18_method_18_code 88 = .ok (.aload_n 0, 1) := by decide +kernel
theorem d31_89 : decode prog_18_method_18_code 89 = .ok (.dup, 1) := by decide +kernel
theorem d31_90 : decode prog_18_method_18_code 90 = .ok (.getfield 31, 3) := by decide +kernel
theorem d31_93 : decode prog_18_method_18_code 93 = .ok (.iconst 1, 1) := by decide +kernel
theorem d31_94 : decode prog_18_method_18_code 94 = .ok (.iadd, 1) := by decide +kernel
theorem d31_95 : decode prog_18_method_18_code 95 = .ok (.putfield 31, 3) := by decide +kernel
theorem d31_98 : decode prog_18_method_18_code 98 = .ok (.aload_n 0, 1) := by decide +kernel
theorem d31_99 : decode prog_18_method_18_code 99 = .ok (.aconst_null, 1) := by decide +kernel
theorem d31_100 : decode prog_18_method_18_code 100 = .ok (.putfield 63, 3) := by decide +kernel
theorem d31_103 : decode prog_18_method_18_code 103 = .ok (.aload_n 0, 1) := by decide +kernel
theorem d31_104 : decode prog_18_method_18_code 104 = .ok (.getfield 19, 3) := by decide +kernel
theorem d31_107 : decode prog_18_method_18_code 107 = .ok (.bipush 16, 2) := by decide +kernel
theorem d31_109 : decode prog_18_method_18_code 109 = .ok (.if_icmp .le 7, 3) := by decide +kernel
theorem d31_116 : decode prog_18_method_18_code 116 = .ok (.return_, 1) := by decide +kernel
set_option maxRecDepth 65536 in
set_option maxHeartbeats 40000000 in
theorem rmRM10 (l : Launch) (Z : State) (a0 : Array Value) (hw : ∀ d ∈ tables_1, d.before a0 Z = true) (t ma ha : Addr) (r : Nat) (fm fh : Nat → Value) (cg : Int32) (h0 : Heap) (n0 : Nat) (hgt : n0 ≤ t) (TC : TrC Z h0 t (1 : Int32) ma ha r fm fh cg) (hnr : 1 ≤ r) (s0 : Addr) (c0 : Int32) (hm0 : fm 0 = .ref s0) (hv0 : Sb Z h0 (fm 1)) (hh0 : fh 0 = .int c0) (hs0 : Sb Z h0 (.ref s0)) :
    Con l Z h0 (⟨"com/example/kehys/kehys/io/TreeObject", "removeMember", "(I)V"⟩ : MethodName) prog_18_method_18_code 2 none ({ frames := 1, cells := 0, slots := 0, locals := 24 } : Room) #[(.ref t), (.int (0 : Int32))] (fun v h L => v = none ∧ Fr n0 L ∧ Keep h0 h [t, ma, ha] ∧ Tr0 Z h t) := by
  obtain ⟨E0, F0, F1, F2, F3, F4, V0, O0, A0, V1, tma, tha, nmh, hr8⟩ := TC
  refine con_of (plainFor_of_name pn_5) (Ls := #[.val (.ref t), .val (.int (0 : Int32))]) (fun m => by first | (simp [entryFrame, mkF, argsToLocals, Value.category]; done) | rfl) ?_
  intro p e s m below meth c s₁ hx hZ hby hml hret hlk hnm hown X0 e0
  refine g_aloadN X0 hx (hb hby d31_0) (v := (.ref t)) rfl rfl (q := 1) rfl ?_
  refine g_getF X0 hx hZ hown (hw _ (List.mem_of_getElem? (i := 47) rfl)) Via.refl e0 F0 (hb hby d31_1) (q := 4) rfl fun T1222 X1222 e1222 => ?_
  refine g_iconst X1222 hx (hb hby d31_4) (n := (2 : Int32)) (by decide) (q := 5) rfl ?_
  refine g_iloadN X1222 hx (hb hby d31_5) (v := (0 : Int32)) rfl (q := 6) rfl ?_
  refine g_imul X1222 hx (hb hby d31_6) (z := (0 : Int32)) (by decide) (q := 7) rfl ?_
  refine g_iconst X1222 hx (hb hby d31_7) (n := (2 : Int32)) (by decide) (q := 8) rfl ?_
  refine g_iadd X1222 hx (hb hby d31_8) (z := (2 : Int32)) (by decide) (q := 9) rfl ?_
  refine g_aloadN X1222 hx (hb hby d31_9) (v := (.ref t)) rfl rfl (q := 10) rfl ?_
  refine g_getF X1222 hx hZ hown (hw _ (List.mem_of_getElem? (i := 47) rfl)) Via.refl e1222 F0 (hb hby d31_10) (q := 13) rfl fun T1223 X1223 e1223 => ?_
  refine g_iconst X1223 hx (hb hby d31_13) (n := (2 : Int32)) (by decide) (q := 14) rfl ?_
  refine g_iloadN X1223 hx (hb hby d31_14) (v := (0 : Int32)) rfl (q := 15) rfl ?_
  refine g_imul X1223 hx (hb hby d31_15) (z := (0 : Int32)) (by decide) (q := 16) rfl ?_
  refine g_iconst X1223 hx (hb hby d31_16) (n := (2 : Int32)) (by decide) (q := 17) rfl ?_
  refine g_aloadN X1223 hx (hb hby d31_17) (v := (.ref t)) rfl rfl (q := 18) rfl ?_
  refine g_getF X1223 hx hZ hown (hw _ (List.mem_of_getElem? (i := 57) rfl)) Via.refl e1223 F2 (hb hby d31_18) (q := 21) rfl fun T1224 X1224 e1224 => ?_
  refine g_iloadN X1224 hx (hb hby d31_21) (v := (0 : Int32)) rfl (q := 22) rfl ?_
  refine g_isub X1224 hx (hb hby d31_22) (z := (1 : Int32)) (by decide) (q := 23) rfl ?_
  refine g_iconst X1224 hx (hb hby d31_23) (n := (1 : Int32)) (by decide) (q := 24) rfl ?_
  refine g_isub X1224 hx (hb hby d31_24) (z := (0 : Int32)) (by decide) (q := 25) rfl ?_
  refine g_imul X1224 hx (hb hby d31_25) (z := (0 : Int32)) (by decide) (q := 26) rfl ?_
  refine g_cp X1224 hx hZ hown (hw _ (List.mem_of_getElem? (i := 184) rfl)) (hw _ (List.mem_of_getElem? (i := 152) rfl)) (hw _ (List.mem_of_getElem? (i := 150) rfl)) (hw _ (List.mem_of_getElem? (i := 151) rfl)) e1224 V0 V0 (by decide) (by decide) (by decide) (by show 2 + 0 ≤ 2 * r; omega) (by show 0 + 0 ≤ 2 * r; omega) (fun i hi => absurd hi (Nat.not_lt_zero _)) hml.symm (hb hby d31_26) (Nat.le_of_ble_eq_true rfl) (Nat.le_of_ble_eq_true rfl) (q := 29) rfl fun T1225 h1225 L1225 B1225 X1225 e1225 K1225 U1225 => ?_
  have N1225 := Fr.app (Fr.nil n0) (fun y hy => by rw [B1225 y hy]; exact (Nat.le_trans hgt (Nat.le_of_lt tma)) : Fr n0 L1225)
  have kp_1225 := (Keep.refl h0 [t, ma, ha]).trans K1225 (allS (P := fun x => x ∈ [t, ma, ha] ∨ h0.size ≤ x) (Or.inl (List.mem_of_getElem? (i := 1) rfl)) all0)
  have f1226 := (E0.keep K1225)
  have f1227 := (F0.keep K1225 (ninS (Nat.ne_of_lt tma) nin0))
  have f1228 := (F1.keep K1225 (ninS (Nat.ne_of_lt tma) nin0))
  have f1229 := (F2.keep K1225 (ninS (Nat.ne_of_lt tma) nin0))
  have f1230 := (F3.keep K1225 (ninS (Nat.ne_of_lt tma) nin0))
  have f1231 := (F4.keep K1225 (ninS (Nat.ne_of_lt tma) nin0))
  have f1232 := (O0.keep K1225)
  have f1233 := (A0.keep K1225)
  have f1234 := (V1.keep K1225 (ninS (Ne.symm nmh) nin0))
  have f1235 := (hv0.keep K1225)
  have f1236 := (hs0.keep K1225)
  have V1225 := U1225.congr (g := fm) (fun i hi => own_cp0)
  refine g_aloadN X1225 hx (hb hby d31_29) (v := (.ref t)) rfl rfl (q := 30) rfl ?_
  refine g_getF X1225 hx hZ hown (hw _ (List.mem_of_getElem? (i := 50) rfl)) Via.refl e1225 f1228 (hb hby d31_30) (q := 33) rfl fun T1237 X1237 e1237 => ?_
  refine g_iloadN X1237 hx (hb hby d31_33) (v := (0 : Int32)) rfl (q := 34) rfl ?_
  refine g_iconst X1237 hx (hb hby d31_34) (n := (1 : Int32)) (by decide) (q := 35) rfl ?_
  refine g_iadd X1237 hx (hb hby d31_35) (z := (1 : Int32)) (by decide) (q := 36) rfl ?_
  refine g_aloadN X1237 hx (hb hby d31_36) (v := (.ref t)) rfl rfl (q := 37) rfl ?_
  refine g_getF X1237 hx hZ hown (hw _ (List.mem_of_getElem? (i := 50) rfl)) Via.refl e1237 f1228 (hb hby d31_37) (q := 40) rfl fun T1238 X1238 e1238 => ?_
  refine g_iloadN X1238 hx (hb hby d31_40) (v := (0 : Int32)) rfl (q := 41) rfl ?_
  refine g_aloadN X1238 hx (hb hby d31_41) (v := (.ref t)) rfl rfl (q := 42) rfl ?_
  refine g_getF X1238 hx hZ hown (hw _ (List.mem_of_getElem? (i := 57) rfl)) Via.refl e1238 f1229 (hb hby d31_42) (q := 45) rfl fun T1239 X1239 e1239 => ?_
  refine g_iloadN X1239 hx (hb hby d31_45) (v := (0 : Int32)) rfl (q := 46) rfl ?_
  refine g_isub X1239 hx (hb hby d31_46) (z := (1 : Int32)) (by decide) (q := 47) rfl ?_
  refine g_iconst X1239 hx (hb hby d31_47) (n := (1 : Int32)) (by decide) (q := 48) rfl ?_
  refine g_isub X1239 hx (hb hby d31_48) (z := (0 : Int32)) (by decide) (q := 49) rfl ?_
  refine g_cp X1239 hx hZ hown (hw _ (List.mem_of_getElem? (i := 184) rfl)) (hw _ (List.mem_of_getElem? (i := 152) rfl)) (hw _ (List.mem_of_getElem? (i := 150) rfl)) (hw _ (List.mem_of_getElem? (i := 151) rfl)) e1239 f1234 f1234 (by decide) (by decide) (by decide) (by show 1 + 0 ≤ r; omega) (by show 0 + 0 ≤ r; omega) (fun i hi => absurd hi (Nat.not_lt_zero _)) hml.symm (hb hby d31_49) (Nat.le_of_ble_eq_true rfl) (Nat.le_of_ble_eq_true rfl) (q := 52) rfl fun T1240 h1240 L1240 B1240 X1240 e1240 K1240 U1240 => ?_
  have N1240 := Fr.app N1225 (fun y hy => by rw [B1240 y hy]; exact (Nat.le_trans hgt (Nat.le_of_lt tha)) : Fr n0 L1240)
  have kp_1240 := kp_1225.trans K1240 (allS (P := fun x => x ∈ [t, ma, ha] ∨ h0.size ≤ x) (Or.inl (List.mem_of_getElem? (i := 2) rfl)) all0)
  have f1241 := (f1226.keep K1240)
  have f1242 := (f1227.keep K1240 (ninS (Nat.ne_of_lt tha) nin0))
  have f1243 := (f1228.keep K1240 (ninS (Nat.ne_of_lt tha) nin0))
  have f1244 := (f1229.keep K1240 (ninS (Nat.ne_of_lt tha) nin0))
  have f1245 := (f1230.keep K1240 (ninS (Nat.ne_of_lt tha) nin0))
  have f1246 := (f1231.keep K1240 (ninS (Nat.ne_of_lt tha) nin0))
  have f1247 := (V1225.keep K1240 (ninS nmh nin0))
  have f1248 := (f1232.keep K1240)
  have f1249 := (f1233.keep K1240)
  have f1250 := (f1235.keep K1240)
  have f1251 := (f1236.keep K1240)
  have V1240 := U1240.congr (g := fh) (fun i hi => own_cp0)
  refine g_aloadN X1240 hx (hb hby d31_52) (v := (.ref t)) rfl rfl (q := 53) rfl ?_
  refine g_dup X1240 hx (hb hby d31_53) rfl (q := 54) rfl ?_
  refine g_getF X1240 hx hZ hown (hw _ (List.mem_of_getElem? (i := 57) rfl)) Via.refl e1240 f1244 (hb hby d31_54) (q := 57) rfl fun T1252 X1252 e1252 => ?_
  refine g_iconst X1252 hx (hb hby d31_57) (n := (1 : Int32)) (by decide) (q := 58) rfl ?_
  refine g_isub X1252 hx (hb hby d31_58) (z := (0 : Int32)) (by decide) (q := 59) rfl ?_
  refine g_putF X1252 hx hZ hown (hw _ (List.mem_of_getElem? (i := 57) rfl)) Via.refl e1252 f1244 f1241 (Or.inl (hw _ (List.mem_of_getElem? (i := 58) rfl))) (hw _ (List.mem_of_getElem? (i := 34) rfl)) (ty := .int) (by decide) rfl rfl (hb hby d31_59) (q := 62) rfl fun T1253 h1253 X1253 e1253 W1253 => ?_
  have fw1253 := f1244.same W1253
  have N1253 := Fr.snoc X1253 N1240 hgt
  have kp_1253 := kp_1240.wr W1253 (Or.inl (List.mem_of_getElem? (i := 0) rfl))
  have f1254 := (f1241.wr W1253)
  have f1255 := (f1242.other W1253 (Or.inr (slot_ne (Or.inl (hw _ (List.mem_of_getElem? (i := 48) rfl))) (Or.inl (hw _ (List.mem_of_getElem? (i := 58) rfl))) (by decide) (t := (.array (.object "java/lang/Object"))) (t' := .int) (by decide) (by decide))))
  have f1256 := (f1243.other W1253 (Or.inr (slot_ne (Or.inl (hw _ (List.mem_of_getElem? (i := 51) rfl))) (Or.inl (hw _ (List.mem_of_getElem? (i := 58) rfl))) (by decide) (t := (.array .int)) (t' := .int) (by decide) (by decide))))
  have f1257 := (f1245.other W1253 (Or.inr (slot_ne (Or.inl (hw _ (List.mem_of_getElem? (i := 74) rfl))) (Or.inl (hw _ (List.mem_of_getElem? (i := 58) rfl))) (by decide) (t := (.object "java/util/Map")) (t' := .int) (by decide) (by decide))))
  have f1258 := (f1246.other W1253 (Or.inr (slot_ne (Or.inl (hw _ (List.mem_of_getElem? (i := 110) rfl))) (Or.inl (hw _ (List.mem_of_getElem? (i := 58) rfl))) (by decide) (t := .int) (t' := .int) (by decide) (by decide))))
  have f1259 := (f1247.other W1253 (Ne.symm (Nat.ne_of_lt tma)))
  have f1260 := (f1248.wr W1253)
  have f1261 := (f1249.wr W1253)
  have f1262 := (V1240.other W1253 (Ne.symm (Nat.ne_of_lt tha)))
  have f1263 := (f1250.wr W1253)
  have f1264 := (f1251.wr W1253)
  refine g_aloadN X1253 hx (hb hby d31_62) (v := (.ref t)) rfl rfl (q := 63) rfl ?_
  refine g_getF X1253 hx hZ hown (hw _ (List.mem_of_getElem? (i := 47) rfl)) Via.refl e1253 f1255 (hb hby d31_63) (q := 66) rfl fun T1265 X1265 e1265 => ?_
  refine g_iconst X1265 hx (hb hby d31_66) (n := (2 : Int32)) (by decide) (q := 67) rfl ?_
  refine g_aloadN X1265 hx (hb hby d31_67) (v := (.ref t)) rfl rfl (q := 68) rfl ?_
  refine g_getF X1265 hx hZ hown (hw _ (List.mem_of_getElem? (i := 57) rfl)) Via.refl e1265 fw1253 (hb hby d31_68) (q := 71) rfl fun T1266 X1266 e1266 => ?_
  refine g_imul X1266 hx (hb hby d31_71) (z := (0 : Int32)) (by decide) (q := 72) rfl ?_
  refine g_aconst_null X1266 hx (hb hby d31_72) (q := 73) rfl ?_
  refine g_aastore X1266 hx hZ e1266 f1259 rfl (by decide) (by show 0 < 2 * r; omega) (Or.inl rfl) (hb hby d31_73) (q := 74) rfl fun T1267 h1267 X1267 e1267 W1267 U1267 => ?_
  have N1267 := Fr.snoc X1267 N1253 (Nat.le_trans hgt (Nat.le_of_lt tma))
  have kp_1267 := kp_1253.wr W1267 (Or.inl (List.mem_of_getElem? (i := 1) rfl))
  have f1268 := (f1254.wr W1267)
  have f1269 := (f1255.other W1267 (Or.inl (Nat.ne_of_lt tma)))
  have f1270 := (f1256.other W1267 (Or.inl (Nat.ne_of_lt tma)))
  have f1271 := (fw1253.other W1267 (Or.inl (Nat.ne_of_lt tma)))
  have f1272 := (f1257.other W1267 (Or.inl (Nat.ne_of_lt tma)))
  have f1273 := (f1258.other W1267 (Or.inl (Nat.ne_of_lt tma)))
  have f1274 := (f1260.wr W1267)
  have f1275 := (f1261.wr W1267)
  have f1276 := (f1262.other W1267 (Ne.symm nmh))
  have f1277 := (f1263.wr W1267)
  have f1278 := (f1264.wr W1267)
  refine g_aloadN X1267 hx (hb hby d31_74) (v := (.ref t)) rfl rfl (q := 75) rfl ?_
  refine g_getF X1267 hx hZ hown (hw _ (List.mem_of_getElem? (i := 47) rfl)) Via.refl e1267 f1269 (hb hby d31_75) (q := 78) rfl fun T1279 X1279 e1279 => ?_
  refine g_iconst X1279 hx (hb hby d31_78) (n := (2 : Int32)) (by decide) (q := 79) rfl ?_
  refine g_aloadN X1279 hx (hb hby d31_79) (v := (.ref t)) rfl rfl (q := 80) rfl ?_
  refine g_getF X1279 hx hZ hown (hw _ (List.mem_of_getElem? (i := 57) rfl)) Via.refl e1279 f1271 (hb hby d31_80) (q := 83) rfl fun T1280 X1280 e1280 => ?_
  refine g_imul X1280 hx (hb hby d31_83) (z := (0 : Int32)) (by decide) (q := 84) rfl ?_
  refine g_iconst X1280 hx (hb hby d31_84) (n := (1 : Int32)) (by decide) (q := 85) rfl ?_
  refine g_iadd X1280 hx (hb hby d31_85) (z := (1 : Int32)) (by decide) (q := 86) rfl ?_
  refine g_aconst_null X1280 hx (hb hby d31_86) (q := 87) rfl ?_
  refine g_aastore X1280 hx hZ e1280 U1267 rfl (by decide) (by show 1 < 2 * r; omega) (Or.inl rfl) (hb hby d31_87) (q := 88) rfl fun T1281 h1281 X1281 e1281 W1281 U1281 => ?_
  have N1281 := Fr.snoc X1281 N1267 (Nat.le_trans hgt (Nat.le_of_lt tma))
  have kp_1281 := kp_1267.wr W1281 (Or.inl (List.mem_of_getElem? (i := 1) rfl))
  have f1282 := (f1268.wr W1281)
  have f1283 := (f1269.other W1281 (Or.inl (Nat.ne_of_lt tma)))
  have f1284 := (f1270.other W1281 (Or.inl (Nat.ne_of_lt tma)))
  have f1285 := (f1271.other W1281 (Or.inl (Nat.ne_of_lt tma)))
  have f1286 := (f1272.other W1281 (Or.inl (Nat.ne_of_lt tma)))
  have f1287 := (f1273.other W1281 (Or.inl (Nat.ne_of_lt tma)))
  have f1288 := (f1274.wr W1281)
  have f1289 := (f1275.wr W1281)
  have f1290 := (f1276.other W1281 (Ne.symm nmh))
  have f1291 := (f1277.wr W1281)
  have f1292 := (f1278.wr W1281)
  refine g_aloadN X1281 hx (hb hby d31_88) (v := (.ref t)) rfl rfl (q := 89) rfl ?_
  refine g_dup X1281 hx (hb hby d31_89) rfl (q := 90) rfl ?_
  refine g_getF X1281 hx hZ hown (hw _ (List.mem_of_getElem? (i := 109) rfl)) Via.refl e1281 f1287 (hb hby d31_90) (q := 93) rfl fun T1293 X1293 e1293 => ?_
  refine g_iconst X1293 hx (hb hby d31_93) (n := (1 : Int32)) (by decide) (q := 94) rfl ?_
  refine g_iadd X1293 hx (hb hby d31_94) (z := (cg + (1 : Int32))) rfl (q := 95) rfl ?_
  refine g_putF X1293 hx hZ hown (hw _ (List.mem_of_getElem? (i := 109) rfl)) Via.refl e1293 f1287 f1282 (Or.inl (hw _ (List.mem_of_getElem? (i := 110) rfl))) (hw _ (List.mem_of_getElem? (i := 34) rfl)) (ty := .int) (by decide) rfl rfl (hb hby d31_95) (q := 98) rfl fun T1294 h1294 X1294 e1294 W1294 => ?_
  have fw1294 := f1287.same W1294
  have N1294 := Fr.snoc X1294 N1281 hgt
  have kp_1294 := kp_1281.wr W1294 (Or.inl (List.mem_of_getElem? (i := 0) rfl))
  have f1295 := (f1282.wr W1294)
  have f1296 := (f1283.other W1294 (Or.inr (slot_ne (Or.inl (hw _ (List.mem_of_getElem? (i := 48) rfl))) (Or.inl (hw _ (List.mem_of_getElem? (i := 110) rfl))) (by decide) (t := (.array (.object "java/lang/Object"))) (t' := .int) (by decide) (by decide))))
  have f1297 := (f1284.other W1294 (Or.inr (slot_ne (Or.inl (hw _ (List.mem_of_getElem? (i := 51) rfl))) (Or.inl (hw _ (List.mem_of_getElem? (i := 110) rfl))) (by decide) (t := (.array .int)) (t' := .int) (by decide) (by decide))))
  have f1298 := (f1285.other W1294 (Or.inr (slot_ne (Or.inl (hw _ (List.mem_of_getElem? (i := 58) rfl))) (Or.inl (hw _ (List.mem_of_getElem? (i := 110) rfl))) (by decide) (t := .int) (t' := .int) (by decide) (by decide))))
  have f1299 := (f1286.other W1294 (Or.inr (slot_ne (Or.inl (hw _ (List.mem_of_getElem? (i := 74) rfl))) (Or.inl (hw _ (List.mem_of_getElem? (i := 110) rfl))) (by decide) (t := (.object "java/util/Map")) (t' := .int) (by decide) (by decide))))
  have f1300 := (U1281.other W1294 (Ne.symm (Nat.ne_of_lt tma)))
  have f1301 := (f1288.wr W1294)
  have f1302 := (f1289.wr W1294)
  have f1303 := (f1290.other W1294 (Ne.symm (Nat.ne_of_lt tha)))
  have f1304 := (f1291.wr W1294)
  have f1305 := (f1292.wr W1294)
  refine g_aloadN X1294 hx (hb hby d31_98) (v := (.ref t)) rfl rfl (q := 99) rfl ?_
  refine g_aconst_null X1294 hx (hb hby d31_99) (q := 100) rfl ?_
  refine g_putF X1294 hx hZ hown (hw _ (List.mem_of_getElem? (i := 73) rfl)) Via.refl e1294 f1299 f1295 (Or.inl (hw _ (List.mem_of_getElem? (i := 74) rfl))) (hw _ (List.mem_of_getElem? (i := 34) rfl)) (ty := (.object "java/util/Map")) (by decide) rfl rfl (hb hby d31_100) (q := 103) rfl fun T1306 h1306 X1306 e1306 W1306 => ?_
  have fw1306 := f1299.same W1306
  have N1306 := Fr.snoc X1306 N1294 hgt
  have kp_1306 := kp_1294.wr W1306 (Or.inl (List.mem_of_getElem? (i := 0) rfl))
  have f1307 := (f1295.wr W1306)
  have f1308 := (f1296.other W1306 (Or.inr (slot_ne (Or.inl (hw _ (List.mem_of_getElem? (i := 48) rfl))) (Or.inl (hw _ (List.mem_of_getElem? (i := 74) rfl))) (by decide) (t := (.array (.object "java/lang/Object"))) (t' := (.object "java/util/Map")) (by decide) (by decide))))
  have f1309 := (f1297.other W1306 (Or.inr (slot_ne (Or.inl (hw _ (List.mem_of_getElem? (i := 51) rfl))) (Or.inl (hw _ (List.mem_of_getElem? (i := 74) rfl))) (by decide) (t := (.array .int)) (t' := (.object "java/util/Map")) (by decide) (by decide))))
  have f1310 := (f1298.other W1306 (Or.inr (slot_ne (Or.inl (hw _ (List.mem_of_getElem? (i := 58) rfl))) (Or.inl (hw _ (List.mem_of_getElem? (i := 74) rfl))) (by decide) (t := .int) (t' := (.object "java/util/Map")) (by decide) (by decide))))
  have f1311 := (fw1294.other W1306 (Or.inr (slot_ne (Or.inl (hw _ (List.mem_of_getElem? (i := 110) rfl))) (Or.inl (hw _ (List.mem_of_getElem? (i := 74) rfl))) (by decide) (t := .int) (t' := (.object "java/util/Map")) (by decide) (by decide))))
  have f1312 := (f1300.other W1306 (Ne.symm (Nat.ne_of_lt tma)))
  have f1313 := (f1301.wr W1306)
  have f1314 := (f1302.wr W1306)
  have f1315 := (f1303.other W1306 (Ne.symm (Nat.ne_of_lt tha)))
  have f1316 := (f1304.wr W1306)
  have f1317 := (f1305.wr W1306)
  refine g_aloadN X1306 hx (hb hby d31_103) (v := (.ref t)) rfl rfl (q := 104) rfl ?_
  refine g_getF X1306 hx hZ hown (hw _ (List.mem_of_getElem? (i := 57) rfl)) Via.refl e1306 f1310 (hb hby d31_104) (q := 107) rfl fun T1318 X1318 e1318 => ?_
  refine g_bipush X1318 hx (hb hby d31_107) (n := (16 : Int32)) (by decide) (q := 109) rfl ?_
  refine g_icmp_le X1318 hx (hb hby d31_109) (by decide) (q := 116) (by decide) (q2 := 112) rfl (fun hb109 => ?_) (fun hb109 => absurd hb109 (by decide))
  exact g_retV X1318 hx hret hlk (hb hby d31_116) ⟨rfl, by simpa using N1306, by rw [e1318]; exact kp_1306, ma, ha, r, _, _, _, ⟨by rw [e1318]; exact f1307, by rw [e1318]; exact f1308, by rw [e1318]; exact f1309, by rw [e1318]; exact f1310, by rw [e1318]; exact fw1306, by rw [e1318]; exact f1311, by rw [e1318]; exact f1312, by rw [e1318]; exact f1313, by rw [e1318]; exact f1314, by rw [e1318]; exact f1315, tma, tha, nmh, hr8⟩⟩ (Nat.le_of_ble_eq_true rfl) (Nat.le_of_ble_eq_true rfl)
set_option maxRecDepth 65536 in
set_option maxHeartbeats 40000000 in
theorem rmRM20 (l : Launch) (Z : State) (a0 : Array Value) (hw : ∀ d ∈ tables_1, d.before a0 Z = true) (t ma ha : Addr) (r : Nat) (fm fh : Nat → Value) (cg : Int32) (h0 : Heap) (n0 : Nat) (hgt : n0 ≤ t) (TC : TrC Z h0 t (2 : Int32) ma ha r fm fh cg) (hnr : 2 ≤ r) (s0 : Addr) (c0 : Int32) (s1 : Addr) (c1 : Int32) (hm0 : fm 0 = .ref s0) (hv0 : Sb Z h0 (fm 1)) (hh0 : fh 0 = .int c0) (hm1 : fm 2 = .ref s1) (hv1 : Sb Z h0 (fm 3)) (hh1 : fh 1 = .int c1) (hs0 : Sb Z h0 (.ref s0)) (hs1 : Sb Z h0 (.ref s1)) :
    Con l Z h0 (⟨"com/example/kehys/kehys/io/TreeObject", "removeMember", "(I)V"⟩ : MethodName) prog_18_method_18_code 2 none ({ frames := 1, cells := 0, slots := 0, locals := 24 } : Room) #[(.ref t), (.int (0 : Int32))] (fun v h L => v = none ∧ Fr n0 L ∧ Keep h0 h [t, ma, ha] ∧ Tr1 Z h t s1 c1) := by
  obtain ⟨E0, F0, F1, F2, F3, F4, V0, O0, A0, V1, tma, tha, nmh, hr8⟩ := TC
  refine con_of (plainFor_of_name pn_5) (Ls := #[.val (.ref t), .val (.int (0 : Int32))]) (fun m => by first | (simp [entryFrame, mkF, argsToLocals, Value.category]; done) | rfl) ?_
  intro p e s m below meth c s₁ hx hZ hby hml hret hlk hnm hown X0 e0
  refine g_aloadN X0 hx (hb hby d31_0) (v := (.ref t)) rfl rfl (q := 1) rfl ?_
  refine g_getF X0 hx hZ hown (hw _ (List.mem_of_getElem? (i := 47) rfl)) Via.refl e0 F0 (hb hby d31_1) (q := 4) rfl fun T1319 X1319 e1319 => ?_
  refine g_iconst X1319 hx (hb hby d31_4) (n := (2 : Int32)) (by decide) (q := 5) rfl ?_
  refine g_iloadN X1319 hx (hb hby d31_5) (v := (0 : Int32)) rfl (q := 6) rfl ?_
  refine g_imul X1319 hx (hb hby d31_6) (z := (0 : Int32)) (by decide) (q := 7) rfl ?_
  refine g_iconst X1319 hx (hb hby d31_7) (n := (2 : Int32)) (by decide) (q := 8) rfl ?_
  refine g_iadd X1319 hx (hb hby d31_8) (z := (2 : Int32)) (by decide) (q := 9) rfl ?_
  refine g_aloadN X1319 hx (hb hby d31_9) (v := (.ref t)) rfl rfl (q := 10) rfl ?_
  refine g_getF X1319 hx hZ hown (hw _ (List.mem_of_getElem? (i := 47) rfl)) Via.refl e1319 F0 (hb hby d31_10) (q := 13) rfl fun T1320 X1320 e1320 => ?_
  refine g_iconst X1320 hx (hb hby d31_13) (n := (2 : Int32)) (by decide) (q := 14) rfl ?_
  refine g_iloadN X1320 hx (hb hby d31_14) (v := (0 : Int32)) rfl (q := 15) rfl ?_
  refine g_imul X1320 hx (hb hby d31_15) (z := (0 : Int32)) (by decide) (q := 16) rfl ?_
  refine g_iconst X1320 hx (hb hby d31_16) (n := (2 : Int32)) (by decide) (q := 17) rfl ?_
  refine g_aloadN X1320 hx (hb hby d31_17) (v := (.ref t)) rfl rfl (q := 18) rfl ?_
  refine g_getF X1320 hx hZ hown (hw _ (List.mem_of_getElem? (i := 57) rfl)) Via.refl e1320 F2 (hb hby d31_18) (q := 21) rfl fun T1321 X1321 e1321 => ?_
  refine g_iloadN X1321 hx (hb hby d31_21) (v := (0 : Int32)) rfl (q := 22) rfl ?_
  refine g_isub X1321 hx (hb hby d31_22) (z := (2 : Int32)) (by decide) (q := 23) rfl ?_
  refine g_iconst X1321 hx (hb hby d31_23) (n := (1 : Int32)) (by decide) (q := 24) rfl ?_
  refine g_isub X1321 hx (hb hby d31_24) (z := (1 : Int32)) (by decide) (q := 25) rfl ?_
  refine g_imul X1321 hx (hb hby d31_25) (z := (2 : Int32)) (by decide) (q := 26) rfl ?_
  refine g_cp X1321 hx hZ hown (hw _ (List.mem_of_getElem? (i := 184) rfl)) (hw _ (List.mem_of_getElem? (i := 152) rfl)) (hw _ (List.mem_of_getElem? (i := 150) rfl)) (hw _ (List.mem_of_getElem? (i := 151) rfl)) e1321 V0 V0 (by decide) (by decide) (by decide) (by show 2 + 2 ≤ 2 * r; omega) (by show 0 + 2 ≤ 2 * r; omega) (fun i hi => by
        have hi' : i = 0 ∨ i = 1 := by have : i < 2 := hi; omega
        rcases hi' with rfl | rfl
        · have b : Sb Z h0 (fm 2) := by rw [hm1]; exact hs1
          exact ⟨b.fit, fun _ => b.sto O0 (hw _ (List.mem_of_getElem? (i := 104) rfl)) (hw _ (List.mem_of_getElem? (i := 105) rfl))⟩
        · exact ⟨hv1.fit, fun _ => hv1.sto O0 (hw _ (List.mem_of_getElem? (i := 104) rfl)) (hw _ (List.mem_of_getElem? (i := 105) rfl))⟩) hml.symm (hb hby d31_26) (Nat.le_of_ble_eq_true rfl) (Nat.le_of_ble_eq_true rfl) (q := 29) rfl fun T1322 h1322 L1322 B1322 X1322 e1322 K1322 U1322 => ?_
  have N1322 := Fr.app (Fr.nil n0) (fun y hy => by rw [B1322 y hy]; exact (Nat.le_trans hgt (Nat.le_of_lt tma)) : Fr n0 L1322)
  have kp_1322 := (Keep.refl h0 [t, ma, ha]).trans K1322 (allS (P := fun x => x ∈ [t, ma, ha] ∨ h0.size ≤ x) (Or.inl (List.mem_of_getElem? (i := 1) rfl)) all0)
  have f1323 := (E0.keep K1322)
  have f1324 := (F0.keep K1322 (ninS (Nat.ne_of_lt tma) nin0))
  have f1325 := (F1.keep K1322 (ninS (Nat.ne_of_lt tma) nin0))
  have f1326 := (F2.keep K1322 (ninS (Nat.ne_of_lt tma) nin0))
  have f1327 := (F3.keep K1322 (ninS (Nat.ne_of_lt tma) nin0))
  have f1328 := (F4.keep K1322 (ninS (Nat.ne_of_lt tma) nin0))
  have f1329 := (O0.keep K1322)
  have f1330 := (A0.keep K1322)
  have f1331 := (V1.keep K1322 (ninS (Ne.symm nmh) nin0))
  have f1332 := (hv0.keep K1322)
  have f1333 := (hs0.keep K1322)
  have f1334 := (hv1.keep K1322)
  have f1335 := (hs1.keep K1322)
  have V1322 := U1322.congr (g := (fun j => if j = 0 then fm 2 else if j = 1 then fm 3 else fm j)) (fun i hi => own_cp2)
  refine g_aloadN X1322 hx (hb hby d31_29) (v := (.ref t)) rfl rfl (q := 30) rfl ?_
  refine g_getF X1322 hx hZ hown (hw _ (List.mem_of_getElem? (i := 50) rfl)) Via.refl e1322 f1325 (hb hby d31_30) (q := 33) rfl fun T1336 X1336 e1336 => ?_
  refine g_iloadN X1336 hx (hb hby d31_33) (v := (0 : Int32)) rfl (q := 34) rfl ?_
  refine g_iconst X1336 hx (hb hby d31_34) (n := (1 : Int32)) (by decide) (q := 35) rfl ?_
  refine g_iadd X1336 hx (hb hby d31_35) (z := (1 : Int32)) (by decide) (q := 36) rfl ?_
  refine g_aloadN X1336 hx (hb hby d31_36) (v := (.ref t)) rfl rfl (q := 37) rfl ?_
  refine g_getF X1336 hx hZ hown (hw _ (List.mem_of_getElem? (i := 50) rfl)) Via.refl e1336 f1325 (hb hby d31_37) (q := 40) rfl fun T1337 X1337 e1337 => ?_
  refine g_iloadN X1337 hx (hb hby d31_40) (v := (0 : Int32)) rfl (q := 41) rfl ?_
  refine g_aloadN X1337 hx (hb hby d31_41) (v := (.ref t)) rfl rfl (q := 42) rfl ?_
  refine g_getF X1337 hx hZ hown (hw _ (List.mem_of_getElem? (i := 57) rfl)) Via.refl e1337 f1326 (hb hby d31_42) (q := 45) rfl fun T1338 X1338 e1338 => ?_
  refine g_iloadN X1338 hx (hb hby d31_45) (v := (0 : Int32)) rfl (q := 46) rfl ?_
  refine g_isub X1338 hx (hb hby d31_46) (z := (2 : Int32)) (by decide) (q := 47) rfl ?_
  refine g_iconst X1338 hx (hb hby d31_47) (n := (1 : Int32)) (by decide) (q := 48) rfl ?_
  refine g_isub X1338 hx (hb hby d31_48) (z := (1 : Int32)) (by decide) (q := 49) rfl ?_
  refine g_cp X1338 hx hZ hown (hw _ (List.mem_of_getElem? (i := 184) rfl)) (hw _ (List.mem_of_getElem? (i := 152) rfl)) (hw _ (List.mem_of_getElem? (i := 150) rfl)) (hw _ (List.mem_of_getElem? (i := 151) rfl)) e1338 f1331 f1331 (by decide) (by decide) (by decide) (by show 1 + 1 ≤ r; omega) (by show 0 + 1 ≤ r; omega) (fun i hi => by
        have hi' : i = 0 := by have : i < 1 := hi; omega
        subst hi'
        exact ⟨by show fits .int (fh 1) = true; rw [hh1]; rfl, fun q => by cases q⟩) hml.symm (hb hby d31_49) (Nat.le_of_ble_eq_true rfl) (Nat.le_of_ble_eq_true rfl) (q := 52) rfl fun T1339 h1339 L1339 B1339 X1339 e1339 K1339 U1339 => ?_
  have N1339 := Fr.app N1322 (fun y hy => by rw [B1339 y hy]; exact (Nat.le_trans hgt (Nat.le_of_lt tha)) : Fr n0 L1339)
  have kp_1339 := kp_1322.trans K1339 (allS (P := fun x => x ∈ [t, ma, ha] ∨ h0.size ≤ x) (Or.inl (List.mem_of_getElem? (i := 2) rfl)) all0)
  have f1340 := (f1323.keep K1339)
  have f1341 := (f1324.keep K1339 (ninS (Nat.ne_of_lt tha) nin0))
  have f1342 := (f1325.keep K1339 (ninS (Nat.ne_of_lt tha) nin0))
  have f1343 := (f1326.keep K1339 (ninS (Nat.ne_of_lt tha) nin0))
  have f1344 := (f1327.keep K1339 (ninS (Nat.ne_of_lt tha) nin0))
  have f1345 := (f1328.keep K1339 (ninS (Nat.ne_of_lt tha) nin0))
  have f1346 := (V1322.keep K1339 (ninS nmh nin0))
  have f1347 := (f1329.keep K1339)
  have f1348 := (f1330.keep K1339)
  have f1349 := (f1332.keep K1339)
  have f1350 := (f1333.keep K1339)
  have f1351 := (f1334.keep K1339)
  have f1352 := (f1335.keep K1339)
  have V1339 := U1339.congr (g := (fun j => if j = 0 then fh 1 else fh j)) (fun i hi => own_cp1)
  refine g_aloadN X1339 hx (hb hby d31_52) (v := (.ref t)) rfl rfl (q := 53) rfl ?_
  refine g_dup X1339 hx (hb hby d31_53) rfl (q := 54) rfl ?_
  refine g_getF X1339 hx hZ hown (hw _ (List.mem_of_getElem? (i := 57) rfl)) Via.refl e1339 f1343 (hb hby d31_54) (q := 57) rfl fun T1353 X1353 e1353 => ?_
  refine g_iconst X1353 hx (hb hby d31_57) (n := (1 : Int32)) (by decide) (q := 58) rfl ?_
  refine g_isub X1353 hx (hb hby d31_58) (z := (1 : Int32)) (by decide) (q := 59) rfl ?_
  refine g_putF X1353 hx hZ hown (hw _ (List.mem_of_getElem? (i := 57) rfl)) Via.refl e1353 f1343 f1340 (Or.inl (hw _ (List.mem_of_getElem? (i := 58) rfl))) (hw _ (List.mem_of_getElem? (i := 34) rfl)) (ty := .int) (by decide) rfl rfl (hb hby d31_59) (q := 62) rfl fun T1354 h1354 X1354 e1354 W1354 => ?_
  have fw1354 := f1343.same W1354
  have N1354 := Fr.snoc X1354 N1339 hgt
  have kp_1354 := kp_1339.wr W1354 (Or.inl (List.mem_of_getElem? (i := 0) rfl))
  have f1355 := (f1340.wr W1354)
  have f1356 := (f1341.other W1354 (Or.inr (slot_ne (Or.inl (hw _ (List.mem_of_getElem? (i := 48) rfl))) (Or.inl (hw _ (List.mem_of_getElem? (i := 58) rfl))) (by decide) (t := (.array (.object "java/lang/Object"))) (t' := .int) (by decide) (by decide))))
  have f1357 := (f1342.other W1354 (Or.inr (slot_ne (Or.inl (hw _ (List.mem_of_getElem? (i := 51) rfl))) (Or.inl (hw _ (List.mem_of_getElem? (i := 58) rfl))) (by decide) (t := (.array .int)) (t' := .int) (by decide) (by decide))))
  have f1358 := (f1344.other W1354 (Or.inr (slot_ne (Or.inl (hw _ (List.mem_of_getElem? (i := 74) rfl))) (Or.inl (hw _ (List.mem_of_getElem? (i := 58) rfl))) (by decide) (t := (.object "java/util/Map")) (t' := .int) (by decide) (by decide))))
  have f1359 := (f1345.other W1354 (Or.inr (slot_ne (Or.inl (hw _ (List.mem_of_getElem? (i := 110) rfl))) (Or.inl (hw _ (List.mem_of_getElem? (i := 58) rfl))) (by decide) (t := .int) (t' := .int) (by decide) (by decide))))
  have f1360 := (f1346.other W1354 (Ne.symm (Nat.ne_of_lt tma)))
  have f1361 := (f1347.wr W1354)
  have f1362 := (f1348.wr W1354)
  have f1363 := (V1339.other W1354 (Ne.symm (Nat.ne_of_lt tha)))
  have f1364 := (f1349.wr W1354)
  have f1365 := (f1350.wr W1354)
  have f1366 := (f1351.wr W1354)
  have f1367 := (f1352.wr W1354)
  refine g_aloadN X1354 hx (hb hby d31_62) (v := (.ref t)) rfl rfl (q := 63) rfl ?_
  refine g_getF X1354 hx hZ hown (hw _ (List.mem_of_getElem? (i := 47) rfl)) Via.refl e1354 f1356 (hb hby d31_63) (q := 66) rfl fun T1368 X1368 e1368 => ?_
  refine g_iconst X1368 hx (hb hby d31_66) (n := (2 : Int32)) (by decide) (q := 67) rfl ?_
  refine g_aloadN X1368 hx (hb hby d31_67) (v := (.ref t)) rfl rfl (q := 68) rfl ?_
  refine g_getF X1368 hx hZ hown (hw _ (List.mem_of_getElem? (i := 57) rfl)) Via.refl e1368 fw1354 (hb hby d31_68) (q := 71) rfl fun T1369 X1369 e1369 => ?_
  refine g_imul X1369 hx (hb hby d31_71) (z := (2 : Int32)) (by decide) (q := 72) rfl ?_
  refine g_aconst_null X1369 hx (hb hby d31_72) (q := 73) rfl ?_
  refine g_aastore X1369 hx hZ e1369 f1360 rfl (by decide) (by show 2 < 2 * r; omega) (Or.inl rfl) (hb hby d31_73) (q := 74) rfl fun T1370 h1370 X1370 e1370 W1370 U1370 => ?_
  have N1370 := Fr.snoc X1370 N1354 (Nat.le_trans hgt (Nat.le_of_lt tma))
  have kp_1370 := kp_1354.wr W1370 (Or.inl (List.mem_of_getElem? (i := 1) rfl))
  have f1371 := (f1355.wr W1370)
  have f1372 := (f1356.other W1370 (Or.inl (Nat.ne_of_lt tma)))
  have f1373 := (f1357.other W1370 (Or.inl (Nat.ne_of_lt tma)))
  have f1374 := (fw1354.other W1370 (Or.inl (Nat.ne_of_lt tma)))
  have f1375 := (f1358.other W1370 (Or.inl (Nat.ne_of_lt tma)))
  have f1376 := (f1359.other W1370 (Or.inl (Nat.ne_of_lt tma)))
  have f1377 := (f1361.wr W1370)
  have f1378 := (f1362.wr W1370)
  have f1379 := (f1363.other W1370 (Ne.symm nmh))
  have f1380 := (f1364.wr W1370)
  have f1381 := (f1365.wr W1370)
  have f1382 := (f1366.wr W1370)
  have f1383 := (f1367.wr W1370)
  refine g_aloadN X1370 hx (hb hby d31_74) (v := (.ref t)) rfl rfl (q := 75) rfl ?_
  refine g_getF X1370 hx hZ hown (hw _ (List.mem_of_getElem? (i := 47) rfl)) Via.refl e1370 f1372 (hb hby d31_75) (q := 78) rfl fun T1384 X1384 e1384 => ?_
  refine g_iconst X1384 hx (hb hby d31_78) (n := (2 : Int32)) (by decide) (q := 79) rfl ?_
  refine g_aloadN X1384 hx (hb hby d31_79) (v := (.ref t)) rfl rfl (q := 80) rfl ?_
  refine g_getF X1384 hx hZ hown (hw _ (List.mem_of_getElem? (i := 57) rfl)) Via.refl e1384 f1374 (hb hby d31_80) (q := 83) rfl fun T1385 X1385 e1385 => ?_
  refine g_imul X1385 hx (hb hby d31_83) (z := (2 : Int32)) (by decide) (q := 84) rfl ?_
  refine g_iconst X1385 hx (hb hby d31_84) (n := (1 : Int32)) (by decide) (q := 85) rfl ?_
  refine g_iadd X1385 hx (hb hby d31_85) (z := (3 : Int32)) (by decide) (q := 86) rfl ?_
  refine g_aconst_null X1385 hx (hb hby d31_86) (q := 87) rfl ?_
  refine g_aastore X1385 hx hZ e1385 U1370 rfl (by decide) (by show 3 < 2 * r; omega) (Or.inl rfl) (hb hby d31_87) (q := 88) rfl fun T1386 h1386 X1386 e1386 W1386 U1386 => ?_
  have N1386 := Fr.snoc X1386 N1370 (Nat.le_trans hgt (Nat.le_of_lt tma))
  have kp_1386 := kp_1370.wr W1386 (Or.inl (List.mem_of_getElem? (i := 1) rfl))
  have f1387 := (f1371.wr W1386)
  have f1388 := (f1372.other W1386 (Or.inl (Nat.ne_of_lt tma)))
  have f1389 := (f1373.other W1386 (Or.inl (Nat.ne_of_lt tma)))
  have f1390 := (f1374.other W1386 (Or.inl (Nat.ne_of_lt tma)))
  have f1391 := (f1375.other W1386 (Or.inl (Nat.ne_of_lt tma)))
  have f1392 := (f1376.other W1386 (Or.inl (Nat.ne_of_lt tma)))
  have f1393 := (f1377.wr W1386)
  have f1394 := (f1378.wr W1386)
  have f1395 := (f1379.other W1386 (Ne.symm nmh))
  have f1396 := (f1380.wr W1386)
  have f1397 := (f1381.wr W1386)
  have f1398 := (f1382.wr W1386)
  have f1399 := (f1383.wr W1386)
  refine g_aloadN X1386 hx (hb hby d31_88) (v := (.ref t)) rfl rfl (q := 89) rfl ?_
  refine g_dup X1386 hx (hb hby d31_89) rfl (q := 90) rfl ?_
  refine g_getF X1386 hx hZ hown (hw _ (List.mem_of_getElem? (i := 109) rfl)) Via.refl e1386 f1392 (hb hby d31_90) (q := 93) rfl fun T1400 X1400 e1400 => ?_
  refine g_iconst X1400 hx (hb hby d31_93) (n := (1 : Int32)) (by decide) (q := 94) rfl ?_
  refine g_iadd X1400 hx (hb hby d31_94) (z := (cg + (1 : Int32))) rfl (q := 95) rfl ?_
  refine g_putF X1400 hx hZ hown (hw _ (List.mem_of_getElem? (i := 109) rfl)) Via.refl e1400 f1392 f1387 (Or.inl (hw _ (List.mem_of_getElem? (i := 110) rfl))) (hw _ (List.mem_of_getElem? (i := 34) rfl)) (ty := .int) (by decide) rfl rfl (hb hby d31_95) (q := 98) rfl fun T1401 h1401 X1401 e1401 W1401 => ?_
  have fw1401 := f1392.same W1401
  have N1401 := Fr.snoc X1401 N1386 hgt
  have kp_1401 := kp_1386.wr W1401 (Or.inl (List.mem_of_getElem? (i := 0) rfl))
  have f1402 := (f1387.wr W1401)
  have f1403 := (f1388.other W1401 (Or.inr (slot_ne (Or.inl (hw _ (List.mem_of_getElem? (i := 48) rfl))) (Or.inl (hw _ (List.mem_of_getElem? (i := 110) rfl))) (by decide) (t := (.array (.object "java/lang/Object"))) (t' := .int) (by decide) (by decide))))
  have f1404 := (f1389.other W1401 (Or.inr (slot_ne (Or.inl (hw _ (List.mem_of_getElem? (i := 51) rfl))) (Or.inl (hw _ (List.mem_of_getElem? (i := 110) rfl))) (by decide) (t := (.array .int)) (t' := .int) (by decide) (by decide))))
  have f1405 := (f1390.other W1401 (Or.inr (slot_ne (Or.inl (hw _ (List.mem_of_getElem? (i := 58) rfl))) (Or.inl (hw _ (List.mem_of_getElem? (i := 110) rfl))) (by decide) (t := .int) (t' := .int) (by decide) (by decide))))
  have f1406 := (f1391.other W1401 (Or.inr (slot_ne (Or.inl (hw _ (List.mem_of_getElem? (i := 74) rfl))) (Or.inl (hw _ (List.mem_of_getElem? (i := 110) rfl))) (by decide) (t := (.object "java/util/Map")) (t' := .int) (by decide) (by decide))))
  have f1407 := (U1386.other W1401 (Ne.symm (Nat.ne_of_lt tma)))
  have f1408 := (f1393.wr W1401)
  have f1409 := (f1394.wr W1401)
  have f1410 := (f1395.other W1401 (Ne.symm (Nat.ne_of_lt tha)))
  have f1411 := (f1396.wr W1401)
  have f1412 := (f1397.wr W1401)
  have f1413 := (f1398.wr W1401)
  have f1414 := (f1399.wr W1401)
  refine g_aloadN X1401 hx (hb hby d31_98) (v := (.ref t)) rfl rfl (q := 99) rfl ?_
  refine g_aconst_null X1401 hx (hb hby d31_99) (q := 100) rfl ?_
  refine g_putF X1401 hx hZ hown (hw _ (List.mem_of_getElem? (i := 73) rfl)) Via.refl e1401 f1406 f1402 (Or.inl (hw _ (List.mem_of_getElem? (i := 74) rfl))) (hw _ (List.mem_of_getElem? (i := 34) rfl)) (ty := (.object "java/util/Map")) (by decide) rfl rfl (hb hby d31_100) (q := 103) rfl fun T1415 h1415 X1415 e1415 W1415 => ?_
  have fw1415 := f1406.same W1415
  have N1415 := Fr.snoc X1415 N1401 hgt
  have kp_1415 := kp_1401.wr W1415 (Or.inl (List.mem_of_getElem? (i := 0) rfl))
  have f1416 := (f1402.wr W1415)
  have f1417 := (f1403.other W1415 (Or.inr (slot_ne (Or.inl (hw _ (List.mem_of_getElem? (i := 48) rfl))) (Or.inl (hw _ (List.mem_of_getElem? (i := 74) rfl))) (by decide) (t := (.array (.object "java/lang/Object"))) (t' := (.object "java/util/Map")) (by decide) (by decide))))
  have f1418 := (f1404.other W1415 (Or.inr (slot_ne (Or.inl (hw _ (List.mem_of_getElem? (i := 51) rfl))) (Or.inl (hw _ (List.mem_of_getElem? (i := 74) rfl))) (by decide) (t := (.array .int)) (t' := (.object "java/util/Map")) (by decide) (by decide))))
  have f1419 := (f1405.other W1415 (Or.inr (slot_ne (Or.inl (hw _ (List.mem_of_getElem? (i := 58) rfl))) (Or.inl (hw _ (List.mem_of_getElem? (i := 74) rfl))) (by decide) (t := .int) (t' := (.object "java/util/Map")) (by decide) (by decide))))
  have f1420 := (fw1401.other W1415 (Or.inr (slot_ne (Or.inl (hw _ (List.mem_of_getElem? (i := 110) rfl))) (Or.inl (hw _ (List.mem_of_getElem? (i := 74) rfl))) (by decide) (t := .int) (t' := (.object "java/util/Map")) (by decide) (by decide))))
  have f1421 := (f1407.other W1415 (Ne.symm (Nat.ne_of_lt tma)))
  have f1422 := (f1408.wr W1415)
  have f1423 := (f1409.wr W1415)
  have f1424 := (f1410.other W1415 (Ne.symm (Nat.ne_of_lt tha)))
  have f1425 := (f1411.wr W1415)
  have f1426 := (f1412.wr W1415)
  have f1427 := (f1413.wr W1415)
  have f1428 := (f1414.wr W1415)
  refine g_aloadN X1415 hx (hb hby d31_103) (v := (.ref t)) rfl rfl (q := 104) rfl ?_
  refine g_getF X1415 hx hZ hown (hw _ (List.mem_of_getElem? (i := 57) rfl)) Via.refl e1415 f1419 (hb hby d31_104) (q := 107) rfl fun T1429 X1429 e1429 => ?_
  refine g_bipush X1429 hx (hb hby d31_107) (n := (16 : Int32)) (by decide) (q := 109) rfl ?_
  refine g_icmp_le X1429 hx (hb hby d31_109) (by decide) (q := 116) (by decide) (q2 := 112) rfl (fun hb109 => ?_) (fun hb109 => absurd hb109 (by decide))
  exact g_retV X1429 hx hret hlk (hb hby d31_116) ⟨rfl, by simpa using N1415, by rw [e1429]; exact kp_1415, ma, ha, r, _, _, _, ⟨by rw [e1429]; exact f1416, by rw [e1429]; exact f1417, by rw [e1429]; exact f1418, by rw [e1429]; exact f1419, by rw [e1429]; exact fw1415, by rw [e1429]; exact f1420, by rw [e1429]; exact f1421, by rw [e1429]; exact f1422, by rw [e1429]; exact f1423, by rw [e1429]; exact f1424, tma, tha, nmh, hr8⟩, by omega, by exact hm1, by rw [e1429]; exact f1427, by exact hh1⟩ (Nat.le_of_ble_eq_true rfl) (Nat.le_of_ble_eq_true rfl)
set_option maxRecDepth 65536 in
set_option maxHeartbeats 40000000 in
theorem rmRM21 (l : Launch) (Z : State) (a0 : Array Value) (hw : ∀ d ∈ tables_1, d.before a0 Z = true) (t ma ha : Addr) (r : Nat) (fm fh : Nat → Value) (cg : Int32) (h0 : Heap) (n0 : Nat) (hgt : n0 ≤ t) (TC : TrC Z h0 t (2 : Int32) ma ha r fm fh cg) (hnr : 2 ≤ r) (s0 : Addr) (c0 : Int32) (s1 : Addr) (c1 : Int32) (hm0 : fm 0 = .ref s0) (hv0 : Sb Z h0 (fm 1)) (hh0 : fh 0 = .int c0) (hm1 : fm 2 = .ref s1) (hv1 : Sb Z h0 (fm 3)) (hh1 : fh 1 = .int c1) (hs0 : Sb Z h0 (.ref s0)) (hs1 : Sb Z h0 (.ref s1)) :
    Con l Z h0 (⟨"com/example/kehys/kehys/io/TreeObject", "removeMember", "(I)V"⟩ : MethodName) prog_18_method_18_code 2 none ({ frames := 1, cells := 0, slots := 0, locals := 24 } : Room) #[(.ref t), (.int (1 : Int32))] (fun v h L => v = none ∧ Fr n0 L ∧ Keep h0 h [t, ma, ha] ∧ Tr1 Z h t s0 c0) := by
  obtain ⟨E0, F0, F1, F2, F3, F4, V0, O0, A0, V1, tma, tha, nmh, hr8⟩ := TC
  refine con_of (plainFor_of_name pn_5) (Ls := #[.val (.ref t), .val (.int (1 : Int32))]) (fun m => by first | (simp [entryFrame, mkF, argsToLocals, Value.category]; done) | rfl) ?_
  intro p e s m below meth c s₁ hx hZ hby hml hret hlk hnm hown X0 e0
  refine g_aloadN X0 hx (hb hby d31_0) (v := (.ref t)) rfl rfl (q := 1) rfl ?_
  refine g_getF X0 hx hZ hown (hw _ (List.mem_of_getElem? (i := 47) rfl)) Via.refl e0 F0 (hb hby d31_1) (q := 4) rfl fun T1430 X1430 e1430 => ?_
  refine g_iconst X1430 hx (hb hby d31_4) (n := (2 : Int32)) (by decide) (q := 5) rfl ?_
  refine g_iloadN X1430 hx (hb hby d31_5) (v := (1 : Int32)) rfl (q := 6) rfl ?_
  refine g_imul X1430 hx (hb hby d31_6) (z := (2 : Int32)) (by decide) (q := 7) rfl ?_
  refine g_iconst X1430 hx (hb hby d31_7) (n := (2 : Int32)) (by decide) (q := 8) rfl ?_
  refine g_iadd X1430 hx (hb hby d31_8) (z := (4 : Int32)) (by decide) (q := 9) rfl ?_
  refine g_aloadN X1430 hx (hb hby d31_9) (v := (.ref t)) rfl rfl (q := 10) rfl ?_
  refine g_getF X1430 hx hZ hown (hw _ (List.mem_of_getElem? (i := 47) rfl)) Via.refl e1430 F0 (hb hby d31_10) (q := 13) rfl fun T1431 X1431 e1431 => ?_
  refine g_iconst X1431 hx (hb hby d31_13) (n := (2 : Int32)) (by decide) (q := 14) rfl ?_
  refine g_iloadN X1431 hx (hb hby d31_14) (v := (1 : Int32)) rfl (q := 15) rfl ?_
  refine g_imul X1431 hx (hb hby d31_15) (z := (2 : Int32)) (by decide) (q := 16) rfl ?_
  refine g_iconst X1431 hx (hb hby d31_16) (n := (2 : Int32)) (by decide) (q := 17) rfl ?_
  refine g_aloadN X1431 hx (hb hby d31_17) (v := (.ref t)) rfl rfl (q := 18) rfl ?_
  refine g_getF X1431 hx hZ hown (hw _ (List.mem_of_getElem? (i := 57) rfl)) Via.refl e1431 F2 (hb hby d31_18) (q := 21) rfl fun T1432 X1432 e1432 => ?_
  refine g_iloadN X1432 hx (hb hby d31_21) (v := (1 : Int32)) rfl (q := 22) rfl ?_
  refine g_isub X1432 hx (hb hby d31_22) (z := (1 : Int32)) (by decide) (q := 23) rfl ?_
  refine g_iconst X1432 hx (hb hby d31_23) (n := (1 : Int32)) (by decide) (q := 24) rfl ?_
  refine g_isub X1432 hx (hb hby d31_24) (z := (0 : Int32)) (by decide) (q := 25) rfl ?_
  refine g_imul X1432 hx (hb hby d31_25) (z := (0 : Int32)) (by decide) (q := 26) rfl ?_
  refine g_cp X1432 hx hZ hown (hw _ (List.mem_of_getElem? (i := 184) rfl)) (hw _ (List.mem_of_getElem? (i := 152) rfl)) (hw _ (List.mem_of_getElem? (i := 150) rfl)) (hw _ (List.mem_of_getElem? (i := 151) rfl)) e1432 V0 V0 (by decide) (by decide) (by decide) (by show 4 + 0 ≤ 2 * r; omega) (by show 2 + 0 ≤ 2 * r; omega) (fun i hi => absurd hi (Nat.not_lt_zero _)) hml.symm (hb hby d31_26) (Nat.le_of_ble_eq_true rfl) (Nat.le_of_ble_eq_true rfl) (q := 29) rfl fun T1433 h1433 L1433 B1433 X1433 e1433 K1433 U1433 => ?_
  have N1433 := Fr.app (Fr.nil n0) (fun y hy => by rw [B1433 y hy]; exact (Nat.le_trans hgt (Nat.le_of_lt tma)) : Fr n0 L1433)
  have kp_1433 := (Keep.refl h0 [t, ma, ha]).trans K1433 (allS (P := fun x => x ∈ [t, ma, ha] ∨ h0.size ≤ x) (Or.inl (List.mem_of_getElem? (i := 1) rfl)) all0)
  have f1434 := (E0.keep K1433)
  have f1435 := (F0.keep K1433 (ninS (Nat.ne_of_lt tma) nin0))
  have f1436 := (F1.keep K1433 (ninS (Nat.ne_of_lt tma) nin0))
  have f1437 := (F2.keep K1433 (ninS (Nat.ne_of_lt tma) nin0))
  have f1438 := (F3.keep K1433 (ninS (Nat.ne_of_lt tma) nin0))
  have f1439 := (F4.keep K1433 (ninS (Nat.ne_of_lt tma) nin0))
  have f1440 := (O0.keep K1433)
  have f1441 := (A0.keep K1433)
  have f1442 := (V1.keep K1433 (ninS (Ne.symm nmh) nin0))
  have f1443 := (hv0.keep K1433)
  have f1444 := (hs0.keep K1433)
  have f1445 := (hv1.keep K1433)
  have f1446 := (hs1.keep K1433)
  have V1433 := U1433.congr (g := fm) (fun i hi => own_cp0)
  refine g_aloadN X1433 hx (hb hby d31_29) (v := (.ref t)) rfl rfl (q := 30) rfl ?_
  refine g_getF X1433 hx hZ hown (hw _ (List.mem_of_getElem? (i := 50) rfl)) Via.refl e1433 f1436 (hb hby d31_30) (q := 33) rfl fun T1447 X1447 e1447 => ?_
  refine g_iloadN X1447 hx (hb hby d31_33) (v := (1 : Int32)) rfl (q := 34) rfl ?_
  refine g_iconst X1447 hx (hb hby d31_34) (n := (1 : Int32)) (by decide) (q := 35) rfl ?_
  refine g_iadd X1447 hx (hb hby d31_35) (z := (2 : Int32)) (by decide) (q := 36) rfl ?_
  refine g_aloadN X1447 hx (hb hby d31_36) (v := (.ref t)) rfl rfl (q := 37) rfl ?_
  refine g_getF X1447 hx hZ hown (hw _ (List.mem_of_getElem? (i := 50) rfl)) Via.refl e1447 f1436 (hb hby d31_37) (q := 40) rfl fun T1448 X1448 e1448 => ?_
  refine g_iloadN X1448 hx (hb hby d31_40) (v := (1 : Int32)) rfl (q := 41) rfl ?_
  refine g_aloadN X1448 hx (hb hby d31_41) (v := (.ref t)) rfl rfl (q := 42) rfl ?_
  refine g_getF X1448 hx hZ hown (hw _ (List.mem_of_getElem? (i := 57) rfl)) Via.refl e1448 f1437 (hb hby d31_42) (q := 45) rfl fun T1449 X1449 e1449 => ?_
  refine g_iloadN X1449 hx (hb hby d31_45) (v := (1 : Int32)) rfl (q := 46) rfl ?_
  refine g_isub X1449 hx (hb hby d31_46) (z := (1 : Int32)) (by decide) (q := 47) rfl ?_
  refine g_iconst X1449 hx (hb hby d31_47) (n := (1 : Int32)) (by decide) (q := 48) rfl ?_
  refine g_isub X1449 hx (hb hby d31_48) (z := (0 : Int32)) (by decide) (q := 49) rfl ?_
  refine g_cp X1449 hx hZ hown (hw _ (List.mem_of_getElem? (i := 184) rfl)) (hw _ (List.mem_of_getElem? (i := 152) rfl)) (hw _ (List.mem_of_getElem? (i := 150) rfl)) (hw _ (List.mem_of_getElem? (i := 151) rfl)) e1449 f1442 f1442 (by decide) (by decide) (by decide) (by show 2 + 0 ≤ r; omega) (by show 1 + 0 ≤ r; omega) (fun i hi => absurd hi (Nat.not_lt_zero _)) hml.symm (hb hby d31_49) (Nat.le_of_ble_eq_true rfl) (Nat.le_of_ble_eq_true rfl) (q := 52) rfl fun T1450 h1450 L1450 B1450 X1450 e1450 K1450 U1450 => ?_
  have N1450 := Fr.app N1433 (fun y hy => by rw [B1450 y hy]; exact (Nat.le_trans hgt (Nat.le_of_lt tha)) : Fr n0 L1450)
  have kp_1450 := kp_1433.trans K1450 (allS (P := fun x => x ∈ [t, ma, ha] ∨ h0.size ≤ x) (Or.inl (List.mem_of_getElem? (i := 2) rfl)) all0)
  have f1451 := (f1434.keep K1450)
  have f1452 := (f1435.keep K1450 (ninS (Nat.ne_of_lt tha) nin0))
  have f1453 := (f1436.keep K1450 (ninS (Nat.ne_of_lt tha) nin0))
  have f1454 := (f1437.keep K1450 (ninS (Nat.ne_of_lt tha) nin0))
  have f1455 := (f1438.keep K1450 (ninS (Nat.ne_of_lt tha) nin0))
  have f1456 := (f1439.keep K1450 (ninS (Nat.ne_of_lt tha) nin0))
  have f1457 := (V1433.keep K1450 (ninS nmh nin0))
  have f1458 := (f1440.keep K1450)
  have f1459 := (f1441.keep K1450)
  have f1460 := (f1443.keep K1450)
  have f1461 := (f1444.keep K1450)
  have f1462 := (f1445.keep K1450)
  have f1463 := (f1446.keep K1450)
  have V1450 := U1450.congr (g := fh) (fun i hi => own_cp0)
  refine g_aloadN X1450 hx (hb hby d31_52) (v := (.ref t)) rfl rfl (q := 53) rfl ?_
  refine g_dup X1450 hx (hb hby d31_53) rfl (q := 54) rfl ?_
  refine g_getF X1450 hx hZ hown (hw _ (List.mem_of_getElem? (i := 57) rfl)) Via.refl e1450 f1454 (hb hby d31_54) (q := 57) rfl fun T1464 X1464 e1464 => ?_
  refine g_iconst X1464 hx (hb hby d31_57) (n := (1 : Int32)) (by decide) (q := 58) rfl ?_
  refine g_isub X1464 hx (hb hby d31_58) (z := (1 : Int32)) (by decide) (q := 59) rfl ?_
  refine g_putF X1464 hx hZ hown (hw _ (List.mem_of_getElem? (i := 57) rfl)) Via.refl e1464 f1454 f1451 (Or.inl (hw _ (List.mem_of_getElem? (i := 58) rfl))) (hw _ (List.mem_of_getElem? (i := 34) rfl)) (ty := .int) (by decide) rfl rfl (hb hby d31_59) (q := 62) rfl fun T1465 h1465 X1465 e1465 W1465 => ?_
  have fw1465 := f1454.same W1465
  have N1465 := Fr.snoc X1465 N1450 hgt
  have kp_1465 := kp_1450.wr W1465 (Or.inl (List.mem_of_getElem? (i := 0) rfl))
  have f1466 := (f1451.wr W1465)
  have f1467 := (f1452.other W1465 (Or.inr (slot_ne (Or.inl (hw _ (List.mem_of_getElem? (i := 48) rfl))) (Or.inl (hw _ (List.mem_of_getElem? (i := 58) rfl))) (by decide) (t := (.array (.object "java/lang/Object"))) (t' := .int) (by decide) (by decide))))
  have f1468 := (f1453.other W1465 (Or.inr (slot_ne (Or.inl (hw _ (List.mem_of_getElem? (i := 51) rfl))) (Or.inl (hw _ (List.mem_of_getElem? (i := 58) rfl))) (by decide) (t := (.array .int)) (t' := .int) (by decide) (by decide))))
  have f1469 := (f1455.other W1465 (Or.inr (slot_ne (Or.inl (hw _ (List.mem_of_getElem? (i := 74) rfl))) (Or.inl (hw _ (List.mem_of_getElem? (i := 58) rfl))) (by decide) (t := (.object "java/util/Map")) (t' := .int) (by decide) (by decide))))
  have f1470 := (f1456.other W1465 (Or.inr (slot_ne (Or.inl (hw _ (List.mem_of_getElem? (i := 110) rfl))) (Or.inl (hw _ (List.mem_of_getElem? (i := 58) rfl))) (by decide) (t := .int) (t' := .int) (by decide) (by decide))))
  have f1471 := (f1457.other W1465 (Ne.symm (Nat.ne_of_lt tma)))
  have f1472 := (f1458.wr W1465)
  have f1473 := (f1459.wr W1465)
  have f1474 := (V1450.other W1465 (Ne.symm (Nat.ne_of_lt tha)))
  have f1475 := (f1460.wr W1465)
  have f1476 := (f1461.wr W1465)
  have f1477 := (f1462.wr W1465)
  have f1478 := (f1463.wr W1465)
  refine g_aloadN X1465 hx (hb hby d31_62) (v := (.ref t)) rfl rfl (q := 63) rfl ?_
  refine g_getF X1465 hx hZ hown (hw _ (List.mem_of_getElem? (i := 47) rfl)) Via.refl e1465 f1467 (hb hby d31_63) (q := 66) rfl fun T1479 X1479 e1479 => ?_
  refine g_iconst X1479 hx (hb hby d31_66) (n := (2 : Int32)) (by decide) (q := 67) rfl ?_
  refine g_aloadN X1479 hx (hb hby d31_67) (v := (.ref t)) rfl rfl (q := 68) rfl ?_
  refine g_getF X1479 hx hZ hown (hw _ (List.mem_of_getElem? (i := 57) rfl)) Via.refl e1479 fw1465 (hb hby d31_68) (q := 71) rfl fun T1480 X1480 e1480 => ?_
  refine g_imul X1480 hx (hb hby d31_71) (z := (2 : Int32)) (by decide) (q := 72) rfl ?_
  refine g_aconst_null X1480 hx (hb hby d31_72) (q := 73) rfl ?_
  refine g_aastore X1480 hx hZ e1480 f1471 rfl (by decide) (by show 2 < 2 * r; omega) (Or.inl rfl) (hb hby d31_73) (q := 74) rfl fun T1481 h1481 X1481 e1481 W1481 U1481 => ?_
  have N1481 := Fr.snoc X1481 N1465 (Nat.le_trans hgt (Nat.le_of_lt tma))
  have kp_1481 := kp_1465.wr W1481 (Or.inl (List.mem_of_getElem? (i := 1) rfl))
  have f1482 := (f1466.wr W1481)
  have f1483 := (f1467.other W1481 (Or.inl (Nat.ne_of_lt tma)))
  have f1484 := (f1468.other W1481 (Or.inl (Nat.ne_of_lt tma)))
  have f1485 := (fw1465.other W1481 (Or.inl (Nat.ne_of_lt tma)))
  have f1486 := (f1469.other W1481 (Or.inl (Nat.ne_of_lt tma)))
  have f1487 := (f1470.other W1481 (Or.inl (Nat.ne_of_lt tma)))
  have f1488 := (f1472.wr W1481)
  have f1489 := (f1473.wr W1481)
  have f1490 := (f1474.other W1481 (Ne.symm nmh))
  have f1491 := (f1475.wr W1481)
  have f1492 := (f1476.wr W1481)
  have f1493 := (f1477.wr W1481)
  have f1494 := (f1478.wr W1481)
  refine g_aloadN X1481 hx (hb hby d31_74) (v := (.ref t)) rfl rfl (q := 75) rfl ?_
  refine g_getF X1481 hx hZ hown (hw _ (List.mem_of_getElem? (i := 47) rfl)) Via.refl e1481 f1483 (hb hby d31_75) (q := 78) rfl fun T1495 X1495 e1495 => ?_
  refine g_iconst X1495 hx (hb hby d31_78) (n := (2 : Int32)) (by decide) (q := 79) rfl ?_
  refine g_aloadN X1495 hx (hb hby d31_79) (v := (.ref t)) rfl rfl (q := 80) rfl ?_
  refine g_getF X1495 hx hZ hown (hw _ (List.mem_of_getElem? (i := 57) rfl)) Via.refl e1495 f1485 (hb hby d31_80) (q := 83) rfl fun T1496 X1496 e1496 => ?_
  refine g_imul X1496 hx (hb hby d31_83) (z := (2 : Int32)) (by decide) (q := 84) rfl ?_
  refine g_iconst X1496 hx (hb hby d31_84) (n := (1 : Int32)) (by decide) (q := 85) rfl ?_
  refine g_iadd X1496 hx (hb hby d31_85) (z := (3 : Int32)) (by decide) (q := 86) rfl ?_
  refine g_aconst_null X1496 hx (hb hby d31_86) (q := 87) rfl ?_
  refine g_aastore X1496 hx hZ e1496 U1481 rfl (by decide) (by show 3 < 2 * r; omega) (Or.inl rfl) (hb hby d31_87) (q := 88) rfl fun T1497 h1497 X1497 e1497 W1497 U1497 => ?_
  have N1497 := Fr.snoc X1497 N1481 (Nat.le_trans hgt (Nat.le_of_lt tma))
  have kp_1497 := kp_1481.wr W1497 (Or.inl (List.mem_of_getElem? (i := 1) rfl))
  have f1498 := (f1482.wr W1497)
  have f1499 := (f1483.other W1497 (Or.inl (Nat.ne_of_lt tma)))
  have f1500 := (f1484.other W1497 (Or.inl (Nat.ne_of_lt tma)))
  have f1501 := (f1485.other W1497 (Or.inl (Nat.ne_of_lt tma)))
  have f1502 := (f1486.other W1497 (Or.inl (Nat.ne_of_lt tma)))
  have f1503 := (f1487.other W1497 (Or.inl (Nat.ne_of_lt tma)))
  have f1504 := (f1488.wr W1497)
  have f1505 := (f1489.wr W1497)
  have f1506 := (f1490.other W1497 (Ne.symm nmh))
  have f1507 := (f1491.wr W1497)
  have f1508 := (f1492.wr W1497)
  have f1509 := (f1493.wr W1497)
  have f1510 := (f1494.wr W1497)
  refine g_aloadN X1497 hx (hb hby d31_88) (v := (.ref t)) rfl rfl (q := 89) rfl ?_
  refine g_dup X1497 hx (hb hby d31_89) rfl (q := 90) rfl ?_
  refine g_getF X1497 hx hZ hown (hw _ (List.mem_of_getElem? (i := 109) rfl)) Via.refl e1497 f1503 (hb hby d31_90) (q := 93) rfl fun T1511 X1511 e1511 => ?_
  refine g_iconst X1511 hx (hb hby d31_93) (n := (1 : Int32)) (by decide) (q := 94) rfl ?_
  refine g_iadd X1511 hx (hb hby d31_94) (z := (cg + (1 : Int32))) rfl (q := 95) rfl ?_
  refine g_putF X1511 hx hZ hown (hw _ (List.mem_of_getElem? (i := 109) rfl)) Via.refl e1511 f1503 f1498 (Or.inl (hw _ (List.mem_of_getElem? (i := 110) rfl))) (hw _ (List.mem_of_getElem? (i := 34) rfl)) (ty := .int) (by decide) rfl rfl (hb hby d31_95) (q := 98) rfl fun T1512 h1512 X1512 e1512 W1512 => ?_
  have fw1512 := f1503.same W1512
  have N1512 := Fr.snoc X1512 N1497 hgt
  have kp_1512 := kp_1497.wr W1512 (Or.inl (List.mem_of_getElem? (i := 0) rfl))
  have f1513 := (f1498.wr W1512)
  have f1514 := (f1499.other W1512 (Or.inr (slot_ne (Or.inl (hw _ (List.mem_of_getElem? (i := 48) rfl))) (Or.inl (hw _ (List.mem_of_getElem? (i := 110) rfl))) (by decide) (t := (.array (.object "java/lang/Object"))) (t' := .int) (by decide) (by decide))))
  have f1515 := (f1500.other W1512 (Or.inr (slot_ne (Or.inl (hw _ (List.mem_of_getElem? (i := 51) rfl))) (Or.inl (hw _ (List.mem_of_getElem? (i := 110) rfl))) (by decide) (t := (.array .int)) (t' := .int) (by decide) (by decide))))
  have f1516 := (f1501.other W1512 (Or.inr (slot_ne (Or.inl (hw _ (List.mem_of_getElem? (i := 58) rfl))) (Or.inl (hw _ (List.mem_of_getElem? (i := 110) rfl))) (by decide) (t := .int) (t' := .int) (by decide) (by decide))))
  have f1517 := (f1502.other W1512 (Or.inr (slot_ne (Or.inl (hw _ (List.mem_of_getElem? (i := 74) rfl))) (Or.inl (hw _ (List.mem_of_getElem? (i := 110) rfl))) (by decide) (t := (.object "java/util/Map")) (t' := .int) (by decide) (by decide))))
  have f1518 := (U1497.other W1512 (Ne.symm (Nat.ne_of_lt tma)))
  have f1519 := (f1504.wr W1512)
  have f1520 := (f1505.wr W1512)
  have f1521 := (f1506.other W1512 (Ne.symm (Nat.ne_of_lt tha)))
  have f1522 := (f1507.wr W1512)
  have f1523 := (f1508.wr W1512)
  have f1524 := (f1509.wr W1512)
  have f1525 := (f1510.wr W1512)
  refine g_aloadN X1512 hx (hb hby d31_98) (v := (.ref t)) rfl rfl (q := 99) rfl ?_
  refine g_aconst_null X1512 hx (hb hby d31_99) (q := 100) rfl ?_
  refine g_putF X1512 hx hZ hown (hw _ (List.mem_of_getElem? (i := 73) rfl)) Via.refl e1512 f1517 f1513 (Or.inl (hw _ (List.mem_of_getElem? (i := 74) rfl))) (hw _ (List.mem_of_getElem? (i := 34) rfl)) (ty := (.object "java/util/Map")) (by decide) rfl rfl (hb hby d31_100) (q := 103) rfl fun T1526 h1526 X1526 e1526 W1526 => ?_
  have fw1526 := f1517.same W1526
  have N1526 := Fr.snoc X1526 N1512 hgt
  have kp_1526 := kp_1512.wr W1526 (Or.inl (List.mem_of_getElem? (i := 0) rfl))
  have f1527 := (f1513.wr W1526)
  have f1528 := (f1514.other W1526 (Or.inr (slot_ne (Or.inl (hw _ (List.mem_of_getElem? (i := 48) rfl))) (Or.inl (hw _ (List.mem_of_getElem? (i := 74) rfl))) (by decide) (t := (.array (.object "java/lang/Object"))) (t' := (.object "java/util/Map")) (by decide) (by decide))))
  have f1529 := (f1515.other W1526 (Or.inr (slot_ne (Or.inl (hw _ (List.mem_of_getElem? (i := 51) rfl))) (Or.inl (hw _ (List.mem_of_getElem? (i := 74) rfl))) (by decide) (t := (.array .int)) (t' := (.object "java/util/Map")) (by decide) (by decide))))
  have f1530 := (f1516.other W1526 (Or.inr (slot_ne (Or.inl (hw _ (List.mem_of_getElem? (i := 58) rfl))) (Or.inl (hw _ (List.mem_of_getElem? (i := 74) rfl))) (by decide) (t := .int) (t' := (.object "java/util/Map")) (by decide) (by decide))))
  have f1531 := (fw1512.other W1526 (Or.inr (slot_ne (Or.inl (hw _ (List.mem_of_getElem? (i := 110) rfl))) (Or.inl (hw _ (List.mem_of_getElem? (i := 74) rfl))) (by decide) (t := .int) (t' := (.object "java/util/Map")) (by decide) (by decide))))
  have f1532 := (f1518.other W1526 (Ne.symm (Nat.ne_of_lt tma)))
  have f1533 := (f1519.wr W1526)
  have f1534 := (f1520.wr W1526)
  have f1535 := (f1521.other W1526 (Ne.symm (Nat.ne_of_lt tha)))
  have f1536 := (f1522.wr W1526)
  have f1537 := (f1523.wr W1526)
  have f1538 := (f1524.wr W1526)
  have f1539 := (f1525.wr W1526)
  refine g_aloadN X1526 hx (hb hby d31_103) (v := (.ref t)) rfl rfl (q := 104) rfl ?_
  refine g_getF X1526 hx hZ hown (hw _ (List.mem_of_getElem? (i := 57) rfl)) Via.refl e1526 f1530 (hb hby d31_104) (q := 107) rfl fun T1540 X1540 e1540 => ?_
  refine g_bipush X1540 hx (hb hby d31_107) (n := (16 : Int32)) (by decide) (q := 109) rfl ?_
  refine g_icmp_le X1540 hx (hb hby d31_109) (by decide) (q := 116) (by decide) (q2 := 112) rfl (fun hb109 => ?_) (fun hb109 => absurd hb109 (by decide))
  exact g_retV X1540 hx hret hlk (hb hby d31_116) ⟨rfl, by simpa using N1526, by rw [e1540]; exact kp_1526, ma, ha, r, _, _, _, ⟨by rw [e1540]; exact f1527, by rw [e1540]; exact f1528, by rw [e1540]; exact f1529, by rw [e1540]; exact f1530, by rw [e1540]; exact fw1526, by rw [e1540]; exact f1531, by rw [e1540]; exact f1532, by rw [e1540]; exact f1533, by rw [e1540]; exact f1534, by rw [e1540]; exact f1535, tma, tha, nmh, hr8⟩, by omega, by exact hm0, by rw [e1540]; exact f1536, by exact hh0⟩ (Nat.le_of_ble_eq_true rfl) (Nat.le_of_ble_eq_true rfl)
theorem d18_0 : decode prog_18_method_11_code 0 = .ok (.aload_n 0, 1) := by decide +kernel
theorem d18_1 : decode prog_18_method_11_code 1 = .ok (.aload_n 1, 1) := by decide +kernel
theorem d18_2 : decode prog_18_method_11_code 2 = .ok (.invokevirtual 23, 3) := by decide +kernel
theorem d18_5 : decode prog_18_method_11_code 5 = .ok (.istore_n 2, 1) := by decide +kernel
theorem d18_6 : decode prog_18_method_11_code 6 = .ok (.aconst_null, 1) := by decide +kernel
theorem d18_7 : decode prog_18_method_11_code 7 = .ok (.astore_n 3, 1) := by decide +kernel
theorem d18_8 : decode prog_18_method_11_code 8 = .ok (.iload_n 2, 1) := by decide +kernel
theorem d18_9 : decode prog_18_method_11_code 9 = .ok (.ifCond .lt 19, 3) := by decide +kernel
theorem d18_28 : decode prog_18_method_11_code 28 = .ok (.aload_n 3, 1) := by decide +kernel
theorem d18_29 : decode prog_18_method_11_code 29 = .ok (.areturn, 1) := by decide +kernel
set_option maxRecDepth 65536 in
set_option maxHeartbeats 40000000 in
theorem rmRe0 (l : Launch) (Z : State) (a0 : Array Value) (hw : ∀ d ∈ tables_1, d.before a0 Z = true) (t ma ha : Addr) (r : Nat) (fm fh : Nat → Value) (cg : Int32) (a va : Addr) (ch cs : Int32) (hcs : ¬ cs = 0) (h0 : Heap) (n0 : Nat) (Z0 : n0 ≤ h0.size) (hga : n0 ≤ a) (hgt : n0 ≤ t) (SC : Sta Z h0 "java/lang/String" "COMPACT_STRINGS" "Z" (.int cs)) (SA : Str Z h0 a va ch) (hat : a < t) (hvt : va < t) (TC : TrC Z h0 t (0 : Int32) ma ha r fm fh cg) (hnr : 0 ≤ r)  :
    Con l Z h0 (⟨"com/example/kehys/kehys/io/TreeObject", "remove", "(Ljava/lang/Object;)Ljava/lang/Object;"⟩ : MethodName) prog_18_method_11_code 4 (some (.object "java/lang/Object")) ({ frames := 3, cells := 0, slots := 0, locals := 60 } : Room) #[(.ref t), (.ref a)] (fun v h L => ∃ v', v = some v' ∧ v'.isRef = true ∧ Fr n0 L ∧ Up h0 h a t ∧ Str Z h a va ch ∧ Tr0 Z h t) := by
  have TK := TC
  obtain ⟨E0, F0, F1, F2, F3, F4, V0, O0, A0, V1, tma, tha, nmh, hr8⟩ := TC
  refine con_of (plainFor_of_name pn_5) (Ls := #[.val (.ref t), .val (.ref a), .unset, .unset]) (fun m => by first | (simp [entryFrame, mkF, argsToLocals, Value.category]; done) | rfl) ?_
  intro p e s m below meth c s₁ hx hZ hby hml hret hlk hnm hown X0 e0
  refine g_aloadN X0 hx (hb hby d18_0) (v := (.ref t)) rfl rfl (q := 1) rfl ?_
  refine g_aloadN X0 hx (hb hby d18_1) (v := (.ref a)) rfl rfl (q := 2) rfl ?_
  refine g_callP X0 hx hZ hown (hw _ (List.mem_of_getElem? (i := 69) rfl)) (hw _ (List.mem_of_getElem? (i := 70) rfl)) (hw _ (List.mem_of_getElem? (i := 71) rfl)) (hw _ (List.mem_of_getElem? (i := 34) rfl)) (hw _ (List.mem_of_getElem? (i := 72) rfl)) (hw _ (List.mem_of_getElem? (i := 35) rfl)) (by decide) e0 E0 (rmFi0 l Z a0 hw t ma ha r fm fh cg a va ch cs hcs h0 n0 hga SC SA TK hat hnr (-1 : Int32) rfl) (by exact hml.symm) (argsL := [(.ref a)]) (rest := []) rfl rfl pd_15 rfl (Nat.le_of_ble_eq_true rfl) (Nat.le_of_ble_eq_true rfl) (Nat.le_of_ble_eq_true rfl) (Nat.le_of_ble_eq_true rfl) (hb hby d18_2) (q := 5) rfl (fun v1541 T1541 L1541 X1541 hQ1541 => ?_)
  generalize e1541 : T1541.heap = h1541 at hQ1541
  obtain ⟨rfl, M1541, K1541, U1541⟩ := hQ1541
  have N1541 := Fr.app (Fr.nil n0) M1541
  have z_1541 := Nat.le_trans Z0 K1541.1
  have kp_1541 := (Keep.refl h0 [t, ma, ha, a]).trans K1541 (allS (P := fun x => x ∈ [t, ma, ha, a] ∨ h0.size ≤ x) (Or.inl (List.mem_of_getElem? (i := 3) rfl)) all0)
  have f1542 := (E0.keep K1541)
  have f1543 := (F0.keep K1541 (ninS (Ne.symm (Nat.ne_of_lt hat)) nin0))
  have f1544 := (F1.keep K1541 (ninS (Ne.symm (Nat.ne_of_lt hat)) nin0))
  have f1545 := (F2.keep K1541 (ninS (Ne.symm (Nat.ne_of_lt hat)) nin0))
  have f1546 := (F3.keep K1541 (ninS (Ne.symm (Nat.ne_of_lt hat)) nin0))
  have f1547 := (F4.keep K1541 (ninS (Ne.symm (Nat.ne_of_lt hat)) nin0))
  have f1548 := (V0.keep K1541 (ninS (Ne.symm (Nat.ne_of_lt (Nat.lt_trans hat tma))) nin0))
  have f1549 := (O0.keep K1541)
  have f1550 := (A0.keep K1541)
  have f1551 := (V1.keep K1541 (ninS (Ne.symm (Nat.ne_of_lt (Nat.lt_trans hat tha))) nin0))
  have f1552 := (own_sta_keep SC K1541 (nsS SA.1.nostat ns0))
  have f1553 := (SA.1.keep K1541)
  show Go p e below _ (T1541.setTop (mkF m 5 #[.val (.ref t), .val (.ref a), .unset, .unset] [(.int (-1 : Int32))]))
  refine g_istoreN X1541 hx (hb hby d18_5) (L' := #[.val (.ref t), .val (.ref a), .val (.int (-1 : Int32)), .unset]) rfl (q := 6) rfl ?_
  refine g_aconst_null X1541 hx (hb hby d18_6) (q := 7) rfl ?_
  refine g_astoreN X1541 hx (hb hby d18_7) rfl (L' := #[.val (.ref t), .val (.ref a), .val (.int (-1 : Int32)), .val .null]) rfl (q := 8) rfl ?_
  refine g_iloadN X1541 hx (hb hby d18_8) (v := (-1 : Int32)) rfl (q := 9) rfl ?_
  refine g_if_lt X1541 hx (hb hby d18_9) (by decide) (q := 28) (by decide) (q2 := 12) rfl (fun hb9 => ?_) (fun hb9 => absurd hb9 (by decide))
  refine g_aloadN X1541 hx (hb hby d18_28) (v := .null) rfl rfl (q := 29) rfl ?_
  exact g_retA X1541 hx hret hlk (hb hby d18_29) rfl rfl rfl ⟨_, rfl, rfl, by simpa using N1541, ⟨[t, ma, ha, a], by rw [e1541]; exact kp_1541, own_all4 E0 A0 V1 SA.1 tma tha⟩, by rw [e1541]; exact U1541, ma, ha, r, _, _, _, ⟨by rw [e1541]; exact f1542, by rw [e1541]; exact f1543, by rw [e1541]; exact f1544, by rw [e1541]; exact f1545, by rw [e1541]; exact f1546, by rw [e1541]; exact f1547, by rw [e1541]; exact f1548, by rw [e1541]; exact f1549, by rw [e1541]; exact f1550, by rw [e1541]; exact f1551, tma, tha, nmh, hr8⟩⟩ (Nat.le_of_ble_eq_true rfl) (Nat.le_of_ble_eq_true rfl)
set_option maxRecDepth 65536 in
set_option maxHeartbeats 40000000 in
theorem rmRe1 (l : Launch) (Z : State) (a0 : Array Value) (hw : ∀ d ∈ tables_1, d.before a0 Z = true) (t ma ha : Addr) (r : Nat) (fm fh : Nat → Value) (cg : Int32) (a va : Addr) (ch cs : Int32) (hcs : ¬ cs = 0) (h0 : Heap) (n0 : Nat) (Z0 : n0 ≤ h0.size) (hga : n0 ≤ a) (hgt : n0 ≤ t) (SC : Sta Z h0 "java/lang/String" "COMPACT_STRINGS" "Z" (.int cs)) (SA : Str Z h0 a va ch) (hat : a < t) (hvt : va < t) (TC : TrC Z h0 t (1 : Int32) ma ha r fm fh cg) (hnr : 1 ≤ r) (s0 : Addr) (c0 : Int32) (hm0 : fm 0 = .ref s0) (hv0 : Sb Z h0 (fm 1)) (hh0 : fh 0 = .int c0) (hs0 : Sb Z h0 (.ref s0)) (v0 : Addr) (S0 : Str Z h0 s0 v0 c0) (n0a : s0 ≠ a) (m0a : v0 ≠ a) (hc0 : ¬ c0 = ch) :
    Con l Z h0 (⟨"com/example/kehys/kehys/io/TreeObject", "remove", "(Ljava/lang/Object;)Ljava/lang/Object;"⟩ : MethodName) prog_18_method_11_code 4 (some (.object "java/lang/Object")) ({ frames := 3, cells := 0, slots := 0, locals := 60 } : Room) #[(.ref t), (.ref a)] (fun v h L => ∃ v', v = some v' ∧ v'.isRef = true ∧ Fr n0 L ∧ Up h0 h a t ∧ Str Z h a va ch ∧ Tr1 Z h t s0 c0) := by
  have TK := TC
  obtain ⟨E0, F0, F1, F2, F3, F4, V0, O0, A0, V1, tma, tha, nmh, hr8⟩ := TC
  refine con_of (plainFor_of_name pn_5) (Ls := #[.val (.ref t), .val (.ref a), .unset, .unset]) (fun m => by first | (simp [entryFrame, mkF, argsToLocals, Value.category]; done) | rfl) ?_
  intro p e s m below meth c s₁ hx hZ hby hml hret hlk hnm hown X0 e0
  refine g_aloadN X0 hx (hb hby d18_0) (v := (.ref t)) rfl rfl (q := 1) rfl ?_
  refine g_aloadN X0 hx (hb hby d18_1) (v := (.ref a)) rfl rfl (q := 2) rfl ?_
  refine g_callP X0 hx hZ hown (hw _ (List.mem_of_getElem? (i := 69) rfl)) (hw _ (List.mem_of_getElem? (i := 70) rfl)) (hw _ (List.mem_of_getElem? (i := 71) rfl)) (hw _ (List.mem_of_getElem? (i := 34) rfl)) (hw _ (List.mem_of_getElem? (i := 72) rfl)) (hw _ (List.mem_of_getElem? (i := 35) rfl)) (by decide) e0 E0 (rmFi1 l Z a0 hw t ma ha r fm fh cg a va ch cs hcs h0 n0 hga SC SA TK hat hnr s0 c0 hm0 hv0 hh0 v0 S0 n0a m0a (-1 : Int32) (if_neg hc0)) (by exact hml.symm) (argsL := [(.ref a)]) (rest := []) rfl rfl pd_15 rfl (Nat.le_of_ble_eq_true rfl) (Nat.le_of_ble_eq_true rfl) (Nat.le_of_ble_eq_true rfl) (Nat.le_of_ble_eq_true rfl) (hb hby d18_2) (q := 5) rfl (fun v1554 T1554 L1554 X1554 hQ1554 => ?_)
  generalize e1554 : T1554.heap = h1554 at hQ1554
  obtain ⟨rfl, M1554, K1554, U1554⟩ := hQ1554
  have N1554 := Fr.app (Fr.nil n0) M1554
  have z_1554 := Nat.le_trans Z0 K1554.1
  have kp_1554 := (Keep.refl h0 [t, ma, ha, a]).trans K1554 (allS (P := fun x => x ∈ [t, ma, ha, a] ∨ h0.size ≤ x) (Or.inl (List.mem_of_getElem? (i := 3) rfl)) all0)
  have f1555 := (E0.keep K1554)
  have f1556 := (F0.keep K1554 (ninS (Ne.symm (Nat.ne_of_lt hat)) nin0))
  have f1557 := (F1.keep K1554 (ninS (Ne.symm (Nat.ne_of_lt hat)) nin0))
  have f1558 := (F2.keep K1554 (ninS (Ne.symm (Nat.ne_of_lt hat)) nin0))
  have f1559 := (F3.keep K1554 (ninS (Ne.symm (Nat.ne_of_lt hat)) nin0))
  have f1560 := (F4.keep K1554 (ninS (Ne.symm (Nat.ne_of_lt hat)) nin0))
  have f1561 := (V0.keep K1554 (ninS (Ne.symm (Nat.ne_of_lt (Nat.lt_trans hat tma))) nin0))
  have f1562 := (O0.keep K1554)
  have f1563 := (A0.keep K1554)
  have f1564 := (V1.keep K1554 (ninS (Ne.symm (Nat.ne_of_lt (Nat.lt_trans hat tha))) nin0))
  have f1565 := (own_sta_keep SC K1554 (nsS SA.1.nostat ns0))
  have f1566 := (SA.1.keep K1554)
  have f1567 := (hv0.keep K1554)
  have f1568 := (hs0.keep K1554)
  show Go p e below _ (T1554.setTop (mkF m 5 #[.val (.ref t), .val (.ref a), .unset, .unset] [(.int (-1 : Int32))]))
  refine g_istoreN X1554 hx (hb hby d18_5) (L' := #[.val (.ref t), .val (.ref a), .val (.int (-1 : Int32)), .unset]) rfl (q := 6) rfl ?_
  refine g_aconst_null X1554 hx (hb hby d18_6) (q := 7) rfl ?_
  refine g_astoreN X1554 hx (hb hby d18_7) rfl (L' := #[.val (.ref t), .val (.ref a), .val (.int (-1 : Int32)), .val .null]) rfl (q := 8) rfl ?_
  refine g_iloadN X1554 hx (hb hby d18_8) (v := (-1 : Int32)) rfl (q := 9) rfl ?_
  refine g_if_lt X1554 hx (hb hby d18_9) (by decide) (q := 28) (by decide) (q2 := 12) rfl (fun hb9 => ?_) (fun hb9 => absurd hb9 (by decide))
  refine g_aloadN X1554 hx (hb hby d18_28) (v := .null) rfl rfl (q := 29) rfl ?_
  exact g_retA X1554 hx hret hlk (hb hby d18_29) rfl rfl rfl ⟨_, rfl, rfl, by simpa using N1554, ⟨[t, ma, ha, a], by rw [e1554]; exact kp_1554, own_all4 E0 A0 V1 SA.1 tma tha⟩, by rw [e1554]; exact U1554, ma, ha, r, _, _, _, ⟨by rw [e1554]; exact f1555, by rw [e1554]; exact f1556, by rw [e1554]; exact f1557, by rw [e1554]; exact f1558, by rw [e1554]; exact f1559, by rw [e1554]; exact f1560, by rw [e1554]; exact f1561, by rw [e1554]; exact f1562, by rw [e1554]; exact f1563, by rw [e1554]; exact f1564, tma, tha, nmh, hr8⟩, hnr, hm0, by rw [e1554]; exact f1567, hh0⟩ (Nat.le_of_ble_eq_true rfl) (Nat.le_of_ble_eq_true rfl)
theorem d18_12 : decode prog_18_method_11_code 12 = .ok (.aload_n 0, 1) := by decide +kernel
theorem d18_13 : decode prog_18_method_11_code 13 = .ok (.getfield 11, 3) := by decide +kernel
theorem d18_16 : decode prog_18_method_11_code 16 = .ok (.iconst 2, 1) := by decide +kernel
theorem d18_17 : decode prog_18_method_11_code 17 = .ok (.iload_n 2, 1) := by decide +kernel
theorem d18_18 : decode prog_18_method_11_code 18 = .ok (.imul, 1) := by decide +kernel
theorem d18_19 : decode prog_18_method_11_code 19 = .ok (.iconst 1, 1) := by decide +kernel
theorem d18_20 : decode prog_18_method_11_code 20 = .ok (.iadd, 1) := by decide +kernel
theorem d18_21 : decode prog_18_method_11_code 21 = .ok (.aaload, 1) := by decide +kernel
theorem d18_22 : decode prog_18_method_11_code 22 = .ok (.astore_n 3, 1) := by decide +kernel
theorem d18_23 : decode prog_18_method_11_code 23 = .ok (.aload_n 0, 1) := by decide +kernel
theorem d18_24 : decode prog_18_method_11_code 24 = .ok (.iload_n 2, 1) := by decide +kernel
theorem d18_25 : decode prog_18_method_11_code 25 = .ok (.invokevirtual 53, 3) := by decide +kernel
set_option maxRecDepth 65536 in
set_option maxHeartbeats 40000000 in
theorem rmRe1_0 (l : Launch) (Z : State) (a0 : Array Value) (hw : ∀ d ∈ tables_1, d.before a0 Z = true) (t ma ha : Addr) (r : Nat) (fm fh : Nat → Value) (cg : Int32) (a va : Addr) (ch cs : Int32) (hcs : ¬ cs = 0) (h0 : Heap) (n0 : Nat) (Z0 : n0 ≤ h0.size) (hga : n0 ≤ a) (hgt : n0 ≤ t) (SC : Sta Z h0 "java/lang/String" "COMPACT_STRINGS" "Z" (.int cs)) (SA : Str Z h0 a va ch) (hat : a < t) (hvt : va < t) (TC : TrC Z h0 t (1 : Int32) ma ha r fm fh cg) (hnr : 1 ≤ r) (s0 : Addr) (c0 : Int32) (hm0 : fm 0 = .ref s0) (hv0 : Sb Z h0 (fm 1)) (hh0 : fh 0 = .int c0) (hs0 : Sb Z h0 (.ref s0)) (v0 : Addr) (S0 : Str Z h0 s0 v0 c0) (n0a : s0 ≠ a) (m0a : v0 ≠ a) (hc0 : c0 = ch) :
    Con l Z h0 (⟨"com/example/kehys/kehys/io/TreeObject", "remove", "(Ljava/lang/Object;)Ljava/lang/Object;"⟩ : MethodName) prog_18_method_11_code 4 (some (.object "java/lang/Object")) ({ frames := 3, cells := 0, slots := 0, locals := 60 } : Room) #[(.ref t), (.ref a)] (fun v h L => ∃ v', v = some v' ∧ v'.isRef = true ∧ Fr n0 L ∧ Up h0 h a t ∧ Str Z h a va ch ∧ Tr0 Z h t) := by
  have TK := TC
  obtain ⟨E0, F0, F1, F2, F3, F4, V0, O0, A0, V1, tma, tha, nmh, hr8⟩ := TC
  refine con_of (plainFor_of_name pn_5) (Ls := #[.val (.ref t), .val (.ref a), .unset, .unset]) (fun m => by first | (simp [entryFrame, mkF, argsToLocals, Value.category]; done) | rfl) ?_
  intro p e s m below meth c s₁ hx hZ hby hml hret hlk hnm hown X0 e0
  refine g_aloadN X0 hx (hb hby d18_0) (v := (.ref t)) rfl rfl (q := 1) rfl ?_
  refine g_aloadN X0 hx (hb hby d18_1) (v := (.ref a)) rfl rfl (q := 2) rfl ?_
  refine g_callP X0 hx hZ hown (hw _ (List.mem_of_getElem? (i := 69) rfl)) (hw _ (List.mem_of_getElem? (i := 70) rfl)) (hw _ (List.mem_of_getElem? (i := 71) rfl)) (hw _ (List.mem_of_getElem? (i := 34) rfl)) (hw _ (List.mem_of_getElem? (i := 72) rfl)) (hw _ (List.mem_of_getElem? (i := 35) rfl)) (by decide) e0 E0 (rmFi1 l Z a0 hw t ma ha r fm fh cg a va ch cs hcs h0 n0 hga SC SA TK hat hnr s0 c0 hm0 hv0 hh0 v0 S0 n0a m0a (0 : Int32) (if_pos hc0)) (by exact hml.symm) (argsL := [(.ref a)]) (rest := []) rfl rfl pd_15 rfl (Nat.le_of_ble_eq_true rfl) (Nat.le_of_ble_eq_true rfl) (Nat.le_of_ble_eq_true rfl) (Nat.le_of_ble_eq_true rfl) (hb hby d18_2) (q := 5) rfl (fun v1569 T1569 L1569 X1569 hQ1569 => ?_)
  generalize e1569 : T1569.heap = h1569 at hQ1569
  obtain ⟨rfl, M1569, K1569, U1569⟩ := hQ1569
  have N1569 := Fr.app (Fr.nil n0) M1569
  have z_1569 := Nat.le_trans Z0 K1569.1
  have kp_1569 := (Keep.refl h0 [t, ma, ha, a]).trans K1569 (allS (P := fun x => x ∈ [t, ma, ha, a] ∨ h0.size ≤ x) (Or.inl (List.mem_of_getElem? (i := 3) rfl)) all0)
  have f1570 := (E0.keep K1569)
  have f1571 := (F0.keep K1569 (ninS (Ne.symm (Nat.ne_of_lt hat)) nin0))
  have f1572 := (F1.keep K1569 (ninS (Ne.symm (Nat.ne_of_lt hat)) nin0))
  have f1573 := (F2.keep K1569 (ninS (Ne.symm (Nat.ne_of_lt hat)) nin0))
  have f1574 := (F3.keep K1569 (ninS (Ne.symm (Nat.ne_of_lt hat)) nin0))
  have f1575 := (F4.keep K1569 (ninS (Ne.symm (Nat.ne_of_lt hat)) nin0))
  have f1576 := (V0.keep K1569 (ninS (Ne.symm (Nat.ne_of_lt (Nat.lt_trans hat tma))) nin0))
  have f1577 := (O0.keep K1569)
  have f1578 := (A0.keep K1569)
  have f1579 := (V1.keep K1569 (ninS (Ne.symm (Nat.ne_of_lt (Nat.lt_trans hat tha))) nin0))
  have f1580 := (own_sta_keep SC K1569 (nsS SA.1.nostat ns0))
  have f1581 := (SA.1.keep K1569)
  have f1582 := (hv0.keep K1569)
  have f1583 := (hs0.keep K1569)
  show Go p e below _ (T1569.setTop (mkF m 5 #[.val (.ref t), .val (.ref a), .unset, .unset] [(.int (0 : Int32))]))
  refine g_istoreN X1569 hx (hb hby d18_5) (L' := #[.val (.ref t), .val (.ref a), .val (.int (0 : Int32)), .unset]) rfl (q := 6) rfl ?_
  refine g_aconst_null X1569 hx (hb hby d18_6) (q := 7) rfl ?_
  refine g_astoreN X1569 hx (hb hby d18_7) rfl (L' := #[.val (.ref t), .val (.ref a), .val (.int (0 : Int32)), .val .null]) rfl (q := 8) rfl ?_
  refine g_iloadN X1569 hx (hb hby d18_8) (v := (0 : Int32)) rfl (q := 9) rfl ?_
  refine g_if_lt X1569 hx (hb hby d18_9) (by decide) (q := 28) (by decide) (q2 := 12) rfl (fun hb9 => absurd hb9 (by decide)) (fun hb9 => ?_)
  refine g_aloadN X1569 hx (hb hby d18_12) (v := (.ref t)) rfl rfl (q := 13) rfl ?_
  refine g_getF X1569 hx hZ hown (hw _ (List.mem_of_getElem? (i := 47) rfl)) Via.refl e1569 f1571 (hb hby d18_13) (q := 16) rfl fun T1584 X1584 e1584 => ?_
  refine g_iconst X1584 hx (hb hby d18_16) (n := (2 : Int32)) (by decide) (q := 17) rfl ?_
  refine g_iloadN X1584 hx (hb hby d18_17) (v := (0 : Int32)) rfl (q := 18) rfl ?_
  refine g_imul X1584 hx (hb hby d18_18) (z := (0 : Int32)) (by decide) (q := 19) rfl ?_
  refine g_iconst X1584 hx (hb hby d18_19) (n := (1 : Int32)) (by decide) (q := 20) rfl ?_
  refine g_iadd X1584 hx (hb hby d18_20) (z := (1 : Int32)) (by decide) (q := 21) rfl ?_
  refine g_aaload X1584 hx hZ e1584 f1576 rfl (by decide) (by show 1 < 2 * r; omega) (v := (fm 1)) rfl (hb hby d18_21) (q := 22) rfl ?_
  refine g_astoreN X1584 hx (hb hby d18_22) hv0.isRef (L' := #[.val (.ref t), .val (.ref a), .val (.int (0 : Int32)), .val (fm 1)]) (Jvm.Free.XS.store1 rfl (Or.inr ⟨_, rfl, rfl⟩) (own_cat1 hv0.isRef)) (q := 23) rfl ?_
  refine g_aloadN X1584 hx (hb hby d18_23) (v := (.ref t)) rfl rfl (q := 24) rfl ?_
  refine g_iloadN X1584 hx (hb hby d18_24) (v := (0 : Int32)) rfl (q := 25) rfl ?_
  refine g_callP X1584 hx hZ hown (hw _ (List.mem_of_getElem? (i := 180) rfl)) (hw _ (List.mem_of_getElem? (i := 181) rfl)) (hw _ (List.mem_of_getElem? (i := 182) rfl)) (hw _ (List.mem_of_getElem? (i := 34) rfl)) (hw _ (List.mem_of_getElem? (i := 183) rfl)) (hw _ (List.mem_of_getElem? (i := 35) rfl)) (by decide) e1584 f1570 (rmRM10 l Z a0 hw t ma ha r fm fh cg h1569 n0 hgt ⟨f1570, f1571, f1572, f1573, f1574, f1575, f1576, f1577, f1578, f1579, tma, tha, nmh, hr8⟩ hnr s0 c0 hm0 f1582 hh0 f1583) (by exact hml.symm) (argsL := [(.int (0 : Int32))]) (rest := []) rfl rfl pd_4 rfl (Nat.le_of_ble_eq_true rfl) (Nat.le_of_ble_eq_true rfl) (Nat.le_of_ble_eq_true rfl) (Nat.le_of_ble_eq_true rfl) (hb hby d18_25) (q := 28) rfl (fun v1585 T1585 L1585 X1585 hQ1585 => ?_)
  generalize e1585 : T1585.heap = h1585 at hQ1585
  obtain ⟨rfl, M1585, K1585, R1585⟩ := hQ1585
  have N1585 := Fr.app N1569 M1585
  have kp_1585 := kp_1569.trans K1585 (allS (P := fun x => x ∈ [t, ma, ha, a] ∨ h0.size ≤ x) (Or.inl (List.mem_of_getElem? (i := 0) rfl)) (allS (P := fun x => x ∈ [t, ma, ha, a] ∨ h0.size ≤ x) (Or.inl (List.mem_of_getElem? (i := 1) rfl)) (allS (P := fun x => x ∈ [t, ma, ha, a] ∨ h0.size ≤ x) (Or.inl (List.mem_of_getElem? (i := 2) rfl)) all0)))
  have f1586 := (U1569.keep K1585 (ninS (Nat.ne_of_lt hat) (ninS (Nat.ne_of_lt (Nat.lt_trans hat tma)) (ninS (Nat.ne_of_lt (Nat.lt_trans hat tha)) nin0))) (ninS (Nat.ne_of_lt hvt) (ninS (Nat.ne_of_lt (Nat.lt_trans hvt tma)) (ninS (Nat.ne_of_lt (Nat.lt_trans hvt tha)) nin0))))
  have f1587 := (f1570.keep K1585)
  have f1588 := (f1578.keep K1585)
  have f1589 := (f1581.keep K1585)
  show Go p e below _ (T1585.setTop (mkF m 28 #[.val (.ref t), .val (.ref a), .val (.int (0 : Int32)), .val (fm 1)] []))
  refine g_aloadN X1585 hx (hb hby d18_28) (v := (fm 1)) rfl hv0.isRef (q := 29) rfl ?_
  exact g_retA X1585 hx hret hlk (hb hby d18_29) rfl hv0.isRef (own_nar hv0.isRef) ⟨_, rfl, hv0.isRef, by simpa using N1585, ⟨[t, ma, ha, a], by rw [e1585]; exact kp_1585, own_all4 E0 A0 V1 SA.1 tma tha⟩, by rw [e1585]; exact f1586, by rw [e1585]; exact R1585⟩ (Nat.le_of_ble_eq_true rfl) (Nat.le_of_ble_eq_true rfl)
set_option maxRecDepth 65536 in
set_option maxHeartbeats 40000000 in
theorem rmRe2 (l : Launch) (Z : State) (a0 : Array Value) (hw : ∀ d ∈ tables_1, d.before a0 Z = true) (t ma ha : Addr) (r : Nat) (fm fh : Nat → Value) (cg : Int32) (a va : Addr) (ch cs : Int32) (hcs : ¬ cs = 0) (h0 : Heap) (n0 : Nat) (Z0 : n0 ≤ h0.size) (hga : n0 ≤ a) (hgt : n0 ≤ t) (SC : Sta Z h0 "java/lang/String" "COMPACT_STRINGS" "Z" (.int cs)) (SA : Str Z h0 a va ch) (hat : a < t) (hvt : va < t) (TC : TrC Z h0 t (2 : Int32) ma ha r fm fh cg) (hnr : 2 ≤ r) (s0 : Addr) (c0 : Int32) (s1 : Addr) (c1 : Int32) (hm0 : fm 0 = .ref s0) (hv0 : Sb Z h0 (fm 1)) (hh0 : fh 0 = .int c0) (hm1 : fm 2 = .ref s1) (hv1 : Sb Z h0 (fm 3)) (hh1 : fh 1 = .int c1) (hs0 : Sb Z h0 (.ref s0)) (hs1 : Sb Z h0 (.ref s1)) (v0 : Addr) (S0 : Str Z h0 s0 v0 c0) (n0a : s0 ≠ a) (m0a : v0 ≠ a) (v1 : Addr) (S1 : Str Z h0 s1 v1 c1) (n1a : s1 ≠ a) (m1a : v1 ≠ a) (hc0 : ¬ c0 = ch) (hc1 : ¬ c1 = ch) :
    Con l Z h0 (⟨"com/example/kehys/kehys/io/TreeObject", "remove", "(Ljava/lang/Object;)Ljava/lang/Object;"⟩ : MethodName) prog_18_method_11_code 4 (some (.object "java/lang/Object")) ({ frames := 3, cells := 0, slots := 0, locals := 60 } : Room) #[(.ref t), (.ref a)] (fun v h L => ∃ v', v = some v' ∧ v'.isRef = true ∧ Fr n0 L ∧ Up h0 h a t ∧ Str Z h a va ch ∧ Tr2 Z h t s0 c0 s1 c1) := by
  have TK := TC
  obtain ⟨E0, F0, F1, F2, F3, F4, V0, O0, A0, V1, tma, tha, nmh, hr8⟩ := TC
  refine con_of (plainFor_of_name pn_5) (Ls := #[.val (.ref t), .val (.ref a), .unset, .unset]) (fun m => by first | (simp [entryFrame, mkF, argsToLocals, Value.category]; done) | rfl) ?_
  intro p e s m below meth c s₁ hx hZ hby hml hret hlk hnm hown X0 e0
  refine g_aloadN X0 hx (hb hby d18_0) (v := (.ref t)) rfl rfl (q := 1) rfl ?_
  refine g_aloadN X0 hx (hb hby d18_1) (v := (.ref a)) rfl rfl (q := 2) rfl ?_
  refine g_callP X0 hx hZ hown (hw _ (List.mem_of_getElem? (i := 69) rfl)) (hw _ (List.mem_of_getElem? (i := 70) rfl)) (hw _ (List.mem_of_getElem? (i := 71) rfl)) (hw _ (List.mem_of_getElem? (i := 34) rfl)) (hw _ (List.mem_of_getElem? (i := 72) rfl)) (hw _ (List.mem_of_getElem? (i := 35) rfl)) (by decide) e0 E0 (rmFi2 l Z a0 hw t ma ha r fm fh cg a va ch cs hcs h0 n0 hga SC SA TK hat hnr s0 c0 s1 c1 hm0 hv0 hh0 hm1 hv1 hh1 v0 S0 n0a m0a v1 S1 n1a m1a (-1 : Int32) ((if_neg hc0).trans (if_neg hc1))) (by exact hml.symm) (argsL := [(.ref a)]) (rest := []) rfl rfl pd_15 rfl (Nat.le_of_ble_eq_true rfl) (Nat.le_of_ble_eq_true rfl) (Nat.le_of_ble_eq_true rfl) (Nat.le_of_ble_eq_true rfl) (hb hby d18_2) (q := 5) rfl (fun v1590 T1590 L1590 X1590 hQ1590 => ?_)
  generalize e1590 : T1590.heap = h1590 at hQ1590
  obtain ⟨rfl, M1590, K1590, U1590⟩ := hQ1590
  have N1590 := Fr.app (Fr.nil n0) M1590
  have z_1590 := Nat.le_trans Z0 K1590.1
  have kp_1590 := (Keep.refl h0 [t, ma, ha, a]).trans K1590 (allS (P := fun x => x ∈ [t, ma, ha, a] ∨ h0.size ≤ x) (Or.inl (List.mem_of_getElem? (i := 3) rfl)) all0)
  have f1591 := (E0.keep K1590)
  have f1592 := (F0.keep K1590 (ninS (Ne.symm (Nat.ne_of_lt hat)) nin0))
  have f1593 := (F1.keep K1590 (ninS (Ne.symm (Nat.ne_of_lt hat)) nin0))
  have f1594 := (F2.keep K1590 (ninS (Ne.symm (Nat.ne_of_lt hat)) nin0))
  have f1595 := (F3.keep K1590 (ninS (Ne.symm (Nat.ne_of_lt hat)) nin0))
  have f1596 := (F4.keep K1590 (ninS (Ne.symm (Nat.ne_of_lt hat)) nin0))
  have f1597 := (V0.keep K1590 (ninS (Ne.symm (Nat.ne_of_lt (Nat.lt_trans hat tma))) nin0))
  have f1598 := (O0.keep K1590)
  have f1599 := (A0.keep K1590)
  have f1600 := (V1.keep K1590 (ninS (Ne.symm (Nat.ne_of_lt (Nat.lt_trans hat tha))) nin0))
  have f1601 := (own_sta_keep SC K1590 (nsS SA.1.nostat ns0))
  have f1602 := (SA.1.keep K1590)
  have f1603 := (hv0.keep K1590)
  have f1604 := (hs0.keep K1590)
  have f1605 := (hv1.keep K1590)
  have f1606 := (hs1.keep K1590)
  show Go p e below _ (T1590.setTop (mkF m 5 #[.val (.ref t), .val (.ref a), .unset, .unset] [(.int (-1 : Int32))]))
  refine g_istoreN X1590 hx (hb hby d18_5) (L' := #[.val (.ref t), .val (.ref a), .val (.int (-1 : Int32)), .unset]) rfl (q := 6) rfl ?_
  refine g_aconst_null X1590 hx (hb hby d18_6) (q := 7) rfl ?_
  refine g_astoreN X1590 hx (hb hby d18_7) rfl (L' := #[.val (.ref t), .val (.ref a), .val (.int (-1 : Int32)), .val .null]) rfl (q := 8) rfl ?_
  refine g_iloadN X1590 hx (hb hby d18_8) (v := (-1 : Int32)) rfl (q := 9) rfl ?_
  refine g_if_lt X1590 hx (hb hby d18_9) (by decide) (q := 28) (by decide) (q2 := 12) rfl (fun hb9 => ?_) (fun hb9 => absurd hb9 (by decide))
  refine g_aloadN X1590 hx (hb hby d18_28) (v := .null) rfl rfl (q := 29) rfl ?_
  exact g_retA X1590 hx hret hlk (hb hby d18_29) rfl rfl rfl ⟨_, rfl, rfl, by simpa using N1590, ⟨[t, ma, ha, a], by rw [e1590]; exact kp_1590, own_all4 E0 A0 V1 SA.1 tma tha⟩, by rw [e1590]; exact U1590, ma, ha, r, _, _, _, ⟨by rw [e1590]; exact f1591, by rw [e1590]; exact f1592, by rw [e1590]; exact f1593, by rw [e1590]; exact f1594, by rw [e1590]; exact f1595, by rw [e1590]; exact f1596, by rw [e1590]; exact f1597, by rw [e1590]; exact f1598, by rw [e1590]; exact f1599, by rw [e1590]; exact f1600, tma, tha, nmh, hr8⟩, hnr, hm0, by rw [e1590]; exact f1603, hh0, hm1, by rw [e1590]; exact f1605, hh1⟩ (Nat.le_of_ble_eq_true rfl) (Nat.le_of_ble_eq_true rfl)
set_option maxRecDepth 65536 in
set_option maxHeartbeats 40000000 in
theorem rmRe2_0 (l : Launch) (Z : State) (a0 : Array Value) (hw : ∀ d ∈ tables_1, d.before a0 Z = true) (t ma ha : Addr) (r : Nat) (fm fh : Nat → Value) (cg : Int32) (a va : Addr) (ch cs : Int32) (hcs : ¬ cs = 0) (h0 : Heap) (n0 : Nat) (Z0 : n0 ≤ h0.size) (hga : n0 ≤ a) (hgt : n0 ≤ t) (SC : Sta Z h0 "java/lang/String" "COMPACT_STRINGS" "Z" (.int cs)) (SA : Str Z h0 a va ch) (hat : a < t) (hvt : va < t) (TC : TrC Z h0 t (2 : Int32) ma ha r fm fh cg) (hnr : 2 ≤ r) (s0 : Addr) (c0 : Int32) (s1 : Addr) (c1 : Int32) (hm0 : fm 0 = .ref s0) (hv0 : Sb Z h0 (fm 1)) (hh0 : fh 0 = .int c0) (hm1 : fm 2 = .ref s1) (hv1 : Sb Z h0 (fm 3)) (hh1 : fh 1 = .int c1) (hs0 : Sb Z h0 (.ref s0)) (hs1 : Sb Z h0 (.ref s1)) (v0 : Addr) (S0 : Str Z h0 s0 v0 c0) (n0a : s0 ≠ a) (m0a : v0 ≠ a) (v1 : Addr) (S1 : Str Z h0 s1 v1 c1) (n1a : s1 ≠ a) (m1a : v1 ≠ a) (hc0 : c0 = ch) :
    Con l Z h0 (⟨"com/example/kehys/kehys/io/TreeObject", "remove", "(Ljava/lang/Object;)Ljava/lang/Object;"⟩ : MethodName) prog_18_method_11_code 4 (some (.object "java/lang/Object")) ({ frames := 3, cells := 0, slots := 0, locals := 60 } : Room) #[(.ref t), (.ref a)] (fun v h L => ∃ v', v = some v' ∧ v'.isRef = true ∧ Fr n0 L ∧ Up h0 h a t ∧ Str Z h a va ch ∧ Tr1 Z h t s1 c1) := by
  have TK := TC
  obtain ⟨E0, F0, F1, F2, F3, F4, V0, O0, A0, V1, tma, tha, nmh, hr8⟩ := TC
  refine con_of (plainFor_of_name pn_5) (Ls := #[.val (.ref t), .val (.ref a), .unset, .unset]) (fun m => by first | (simp [entryFrame, mkF, argsToLocals, Value.category]; done) | rfl) ?_
  intro p e s m below meth c s₁ hx hZ hby hml hret hlk hnm hown X0 e0
  refine g_aloadN X0 hx (hb hby d18_0) (v := (.ref t)) rfl rfl (q := 1) rfl ?_
  refine g_aloadN X0 hx (hb hby d18_1) (v := (.ref a)) rfl rfl (q := 2) rfl ?_
  refine g_callP X0 hx hZ hown (hw _ (List.mem_of_getElem? (i := 69) rfl)) (hw _ (List.mem_of_getElem? (i := 70) rfl)) (hw _ (List.mem_of_getElem? (i := 71) rfl)) (hw _ (List.mem_of_getElem? (i := 34) rfl)) (hw _ (List.mem_of_getElem? (i := 72) rfl)) (hw _ (List.mem_of_getElem? (i := 35) rfl)) (by decide) e0 E0 (rmFi2 l Z a0 hw t ma ha r fm fh cg a va ch cs hcs h0 n0 hga SC SA TK hat hnr s0 c0 s1 c1 hm0 hv0 hh0 hm1 hv1 hh1 v0 S0 n0a m0a v1 S1 n1a m1a (0 : Int32) (if_pos hc0)) (by exact hml.symm) (argsL := [(.ref a)]) (rest := []) rfl rfl pd_15 rfl (Nat.le_of_ble_eq_true rfl) (Nat.le_of_ble_eq_true rfl) (Nat.le_of_ble_eq_true rfl) (Nat.le_of_ble_eq_true rfl) (hb hby d18_2) (q := 5) rfl (fun v1607 T1607 L1607 X1607 hQ1607 => ?_)
  generalize e1607 : T1607.heap = h1607 at hQ1607
  obtain ⟨rfl, M1607, K1607, U1607⟩ := hQ1607
  have N1607 := Fr.app (Fr.nil n0) M1607
  have z_1607 := Nat.le_trans Z0 K1607.1
  have kp_1607 := (Keep.refl h0 [t, ma, ha, a]).trans K1607 (allS (P := fun x => x ∈ [t, ma, ha, a] ∨ h0.size ≤ x) (Or.inl (List.mem_of_getElem? (i := 3) rfl)) all0)
  have f1608 := (E0.keep K1607)
  have f1609 := (F0.keep K1607 (ninS (Ne.symm (Nat.ne_of_lt hat)) nin0))
  have f1610 := (F1.keep K1607 (ninS (Ne.symm (Nat.ne_of_lt hat)) nin0))
  have f1611 := (F2.keep K1607 (ninS (Ne.symm (Nat.ne_of_lt hat)) nin0))
  have f1612 := (F3.keep K1607 (ninS (Ne.symm (Nat.ne_of_lt hat)) nin0))
  have f1613 := (F4.keep K1607 (ninS (Ne.symm (Nat.ne_of_lt hat)) nin0))
  have f1614 := (V0.keep K1607 (ninS (Ne.symm (Nat.ne_of_lt (Nat.lt_trans hat tma))) nin0))
  have f1615 := (O0.keep K1607)
  have f1616 := (A0.keep K1607)
  have f1617 := (V1.keep K1607 (ninS (Ne.symm (Nat.ne_of_lt (Nat.lt_trans hat tha))) nin0))
  have f1618 := (own_sta_keep SC K1607 (nsS SA.1.nostat ns0))
  have f1619 := (SA.1.keep K1607)
  have f1620 := (hv0.keep K1607)
  have f1621 := (hs0.keep K1607)
  have f1622 := (hv1.keep K1607)
  have f1623 := (hs1.keep K1607)
  show Go p e below _ (T1607.setTop (mkF m 5 #[.val (.ref t), .val (.ref a), .unset, .unset] [(.int (0 : Int32))]))
  refine g_istoreN X1607 hx (hb hby d18_5) (L' := #[.val (.ref t), .val (.ref a), .val (.int (0 : Int32)), .unset]) rfl (q := 6) rfl ?_
  refine g_aconst_null X1607 hx (hb hby d18_6) (q := 7) rfl ?_
  refine g_astoreN X1607 hx (hb hby d18_7) rfl (L' := #[.val (.ref t), .val (.ref a), .val (.int (0 : Int32)), .val .null]) rfl (q := 8) rfl ?_
  refine g_iloadN X1607 hx (hb hby d18_8) (v := (0 : Int32)) rfl (q := 9) rfl ?_
  refine g_if_lt X1607 hx (hb hby d18_9) (by decide) (q := 28) (by decide) (q2 := 12) rfl (fun hb9 => absurd hb9 (by decide)) (fun hb9 => ?_)
  refine g_aloadN X1607 hx (hb hby d18_12) (v := (.ref t)) rfl rfl (q := 13) rfl ?_
  refine g_getF X1607 hx hZ hown (hw _ (List.mem_of_getElem? (i := 47) rfl)) Via.refl e1607 f1609 (hb hby d18_13) (q := 16) rfl fun T1624 X1624 e1624 => ?_
  refine g_iconst X1624 hx (hb hby d18_16) (n := (2 : Int32)) (by decide) (q := 17) rfl ?_
  refine g_iloadN X1624 hx (hb hby d18_17) (v := (0 : Int32)) rfl (q := 18) rfl ?_
  refine g_imul X1624 hx (hb hby d18_18) (z := (0 : Int32)) (by decide) (q := 19) rfl ?_
  refine g_iconst X1624 hx (hb hby d18_19) (n := (1 : Int32)) (by decide) (q := 20) rfl ?_
  refine g_iadd X1624 hx (hb hby d18_20) (z := (1 : Int32)) (by decide) (q := 21) rfl ?_
  refine g_aaload X1624 hx hZ e1624 f1614 rfl (by decide) (by show 1 < 2 * r; omega) (v := (fm 1)) rfl (hb hby d18_21) (q := 22) rfl ?_
  refine g_astoreN X1624 hx (hb hby d18_22) hv0.isRef (L' := #[.val (.ref t), .val (.ref a), .val (.int (0 : Int32)), .val (fm 1)]) (Jvm.Free.XS.store1 rfl (Or.inr ⟨_, rfl, rfl⟩) (own_cat1 hv0.isRef)) (q := 23) rfl ?_
  refine g_aloadN X1624 hx (hb hby d18_23) (v := (.ref t)) rfl rfl (q := 24) rfl ?_
  refine g_iloadN X1624 hx (hb hby d18_24) (v := (0 : Int32)) rfl (q := 25) rfl ?_
  refine g_callP X1624 hx hZ hown (hw _ (List.mem_of_getElem? (i := 180) rfl)) (hw _ (List.mem_of_getElem? (i := 181) rfl)) (hw _ (List.mem_of_getElem? (i := 182) rfl)) (hw _ (List.mem_of_getElem? (i := 34) rfl)) (hw _ (List.mem_of_getElem? (i := 183) rfl)) (hw _ (List.mem_of_getElem? (i := 35) rfl)) (by decide) e1624 f1608 (rmRM20 l Z a0 hw t ma ha r fm fh cg h1607 n0 hgt ⟨f1608, f1609, f1610, f1611, f1612, f1613, f1614, f1615, f1616, f1617, tma, tha, nmh, hr8⟩ hnr s0 c0 s1 c1 hm0 f1620 hh0 hm1 f1622 hh1 f1621 f1623) (by exact hml.symm) (argsL := [(.int (0 : Int32))]) (rest := []) rfl rfl pd_4 rfl (Nat.le_of_ble_eq_true rfl) (Nat.le_of_ble_eq_true rfl) (Nat.le_of_ble_eq_true rfl) (Nat.le_of_ble_eq_true rfl) (hb hby d18_25) (q := 28) rfl (fun v1625 T1625 L1625 X1625 hQ1625 => ?_)
  generalize e1625 : T1625.heap = h1625 at hQ1625
  obtain ⟨rfl, M1625, K1625, R1625⟩ := hQ1625
  have N1625 := Fr.app N1607 M1625
  have kp_1625 := kp_1607.trans K1625 (allS (P := fun x => x ∈ [t, ma, ha, a] ∨ h0.size ≤ x) (Or.inl (List.mem_of_getElem? (i := 0) rfl)) (allS (P := fun x => x ∈ [t, ma, ha, a] ∨ h0.size ≤ x) (Or.inl (List.mem_of_getElem? (i := 1) rfl)) (allS (P := fun x => x ∈ [t, ma, ha, a] ∨ h0.size ≤ x) (Or.inl (List.mem_of_getElem? (i := 2) rfl)) all0)))
  have f1626 := (U1607.keep K1625 (ninS (Nat.ne_of_lt hat) (ninS (Nat.ne_of_lt (Nat.lt_trans hat tma)) (ninS (Nat.ne_of_lt (Nat.lt_trans hat tha)) nin0))) (ninS (Nat.ne_of_lt hvt) (ninS (Nat.ne_of_lt (Nat.lt_trans hvt tma)) (ninS (Nat.ne_of_lt (Nat.lt_trans hvt tha)) nin0))))
  have f1627 := (f1608.keep K1625)
  have f1628 := (f1616.keep K1625)
  have f1629 := (f1619.keep K1625)
  show Go p e below _ (T1625.setTop (mkF m 28 #[.val (.ref t), .val (.ref a), .val (.int (0 : Int32)), .val (fm 1)] []))
  refine g_aloadN X1625 hx (hb hby d18_28) (v := (fm 1)) rfl hv0.isRef (q := 29) rfl ?_
  exact g_retA X1625 hx hret hlk (hb hby d18_29) rfl hv0.isRef (own_nar hv0.isRef) ⟨_, rfl, hv0.isRef, by simpa using N1625, ⟨[t, ma, ha, a], by rw [e1625]; exact kp_1625, own_all4 E0 A0 V1 SA.1 tma tha⟩, by rw [e1625]; exact f1626, by rw [e1625]; exact R1625⟩ (Nat.le_of_ble_eq_true rfl) (Nat.le_of_ble_eq_true rfl)
set_option maxRecDepth 65536 in
set_option maxHeartbeats 40000000 in
theorem rmRe2_1 (l : Launch) (Z : State) (a0 : Array Value) (hw : ∀ d ∈ tables_1, d.before a0 Z = true) (t ma ha : Addr) (r : Nat) (fm fh : Nat → Value) (cg : Int32) (a va : Addr) (ch cs : Int32) (hcs : ¬ cs = 0) (h0 : Heap) (n0 : Nat) (Z0 : n0 ≤ h0.size) (hga : n0 ≤ a) (hgt : n0 ≤ t) (SC : Sta Z h0 "java/lang/String" "COMPACT_STRINGS" "Z" (.int cs)) (SA : Str Z h0 a va ch) (hat : a < t) (hvt : va < t) (TC : TrC Z h0 t (2 : Int32) ma ha r fm fh cg) (hnr : 2 ≤ r) (s0 : Addr) (c0 : Int32) (s1 : Addr) (c1 : Int32) (hm0 : fm 0 = .ref s0) (hv0 : Sb Z h0 (fm 1)) (hh0 : fh 0 = .int c0) (hm1 : fm 2 = .ref s1) (hv1 : Sb Z h0 (fm 3)) (hh1 : fh 1 = .int c1) (hs0 : Sb Z h0 (.ref s0)) (hs1 : Sb Z h0 (.ref s1)) (v0 : Addr) (S0 : Str Z h0 s0 v0 c0) (n0a : s0 ≠ a) (m0a : v0 ≠ a) (v1 : Addr) (S1 : Str Z h0 s1 v1 c1) (n1a : s1 ≠ a) (m1a : v1 ≠ a) (hc0 : ¬ c0 = ch) (hc1 : c1 = ch) :
    Con l Z h0 (⟨"com/example/kehys/kehys/io/TreeObject", "remove", "(Ljava/lang/Object;)Ljava/lang/Object;"⟩ : MethodName) prog_18_method_11_code 4 (some (.object "java/lang/Object")) ({ frames := 3, cells := 0, slots := 0, locals := 60 } : Room) #[(.ref t), (.ref a)] (fun v h L => ∃ v', v = some v' ∧ v'.isRef = true ∧ Fr n0 L ∧ Up h0 h a t ∧ Str Z h a va ch ∧ Tr1 Z h t s0 c0) := by
  have TK := TC
  obtain ⟨E0, F0, F1, F2, F3, F4, V0, O0, A0, V1, tma, tha, nmh, hr8⟩ := TC
  refine con_of (plainFor_of_name pn_5) (Ls := #[.val (.ref t), .val (.ref a), .unset, .unset]) (fun m => by first | (simp [entryFrame, mkF, argsToLocals, Value.category]; done) | rfl) ?_
  intro p e s m below meth c s₁ hx hZ hby hml hret hlk hnm hown X0 e0
  refine g_aloadN X0 hx (hb hby d18_0) (v := (.ref t)) rfl rfl (q := 1) rfl ?_
  refine g_aloadN X0 hx (hb hby d18_1) (v := (.ref a)) rfl rfl (q := 2) rfl ?_
  refine g_callP X0 hx hZ hown (hw _ (List.mem_of_getElem? (i := 69) rfl)) (hw _ (List.mem_of_getElem? (i := 70) rfl)) (hw _ (List.mem_of_getElem? (i := 71) rfl)) (hw _ (List.mem_of_getElem? (i := 34) rfl)) (hw _ (List.mem_of_getElem? (i := 72) rfl)) (hw _ (List.mem_of_getElem? (i := 35) rfl)) (by decide) e0 E0 (rmFi2 l Z a0 hw t ma ha r fm fh cg a va ch cs hcs h0 n0 hga SC SA TK hat hnr s0 c0 s1 c1 hm0 hv0 hh0 hm1 hv1 hh1 v0 S0 n0a m0a v1 S1 n1a m1a (1 : Int32) ((if_neg hc0).trans (if_pos hc1))) (by exact hml.symm) (argsL := [(.ref a)]) (rest := []) rfl rfl pd_15 rfl (Nat.le_of_ble_eq_true rfl) (Nat.le_of_ble_eq_true rfl) (Nat.le_of_ble_eq_true rfl) (Nat.le_of_ble_eq_true rfl) (hb hby d18_2) (q := 5) rfl (fun v1630 T1630 L1630 X1630 hQ1630 => ?_)
  generalize e1630 : T1630.heap = h1630 at hQ1630
  obtain ⟨rfl, M1630, K1630, U1630⟩ := hQ1630
  have N1630 := Fr.app (Fr.nil n0) M1630
  have z_1630 := Nat.le_trans Z0 K1630.1
  have kp_1630 := (Keep.refl h0 [t, ma, ha, a]).trans K1630 (allS (P := fun x => x ∈ [t, ma, ha, a] ∨ h0.size ≤ x) (Or.inl (List.mem_of_getElem? (i := 3) rfl)) all0)
  have f1631 := (E0.keep K1630)
  have f1632 := (F0.keep K1630 (ninS (Ne.symm (Nat.ne_of_lt hat)) nin0))
  have f1633 := (F1.keep K1630 (ninS (Ne.symm (Nat.ne_of_lt hat)) nin0))
  have f1634 := (F2.keep K1630 (ninS (Ne.symm (Nat.ne_of_lt hat)) nin0))
  have f1635 := (F3.keep K1630 (ninS (Ne.symm (Nat.ne_of_lt hat)) nin0))
  have f1636 := (F4.keep K1630 (ninS (Ne.symm (Nat.ne_of_lt hat)) nin0))
  have f1637 := (V0.keep K1630 (ninS (Ne.symm (Nat.ne_of_lt (Nat.lt_trans hat tma))) nin0))
  have f1638 := (O0.keep K1630)
  have f1639 := (A0.keep K1630)
  have f1640 := (V1.keep K1630 (ninS (Ne.symm (Nat.ne_of_lt (Nat.lt_trans hat tha))) nin0))
  have f1641 := (own_sta_keep SC K1630 (nsS SA.1.nostat ns0))
  have f1642 := (SA.1.keep K1630)
  have f1643 := (hv0.keep K1630)
  have f1644 := (hs0.keep K1630)
  have f1645 := (hv1.keep K1630)
  have f1646 := (hs1.keep K1630)
  show Go p e below _ (T1630.setTop (mkF m 5 #[.val (.ref t), .val (.ref a), .unset, .unset] [(.int (1 : Int32))]))
  refine g_istoreN X1630 hx (hb hby d18_5) (L' := #[.val (.ref t), .val (.ref a), .val (.int (1 : Int32)), .unset]) rfl (q := 6) rfl ?_
  refine g_aconst_null X1630 hx (hb hby d18_6) (q := 7) rfl ?_
  refine g_astoreN X1630 hx (hb hby d18_7) rfl (L' := #[.val (.ref t), .val (.ref a), .val (.int (1 : Int32)), .val .null]) rfl (q := 8) rfl ?_
  refine g_iloadN X1630 hx (hb hby d18_8) (v := (1 : Int32)) rfl (q := 9) rfl ?_
  refine g_if_lt X1630 hx (hb hby d18_9) (by decide) (q := 28) (by decide) (q2 := 12) rfl (fun hb9 => absurd hb9 (by decide)) (fun hb9 => ?_)
  refine g_aloadN X1630 hx (hb hby d18_12) (v := (.ref t)) rfl rfl (q := 13) rfl ?_
  refine g_getF X1630 hx hZ hown (hw _ (List.mem_of_getElem? (i := 47) rfl)) Via.refl e1630 f1632 (hb hby d18_13) (q := 16) rfl fun T1647 X1647 e1647 => ?_
  refine g_iconst X1647 hx (hb hby d18_16) (n := (2 : Int32)) (by decide) (q := 17) rfl ?_
  refine g_iloadN X1647 hx (hb hby d18_17) (v := (1 : Int32)) rfl (q := 18) rfl ?_
  refine g_imul X1647 hx (hb hby d18_18) (z := (2 : Int32)) (by decide) (q := 19) rfl ?_
  refine g_iconst X1647 hx (hb hby d18_19) (n := (1 : Int32)) (by decide) (q := 20) rfl ?_
  refine g_iadd X1647 hx (hb hby d18_20) (z := (3 : Int32)) (by decide) (q := 21) rfl ?_
  refine g_aaload X1647 hx hZ e1647 f1637 rfl (by decide) (by show 3 < 2 * r; omega) (v := (fm 3)) rfl (hb hby d18_21) (q := 22) rfl ?_
  refine g_astoreN X1647 hx (hb hby d18_22) hv1.isRef (L' := #[.val (.ref t), .val (.ref a), .val (.int (1 : Int32)), .val (fm 3)]) (Jvm.Free.XS.store1 rfl (Or.inr ⟨_, rfl, rfl⟩) (own_cat1 hv1.isRef)) (q := 23) rfl ?_
  refine g_aloadN X1647 hx (hb hby d18_23) (v := (.ref t)) rfl rfl (q := 24) rfl ?_
  refine g_iloadN X1647 hx (hb hby d18_24) (v := (1 : Int32)) rfl (q := 25) rfl ?_
  refine g_callP X1647 hx hZ hown (hw _ (List.mem_of_getElem? (i := 180) rfl)) (hw _ (List.mem_of_getElem? (i := 181) rfl)) (hw _ (List.mem_of_getElem? (i := 182) rfl)) (hw _ (List.mem_of_getElem? (i := 34) rfl)) (hw _ (List.mem_of_getElem? (i := 183) rfl)) (hw _ (List.mem_of_getElem? (i := 35) rfl)) (by decide) e1647 f1631 (rmRM21 l Z a0 hw t ma ha r fm fh cg h1630 n0 hgt ⟨f1631, f1632, f1633, f1634, f1635, f1636, f1637, f1638, f1639, f1640, tma, tha, nmh, hr8⟩ hnr s0 c0 s1 c1 hm0 f1643 hh0 hm1 f1645 hh1 f1644 f1646) (by exact hml.symm) (argsL := [(.int (1 : Int32))]) (rest := []) rfl rfl pd_4 rfl (Nat.le_of_ble_eq_true rfl) (Nat.le_of_ble_eq_true rfl) (Nat.le_of_ble_eq_true rfl) (Nat.le_of_ble_eq_true rfl) (hb hby d18_25) (q := 28) rfl (fun v1648 T1648 L1648 X1648 hQ1648 => ?_)
  generalize e1648 : T1648.heap = h1648 at hQ1648
  obtain ⟨rfl, M1648, K1648, R1648⟩ := hQ1648
  have N1648 := Fr.app N1630 M1648
  have kp_1648 := kp_1630.trans K1648 (allS (P := fun x => x ∈ [t, ma, ha, a] ∨ h0.size ≤ x) (Or.inl (List.mem_of_getElem? (i := 0) rfl)) (allS (P := fun x => x ∈ [t, ma, ha, a] ∨ h0.size ≤ x) (Or.inl (List.mem_of_getElem? (i := 1) rfl)) (allS (P := fun x => x ∈ [t, ma, ha, a] ∨ h0.size ≤ x) (Or.inl (List.mem_of_getElem? (i := 2) rfl)) all0)))
  have f1649 := (U1630.keep K1648 (ninS (Nat.ne_of_lt hat) (ninS (Nat.ne_of_lt (Nat.lt_trans hat tma)) (ninS (Nat.ne_of_lt (Nat.lt_trans hat tha)) nin0))) (ninS (Nat.ne_of_lt hvt) (ninS (Nat.ne_of_lt (Nat.lt_trans hvt tma)) (ninS (Nat.ne_of_lt (Nat.lt_trans hvt tha)) nin0))))
  have f1650 := (f1631.keep K1648)
  have f1651 := (f1639.keep K1648)
  have f1652 := (f1642.keep K1648)
  show Go p e below _ (T1648.setTop (mkF m 28 #[.val (.ref t), .val (.ref a), .val (.int (1 : Int32)), .val (fm 3)] []))
  refine g_aloadN X1648 hx (hb hby d18_28) (v := (fm 3)) rfl hv1.isRef (q := 29) rfl ?_
  exact g_retA X1648 hx hret hlk (hb hby d18_29) rfl hv1.isRef (own_nar hv1.isRef) ⟨_, rfl, hv1.isRef, by simpa using N1648, ⟨[t, ma, ha, a], by rw [e1648]; exact kp_1648, own_all4 E0 A0 V1 SA.1 tma tha⟩, by rw [e1648]; exact f1649, by rw [e1648]; exact R1648⟩ (Nat.le_of_ble_eq_true rfl) (Nat.le_of_ble_eq_true rfl)
theorem d21_0 : decode jdk_65_method_30_code 0 = .ok (.iload_n 1, 1) := by decide +kernel
theorem d21_1 : decode jdk_65_method_30_code 1 = .ok (.iload_n 2, 1) := by decide +kernel
theorem d21_2 : decode jdk_65_method_30_code 2 = .ok (.if_icmp .le 44, 3) := by decide +kernel
theorem d21_46 : decode jdk_65_method_30_code 46 = .ok (.iload_n 1, 1) := by decide +kernel
theorem d21_47 : decode jdk_65_method_30_code 47 = .ok (.ifCond .ge 12, 3) := by decide +kernel
theorem d21_59 : decode jdk_65_method_30_code 59 = .ok (.iload_n 2, 1) := by decide +kernel
theorem d21_60 : decode jdk_65_method_30_code 60 = .ok (.iload_n 0, 1) := by decide +kernel
theorem d21_61 : decode jdk_65_method_30_code 61 = .ok (.if_icmp .le 12, 3) := by decide +kernel
theorem d21_73 : decode jdk_65_method_30_code 73 = .ok (.return_, 1) := by decide +kernel
set_option maxRecDepth 65536 in
set_option maxHeartbeats 40000000 in
theorem rmRC0 (l : Launch) (Z : State) (a0 : Array Value) (hw : ∀ d ∈ tables_1, d.before a0 Z = true) (z : Int32) (hz : ¬ z < (0 : Int32)) (h0 : Heap) :
    Con l Z h0 (⟨"java/util/Arrays", "rangeCheck", "(III)V"⟩ : MethodName) jdk_65_method_30_code 3 none ({ frames := 0, cells := 0, slots := 0, locals := 0 } : Room) #[(.int z), (.int (0 : Int32)), (.int (0 : Int32))] (Pur none h0) := by
  refine con_of (plainFor_of_name pn_7) (Ls := #[.val (.int z), .val (.int (0 : Int32)), .val (.int (0 : Int32))]) (fun m => by first | (simp [entryFrame, mkF, argsToLocals, Value.category]; done) | rfl) ?_
  intro p e s m below meth c s₁ hx hZ hby hml hret hlk hnm hown X0 e0
  refine g_iloadN X0 hx (hb hby d21_0) (v := (0 : Int32)) rfl (q := 1) rfl ?_
  refine g_iloadN X0 hx (hb hby d21_1) (v := (0 : Int32)) rfl (q := 2) rfl ?_
  refine g_icmp_le X0 hx (hb hby d21_2) (by decide) (q := 46) (by decide) (q2 := 5) rfl (fun hb2 => ?_) (fun hb2 => absurd hb2 (by decide))
  refine g_iloadN X0 hx (hb hby d21_46) (v := (0 : Int32)) rfl (q := 47) rfl ?_
  refine g_if_ge X0 hx (hb hby d21_47) (by decide) (q := 59) (by decide) (q2 := 50) rfl (fun hb47 => ?_) (fun hb47 => absurd hb47 (by decide))
  refine g_iloadN X0 hx (hb hby d21_59) (v := (0 : Int32)) rfl (q := 60) rfl ?_
  refine g_iloadN X0 hx (hb hby d21_60) (v := z) rfl (q := 61) rfl ?_
  refine g_icmp_le X0 hx (hb hby d21_61) (by decide) (q := 73) (by decide) (q2 := 64) rfl (fun hb61 => ?_) (fun hb61 => absurd hb61 hz)
  exact g_retV X0 hx hret hlk (hb hby d21_73) ⟨rfl, rfl, e0⟩ (Nat.le_of_ble_eq_true rfl) (Nat.le_of_ble_eq_true rfl)
theorem d20_0 : decode jdk_65_method_118_code 0 = .ok (.aload_n 0, 1) := by decide +kernel
theorem d20_1 : decode jdk_65_method_118_code 1 = .ok (.arraylength, 1) := by decide +kernel
theorem d20_2 : decode jdk_65_method_118_code 2 = .ok (.iload_n 1, 1) := by decide +kernel
theorem d20_3 : decode jdk_65_method_118_code 3 = .ok (.iload_n 2, 1) := by decide +kernel
theorem d20_4 : decode jdk_65_method_118_code 4 = .ok (.invokestatic 13, 3) := by decide +kernel
theorem d20_7 : decode jdk_65_method_118_code 7 = .ok (.iload_n 1, 1) := by decide +kernel
theorem d20_8 : decode jdk_65_method_118_code 8 = .ok (.istore 4, 2) := by decide +kernel
theorem d20_10 : decode jdk_65_method_118_code 10 = .ok (.iload 4, 2) := by decide +kernel
theorem d20_12 : decode jdk_65_method_118_code 12 = .ok (.iload_n 2, 1) := by decide +kernel
theorem d20_13 : decode jdk_65_method_118_code 13 = .ok (.if_icmp .ge 14, 3) := by decide +kernel
theorem d20_27 : decode jdk_65_method_118_code 27 = .ok (.return_, 1) := by decide +kernel
set_option maxRecDepth 65536 in
set_option maxHeartbeats 40000000 in
theorem rmFl0 (l : Launch) (Z : State) (a0 : Array Value) (hw : ∀ d ∈ tables_1, d.before a0 Z = true) (ma : Addr) (r : Nat) (fm : Nat → Value) (h0 : Heap) (n0 : Nat) (hge : n0 ≤ ma) (hr8 : r ≤ 8) (hnr : 0 ≤ r) (V0 : Af Z h0 ma (.object "java/lang/Object") (2 * r) fm) :
    Con l Z h0 (⟨"java/util/Arrays", "fill", "([Ljava/lang/Object;IILjava/lang/Object;)V"⟩ : MethodName) jdk_65_method_118_code 5 none ({ frames := 1, cells := 0, slots := 0, locals := 14 } : Room) #[(.ref ma), (.int (0 : Int32)), (.int (0 : Int32)), .null] (fun v h L => v = none ∧ Fr n0 L ∧ Keep h0 h [ma] ∧ ∃ f, Af Z h ma (.object "java/lang/Object") (2 * r) f) := by
  refine con_of (plainFor_of_name pn_7) (Ls := #[.val (.ref ma), .val (.int (0 : Int32)), .val (.int (0 : Int32)), .val .null, .unset]) (fun m => by first | (simp [entryFrame, mkF, argsToLocals, Value.category]; done) | rfl) ?_
  intro p e s m below meth c s₁ hx hZ hby hml hret hlk hnm hown X0 e0
  refine g_aloadN X0 hx (hb hby d20_0) (v := (.ref ma)) rfl rfl (q := 1) rfl ?_
  refine g_len X0 hx hZ e0 V0 (z := ((2 * r).toInt32)) rfl (hb hby d20_1) (q := 2) rfl ?_
  refine g_iloadN X0 hx (hb hby d20_2) (v := (0 : Int32)) rfl (q := 3) rfl ?_
  refine g_iloadN X0 hx (hb hby d20_3) (v := (0 : Int32)) rfl (q := 4) rfl ?_
  refine g_callS X0 hx hZ hown (hw _ (List.mem_of_getElem? (i := 125) rfl)) (hw _ (List.mem_of_getElem? (i := 126) rfl)) (hw _ (List.mem_of_getElem? (i := 123) rfl)) (hw _ (List.mem_of_getElem? (i := 127) rfl)) (by decide) e0 (rmRC0 l Z a0 hw _ ((own_r32 r hr8).2.2.1) h0) (by exact hml.symm) (argsL := [(.int ((2 * r).toInt32)), (.int (0 : Int32)), (.int (0 : Int32))]) (rest := []) rfl rfl pd_17 rfl (Nat.le_of_ble_eq_true rfl) (Nat.le_of_ble_eq_true rfl) (Nat.le_of_ble_eq_true rfl) (Nat.le_of_ble_eq_true rfl) (hb hby d20_4) (q := 7) rfl (g_pure rfl rfl fun T1653 X1653 e1653 => ?_)
  show Go p e below _ (T1653.setTop (mkF m 7 #[.val (.ref ma), .val (.int (0 : Int32)), .val (.int (0 : Int32)), .val .null, .unset] []))
  refine g_iloadN X1653 hx (hb hby d20_7) (v := (0 : Int32)) rfl (q := 8) rfl ?_
  refine g_istore X1653 hx (hb hby d20_8) (L' := #[.val (.ref ma), .val (.int (0 : Int32)), .val (.int (0 : Int32)), .val .null, .val (.int (0 : Int32))]) rfl (q := 10) rfl ?_
  refine g_iload X1653 hx (hb hby d20_10) (v := (0 : Int32)) rfl (q := 12) rfl ?_
  refine g_iloadN X1653 hx (hb hby d20_12) (v := (0 : Int32)) rfl (q := 13) rfl ?_
  refine g_icmp_ge X1653 hx (hb hby d20_13) (by decide) (q := 27) (by decide) (q2 := 16) rfl (fun hb13 => ?_) (fun hb13 => absurd hb13 (by decide))
  exact g_retV X1653 hx hret hlk (hb hby d20_27) ⟨rfl, by simpa using (Fr.nil n0), by rw [e1653]; exact (Keep.refl h0 [ma]), _, by rw [e1653]; exact V0⟩ (Nat.le_of_ble_eq_true rfl) (Nat.le_of_ble_eq_true rfl)
theorem d19_0 : decode prog_18_method_12_code 0 = .ok (.aload_n 0, 1) := by decide +kernel
theorem d19_1 : decode prog_18_method_12_code 1 = .ok (.getfield 11, 3) := by decide +kernel
theorem d19_4 : decode prog_18_method_12_code 4 = .ok (.iconst 0, 1) := by decide +kernel
theorem d19_5 : decode prog_18_method_12_code 5 = .ok (.iconst 2, 1) := by decide +kernel
theorem d19_6 : decode prog_18_method_12_code 6 = .ok (.aload_n 0, 1) := by decide +kernel
theorem d19_7 : decode prog_18_method_12_code 7 = .ok (.getfield 19, 3) := by decide +kernel
theorem d19_10 : decode prog_18_method_12_code 10 = .ok (.imul, 1) := by decide +kernel
theorem d19_11 : decode prog_18_method_12_code 11 = .ok (.aconst_null, 1) := by decide +kernel
theorem d19_12 : decode prog_18_method_12_code 12 = .ok (.invokestatic 57, 3) := by decide +kernel
theorem d19_15 : decode prog_18_method_12_code 15 = .ok (.aload_n 0, 1) := by decide +kernel
theorem d19_16 : decode prog_18_method_12_code 16 = .ok (.iconst 0, 1) := by decide +kernel
theorem d19_17 : decode prog_18_method_12_code 17 = .ok (.putfield 19, 3) := by decide +kernel
theorem d19_20 : decode prog_18_method_12_code 20 = .ok (.aload_n 0, 1) := by decide +kernel
theorem d19_21 : decode prog_18_method_12_code 21 = .ok (.aconst_null, 1) := by decide +kernel
theorem d19_22 : decode prog_18_method_12_code 22 = .ok (.putfield 63, 3) := by decide +kernel
theorem d19_25 : decode prog_18_method_12_code 25 = .ok (.aload_n 0, 1) := by decide +kernel
theorem d19_26 : decode prog_18_method_12_code 26 = .ok (.dup, 1) := by decide +kernel
theorem d19_27 : decode prog_18_method_12_code 27 = .ok (.getfield 31, 3) := by decide +kernel
theorem d19_30 : decode prog_18_method_12_code 30 = .ok (.iconst 1, 1) := by decide +kernel
theorem d19_31 : decode prog_18_method_12_code 31 = .ok (.iadd, 1) := by decide +kernel
theorem d19_32 : decode prog_18_method_12_code 32 = .ok (.putfield 31, 3) := by decide +kernel
theorem d19_35 : decode prog_18_method_12_code 35 = .ok (.return_, 1) := by decide +kernel
set_option maxRecDepth 65536 in
set_option maxHeartbeats 40000000 in
theorem rmCl0 (l : Launch) (Z : State) (a0 : Array Value) (hw : ∀ d ∈ tables_1, d.before a0 Z = true) (t ma ha : Addr) (r : Nat) (fm fh : Nat → Value) (cg : Int32) (h0 : Heap) (n0 : Nat) (hgt : n0 ≤ t) (TC : TrC Z h0 t (0 : Int32) ma ha r fm fh cg) (hnr : 0 ≤ r) :
    Con l Z h0 (⟨"com/example/kehys/kehys/io/TreeObject", "clear", "()V"⟩ : MethodName) prog_18_method_12_code 1 none ({ frames := 2, cells := 0, slots := 0, locals := 32 } : Room) #[(.ref t)] (fun v h L => v = none ∧ Fr n0 L ∧ Up h0 h t t ∧ Tr0 Z h t) := by
  obtain ⟨E0, F0, F1, F2, F3, F4, V0, O0, A0, V1, tma, tha, nmh, hr8⟩ := TC
  refine con_of (plainFor_of_name pn_5) (Ls := #[.val (.ref t)]) (fun m => by first | (simp [entryFrame, mkF, argsToLocals, Value.category]; done) | rfl) ?_
  intro p e s m below meth c s₁ hx hZ hby hml hret hlk hnm hown X0 e0
  refine g_aloadN X0 hx (hb hby d19_0) (v := (.ref t)) rfl rfl (q := 1) rfl ?_
  refine g_getF X0 hx hZ hown (hw _ (List.mem_of_getElem? (i := 47) rfl)) Via.refl e0 F0 (hb hby d19_1) (q := 4) rfl fun T1654 X1654 e1654 => ?_
  refine g_iconst X1654 hx (hb hby d19_4) (n := (0 : Int32)) (by decide) (q := 5) rfl ?_
  refine g_iconst X1654 hx (hb hby d19_5) (n := (2 : Int32)) (by decide) (q := 6) rfl ?_
  refine g_aloadN X1654 hx (hb hby d19_6) (v := (.ref t)) rfl rfl (q := 7) rfl ?_
  refine g_getF X1654 hx hZ hown (hw _ (List.mem_of_getElem? (i := 57) rfl)) Via.refl e1654 F2 (hb hby d19_7) (q := 10) rfl fun T1655 X1655 e1655 => ?_
  refine g_imul X1655 hx (hb hby d19_10) (z := (0 : Int32)) (by decide) (q := 11) rfl ?_
  refine g_aconst_null X1655 hx (hb hby d19_11) (q := 12) rfl ?_
  refine g_callS X1655 hx hZ hown (hw _ (List.mem_of_getElem? (i := 121) rfl)) (hw _ (List.mem_of_getElem? (i := 122) rfl)) (hw _ (List.mem_of_getElem? (i := 123) rfl)) (hw _ (List.mem_of_getElem? (i := 124) rfl)) (by decide) e1655 (rmFl0 l Z a0 hw ma r fm h0 n0 (Nat.le_trans hgt (Nat.le_of_lt tma)) hr8 hnr V0) (by exact hml.symm) (argsL := [(.ref ma), (.int (0 : Int32)), (.int (0 : Int32)), .null]) (rest := []) rfl rfl pd_18 rfl (Nat.le_of_ble_eq_true rfl) (Nat.le_of_ble_eq_true rfl) (Nat.le_of_ble_eq_true rfl) (Nat.le_of_ble_eq_true rfl) (hb hby d19_12) (q := 15) rfl (fun v1656 T1656 L1656 X1656 hQ1656 => ?_)
  generalize e1656 : T1656.heap = h1656 at hQ1656
  obtain ⟨rfl, M1656, K1656, f1656, V1656⟩ := hQ1656
  have N1656 := Fr.app (Fr.nil n0) M1656
  have kp_1656 := (Keep.refl h0 [t, ma]).trans K1656 (allS (P := fun x => x ∈ [t, ma] ∨ h0.size ≤ x) (Or.inl (List.mem_of_getElem? (i := 1) rfl)) all0)
  have f1657 := (E0.keep K1656)
  have f1658 := (F0.keep K1656 (ninS (Nat.ne_of_lt tma) nin0))
  have f1659 := (F1.keep K1656 (ninS (Nat.ne_of_lt tma) nin0))
  have f1660 := (F2.keep K1656 (ninS (Nat.ne_of_lt tma) nin0))
  have f1661 := (F3.keep K1656 (ninS (Nat.ne_of_lt tma) nin0))
  have f1662 := (F4.keep K1656 (ninS (Nat.ne_of_lt tma) nin0))
  have f1663 := (O0.keep K1656)
  have f1664 := (A0.keep K1656)
  have f1665 := (V1.keep K1656 (ninS (Ne.symm nmh) nin0))
  show Go p e below _ (T1656.setTop (mkF m 15 #[.val (.ref t)] []))
  refine g_aloadN X1656 hx (hb hby d19_15) (v := (.ref t)) rfl rfl (q := 16) rfl ?_
  refine g_iconst X1656 hx (hb hby d19_16) (n := (0 : Int32)) (by decide) (q := 17) rfl ?_
  refine g_putF X1656 hx hZ hown (hw _ (List.mem_of_getElem? (i := 57) rfl)) Via.refl e1656 f1660 f1657 (Or.inl (hw _ (List.mem_of_getElem? (i := 58) rfl))) (hw _ (List.mem_of_getElem? (i := 34) rfl)) (ty := .int) (by decide) rfl rfl (hb hby d19_17) (q := 20) rfl fun T1666 h1666 X1666 e1666 W1666 => ?_
  have fw1666 := f1660.same W1666
  have N1666 := Fr.snoc X1666 N1656 hgt
  have kp_1666 := kp_1656.wr W1666 (Or.inl (List.mem_of_getElem? (i := 0) rfl))
  have f1667 := (f1657.wr W1666)
  have f1668 := (f1658.other W1666 (Or.inr (slot_ne (Or.inl (hw _ (List.mem_of_getElem? (i := 48) rfl))) (Or.inl (hw _ (List.mem_of_getElem? (i := 58) rfl))) (by decide) (t := (.array (.object "java/lang/Object"))) (t' := .int) (by decide) (by decide))))
  have f1669 := (f1659.other W1666 (Or.inr (slot_ne (Or.inl (hw _ (List.mem_of_getElem? (i := 51) rfl))) (Or.inl (hw _ (List.mem_of_getElem? (i := 58) rfl))) (by decide) (t := (.array .int)) (t' := .int) (by decide) (by decide))))
  have f1670 := (f1661.other W1666 (Or.inr (slot_ne (Or.inl (hw _ (List.mem_of_getElem? (i := 74) rfl))) (Or.inl (hw _ (List.mem_of_getElem? (i := 58) rfl))) (by decide) (t := (.object "java/util/Map")) (t' := .int) (by decide) (by decide))))
  have f1671 := (f1662.other W1666 (Or.inr (slot_ne (Or.inl (hw _ (List.mem_of_getElem? (i := 110) rfl))) (Or.inl (hw _ (List.mem_of_getElem? (i := 58) rfl))) (by decide) (t := .int) (t' := .int) (by decide) (by decide))))
  have f1672 := (V1656.other W1666 (Ne.symm (Nat.ne_of_lt tma)))
  have f1673 := (f1663.wr W1666)
  have f1674 := (f1664.wr W1666)
  have f1675 := (f1665.other W1666 (Ne.symm (Nat.ne_of_lt tha)))
  refine g_aloadN X1666 hx (hb hby d19_20) (v := (.ref t)) rfl rfl (q := 21) rfl ?_
  refine g_aconst_null X1666 hx (hb hby d19_21) (q := 22) rfl ?_
  refine g_putF X1666 hx hZ hown (hw _ (List.mem_of_getElem? (i := 73) rfl)) Via.refl e1666 f1670 f1667 (Or.inl (hw _ (List.mem_of_getElem? (i := 74) rfl))) (hw _ (List.mem_of_getElem? (i := 34) rfl)) (ty := (.object "java/util/Map")) (by decide) rfl rfl (hb hby d19_22) (q := 25) rfl fun T1676 h1676 X1676 e1676 W1676 => ?_
  have fw1676 := f1670.same W1676
  have N1676 := Fr.snoc X1676 N1666 hgt
  have kp_1676 := kp_1666.wr W1676 (Or.inl (List.mem_of_getElem? (i := 0) rfl))
  have f1677 := (f1667.wr W1676)
  have f1678 := (f1668.other W1676 (Or.inr (slot_ne (Or.inl (hw _ (List.mem_of_getElem? (i := 48) rfl))) (Or.inl (hw _ (List.mem_of_getElem? (i := 74) rfl))) (by decide) (t := (.array (.object "java/lang/Object"))) (t' := (.object "java/util/Map")) (by decide) (by decide))))
  have f1679 := (f1669.other W1676 (Or.inr (slot_ne (Or.inl (hw _ (List.mem_of_getElem? (i := 51) rfl))) (Or.inl (hw _ (List.mem_of_getElem? (i := 74) rfl))) (by decide) (t := (.array .int)) (t' := (.object "java/util/Map")) (by decide) (by decide))))
  have f1680 := (fw1666.other W1676 (Or.inr (slot_ne (Or.inl (hw _ (List.mem_of_getElem? (i := 58) rfl))) (Or.inl (hw _ (List.mem_of_getElem? (i := 74) rfl))) (by decide) (t := .int) (t' := (.object "java/util/Map")) (by decide) (by decide))))
  have f1681 := (f1671.other W1676 (Or.inr (slot_ne (Or.inl (hw _ (List.mem_of_getElem? (i := 110) rfl))) (Or.inl (hw _ (List.mem_of_getElem? (i := 74) rfl))) (by decide) (t := .int) (t' := (.object "java/util/Map")) (by decide) (by decide))))
  have f1682 := (f1672.other W1676 (Ne.symm (Nat.ne_of_lt tma)))
  have f1683 := (f1673.wr W1676)
  have f1684 := (f1674.wr W1676)
  have f1685 := (f1675.other W1676 (Ne.symm (Nat.ne_of_lt tha)))
  refine g_aloadN X1676 hx (hb hby d19_25) (v := (.ref t)) rfl rfl (q := 26) rfl ?_
  refine g_dup X1676 hx (hb hby d19_26) rfl (q := 27) rfl ?_
  refine g_getF X1676 hx hZ hown (hw _ (List.mem_of_getElem? (i := 109) rfl)) Via.refl e1676 f1681 (hb hby d19_27) (q := 30) rfl fun T1686 X1686 e1686 => ?_
  refine g_iconst X1686 hx (hb hby d19_30) (n := (1 : Int32)) (by decide) (q := 31) rfl ?_
  refine g_iadd X1686 hx (hb hby d19_31) (z := (cg + (1 : Int32))) rfl (q := 32) rfl ?_
  refine g_putF X1686 hx hZ hown (hw _ (List.mem_of_getElem? (i := 109) rfl)) Via.refl e1686 f1681 f1677 (Or.inl (hw _ (List.mem_of_getElem? (i := 110) rfl))) (hw _ (List.mem_of_getElem? (i := 34) rfl)) (ty := .int) (by decide) rfl rfl (hb hby d19_32) (q := 35) rfl fun T1687 h1687 X1687 e1687 W1687 => ?_
  have fw1687 := f1681.same W1687
  have N1687 := Fr.snoc X1687 N1676 hgt
  have kp_1687 := kp_1676.wr W1687 (Or.inl (List.mem_of_getElem? (i := 0) rfl))
  have f1688 := (f1677.wr W1687)
  have f1689 := (f1678.other W1687 (Or.inr (slot_ne (Or.inl (hw _ (List.mem_of_getElem? (i := 48) rfl))) (Or.inl (hw _ (List.mem_of_getElem? (i := 110) rfl))) (by decide) (t := (.array (.object "java/lang/Object"))) (t' := .int) (by decide) (by decide))))
  have f1690 := (f1679.other W1687 (Or.inr (slot_ne (Or.inl (hw _ (List.mem_of_getElem? (i := 51) rfl))) (Or.inl (hw _ (List.mem_of_getElem? (i := 110) rfl))) (by decide) (t := (.array .int)) (t' := .int) (by decide) (by decide))))
  have f1691 := (f1680.other W1687 (Or.inr (slot_ne (Or.inl (hw _ (List.mem_of_getElem? (i := 58) rfl))) (Or.inl (hw _ (List.mem_of_getElem? (i := 110) rfl))) (by decide) (t := .int) (t' := .int) (by decide) (by decide))))
  have f1692 := (fw1676.other W1687 (Or.inr (slot_ne (Or.inl (hw _ (List.mem_of_getElem? (i := 74) rfl))) (Or.inl (hw _ (List.mem_of_getElem? (i := 110) rfl))) (by decide) (t := (.object "java/util/Map")) (t' := .int) (by decide) (by decide))))
  have f1693 := (f1682.other W1687 (Ne.symm (Nat.ne_of_lt tma)))
  have f1694 := (f1683.wr W1687)
  have f1695 := (f1684.wr W1687)
  have f1696 := (f1685.other W1687 (Ne.symm (Nat.ne_of_lt tha)))
  exact g_retV X1687 hx hret hlk (hb hby d19_35) ⟨rfl, by simpa using N1687, ⟨[t, ma], by rw [e1687]; exact kp_1687, own_all2 E0 A0 tma⟩, ma, ha, r, _, _, _, ⟨by rw [e1687]; exact f1688, by rw [e1687]; exact f1689, by rw [e1687]; exact f1690, by rw [e1687]; exact f1691, by rw [e1687]; exact f1692, by rw [e1687]; exact fw1687, by rw [e1687]; exact f1693, by rw [e1687]; exact f1694, by rw [e1687]; exact f1695, by rw [e1687]; exact f1696, tma, tha, nmh, hr8⟩⟩ (Nat.le_of_ble_eq_true rfl) (Nat.le_of_ble_eq_true rfl)
set_option maxRecDepth 65536 in
set_option maxHeartbeats 40000000 in
theorem rmRC1 (l : Launch) (Z : State) (a0 : Array Value) (hw : ∀ d ∈ tables_1, d.before a0 Z = true) (z : Int32) (hz : ¬ z < (2 : Int32)) (h0 : Heap) :
    Con l Z h0 (⟨"java/util/Arrays", "rangeCheck", "(III)V"⟩ : MethodName) jdk_65_method_30_code 3 none ({ frames := 0, cells := 0, slots := 0, locals := 0 } : Room) #[(.int z), (.int (0 : Int32)), (.int (2 : Int32))] (Pur none h0) := by
  refine con_of (plainFor_of_name pn_7) (Ls := #[.val (.int z), .val (.int (0 : Int32)), .val (.int (2 : Int32))]) (fun m => by first | (simp [entryFrame, mkF, argsToLocals, Value.category]; done) | rfl) ?_
  intro p e s m below meth c s₁ hx hZ hby hml hret hlk hnm hown X0 e0
  refine g_iloadN X0 hx (hb hby d21_0) (v := (0 : Int32)) rfl (q := 1) rfl ?_
  refine g_iloadN X0 hx (hb hby d21_1) (v := (2 : Int32)) rfl (q := 2) rfl ?_
  refine g_icmp_le X0 hx (hb hby d21_2) (by decide) (q := 46) (by decide) (q2 := 5) rfl (fun hb2 => ?_) (fun hb2 => absurd hb2 (by decide))
  refine g_iloadN X0 hx (hb hby d21_46) (v := (0 : Int32)) rfl (q := 47) rfl ?_
  refine g_if_ge X0 hx (hb hby d21_47) (by decide) (q := 59) (by decide) (q2 := 50) rfl (fun hb47 => ?_) (fun hb47 => absurd hb47 (by decide))
  refine g_iloadN X0 hx (hb hby d21_59) (v := (2 : Int32)) rfl (q := 60) rfl ?_
  refine g_iloadN X0 hx (hb hby d21_60) (v := z) rfl (q := 61) rfl ?_
  refine g_icmp_le X0 hx (hb hby d21_61) (by decide) (q := 73) (by decide) (q2 := 64) rfl (fun hb61 => ?_) (fun hb61 => absurd hb61 hz)
  exact g_retV X0 hx hret hlk (hb hby d21_73) ⟨rfl, rfl, e0⟩ (Nat.le_of_ble_eq_true rfl) (Nat.le_of_ble_eq_true rfl)
theorem d20_16 : decode jdk_65_method_118_code 16 = .ok (.aload_n 0, 1) := by decide +kernel
theorem d20_17 : decode jdk_65_method_118_code 17 = .ok (.iload 4, 2) := by decide +kernel
theorem d20_19 : decode jdk_65_method_118_code 19 = .ok (.aload_n 3, 1) := by decide +kernel
theorem d20_20 : decode jdk_65_method_118_code 20 = .ok (.aastore, 1) := by decide +kernel
theorem d20_21 : decode jdk_65_method_118_code 21 = .ok (.iinc 4 1, 3) := by decide +kernel
theorem d20_24 : decode jdk_65_method_118_code 24 = .ok (.goto (-14), 3) := by decide +kernel
set_option maxRecDepth 65536 in
set_option maxHeartbeats 40000000 in
theorem rmFl1 (l : Launch) (Z : State) (a0 : Array Value) (hw : ∀ d ∈ tables_1, d.before a0 Z = true) (ma : Addr) (r : Nat) (fm : Nat → Value) (h0 : Heap) (n0 : Nat) (hge : n0 ≤ ma) (hr8 : r ≤ 8) (hnr : 1 ≤ r) (V0 : Af Z h0 ma (.object "java/lang/Object") (2 * r) fm) :
    Con l Z h0 (⟨"java/util/Arrays", "fill", "([Ljava/lang/Object;IILjava/lang/Object;)V"⟩ : MethodName) jdk_65_method_118_code 5 none ({ frames := 1, cells := 0, slots := 0, locals := 14 } : Room) #[(.ref ma), (.int (0 : Int32)), (.int (2 : Int32)), .null] (fun v h L => v = none ∧ Fr n0 L ∧ Keep h0 h [ma] ∧ ∃ f, Af Z h ma (.object "java/lang/Object") (2 * r) f) := by
  refine con_of (plainFor_of_name pn_7) (Ls := #[.val (.ref ma), .val (.int (0 : Int32)), .val (.int (2 : Int32)), .val .null, .unset]) (fun m => by first | (simp [entryFrame, mkF, argsToLocals, Value.category]; done) | rfl) ?_
  intro p e s m below meth c s₁ hx hZ hby hml hret hlk hnm hown X0 e0
  refine g_aloadN X0 hx (hb hby d20_0) (v := (.ref ma)) rfl rfl (q := 1) rfl ?_
  refine g_len X0 hx hZ e0 V0 (z := ((2 * r).toInt32)) rfl (hb hby d20_1) (q := 2) rfl ?_
  refine g_iloadN X0 hx (hb hby d20_2) (v := (0 : Int32)) rfl (q := 3) rfl ?_
  refine g_iloadN X0 hx (hb hby d20_3) (v := (2 : Int32)) rfl (q := 4) rfl ?_
  refine g_callS X0 hx hZ hown (hw _ (List.mem_of_getElem? (i := 125) rfl)) (hw _ (List.mem_of_getElem? (i := 126) rfl)) (hw _ (List.mem_of_getElem? (i := 123) rfl)) (hw _ (List.mem_of_getElem? (i := 127) rfl)) (by decide) e0 (rmRC1 l Z a0 hw _ ((own_r32 r hr8).2.2.2.1 hnr) h0) (by exact hml.symm) (argsL := [(.int ((2 * r).toInt32)), (.int (0 : Int32)), (.int (2 : Int32))]) (rest := []) rfl rfl pd_17 rfl (Nat.le_of_ble_eq_true rfl) (Nat.le_of_ble_eq_true rfl) (Nat.le_of_ble_eq_true rfl) (Nat.le_of_ble_eq_true rfl) (hb hby d20_4) (q := 7) rfl (g_pure rfl rfl fun T1697 X1697 e1697 => ?_)
  show Go p e below _ (T1697.setTop (mkF m 7 #[.val (.ref ma), .val (.int (0 : Int32)), .val (.int (2 : Int32)), .val .null, .unset] []))
  refine g_iloadN X1697 hx (hb hby d20_7) (v := (0 : Int32)) rfl (q := 8) rfl ?_
  refine g_istore X1697 hx (hb hby d20_8) (L' := #[.val (.ref ma), .val (.int (0 : Int32)), .val (.int (2 : Int32)), .val .null, .val (.int (0 : Int32))]) rfl (q := 10) rfl ?_
  refine g_iload X1697 hx (hb hby d20_10) (v := (0 : Int32)) rfl (q := 12) rfl ?_
  refine g_iloadN X1697 hx (hb hby d20_12) (v := (2 : Int32)) rfl (q := 13) rfl ?_
  refine g_icmp_ge X1697 hx (hb hby d20_13) (by decide) (q := 27) (by decide) (q2 := 16) rfl (fun hb13 => absurd hb13 (by decide)) (fun hb13 => ?_)
  refine g_aloadN X1697 hx (hb hby d20_16) (v := (.ref ma)) rfl rfl (q := 17) rfl ?_
  refine g_iload X1697 hx (hb hby d20_17) (v := (0 : Int32)) rfl (q := 19) rfl ?_
  refine g_aloadN X1697 hx (hb hby d20_19) (v := .null) rfl rfl (q := 20) rfl ?_
  refine g_aastore X1697 hx hZ e1697 V0 rfl (by decide) (by show 0 < 2 * r; omega) (Or.inl rfl) (hb hby d20_20) (q := 21) rfl fun T1698 h1698 X1698 e1698 W1698 U1698 => ?_
  have N1698 := Fr.snoc X1698 (Fr.nil n0) hge
  have kp_1698 := (Keep.refl h0 [ma]).wr W1698 (Or.inl (List.mem_of_getElem? (i := 0) rfl))
  refine g_iinc X1698 hx (hb hby d20_21) (x := (0 : Int32)) rfl (z := (1 : Int32)) (by decide) (L' := #[.val (.ref ma), .val (.int (0 : Int32)), .val (.int (2 : Int32)), .val .null, .val (.int (1 : Int32))]) rfl (q := 24) rfl ?_
  refine g_goto X1698 hx (hb hby d20_24) (by decide) (q := 10) (by decide) ?_
  refine g_iload X1698 hx (hb hby d20_10) (v := (1 : Int32)) rfl (q := 12) rfl ?_
  refine g_iloadN X1698 hx (hb hby d20_12) (v := (2 : Int32)) rfl (q := 13) rfl ?_
  refine g_icmp_ge X1698 hx (hb hby d20_13) (by decide) (q := 27) (by decide) (q2 := 16) rfl (fun hb13 => absurd hb13 (by decide)) (fun hb13 => ?_)
  refine g_aloadN X1698 hx (hb hby d20_16) (v := (.ref ma)) rfl rfl (q := 17) rfl ?_
  refine g_iload X1698 hx (hb hby d20_17) (v := (1 : Int32)) rfl (q := 19) rfl ?_
  refine g_aloadN X1698 hx (hb hby d20_19) (v := .null) rfl rfl (q := 20) rfl ?_
  refine g_aastore X1698 hx hZ e1698 U1698 rfl (by decide) (by show 1 < 2 * r; omega) (Or.inl rfl) (hb hby d20_20) (q := 21) rfl fun T1699 h1699 X1699 e1699 W1699 U1699 => ?_
  have N1699 := Fr.snoc X1699 N1698 hge
  have kp_1699 := kp_1698.wr W1699 (Or.inl (List.mem_of_getElem? (i := 0) rfl))
  refine g_iinc X1699 hx (hb hby d20_21) (x := (1 : Int32)) rfl (z := (2 : Int32)) (by decide) (L' := #[.val (.ref ma), .val (.int (0 : Int32)), .val (.int (2 : Int32)), .val .null, .val (.int (2 : Int32))]) rfl (q := 24) rfl ?_
  refine g_goto X1699 hx (hb hby d20_24) (by decide) (q := 10) (by decide) ?_
  refine g_iload X1699 hx (hb hby d20_10) (v := (2 : Int32)) rfl (q := 12) rfl ?_
  refine g_iloadN X1699 hx (hb hby d20_12) (v := (2 : Int32)) rfl (q := 13) rfl ?_
  refine g_icmp_ge X1699 hx (hb hby d20_13) (by decide) (q := 27) (by decide) (q2 := 16) rfl (fun hb13 => ?_) (fun hb13 => absurd hb13 (by decide))
  exact g_retV X1699 hx hret hlk (hb hby d20_27) ⟨rfl, by simpa using N1699, by rw [e1699]; exact kp_1699, _, by rw [e1699]; exact U1699⟩ (Nat.le_of_ble_eq_true rfl) (Nat.le_of_ble_eq_true rfl)
set_option maxRecDepth 65536 in
set_option maxHeartbeats 40000000 in
theorem rmCl1 (l : Launch) (Z : State) (a0 : Array Value) (hw : ∀ d ∈ tables_1, d.before a0 Z = true) (t ma ha : Addr) (r : Nat) (fm fh : Nat → Value) (cg : Int32) (h0 : Heap) (n0 : Nat) (hgt : n0 ≤ t) (TC : TrC Z h0 t (1 : Int32) ma ha r fm fh cg) (hnr : 1 ≤ r) :
    Con l Z h0 (⟨"com/example/kehys/kehys/io/TreeObject", "clear", "()V"⟩ : MethodName) prog_18_method_12_code 1 none ({ frames := 2, cells := 0, slots := 0, locals := 32 } : Room) #[(.ref t)] (fun v h L => v = none ∧ Fr n0 L ∧ Up h0 h t t ∧ Tr0 Z h t) := by
  obtain ⟨E0, F0, F1, F2, F3, F4, V0, O0, A0, V1, tma, tha, nmh, hr8⟩ := TC
  refine con_of (plainFor_of_name pn_5) (Ls := #[.val (.ref t)]) (fun m => by first | (simp [entryFrame, mkF, argsToLocals, Value.category]; done) | rfl) ?_
  intro p e s m below meth c s₁ hx hZ hby hml hret hlk hnm hown X0 e0
  refine g_aloadN X0 hx (hb hby d19_0) (v := (.ref t)) rfl rfl (q := 1) rfl ?_
  refine g_getF X0 hx hZ hown (hw _ (List.mem_of_getElem? (i := 47) rfl)) Via.refl e0 F0 (hb hby d19_1) (q := 4) rfl fun T1700 X1700 e1700 => ?_
  refine g_iconst X1700 hx (hb hby d19_4) (n := (0 : Int32)) (by decide) (q := 5) rfl ?_
  refine g_iconst X1700 hx (hb hby d19_5) (n := (2 : Int32)) (by decide) (q := 6) rfl ?_
  refine g_aloadN X1700 hx (hb hby d19_6) (v := (.ref t)) rfl rfl (q := 7) rfl ?_
  refine g_getF X1700 hx hZ hown (hw _ (List.mem_of_getElem? (i := 57) rfl)) Via.refl e1700 F2 (hb hby d19_7) (q := 10) rfl fun T1701 X1701 e1701 => ?_
  refine g_imul X1701 hx (hb hby d19_10) (z := (2 : Int32)) (by decide) (q := 11) rfl ?_
  refine g_aconst_null X1701 hx (hb hby d19_11) (q := 12) rfl ?_
  refine g_callS X1701 hx hZ hown (hw _ (List.mem_of_getElem? (i := 121) rfl)) (hw _ (List.mem_of_getElem? (i := 122) rfl)) (hw _ (List.mem_of_getElem? (i := 123) rfl)) (hw _ (List.mem_of_getElem? (i := 124) rfl)) (by decide) e1701 (rmFl1 l Z a0 hw ma r fm h0 n0 (Nat.le_trans hgt (Nat.le_of_lt tma)) hr8 hnr V0) (by exact hml.symm) (argsL := [(.ref ma), (.int (0 : Int32)), (.int (2 : Int32)), .null]) (rest := []) rfl rfl pd_18 rfl (Nat.le_of_ble_eq_true rfl) (Nat.le_of_ble_eq_true rfl) (Nat.le_of_ble_eq_true rfl) (Nat.le_of_ble_eq_true rfl) (hb hby d19_12) (q := 15) rfl (fun v1702 T1702 L1702 X1702 hQ1702 => ?_)
  generalize e1702 : T1702.heap = h1702 at hQ1702
  obtain ⟨rfl, M1702, K1702, f1702, V1702⟩ := hQ1702
  have N1702 := Fr.app (Fr.nil n0) M1702
  have kp_1702 := (Keep.refl h0 [t, ma]).trans K1702 (allS (P := fun x => x ∈ [t, ma] ∨ h0.size ≤ x) (Or.inl (List.mem_of_getElem? (i := 1) rfl)) all0)
  have f1703 := (E0.keep K1702)
  have f1704 := (F0.keep K1702 (ninS (Nat.ne_of_lt tma) nin0))
  have f1705 := (F1.keep K1702 (ninS (Nat.ne_of_lt tma) nin0))
  have f1706 := (F2.keep K1702 (ninS (Nat.ne_of_lt tma) nin0))
  have f1707 := (F3.keep K1702 (ninS (Nat.ne_of_lt tma) nin0))
  have f1708 := (F4.keep K1702 (ninS (Nat.ne_of_lt tma) nin0))
  have f1709 := (O0.keep K1702)
  have f1710 := (A0.keep K1702)
  have f1711 := (V1.keep K1702 (ninS (Ne.symm nmh) nin0))
  show Go p e below _ (T1702.setTop (mkF m 15 #[.val (.ref t)] []))
  refine g_aloadN X1702 hx (hb hby d19_15) (v := (.ref t)) rfl rfl (q := 16) rfl ?_
  refine g_iconst X1702 hx (hb hby d19_16) (n := (0 : Int32)) (by decide) (q := 17) rfl ?_
  refine g_putF X1702 hx hZ hown (hw _ (List.mem_of_getElem? (i := 57) rfl)) Via.refl e1702 f1706 f1703 (Or.inl (hw _ (List.mem_of_getElem? (i := 58) rfl))) (hw _ (List.mem_of_getElem? (i := 34) rfl)) (ty := .int) (by decide) rfl rfl (hb hby d19_17) (q := 20) rfl fun T1712 h1712 X1712 e1712 W1712 => ?_
  have fw1712 := f1706.same W1712
  have N1712 := Fr.snoc X1712 N1702 hgt
  have kp_1712 := kp_1702.wr W1712 (Or.inl (List.mem_of_getElem? (i := 0) rfl))
  have f1713 := (f1703.wr W1712)
  have f1714 := (f1704.other W1712 (Or.inr (slot_ne (Or.inl (hw _ (List.mem_of_getElem? (i := 48) rfl))) (Or.inl (hw _ (List.mem_of_getElem? (i := 58) rfl))) (by decide) (t := (.array (.object "java/lang/Object"))) (t' := .int) (by decide) (by decide))))
  have f1715 := (f1705.other W1712 (Or.inr (slot_ne (Or.inl (hw _ (List.mem_of_getElem? (i := 51) rfl))) (Or.inl (hw _ (List.mem_of_getElem? (i := 58) rfl))) (by decide) (t := (.array .int)) (t' := .int) (by decide) (by decide))))
  have f1716 := (f1707.other W1712 (Or.inr (slot_ne (Or.inl (hw _ (List.mem_of_getElem? (i := 74) rfl))) (Or.inl (hw _ (List.mem_of_getElem? (i := 58) rfl))) (by decide) (t := (.object "java/util/Map")) (t' := .int) (by decide) (by decide))))
  have f1717 := (f1708.other W1712 (Or.inr (slot_ne (Or.inl (hw _ (List.mem_of_getElem? (i := 110) rfl))) (Or.inl (hw _ (List.mem_of_getElem? (i := 58) rfl))) (by decide) (t := .int) (t' := .int) (by decide) (by decide))))
  have f1718 := (V1702.other W1712 (Ne.symm (Nat.ne_of_lt tma)))
  have f1719 := (f1709.wr W1712)
  have f1720 := (f1710.wr W1712)
  have f1721 := (f1711.other W1712 (Ne.symm (Nat.ne_of_lt tha)))
  refine g_aloadN X1712 hx (hb hby d19_20) (v := (.ref t)) rfl rfl (q := 21) rfl ?_
  refine g_aconst_null X1712 hx (hb hby d19_21) (q := 22) rfl ?_
  refine g_putF X1712 hx hZ hown (hw _ (List.mem_of_getElem? (i := 73) rfl)) Via.refl e1712 f1716 f1713 (Or.inl (hw _ (List.mem_of_getElem? (i := 74) rfl))) (hw _ (List.mem_of_getElem? (i := 34) rfl)) (ty := (.object "java/util/Map")) (by decide) rfl rfl (hb hby d19_22) (q := 25) rfl fun T1722 h1722 X1722 e1722 W1722 => ?_
  have fw1722 := f1716.same W1722
  have N1722 := Fr.snoc X1722 N1712 hgt
  have kp_1722 := kp_1712.wr W1722 (Or.inl (List.mem_of_getElem? (i := 0) rfl))
  have f1723 := (f1713.wr W1722)
  have f1724 := (f1714.other W1722 (Or.inr (slot_ne (Or.inl (hw _ (List.mem_of_getElem? (i := 48) rfl))) (Or.inl (hw _ (List.mem_of_getElem? (i := 74) rfl))) (by decide) (t := (.array (.object "java/lang/Object"))) (t' := (.object "java/util/Map")) (by decide) (by decide))))
  have f1725 := (f1715.other W1722 (Or.inr (slot_ne (Or.inl (hw _ (List.mem_of_getElem? (i := 51) rfl))) (Or.inl (hw _ (List.mem_of_getElem? (i := 74) rfl))) (by decide) (t := (.array .int)) (t' := (.object "java/util/Map")) (by decide) (by decide))))
  have f1726 := (fw1712.other W1722 (Or.inr (slot_ne (Or.inl (hw _ (List.mem_of_getElem? (i := 58) rfl))) (Or.inl (hw _ (List.mem_of_getElem? (i := 74) rfl))) (by decide) (t := .int) (t' := (.object "java/util/Map")) (by decide) (by decide))))
  have f1727 := (f1717.other W1722 (Or.inr (slot_ne (Or.inl (hw _ (List.mem_of_getElem? (i := 110) rfl))) (Or.inl (hw _ (List.mem_of_getElem? (i := 74) rfl))) (by decide) (t := .int) (t' := (.object "java/util/Map")) (by decide) (by decide))))
  have f1728 := (f1718.other W1722 (Ne.symm (Nat.ne_of_lt tma)))
  have f1729 := (f1719.wr W1722)
  have f1730 := (f1720.wr W1722)
  have f1731 := (f1721.other W1722 (Ne.symm (Nat.ne_of_lt tha)))
  refine g_aloadN X1722 hx (hb hby d19_25) (v := (.ref t)) rfl rfl (q := 26) rfl ?_
  refine g_dup X1722 hx (hb hby d19_26) rfl (q := 27) rfl ?_
  refine g_getF X1722 hx hZ hown (hw _ (List.mem_of_getElem? (i := 109) rfl)) Via.refl e1722 f1727 (hb hby d19_27) (q := 30) rfl fun T1732 X1732 e1732 => ?_
  refine g_iconst X1732 hx (hb hby d19_30) (n := (1 : Int32)) (by decide) (q := 31) rfl ?_
  refine g_iadd X1732 hx (hb hby d19_31) (z := (cg + (1 : Int32))) rfl (q := 32) rfl ?_
  refine g_putF X1732 hx hZ hown (hw _ (List.mem_of_getElem? (i := 109) rfl)) Via.refl e1732 f1727 f1723 (Or.inl (hw _ (List.mem_of_getElem? (i := 110) rfl))) (hw _ (List.mem_of_getElem? (i := 34) rfl)) (ty := .int) (by decide) rfl rfl (hb hby d19_32) (q := 35) rfl fun T1733 h1733 X1733 e1733 W1733 => ?_
  have fw1733 := f1727.same W1733
  have N1733 := Fr.snoc X1733 N1722 hgt
  have kp_1733 := kp_1722.wr W1733 (Or.inl (List.mem_of_getElem? (i := 0) rfl))
  have f1734 := (f1723.wr W1733)
  have f1735 := (f1724.other W1733 (Or.inr (slot_ne (Or.inl (hw _ (List.mem_of_getElem? (i := 48) rfl))) (Or.inl (hw _ (List.mem_of_getElem? (i := 110) rfl))) (by decide) (t := (.array (.object "java/lang/Object"))) (t' := .int) (by decide) (by decide))))
  have f1736 := (f1725.other W1733 (Or.inr (slot_ne (Or.inl (hw _ (List.mem_of_getElem? (i := 51) rfl))) (Or.inl (hw _ (List.mem_of_getElem? (i := 110) rfl))) (by decide) (t := (.array .int)) (t' := .int) (by decide) (by decide))))
  have f1737 := (f1726.other W1733 (Or.inr (slot_ne (Or.inl (hw _ (List.mem_of_getElem? (i := 58) rfl))) (Or.inl (hw _ (List.mem_of_getElem? (i := 110) rfl))) (by decide) (t := .int) (t' := .int) (by decide) (by decide))))
  have f1738 := (fw1722.other W1733 (Or.inr (slot_ne (Or.inl (hw _ (List.mem_of_getElem? (i := 74) rfl))) (Or.inl (hw _ (List.mem_of_getElem? (i := 110) rfl))) (by decide) (t := (.object "java/util/Map")) (t' := .int) (by decide) (by decide))))
  have f1739 := (f1728.other W1733 (Ne.symm (Nat.ne_of_lt tma)))
  have f1740 := (f1729.wr W1733)
  have f1741 := (f1730.wr W1733)
  have f1742 := (f1731.other W1733 (Ne.symm (Nat.ne_of_lt tha)))
  exact g_retV X1733 hx hret hlk (hb hby d19_35) ⟨rfl, by simpa using N1733, ⟨[t, ma], by rw [e1733]; exact kp_1733, own_all2 E0 A0 tma⟩, ma, ha, r, _, _, _, ⟨by rw [e1733]; exact f1734, by rw [e1733]; exact f1735, by rw [e1733]; exact f1736, by rw [e1733]; exact f1737, by rw [e1733]; exact f1738, by rw [e1733]; exact fw1733, by rw [e1733]; exact f1739, by rw [e1733]; exact f1740, by rw [e1733]; exact f1741, by rw [e1733]; exact f1742, tma, tha, nmh, hr8⟩⟩ (Nat.le_of_ble_eq_true rfl) (Nat.le_of_ble_eq_true rfl)
set_option maxRecDepth 65536 in
set_option maxHeartbeats 40000000 in
theorem rmRC2 (l : Launch) (Z : State) (a0 : Array Value) (hw : ∀ d ∈ tables_1, d.before a0 Z = true) (z : Int32) (hz : ¬ z < (4 : Int32)) (h0 : Heap) :
    Con l Z h0 (⟨"java/util/Arrays", "rangeCheck", "(III)V"⟩ : MethodName) jdk_65_method_30_code 3 none ({ frames := 0, cells := 0, slots := 0, locals := 0 } : Room) #[(.int z), (.int (0 : Int32)), (.int (4 : Int32))] (Pur none h0) := by
  refine con_of (plainFor_of_name pn_7) (Ls := #[.val (.int z), .val (.int (0 : Int32)), .val (.int (4 : Int32))]) (fun m => by first | (simp [entryFrame, mkF, argsToLocals, Value.category]; done) | rfl) ?_
  intro p e s m below meth c s₁ hx hZ hby hml hret hlk hnm hown X0 e0
  refine g_iloadN X0 hx (hb hby d21_0) (v := (0 : Int32)) rfl (q := 1) rfl ?_
  refine g_iloadN X0 hx (hb hby d21_1) (v := (4 : Int32)) rfl (q := 2) rfl ?_
  refine g_icmp_le X0 hx (hb hby d21_2) (by decide) (q := 46) (by decide) (q2 := 5) rfl (fun hb2 => ?_) (fun hb2 => absurd hb2 (by decide))
  refine g_iloadN X0 hx (hb hby d21_46) (v := (0 : Int32)) rfl (q := 47) rfl ?_
  refine g_if_ge X0 hx (hb hby d21_47) (by decide) (q := 59) (by decide) (q2 := 50) rfl (fun hb47 => ?_) (fun hb47 => absurd hb47 (by decide))
  refine g_iloadN X0 hx (hb hby d21_59) (v := (4 : Int32)) rfl (q := 60) rfl ?_
  refine g_iloadN X0 hx (hb hby d21_60) (v := z) rfl (q := 61) rfl ?_
  refine g_icmp_le X0 hx (hb hby d21_61) (by decide) (q := 73) (by decide) (q2 := 64) rfl (fun hb61 => ?_) (fun hb61 => absurd hb61 hz)
  exact g_retV X0 hx hret hlk (hb hby d21_73) ⟨rfl, rfl, e0⟩ (Nat.le_of_ble_eq_true rfl) (Nat.le_of_ble_eq_true rfl)
set_option maxRecDepth 65536 in
set_option maxHeartbeats 40000000 in
theorem rmFl2 (l : Launch) (Z : State) (a0 : Array Value) (hw : ∀ d ∈ tables_1, d.before a0 Z = true) (ma : Addr) (r : Nat) (fm : Nat → Value) (h0 : Heap) (n0 : Nat) (hge : n0 ≤ ma) (hr8 : r ≤ 8) (hnr : 2 ≤ r) (V0 : Af Z h0 ma (.object "java/lang/Object") (2 * r) fm) :
    Con l Z h0 (⟨"java/util/Arrays", "fill", "([Ljava/lang/Object;IILjava/lang/Object;)V"⟩ : MethodName) jdk_65_method_118_code 5 none ({ frames := 1, cells := 0, slots := 0, locals := 14 } : Room) #[(.ref ma), (.int (0 : Int32)), (.int (4 : Int32)), .null] (fun v h L => v = none ∧ Fr n0 L ∧ Keep h0 h [ma] ∧ ∃ f, Af Z h ma (.object "java/lang/Object") (2 * r) f) := by
  refine con_of (plainFor_of_name pn_7) (Ls := #[.val (.ref ma), .val (.int (0 : Int32)), .val (.int (4 : Int32)), .val .null, .unset]) (fun m => by first | (simp [entryFrame, mkF, argsToLocals, Value.category]; done) | rfl) ?_
  intro p e s m below meth c s₁ hx hZ hby hml hret hlk hnm hown X0 e0
  refine g_aloadN X0 hx (hb hby d20_0) (v := (.ref ma)) rfl rfl (q := 1) rfl ?_
  refine g_len X0 hx hZ e0 V0 (z := ((2 * r).toInt32)) rfl (hb hby d20_1) (q := 2) rfl ?_
  refine g_iloadN X0 hx (hb hby d20_2) (v := (0 : Int32)) rfl (q := 3) rfl ?_
  refine g_iloadN X0 hx (hb hby d20_3) (v := (4 : Int32)) rfl (q := 4) rfl ?_
  refine g_callS X0 hx hZ hown (hw _ (List.mem_of_getElem? (i := 125) rfl)) (hw _ (List.mem_of_getElem? (i := 126) rfl)) (hw _ (List.mem_of_getElem? (i := 123) rfl)) (hw _ (List.mem_of_getElem? (i := 127) rfl)) (by decide) e0 (rmRC2 l Z a0 hw _ ((own_r32 r hr8).2.2.2.2 hnr) h0) (by exact hml.symm) (argsL := [(.int ((2 * r).toInt32)), (.int (0 : Int32)), (.int (4 : Int32))]) (rest := []) rfl rfl pd_17 rfl (Nat.le_of_ble_eq_true rfl) (Nat.le_of_ble_eq_true rfl) (Nat.le_of_ble_eq_true rfl) (Nat.le_of_ble_eq_true rfl) (hb hby d20_4) (q := 7) rfl (g_pure rfl rfl fun T1743 X1743 e1743 => ?_)
  show Go p e below _ (T1743.setTop (mkF m 7 #[.val (.ref ma), .val (.int (0 : Int32)), .val (.int (4 : Int32)), .val .null, .unset] []))
  refine g_iloadN X1743 hx (hb hby d20_7) (v := (0 : Int32)) rfl (q := 8) rfl ?_
  refine g_istore X1743 hx (hb hby d20_8) (L' := #[.val (.ref ma), .val (.int (0 : Int32)), .val (.int (4 : Int32)), .val .null, .val (.int (0 : Int32))]) rfl (q := 10) rfl ?_
  refine g_iload X1743 hx (hb hby d20_10) (v := (0 : Int32)) rfl (q := 12) rfl ?_
  refine g_iloadN X1743 hx (hb hby d20_12) (v := (4 : Int32)) rfl (q := 13) rfl ?_
  refine g_icmp_ge X1743 hx (hb hby d20_13) (by decide) (q := 27) (by decide) (q2 := 16) rfl (fun hb13 => absurd hb13 (by decide)) (fun hb13 => ?_)
  refine g_aloadN X1743 hx (hb hby d20_16) (v := (.ref ma)) rfl rfl (q := 17) rfl ?_
  refine g_iload X1743 hx (hb hby d20_17) (v := (0 : Int32)) rfl (q := 19) rfl ?_
  refine g_aloadN X1743 hx (hb hby d20_19) (v := .null) rfl rfl (q := 20) rfl ?_
  refine g_aastore X1743 hx hZ e1743 V0 rfl (by decide) (by show 0 < 2 * r; omega) (Or.inl rfl) (hb hby d20_20) (q := 21) rfl fun T1744 h1744 X1744 e1744 W1744 U1744 => ?_
  have N1744 := Fr.snoc X1744 (Fr.nil n0) hge
  have kp_1744 := (Keep.refl h0 [ma]).wr W1744 (Or.inl (List.mem_of_getElem? (i := 0) rfl))
  refine g_iinc X1744 hx (hb hby d20_21) (x := (0 : Int32)) rfl (z := (1 : Int32)) (by decide) (L' := #[.val (.ref ma), .val (.int (0 : Int32)), .val (.int (4 : Int32)), .val .null, .val (.int (1 : Int32))]) rfl (q := 24) rfl ?_
  refine g_goto X1744 hx (hb hby d20_24) (by decide) (q := 10) (by decide) ?_
  refine g_iload X1744 hx (hb hby d20_10) (v := (1 : Int32)) rfl (q := 12) rfl ?_
  refine g_iloadN X1744 hx (hb hby d20_12) (v := (4 : Int32)) rfl (q := 13) rfl ?_
  refine g_icmp_ge X1744 hx (hb hby d20_13) (by decide) (q := 27) (by decide) (q2 := 16) rfl (fun hb13 => absurd hb13 (by decide)) (fun hb13 => ?_)
  refine g_aloadN X1744 hx (hb hby d20_16) (v := (.ref ma)) rfl rfl (q := 17) rfl ?_
  refine g_iload X1744 hx (hb hby d20_17) (v := (1 : Int32)) rfl (q := 19) rfl ?_
  refine g_aloadN X1744 hx (hb hby d20_19) (v := .null) rfl rfl (q := 20) rfl ?_
  refine g_aastore X1744 hx hZ e1744 U1744 rfl (by decide) (by show 1 < 2 * r; omega) (Or.inl rfl) (hb hby d20_20) (q := 21) rfl fun T1745 h1745 X1745 e1745 W1745 U1745 => ?_
  have N1745 := Fr.snoc X1745 N1744 hge
  have kp_1745 := kp_1744.wr W1745 (Or.inl (List.mem_of_getElem? (i := 0) rfl))
  refine g_iinc X1745 hx (hb hby d20_21) (x := (1 : Int32)) rfl (z := (2 : Int32)) (by decide) (L' := #[.val (.ref ma), .val (.int (0 : Int32)), .val (.int (4 : Int32)), .val .null, .val (.int (2 : Int32))]) rfl (q := 24) rfl ?_
  refine g_goto X1745 hx (hb hby d20_24) (by decide) (q := 10) (by decide) ?_
  refine g_iload X1745 hx (hb hby d20_10) (v := (2 : Int32)) rfl (q := 12) rfl ?_
  refine g_iloadN X1745 hx (hb hby d20_12) (v := (4 : Int32)) rfl (q := 13) rfl ?_
  refine g_icmp_ge X1745 hx (hb hby d20_13) (by decide) (q := 27) (by decide) (q2 := 16) rfl (fun hb13 => absurd hb13 (by decide)) (fun hb13 => ?_)
  refine g_aloadN X1745 hx (hb hby d20_16) (v := (.ref ma)) rfl rfl (q := 17) rfl ?_
  refine g_iload X1745 hx (hb hby d20_17) (v := (2 : Int32)) rfl (q := 19) rfl ?_
  refine g_aloadN X1745 hx (hb hby d20_19) (v := .null) rfl rfl (q := 20) rfl ?_
  refine g_aastore X1745 hx hZ e1745 U1745 rfl (by decide) (by show 2 < 2 * r; omega) (Or.inl rfl) (hb hby d20_20) (q := 21) rfl fun T1746 h1746 X1746 e1746 W1746 U1746 => ?_
  have N1746 := Fr.snoc X1746 N1745 hge
  have kp_1746 := kp_1745.wr W1746 (Or.inl (List.mem_of_getElem? (i := 0) rfl))
  refine g_iinc X1746 hx (hb hby d20_21) (x := (2 : Int32)) rfl (z := (3 : Int32)) (by decide) (L' := #[.val (.ref ma), .val (.int (0 : Int32)), .val (.int (4 : Int32)), .val .null, .val (.int (3 : Int32))]) rfl (q := 24) rfl ?_
  refine g_goto X1746 hx (hb hby d20_24) (by decide) (q := 10) (by decide) ?_
  refine g_iload X1746 hx (hb hby d20_10) (v := (3 : Int32)) rfl (q := 12) rfl ?_
  refine g_iloadN X1746 hx (hb hby d20_12) (v := (4 : Int32)) rfl (q := 13) rfl ?_
  refine g_icmp_ge X1746 hx (hb hby d20_13) (by decide) (q := 27) (by decide) (q2 := 16) rfl (fun hb13 => absurd hb13 (by decide)) (fun hb13 => ?_)
  refine g_aloadN X1746 hx (hb hby d20_16) (v := (.ref ma)) rfl rfl (q := 17) rfl ?_
  refine g_iload X1746 hx (hb hby d20_17) (v := (3 : Int32)) rfl (q := 19) rfl ?_
  refine g_aloadN X1746 hx (hb hby d20_19) (v := .null) rfl rfl (q := 20) rfl ?_
  refine g_aastore X1746 hx hZ e1746 U1746 rfl (by decide) (by show 3 < 2 * r; omega) (Or.inl rfl) (hb hby d20_20) (q := 21) rfl fun T1747 h1747 X1747 e1747 W1747 U1747 => ?_
  have N1747 := Fr.snoc X1747 N1746 hge
  have kp_1747 := kp_1746.wr W1747 (Or.inl (List.mem_of_getElem? (i := 0) rfl))
  refine g_iinc X1747 hx (hb hby d20_21) (x := (3 : Int32)) rfl (z := (4 : Int32)) (by decide) (L' := #[.val (.ref ma), .val (.int (0 : Int32)), .val (.int (4 : Int32)), .val .null, .val (.int (4 : Int32))]) rfl (q := 24) rfl ?_
  refine g_goto X1747 hx (hb hby d20_24) (by decide) (q := 10) (by decide) ?_
  refine g_iload X1747 hx (hb hby d20_10) (v := (4 : Int32)) rfl (q := 12) rfl ?_
  refine g_iloadN X1747 hx (hb hby d20_12) (v := (4 : Int32)) rfl (q := 13) rfl ?_
  refine g_icmp_ge X1747 hx (hb hby d20_13) (by decide) (q := 27) (by decide) (q2 := 16) rfl (fun hb13 => ?_) (fun hb13 => absurd hb13 (by decide))
  exact g_retV X1747 hx hret hlk (hb hby d20_27) ⟨rfl, by simpa using N1747, by rw [e1747]; exact kp_1747, _, by rw [e1747]; exact U1747⟩ (Nat.le_of_ble_eq_true rfl) (Nat.le_of_ble_eq_true rfl)
set_option maxRecDepth 65536 in
set_option maxHeartbeats 40000000 in
theorem rmCl2 (l : Launch) (Z : State) (a0 : Array Value) (hw : ∀ d ∈ tables_1, d.before a0 Z = true) (t ma ha : Addr) (r : Nat) (fm fh : Nat → Value) (cg : Int32) (h0 : Heap) (n0 : Nat) (hgt : n0 ≤ t) (TC : TrC Z h0 t (2 : Int32) ma ha r fm fh cg) (hnr : 2 ≤ r) :
    Con l Z h0 (⟨"com/example/kehys/kehys/io/TreeObject", "clear", "()V"⟩ : MethodName) prog_18_method_12_code 1 none ({ frames := 2, cells := 0, slots := 0, locals := 32 } : Room) #[(.ref t)] (fun v h L => v = none ∧ Fr n0 L ∧ Up h0 h t t ∧ Tr0 Z h t) := by
  obtain ⟨E0, F0, F1, F2, F3, F4, V0, O0, A0, V1, tma, tha, nmh, hr8⟩ := TC
  refine con_of (plainFor_of_name pn_5) (Ls := #[.val (.ref t)]) (fun m => by first | (simp [entryFrame, mkF, argsToLocals, Value.category]; done) | rfl) ?_
  intro p e s m below meth c s₁ hx hZ hby hml hret hlk hnm hown X0 e0
  refine g_aloadN X0 hx (hb hby d19_0) (v := (.ref t)) rfl rfl (q := 1) rfl ?_
  refine g_getF X0 hx hZ hown (hw _ (List.mem_of_getElem? (i := 47) rfl)) Via.refl e0 F0 (hb hby d19_1) (q := 4) rfl fun T1748 X1748 e1748 => ?_
  refine g_iconst X1748 hx (hb hby d19_4) (n := (0 : Int32)) (by decide) (q := 5) rfl ?_
  refine g_iconst X1748 hx (hb hby d19_5) (n := (2 : Int32)) (by decide) (q := 6) rfl ?_
  refine g_aloadN X1748 hx (hb hby d19_6) (v := (.ref t)) rfl rfl (q := 7) rfl ?_
  refine g_getF X1748 hx hZ hown (hw _ (List.mem_of_getElem? (i := 57) rfl)) Via.refl e1748 F2 (hb hby d19_7) (q := 10) rfl fun T1749 X1749 e1749 => ?_
  refine g_imul X1749 hx (hb hby d19_10) (z := (4 : Int32)) (by decide) (q := 11) rfl ?_
  refine g_aconst_null X1749 hx (hb hby d19_11) (q := 12) rfl ?_
  refine g_callS X1749 hx hZ hown (hw _ (List.mem_of_getElem? (i := 121) rfl)) (hw _ (List.mem_of_getElem? (i := 122) rfl)) (hw _ (List.mem_of_getElem? (i := 123) rfl)) (hw _ (List.mem_of_getElem? (i := 124) rfl)) (by decide) e1749 (rmFl2 l Z a0 hw ma r fm h0 n0 (Nat.le_trans hgt (Nat.le_of_lt tma)) hr8 hnr V0) (by exact hml.symm) (argsL := [(.ref ma), (.int (0 : Int32)), (.int (4 : Int32)), .null]) (rest := []) rfl rfl pd_18 rfl (Nat.le_of_ble_eq_true rfl) (Nat.le_of_ble_eq_true rfl) (Nat.le_of_ble_eq_true rfl) (Nat.le_of_ble_eq_true rfl) (hb hby d19_12) (q := 15) rfl (fun v1750 T1750 L1750 X1750 hQ1750 => ?_)
  generalize e1750 : T1750.heap = h1750 at hQ1750
  obtain ⟨rfl, M1750, K1750, f1750, V1750⟩ := hQ1750
  have N1750 := Fr.app (Fr.nil n0) M1750
  have kp_1750 := (Keep.refl h0 [t, ma]).trans K1750 (allS (P := fun x => x ∈ [t, ma] ∨ h0.size ≤ x) (Or.inl (List.mem_of_getElem? (i := 1) rfl)) all0)
  have f1751 := (E0.keep K1750)
  have f1752 := (F0.keep K1750 (ninS (Nat.ne_of_lt tma) nin0))
  have f1753 := (F1.keep K1750 (ninS (Nat.ne_of_lt tma) nin0))
  have f1754 := (F2.keep K1750 (ninS (Nat.ne_of_lt tma) nin0))
  have f1755 := (F3.keep K1750 (ninS (Nat.ne_of_lt tma) nin0))
  have f1756 := (F4.keep K1750 (ninS (Nat.ne_of_lt tma) nin0))
  have f1757 := (O0.keep K1750)
  have f1758 := (A0.keep K1750)
  have f1759 := (V1.keep K1750 (ninS (Ne.symm nmh) nin0))
  show Go p e below _ (T1750.setTop (mkF m 15 #[.val (.ref t)] []))
  refine g_aloadN X1750 hx (hb hby d19_15) (v := (.ref t)) rfl rfl (q := 16) rfl ?_
  refine g_iconst X1750 hx (hb hby d19_16) (n := (0 : Int32)) (by decide) (q := 17) rfl ?_
  refine g_putF X1750 hx hZ hown (hw _ (List.mem_of_getElem? (i := 57) rfl)) Via.refl e1750 f1754 f1751 (Or.inl (hw _ (List.mem_of_getElem? (i := 58) rfl))) (hw _ (List.mem_of_getElem? (i := 34) rfl)) (ty := .int) (by decide) rfl rfl (hb hby d19_17) (q := 20) rfl fun T1760 h1760 X1760 e1760 W1760 => ?_
  have fw1760 := f1754.same W1760
  have N1760 := Fr.snoc X1760 N1750 hgt
  have kp_1760 := kp_1750.wr W1760 (Or.inl (List.mem_of_getElem? (i := 0) rfl))
  have f1761 := (f1751.wr W1760)
  have f1762 := (f1752.other W1760 (Or.inr (slot_ne (Or.inl (hw _ (List.mem_of_getElem? (i := 48) rfl))) (Or.inl (hw _ (List.mem_of_getElem? (i := 58) rfl))) (by decide) (t := (.array (.object "java/lang/Object"))) (t' := .int) (by decide) (by decide))))
  have f1763 := (f1753.other W1760 (Or.inr (slot_ne (Or.inl (hw _ (List.mem_of_getElem? (i := 51) rfl))) (Or.inl (hw _ (List.mem_of_getElem? (i := 58) rfl))) (by decide) (t := (.array .int)) (t' := .int) (by decide) (by decide))))
  have f1764 := (f1755.other W1760 (Or.inr (slot_ne (Or.inl (hw _ (List.mem_of_getElem? (i := 74) rfl))) (Or.inl (hw _ (List.mem_of_getElem? (i := 58) rfl))) (by decide) (t := (.object "java/util/Map")) (t' := .int) (by decide) (by decide))))
  have f1765 := (f1756.other W1760 (Or.inr (slot_ne (Or.inl (hw _ (List.mem_of_getElem? (i := 110) rfl))) (Or.inl (hw _ (List.mem_of_getElem? (i := 58) rfl))) (by decide) (t := .int) (t' := .int) (by decide) (by decide))))
  have f1766 := (V1750.other W1760 (Ne.symm (Nat.ne_of_lt tma)))
  have f1767 := (f1757.wr W1760)
  have f1768 := (f1758.wr W1760)
  have f1769 := (f1759.other W1760 (Ne.symm (Nat.ne_of_lt tha)))
  refine g_aloadN X1760 hx (hb hby d19_20) (v := (.ref t)) rfl rfl (q := 21) rfl ?_
  refine g_aconst_null X1760 hx (hb hby d19_21) (q := 22) rfl ?_
  refine g_putF X1760 hx hZ hown (hw _ (List.mem_of_getElem? (i := 73) rfl)) Via.refl e1760 f1764 f1761 (Or.inl (hw _ (List.mem_of_getElem? (i := 74) rfl))) (hw _ (List.mem_of_getElem? (i := 34) rfl)) (ty := (.object "java/util/Map")) (by decide) rfl rfl (hb hby d19_22) (q := 25) rfl fun T1770 h1770 X1770 e1770 W1770 => ?_
  have fw1770 := f1764.same W1770
  have N1770 := Fr.snoc X1770 N1760 hgt
  have kp_1770 := kp_1760.wr W1770 (Or.inl (List.mem_of_getElem? (i := 0) rfl))
  have f1771 := (f1761.wr W1770)
  have f1772 := (f1762.other W1770 (Or.inr (slot_ne (Or.inl (hw _ (List.mem_of_getElem? (i := 48) rfl))) (Or.inl (hw _ (List.mem_of_getElem? (i := 74) rfl))) (by decide) (t := (.array (.object "java/lang/Object"))) (t' := (.object "java/util/Map")) (by decide) (by decide))))
  have f1773 := (f1763.other W1770 (Or.inr (slot_ne (Or.inl (hw _ (List.mem_of_getElem? (i := 51) rfl))) (Or.inl (hw _ (List.mem_of_getElem? (i := 74) rfl))) (by decide) (t := (.array .int)) (t' := (.object "java/util/Map")) (by decide) (by decide))))
  have f1774 := (fw1760.other W1770 (Or.inr (slot_ne (Or.inl (hw _ (List.mem_of_getElem? (i := 58) rfl))) (Or.inl (hw _ (List.mem_of_getElem? (i := 74) rfl))) (by decide) (t := .int) (t' := (.object "java/util/Map")) (by decide) (by decide))))
  have f1775 := (f1765.other W1770 (Or.inr (slot_ne (Or.inl (hw _ (List.mem_of_getElem? (i := 110) rfl))) (Or.inl (hw _ (List.mem_of_getElem? (i := 74) rfl))) (by decide) (t := .int) (t' := (.object "java/util/Map")) (by decide) (by decide))))
  have f1776 := (f1766.other W1770 (Ne.symm (Nat.ne_of_lt tma)))
  have f1777 := (f1767.wr W1770)
  have f1778 := (f1768.wr W1770)
  have f1779 := (f1769.other W1770 (Ne.symm (Nat.ne_of_lt tha)))
  refine g_aloadN X1770 hx (hb hby d19_25) (v := (.ref t)) rfl rfl (q := 26) rfl ?_
  refine g_dup X1770 hx (hb hby d19_26) rfl (q := 27) rfl ?_
  refine g_getF X1770 hx hZ hown (hw _ (List.mem_of_getElem? (i := 109) rfl)) Via.refl e1770 f1775 (hb hby d19_27) (q := 30) rfl fun T1780 X1780 e1780 => ?_
  refine g_iconst X1780 hx (hb hby d19_30) (n := (1 : Int32)) (by decide) (q := 31) rfl ?_
  refine g_iadd X1780 hx (hb hby d19_31) (z := (cg + (1 : Int32))) rfl (q := 32) rfl ?_
  refine g_putF X1780 hx hZ hown (hw _ (List.mem_of_getElem? (i := 109) rfl)) Via.refl e1780 f1775 f1771 (Or.inl (hw _ (List.mem_of_getElem? (i := 110) rfl))) (hw _ (List.mem_of_getElem? (i := 34) rfl)) (ty := .int) (by decide) rfl rfl (hb hby d19_32) (q := 35) rfl fun T1781 h1781 X1781 e1781 W1781 => ?_
  have fw1781 := f1775.same W1781
  have N1781 := Fr.snoc X1781 N1770 hgt
  have kp_1781 := kp_1770.wr W1781 (Or.inl (List.mem_of_getElem? (i := 0) rfl))
  have f1782 := (f1771.wr W1781)
  have f1783 := (f1772.other W1781 (Or.inr (slot_ne (Or.inl (hw _ (List.mem_of_getElem? (i := 48) rfl))) (Or.inl (hw _ (List.mem_of_getElem? (i := 110) rfl))) (by decide) (t := (.array (.object "java/lang/Object"))) (t' := .int) (by decide) (by decide))))
  have f1784 := (f1773.other W1781 (Or.inr (slot_ne (Or.inl (hw _ (List.mem_of_getElem? (i := 51) rfl))) (Or.inl (hw _ (List.mem_of_getElem? (i := 110) rfl))) (by decide) (t := (.array .int)) (t' := .int) (by decide) (by decide))))
  have f1785 := (f1774.other W1781 (Or.inr (slot_ne (Or.inl (hw _ (List.mem_of_getElem? (i := 58) rfl))) (Or.inl (hw _ (List.mem_of_getElem? (i := 110) rfl))) (by decide) (t := .int) (t' := .int) (by decide) (by decide))))
  have f1786 := (fw1770.other W1781 (Or.inr (slot_ne (Or.inl (hw _ (List.mem_of_getElem? (i := 74) rfl))) (Or.inl (hw _ (List.mem_of_getElem? (i := 110) rfl))) (by decide) (t := (.object "java/util/Map")) (t' := .int) (by decide) (by decide))))
  have f1787 := (f1776.other W1781 (Ne.symm (Nat.ne_of_lt tma)))
  have f1788 := (f1777.wr W1781)
  have f1789 := (f1778.wr W1781)
  have f1790 := (f1779.other W1781 (Ne.symm (Nat.ne_of_lt tha)))
  exact g_retV X1781 hx hret hlk (hb hby d19_35) ⟨rfl, by simpa using N1781, ⟨[t, ma], by rw [e1781]; exact kp_1781, own_all2 E0 A0 tma⟩, ma, ha, r, _, _, _, ⟨by rw [e1781]; exact f1782, by rw [e1781]; exact f1783, by rw [e1781]; exact f1784, by rw [e1781]; exact f1785, by rw [e1781]; exact f1786, by rw [e1781]; exact fw1781, by rw [e1781]; exact f1787, by rw [e1781]; exact f1788, by rw [e1781]; exact f1789, by rw [e1781]; exact f1790, tma, tha, nmh, hr8⟩⟩ (Nat.le_of_ble_eq_true rfl) (Nat.le_of_ble_eq_true rfl)
theorem rmTI (l : Launch) (Z : State) (a0 : Array Value) (hw : ∀ d ∈ tables_1, d.before a0 Z = true) (t : Addr) (room : Int32) (hroom : room = (-1 : Int32) ∨ room = (0 : Int32) ∨ room = (1 : Int32) ∨ room = (2 : Int32) ∨ room = (3 : Int32) ∨ room = (4 : Int32) ∨ room = (5 : Int32) ∨ room = (6 : Int32)) (h0 : Heap) (n0 : Nat) (Z0 : n0 ≤ h0.size) (hge : n0 ≤ t) (E0 : Exa Z h0 t "com/example/kehys/kehys/io/TreeObject") (F0 : Fld Z h0 t "com/example/kehys/kehys/io/TreeObject" "members" "[Ljava/lang/Object;" .null) (F1 : Fld Z h0 t "com/example/kehys/kehys/io/TreeObject" "hashes" "[I" .null) (F2 : Fld Z h0 t "com/example/kehys/kehys/io/TreeObject" "size" "I" (.int (0 : Int32))) (F3 : Fld Z h0 t "com/example/kehys/kehys/io/TreeObject" "index" "Ljava/util/Map;" .null) (F4 : Fld Z h0 t "com/example/kehys/kehys/io/TreeObject" "changes" "I" (.int (0 : Int32))) :
    Con l Z h0 (⟨"com/example/kehys/kehys/io/TreeObject", "<init>", "(I)V"⟩ : MethodName) prog_18_method_1_code 3 none ({ frames := 2, cells := 2, slots := 18, locals := 26 } : Room) #[(.ref t), (.int room)] (fun v h L => v = none ∧ Fr n0 L ∧ Keep h0 h [t] ∧ Tr0 Z h t) := by
  rcases hroom with rfl | rfl | rfl | rfl | rfl | rfl | rfl | rfl
  · exact rmTI0 l Z a0 hw t h0 n0 Z0 hge E0 F0 F1 F2 F3 F4
  · exact rmTI1 l Z a0 hw t h0 n0 Z0 hge E0 F0 F1 F2 F3 F4
  · exact rmTI2 l Z a0 hw t h0 n0 Z0 hge E0 F0 F1 F2 F3 F4
  · exact rmTI3 l Z a0 hw t h0 n0 Z0 hge E0 F0 F1 F2 F3 F4
  · exact rmTI4 l Z a0 hw t h0 n0 Z0 hge E0 F0 F1 F2 F3 F4
  · exact rmTI5 l Z a0 hw t h0 n0 Z0 hge E0 F0 F1 F2 F3 F4
  · exact rmTI6 l Z a0 hw t h0 n0 Z0 hge E0 F0 F1 F2 F3 F4
  · exact rmTI7 l Z a0 hw t h0 n0 Z0 hge E0 F0 F1 F2 F3 F4
set_option maxRecDepth 65536 in
set_option maxHeartbeats 40000000 in
theorem rmEs (l : Launch) (Z : State) (a0 : Array Value) (hw : ∀ d ∈ tables_1, d.before a0 Z = true) (t : Addr) (nz : Int32) (h0 : Heap) (F2 : Fld Z h0 t "com/example/kehys/kehys/io/TreeObject" "size" "I" (.int nz)) :
    Con l Z h0 (⟨"com/example/kehys/kehys/io/TreeObject", "isEmpty", "()Z"⟩ : MethodName) prog_18_method_3_code 1 (some .boolean) ({ frames := 0, cells := 0, slots := 0, locals := 0 } : Room) #[(.ref t)] (Pur (some (.int (if nz = 0 then (1 : Int32) else 0))) h0) := by
  refine con_of (plainFor_of_name pn_5) (Ls := #[.val (.ref t)]) (fun m => by first | (simp [entryFrame, mkF, argsToLocals, Value.category]; done) | rfl) ?_
  intro p e s m below meth c s₁ hx hZ hby hml hret hlk hnm hown X0 e0
  refine g_aloadN X0 hx (hb hby d9_0) (v := (.ref t)) rfl rfl (q := 1) rfl ?_
  refine g_getF X0 hx hZ hown (hw _ (List.mem_of_getElem? (i := 57) rfl)) Via.refl e0 F2 (hb hby d9_1) (q := 4) rfl fun T1791 X1791 e1791 => ?_
  refine g_if_ne X1791 hx (hb hby d9_4) (by decide) (q := 11) (by decide) (q2 := 7) rfl (fun hb4 => ?_) (fun hb4 => ?_)
  · refine g_iconst X1791 hx (hb hby d9_11) (n := (0 : Int32)) (by decide) (q := 12) rfl ?_
    exact g_retB X1791 hx hret hlk (hb hby d9_12) (by decide) ⟨by rw [if_neg hb4], rfl, e1791⟩ (Nat.le_of_ble_eq_true rfl) (Nat.le_of_ble_eq_true rfl)
  · refine g_iconst X1791 hx (hb hby d9_7) (n := (1 : Int32)) (by decide) (q := 8) rfl ?_
    refine g_goto X1791 hx (hb hby d9_8) (by decide) (q := 12) (by decide) ?_
    exact g_retB X1791 hx hret hlk (hb hby d9_12) (by decide) ⟨by rw [if_pos hb4], rfl, e1791⟩ (Nat.le_of_ble_eq_true rfl) (Nat.le_of_ble_eq_true rfl)
set_option maxRecDepth 65536 in
set_option maxHeartbeats 40000000 in
theorem rmZs (l : Launch) (Z : State) (a0 : Array Value) (hw : ∀ d ∈ tables_1, d.before a0 Z = true) (t : Addr) (nz : Int32) (h0 : Heap) (F2 : Fld Z h0 t "com/example/kehys/kehys/io/TreeObject" "size" "I" (.int nz)) :
    Con l Z h0 (⟨"com/example/kehys/kehys/io/TreeObject", "size", "()I"⟩ : MethodName) prog_18_method_2_code 1 (some .int) ({ frames := 0, cells := 0, slots := 0, locals := 0 } : Room) #[(.ref t)] (Pur (some (.int nz)) h0) := by
  refine con_of (plainFor_of_name pn_5) (Ls := #[.val (.ref t)]) (fun m => by first | (simp [entryFrame, mkF, argsToLocals, Value.category]; done) | rfl) ?_
  intro p e s m below meth c s₁ hx hZ hby hml hret hlk hnm hown X0 e0
  refine g_aloadN X0 hx (hb hby d10_0) (v := (.ref t)) rfl rfl (q := 1) rfl ?_
  refine g_getF X0 hx hZ hown (hw _ (List.mem_of_getElem? (i := 57) rfl)) Via.refl e0 F2 (hb hby d10_1) (q := 4) rfl fun T1792 X1792 e1792 => ?_
  exact g_retI X1792 hx hret hlk (hb hby d10_4) ⟨rfl, rfl, e1792⟩ (Nat.le_of_ble_eq_true rfl) (Nat.le_of_ble_eq_true rfl)
set_option maxRecDepth 65536 in
set_option maxHeartbeats 40000000 in
theorem rm0 (l : Launch) (Z : State) (a0 : Array Value) (hw : ∀ d ∈ tables_1, d.before a0 Z = true) (ia ib ic ops room ca cb cc cs : Int32) (ca_ mr : Addr) (fc : Nat → Value) (h0 : Heap) (n0 : Nat) (Z0 : n0 ≤ h0.size) (hroom : (ops &&& (7 : Int32)) - (1 : Int32) = room) (hr8 : room = (-1 : Int32) ∨ room = (0 : Int32) ∨ room = (1 : Int32) ∨ room = (2 : Int32) ∨ room = (3 : Int32) ∨ room = (4 : Int32) ∨ room = (5 : Int32) ∨ room = (6 : Int32)) (hca : (ia &&& (255 : Int32)).toUInt32.toUInt16.toUInt32.toInt32 = ca) (hca1 : ¬ (255 : Int32) < ca) (hca2 : ca.toInt8.toInt32 &&& (255 : Int32) = ca) (hcb : (ib &&& (255 : Int32)).toUInt32.toUInt16.toUInt32.toInt32 = cb) (hcb1 : ¬ (255 : Int32) < cb) (hcb2 : cb.toInt8.toInt32 &&& (255 : Int32) = cb) (hcc : (ic &&& (255 : Int32)).toUInt32.toUInt16.toUInt32.toInt32 = cc) (hcc1 : ¬ (255 : Int32) < cc) (hcc2 : cc.toInt8.toInt32 &&& (255 : Int32) = cc) (hcs : ¬ cs = 0) (SC : Sta Z h0 "java/lang/String" "COMPACT_STRINGS" "Z" (.int cs)) (SH : Sta Z h0 "java/lang/Integer$IntegerCache" "high" "I" (.int (127 : Int32))) (SA : Sta Z h0 "java/lang/Integer$IntegerCache" "cache" "[Ljava/lang/Integer;" (.ref ca_)) (CH : Ch Z h0 ca_ fc) (MR : Mr Z "[Ljava/lang/Object;" mr) :
    ConW l Z h0 x code maxLocals ret room_1 #[(.int ia), (.int ib), (.int ic), (.int ops)] (fun v h L => v = some (.int 1) ∧ Fr n0 L) := by
  refine con_ofW (plainFor_of_name pn_8) (Ls := #[.val (.int ia), .val (.int ib), .val (.int ic), .val (.int ops), .unset, .unset, .unset, .unset, .unset, .unset, .unset, .unset, .unset, .unset, .unset, .unset, .unset, .unset, .unset, .unset, .unset, .unset]) (fun m => by first | (simp [entryFrame, mkF, argsToLocals, Value.category, maxLocals]; done) | rfl) ?_
  intro p e s m below meth c s₁ vm0 k0 hx hZ hby hml hret hlk hnm hown X0 e0 hS hk
  have J23 : ∀ (z5 : Int32) (hz5 : z5 = 0 ∨ z5 = 1), Go p e below (WdW s below (fun v h L => v = some (.int 1) ∧ Fr n0 L) room_1.cells room_1.slots) (s₁.setTop (mkF m 23 #[.val (.int ia), .val (.int ib), .val (.int ic), .val (.int ops), .val (.int room), .val (.int z5), .unset, .unset, .unset, .unset, .unset, .unset, .unset, .unset, .unset, .unset, .unset, .unset, .unset, .unset, .unset, .unset] [])) := by
    intro z5 hz5
    have J38 : ∀ (z6 : Int32) (hz6 : z6 = 0 ∨ z6 = 1), Go p e below (WdW s below (fun v h L => v = some (.int 1) ∧ Fr n0 L) room_1.cells room_1.slots) (s₁.setTop (mkF m 38 #[.val (.int ia), .val (.int ib), .val (.int ic), .val (.int ops), .val (.int room), .val (.int z5), .val (.int z6), .unset, .unset, .unset, .unset, .unset, .unset, .unset, .unset, .unset, .unset, .unset, .unset, .unset, .unset, .unset] [])) := by
      intro z6 hz6
      have J53 : ∀ (z7 : Int32) (hz7 : z7 = 0 ∨ z7 = 1), Go p e below (WdW s below (fun v h L => v = some (.int 1) ∧ Fr n0 L) room_1.cells room_1.slots) (s₁.setTop (mkF m 53 #[.val (.int ia), .val (.int ib), .val (.int ic), .val (.int ops), .val (.int room), .val (.int z5), .val (.int z6), .val (.int z7), .unset, .unset, .unset, .unset, .unset, .unset, .unset, .unset, .unset, .unset, .unset, .unset, .unset, .unset] [])) := by
        intro z7 hz7
        have J69 : ∀ (z8 : Int32) (hz8 : z8 = 0 ∨ z8 = 1), Go p e below (WdW s below (fun v h L => v = some (.int 1) ∧ Fr n0 L) room_1.cells room_1.slots) (s₁.setTop (mkF m 69 #[.val (.int ia), .val (.int ib), .val (.int ic), .val (.int ops), .val (.int room), .val (.int z5), .val (.int z6), .val (.int z7), .val (.int z8), .unset, .unset, .unset, .unset, .unset, .unset, .unset, .unset, .unset, .unset, .unset, .unset, .unset] [])) := by
          intro z8 hz8
          have J85 : ∀ (z9 : Int32) (hz9 : z9 = 0 ∨ z9 = 1), Go p e below (WdW s below (fun v h L => v = some (.int 1) ∧ Fr n0 L) room_1.cells room_1.slots) (s₁.setTop (mkF m 85 #[.val (.int ia), .val (.int ib), .val (.int ic), .val (.int ops), .val (.int room), .val (.int z5), .val (.int z6), .val (.int z7), .val (.int z8), .val (.int z9), .unset, .unset, .unset, .unset, .unset, .unset, .unset, .unset, .unset, .unset, .unset, .unset] [])) := by
            intro z9 hz9
            refine g_iloadN X0 hx (hb hby at_85) (v := ia) rfl (q := 86) rfl ?_
            refine g_sipush X0 hx (hb hby at_86) (n := (255 : Int32)) (by decide) (q := 89) rfl ?_
            refine g_iand X0 hx (hb hby at_89) (z := (ia &&& (255 : Int32))) rfl (q := 90) rfl ?_
            refine g_i2c X0 hx (hb hby at_90) (z := ca) hca (q := 91) rfl ?_
            refine g_istore X0 hx (hb hby at_91) (L' := #[.val (.int ia), .val (.int ib), .val (.int ic), .val (.int ops), .val (.int room), .val (.int z5), .val (.int z6), .val (.int z7), .val (.int z8), .val (.int z9), .val (.int ca), .unset, .unset, .unset, .unset, .unset, .unset, .unset, .unset, .unset, .unset, .unset]) rfl (q := 93) rfl ?_
            refine g_iloadN X0 hx (hb hby at_93) (v := ib) rfl (q := 94) rfl ?_
            refine g_sipush X0 hx (hb hby at_94) (n := (255 : Int32)) (by decide) (q := 97) rfl ?_
            refine g_iand X0 hx (hb hby at_97) (z := (ib &&& (255 : Int32))) rfl (q := 98) rfl ?_
            refine g_i2c X0 hx (hb hby at_98) (z := cb) hcb (q := 99) rfl ?_
            refine g_istore X0 hx (hb hby at_99) (L' := #[.val (.int ia), .val (.int ib), .val (.int ic), .val (.int ops), .val (.int room), .val (.int z5), .val (.int z6), .val (.int z7), .val (.int z8), .val (.int z9), .val (.int ca), .val (.int cb), .unset, .unset, .unset, .unset, .unset, .unset, .unset, .unset, .unset, .unset]) rfl (q := 101) rfl ?_
            refine g_iloadN X0 hx (hb hby at_101) (v := ic) rfl (q := 102) rfl ?_
            refine g_sipush X0 hx (hb hby at_102) (n := (255 : Int32)) (by decide) (q := 105) rfl ?_
            refine g_iand X0 hx (hb hby at_105) (z := (ic &&& (255 : Int32))) rfl (q := 106) rfl ?_
            refine g_i2c X0 hx (hb hby at_106) (z := cc) hcc (q := 107) rfl ?_
            refine g_istore X0 hx (hb hby at_107) (L' := #[.val (.int ia), .val (.int ib), .val (.int ic), .val (.int ops), .val (.int room), .val (.int z5), .val (.int z6), .val (.int z7), .val (.int z8), .val (.int z9), .val (.int ca), .val (.int cb), .val (.int cc), .unset, .unset, .unset, .unset, .unset, .unset, .unset, .unset, .unset]) rfl (q := 109) rfl ?_
            refine g_iload X0 hx (hb hby at_109) (v := ca) rfl (q := 111) rfl ?_
            refine g_callS X0 hx hZ hown (hw _ (List.mem_of_getElem? (i := 0) rfl)) (hw _ (List.mem_of_getElem? (i := 1) rfl)) (hw _ (List.mem_of_getElem? (i := 2) rfl)) (hw _ (List.mem_of_getElem? (i := 3) rfl)) (by decide) e0 (rmVO l Z a0 hw ca cs hca1 hca2 hcs h0 n0 Z0 SC) (by exact hml.symm) (argsL := [(.int ca)]) (rest := []) rfl rfl pd_19 rfl (Nat.le_of_ble_eq_true rfl) (Nat.le_of_ble_eq_true rfl) (Nat.le_of_ble_eq_true rfl) (Nat.le_of_ble_eq_true rfl) (hb hby at_111) (q := 114) rfl (fun v1793 T1793 L1793 X1793 hQ1793 => ?_)
            generalize e1793 : T1793.heap = h1793 at hQ1793
            obtain ⟨s0, v0, rfl, M1793, K1793, g1793, l1793, U1793⟩ := hQ1793
            have gv1793 := Nat.le_trans g1793 (Nat.le_of_lt l1793)
            have ge_s0 : n0 ≤ s0 := Nat.le_trans Z0 g1793
            have ge_v0 : n0 ≤ v0 := Nat.le_trans Z0 gv1793
            have N1793 := Fr.app (Fr.nil n0) M1793
            have z_1793 := Nat.le_trans Z0 K1793.1
            have hk_1793 := Nat.le_trans hk K1793.1
            have f1794 := (own_sta_keep SC K1793 ns0)
            have f1795 := (own_sta_keep SH K1793 ns0)
            have f1796 := (own_sta_keep SA K1793 ns0)
            have f1797 := (CH.keep K1793)
            show Go p e below _ (T1793.setTop (mkF m 114 #[.val (.int ia), .val (.int ib), .val (.int ic), .val (.int ops), .val (.int room), .val (.int z5), .val (.int z6), .val (.int z7), .val (.int z8), .val (.int z9), .val (.int ca), .val (.int cb), .val (.int cc), .unset, .unset, .unset, .unset, .unset, .unset, .unset, .unset, .unset] [(.ref s0)]))
            refine g_astore X1793 hx (hb hby at_114) rfl (L' := #[.val (.int ia), .val (.int ib), .val (.int ic), .val (.int ops), .val (.int room), .val (.int z5), .val (.int z6), .val (.int z7), .val (.int z8), .val (.int z9), .val (.int ca), .val (.int cb), .val (.int cc), .val (.ref s0), .unset, .unset, .unset, .unset, .unset, .unset, .unset, .unset]) rfl (q := 116) rfl ?_
            refine g_iload X1793 hx (hb hby at_116) (v := cb) rfl (q := 118) rfl ?_
            refine g_callS X1793 hx hZ hown (hw _ (List.mem_of_getElem? (i := 0) rfl)) (hw _ (List.mem_of_getElem? (i := 1) rfl)) (hw _ (List.mem_of_getElem? (i := 2) rfl)) (hw _ (List.mem_of_getElem? (i := 3) rfl)) (by decide) e1793 (rmVO l Z a0 hw cb cs hcb1 hcb2 hcs h1793 n0 z_1793 f1794) (by exact hml.symm) (argsL := [(.int cb)]) (rest := []) rfl rfl pd_19 rfl (Nat.le_of_ble_eq_true rfl) (Nat.le_of_ble_eq_true rfl) (Nat.le_of_ble_eq_true rfl) (Nat.le_of_ble_eq_true rfl) (hb hby at_118) (q := 121) rfl (fun v1798 T1798 L1798 X1798 hQ1798 => ?_)
            generalize e1798 : T1798.heap = h1798 at hQ1798
            obtain ⟨s1, v1, rfl, M1798, K1798, g1798, l1798, U1798⟩ := hQ1798
            have gv1798 := Nat.le_trans g1798 (Nat.le_of_lt l1798)
            have ne_s0_s1 : s0 ≠ s1 := Nat.ne_of_lt (Nat.lt_of_lt_of_le U1793.lt g1798)
            have ne_v0_s1 : v0 ≠ s1 := Nat.ne_of_lt (Nat.lt_of_lt_of_le U1793.vlt g1798)
            have ge_s1 : n0 ≤ s1 := Nat.le_trans z_1793 g1798
            have ne_s0_v1 : s0 ≠ v1 := Nat.ne_of_lt (Nat.lt_of_lt_of_le U1793.lt gv1798)
            have ne_v0_v1 : v0 ≠ v1 := Nat.ne_of_lt (Nat.lt_of_lt_of_le U1793.vlt gv1798)
            have ge_v1 : n0 ≤ v1 := Nat.le_trans z_1793 gv1798
            have N1798 := Fr.app N1793 M1798
            have z_1798 := Nat.le_trans z_1793 K1798.1
            have hk_1798 := Nat.le_trans hk_1793 K1798.1
            have f1799 := (own_sta_keep f1794 K1798 ns0)
            have f1800 := (own_sta_keep f1795 K1798 ns0)
            have f1801 := (own_sta_keep f1796 K1798 ns0)
            have f1802 := (f1797.keep K1798)
            have f1803 := (U1793.keep K1798 nin0 nin0)
            show Go p e below _ (T1798.setTop (mkF m 121 #[.val (.int ia), .val (.int ib), .val (.int ic), .val (.int ops), .val (.int room), .val (.int z5), .val (.int z6), .val (.int z7), .val (.int z8), .val (.int z9), .val (.int ca), .val (.int cb), .val (.int cc), .val (.ref s0), .unset, .unset, .unset, .unset, .unset, .unset, .unset, .unset] [(.ref s1)]))
            refine g_astore X1798 hx (hb hby at_121) rfl (L' := #[.val (.int ia), .val (.int ib), .val (.int ic), .val (.int ops), .val (.int room), .val (.int z5), .val (.int z6), .val (.int z7), .val (.int z8), .val (.int z9), .val (.int ca), .val (.int cb), .val (.int cc), .val (.ref s0), .val (.ref s1), .unset, .unset, .unset, .unset, .unset, .unset, .unset]) rfl (q := 123) rfl ?_
            refine g_iload X1798 hx (hb hby at_123) (v := cc) rfl (q := 125) rfl ?_
            refine g_callS X1798 hx hZ hown (hw _ (List.mem_of_getElem? (i := 0) rfl)) (hw _ (List.mem_of_getElem? (i := 1) rfl)) (hw _ (List.mem_of_getElem? (i := 2) rfl)) (hw _ (List.mem_of_getElem? (i := 3) rfl)) (by decide) e1798 (rmVO l Z a0 hw cc cs hcc1 hcc2 hcs h1798 n0 z_1798 f1799) (by exact hml.symm) (argsL := [(.int cc)]) (rest := []) rfl rfl pd_19 rfl (Nat.le_of_ble_eq_true rfl) (Nat.le_of_ble_eq_true rfl) (Nat.le_of_ble_eq_true rfl) (Nat.le_of_ble_eq_true rfl) (hb hby at_125) (q := 128) rfl (fun v1804 T1804 L1804 X1804 hQ1804 => ?_)
            generalize e1804 : T1804.heap = h1804 at hQ1804
            obtain ⟨s2, v2, rfl, M1804, K1804, g1804, l1804, U1804⟩ := hQ1804
            have gv1804 := Nat.le_trans g1804 (Nat.le_of_lt l1804)
            have ne_s0_s2 : s0 ≠ s2 := Nat.ne_of_lt (Nat.lt_of_lt_of_le f1803.lt g1804)
            have ne_s1_s2 : s1 ≠ s2 := Nat.ne_of_lt (Nat.lt_of_lt_of_le U1798.lt g1804)
            have ne_v0_s2 : v0 ≠ s2 := Nat.ne_of_lt (Nat.lt_of_lt_of_le f1803.vlt g1804)
            have ne_v1_s2 : v1 ≠ s2 := Nat.ne_of_lt (Nat.lt_of_lt_of_le U1798.vlt g1804)
            have ge_s2 : n0 ≤ s2 := Nat.le_trans z_1798 g1804
            have ne_s0_v2 : s0 ≠ v2 := Nat.ne_of_lt (Nat.lt_of_lt_of_le f1803.lt gv1804)
            have ne_s1_v2 : s1 ≠ v2 := Nat.ne_of_lt (Nat.lt_of_lt_of_le U1798.lt gv1804)
            have ne_v0_v2 : v0 ≠ v2 := Nat.ne_of_lt (Nat.lt_of_lt_of_le f1803.vlt gv1804)
            have ne_v1_v2 : v1 ≠ v2 := Nat.ne_of_lt (Nat.lt_of_lt_of_le U1798.vlt gv1804)
            have ge_v2 : n0 ≤ v2 := Nat.le_trans z_1798 gv1804
            have N1804 := Fr.app N1798 M1804
            have z_1804 := Nat.le_trans z_1798 K1804.1
            have hk_1804 := Nat.le_trans hk_1798 K1804.1
            have f1805 := (own_sta_keep f1799 K1804 ns0)
            have f1806 := (own_sta_keep f1800 K1804 ns0)
            have f1807 := (own_sta_keep f1801 K1804 ns0)
            have f1808 := (f1802.keep K1804)
            have f1809 := (f1803.keep K1804 nin0 nin0)
            have f1810 := (U1798.keep K1804 nin0 nin0)
            show Go p e below _ (T1804.setTop (mkF m 128 #[.val (.int ia), .val (.int ib), .val (.int ic), .val (.int ops), .val (.int room), .val (.int z5), .val (.int z6), .val (.int z7), .val (.int z8), .val (.int z9), .val (.int ca), .val (.int cb), .val (.int cc), .val (.ref s0), .val (.ref s1), .unset, .unset, .unset, .unset, .unset, .unset, .unset] [(.ref s2)]))
            refine g_astore X1804 hx (hb hby at_128) rfl (L' := #[.val (.int ia), .val (.int ib), .val (.int ic), .val (.int ops), .val (.int room), .val (.int z5), .val (.int z6), .val (.int z7), .val (.int z8), .val (.int z9), .val (.int ca), .val (.int cb), .val (.int cc), .val (.ref s0), .val (.ref s1), .val (.ref s2), .unset, .unset, .unset, .unset, .unset, .unset]) rfl (q := 130) rfl ?_
            have J143 : ∀ (T5 : State) (h5 : Heap) (L5 : List Loc) (val : Value) (X5 : Stand p l e room_1 (s.setVm vm0) m #[(.int ia), (.int ib), (.int ic), (.int ops)] below meth c T5 L5 7 16) (e5 : T5.heap = h5) (N5 : Fr n0 L5) (Z5 : n0 ≤ h5.size) (HK5 : k0 ≤ h5.size) (SC5 : Sta Z h5 "java/lang/String" "COMPACT_STRINGS" "Z" (.int cs)) (S50 : Str Z h5 s0 v0 ca) (S51 : Str Z h5 s1 v1 cb) (S52 : Str Z h5 s2 v2 cc) (VV : Vok Z h5 val), Go p e below (WdW s below (fun v h L => v = some (.int 1) ∧ Fr n0 L) room_1.cells room_1.slots) (T5.setTop (mkF m 143 #[.val (.int ia), .val (.int ib), .val (.int ic), .val (.int ops), .val (.int room), .val (.int z5), .val (.int z6), .val (.int z7), .val (.int z8), .val (.int z9), .val (.int ca), .val (.int cb), .val (.int cc), .val (.ref s0), .val (.ref s1), .val (.ref s2), .unset, .unset, .unset, .unset, .unset, .unset] [val])) := by
              intro T5 h5 L5 val X5 e5 N5 Z5 HK5 SC5 S50 S51 S52 VV
              refine g_astore X5 hx (hb hby at_143) VV.isRef (L' := #[.val (.int ia), .val (.int ib), .val (.int ic), .val (.int ops), .val (.int room), .val (.int z5), .val (.int z6), .val (.int z7), .val (.int z8), .val (.int z9), .val (.int ca), .val (.int cb), .val (.int cc), .val (.ref s0), .val (.ref s1), .val (.ref s2), .val val, .unset, .unset, .unset, .unset, .unset]) (Jvm.Free.XS.store1 rfl (Or.inl rfl) (own_cat1 VV.isRef)) (q := 145) rfl ?_
              refine g_new X5 hx hZ hown (hw _ (List.mem_of_getElem? (i := 33) rfl)) (hw _ (List.mem_of_getElem? (i := 34) rfl)) (hw _ (List.mem_of_getElem? (i := 35) rfl)) e5 (hb hby at_145) (Nat.le_of_ble_eq_true rfl) (Nat.le_of_ble_eq_true rfl) (q := 148) rfl fun T1811 h1811 t g1811 X1811 e1811 E1811 A1811 D1811 => ?_
              have ne_s0_t : s0 ≠ t := Nat.ne_of_lt (Nat.lt_of_lt_of_le S50.lt (Nat.le_of_eq g1811.symm))
              have ne_s1_t : s1 ≠ t := Nat.ne_of_lt (Nat.lt_of_lt_of_le S51.lt (Nat.le_of_eq g1811.symm))
              have ne_s2_t : s2 ≠ t := Nat.ne_of_lt (Nat.lt_of_lt_of_le S52.lt (Nat.le_of_eq g1811.symm))
              have ne_v0_t : v0 ≠ t := Nat.ne_of_lt (Nat.lt_of_lt_of_le S50.vlt (Nat.le_of_eq g1811.symm))
              have ne_v1_t : v1 ≠ t := Nat.ne_of_lt (Nat.lt_of_lt_of_le S51.vlt (Nat.le_of_eq g1811.symm))
              have ne_v2_t : v2 ≠ t := Nat.ne_of_lt (Nat.lt_of_lt_of_le S52.vlt (Nat.le_of_eq g1811.symm))
              have ge_t : n0 ≤ t := Nat.le_trans Z5 (Nat.le_of_eq g1811.symm)
              have z_1811 := Nat.le_trans Z5 E1811.1
              have hk_1811 := Nat.le_trans HK5 E1811.1
              have f1812 := (SC5.ext E1811)
              have f1813 := (VV.ext E1811)
              have f1814 := (S50.ext E1811)
              have f1815 := (S51.ext E1811)
              have f1816 := (S52.ext E1811)
              have F1811_members : Fld Z h1811 t "com/example/kehys/kehys/io/TreeObject" "members" "[Ljava/lang/Object;" .null := D1811 (Or.inl (hw _ (List.mem_of_getElem? (i := 48) rfl))) (ty := (.array (.object "java/lang/Object"))) (by decide)
              have F1811_hashes : Fld Z h1811 t "com/example/kehys/kehys/io/TreeObject" "hashes" "[I" .null := D1811 (Or.inl (hw _ (List.mem_of_getElem? (i := 51) rfl))) (ty := (.array .int)) (by decide)
              have F1811_size : Fld Z h1811 t "com/example/kehys/kehys/io/TreeObject" "size" "I" (.int (0 : Int32)) := D1811 (Or.inl (hw _ (List.mem_of_getElem? (i := 58) rfl))) (ty := .int) (by decide)
              have F1811_index : Fld Z h1811 t "com/example/kehys/kehys/io/TreeObject" "index" "Ljava/util/Map;" .null := D1811 (Or.inl (hw _ (List.mem_of_getElem? (i := 74) rfl))) (ty := (.object "java/util/Map")) (by decide)
              have F1811_changes : Fld Z h1811 t "com/example/kehys/kehys/io/TreeObject" "changes" "I" (.int (0 : Int32)) := D1811 (Or.inl (hw _ (List.mem_of_getElem? (i := 110) rfl))) (ty := .int) (by decide)
              have hs0t : s0 < t := Nat.lt_of_lt_of_le S50.lt (Nat.le_of_eq g1811.symm)
              have hs1t : s1 < t := Nat.lt_of_lt_of_le S51.lt (Nat.le_of_eq g1811.symm)
              have hs2t : s2 < t := Nat.lt_of_lt_of_le S52.lt (Nat.le_of_eq g1811.symm)
              have hv0t : v0 < t := Nat.lt_of_lt_of_le S50.vlt (Nat.le_of_eq g1811.symm)
              have hv1t : v1 < t := Nat.lt_of_lt_of_le S51.vlt (Nat.le_of_eq g1811.symm)
              have hv2t : v2 < t := Nat.lt_of_lt_of_le S52.vlt (Nat.le_of_eq g1811.symm)
              refine g_dup X1811 hx (hb hby at_148) rfl (q := 149) rfl ?_
              refine g_iload X1811 hx (hb hby at_149) (v := room) rfl (q := 151) rfl ?_
              refine g_callI X1811 hx hZ hown rfl (hw _ (List.mem_of_getElem? (i := 36) rfl)) (hw _ (List.mem_of_getElem? (i := 37) rfl)) (hw _ (List.mem_of_getElem? (i := 38) rfl)) (hw _ (List.mem_of_getElem? (i := 35) rfl)) (by decide) e1811 (b := t) (rmTI l Z a0 hw t room hr8 h1811 n0 z_1811 ge_t A1811 F1811_members F1811_hashes F1811_size F1811_index F1811_changes) (by exact hml.symm) (argsL := [(.int room)]) (rest := [(.ref t)]) rfl rfl pd_4 rfl (Nat.le_of_ble_eq_true rfl) (Nat.le_of_ble_eq_true rfl) (Nat.le_of_ble_eq_true rfl) (Nat.le_of_ble_eq_true rfl) (hb hby at_151) (q := 154) rfl (fun v1817 T1817 L1817 X1817 hQ1817 => ?_)
              generalize e1817 : T1817.heap = h1817 at hQ1817
              obtain ⟨rfl, M1817, K1817, R1817⟩ := hQ1817
              have N1817 := Fr.app N5 M1817
              have z_1817 := Nat.le_trans z_1811 K1817.1
              have hk_1817 := Nat.le_trans hk_1811 K1817.1
              have f1818 := (own_sta_keep f1812 K1817 (nsS A1811.nostat ns0))
              have f1819 := (f1813.keep K1817)
              have f1820 := (f1814.keep K1817 (ninS ne_s0_t nin0) (ninS ne_v0_t nin0))
              have f1821 := (f1815.keep K1817 (ninS ne_s1_t nin0) (ninS ne_v1_t nin0))
              have f1822 := (f1816.keep K1817 (ninS ne_s2_t nin0) (ninS ne_v2_t nin0))
              have f1823 := (A1811.keep K1817)
              show Go p e below _ (T1817.setTop (mkF m 154 #[.val (.int ia), .val (.int ib), .val (.int ic), .val (.int ops), .val (.int room), .val (.int z5), .val (.int z6), .val (.int z7), .val (.int z8), .val (.int z9), .val (.int ca), .val (.int cb), .val (.int cc), .val (.ref s0), .val (.ref s1), .val (.ref s2), .val val, .unset, .unset, .unset, .unset, .unset] [(.ref t)]))
              refine g_astore X1817 hx (hb hby at_154) rfl (L' := #[.val (.int ia), .val (.int ib), .val (.int ic), .val (.int ops), .val (.int room), .val (.int z5), .val (.int z6), .val (.int z7), .val (.int z8), .val (.int z9), .val (.int ca), .val (.int cb), .val (.int cc), .val (.ref s0), .val (.ref s1), .val (.ref s2), .val val, .val (.ref t), .unset, .unset, .unset, .unset]) rfl (q := 156) rfl ?_
              refine g_aload X1817 hx (hb hby at_156) (v := (.ref t)) rfl rfl (q := 158) rfl ?_
              obtain ⟨ma, ha, r, fm, fh, cg, TC⟩ := R1817
              refine g_callV X1817 hx hZ hown (hw _ (List.mem_of_getElem? (i := 52) rfl)) (hw _ (List.mem_of_getElem? (i := 53) rfl)) (hw _ (List.mem_of_getElem? (i := 55) rfl)) (hw _ (List.mem_of_getElem? (i := 54) rfl)) (hw _ (List.mem_of_getElem? (i := 56) rfl)) (hw _ (List.mem_of_getElem? (i := 35) rfl)) (notFace_of_selects (args := #[]) (mvT hZ (hw _ (List.mem_of_getElem? (i := 55) rfl)))) (by decide) e1817 TC.1 (rmE0 l Z a0 hw t h1817 TC.2.2.2.1) (by exact hml.symm) (argsL := []) (rest := []) rfl rfl pd_5 rfl (Nat.le_of_ble_eq_true rfl) (Nat.le_of_ble_eq_true rfl) (Nat.le_of_ble_eq_true rfl) (Nat.le_of_ble_eq_true rfl) (hb hby at_158) (q := 161) rfl (g_pure rfl rfl fun T1824 X1824 e1824 => ?_)
              show Go p e below _ (T1824.setTop (mkF m 161 #[.val (.int ia), .val (.int ib), .val (.int ic), .val (.int ops), .val (.int room), .val (.int z5), .val (.int z6), .val (.int z7), .val (.int z8), .val (.int z9), .val (.int ca), .val (.int cb), .val (.int cc), .val (.ref s0), .val (.ref s1), .val (.ref s2), .val val, .val (.ref t), .unset, .unset, .unset, .unset] [(.int (1 : Int32))]))
              have R1825 : Tr0 Z h1817 t := ⟨ma, ha, r, fm, fh, cg, TC⟩
              refine g_istore X1824 hx (hb hby at_161) (L' := #[.val (.int ia), .val (.int ib), .val (.int ic), .val (.int ops), .val (.int room), .val (.int z5), .val (.int z6), .val (.int z7), .val (.int z8), .val (.int z9), .val (.int ca), .val (.int cb), .val (.int cc), .val (.ref s0), .val (.ref s1), .val (.ref s2), .val val, .val (.ref t), .val (.int (1 : Int32)), .unset, .unset, .unset]) rfl (q := 163) rfl ?_
              have J251 : ∀ (T9 : State) (h9 : Heap) (L9 : List Loc) (vm9 : Vm) (k9 : Nat) (nz : Int32) (X9 : Stand p l e room_1 (s.setVm vm9) m #[(.int ia), (.int ib), (.int ic), (.int ops)] below meth c T9 L9 40 1216) (e9 : T9.heap = h9) (hS9 : s.Since vm9 k9) (hk9 : k9 ≤ h9.size) (hZ9 : Z.Warmed39 (s.setVm vm9).vm) (hown9 : (s.setVm vm9).vm.findClass x.cls = some m.cls) (N9 : Fr n0 L9) (E9 : Exa Z h9 t "com/example/kehys/kehys/io/TreeObject") (F9 : Fld Z h9 t "com/example/kehys/kehys/io/TreeObject" "size" "I" (.int nz)) (hN : nz = own_sz z5 z6 z7 z8 ca cb cc), Go p e below (WdW s below (fun v h L => v = some (.int 1) ∧ Fr n0 L) room_1.cells room_1.slots) (T9.setTop (mkF m 251 #[.val (.int ia), .val (.int ib), .val (.int ic), .val (.int ops), .val (.int room), .val (.int z5), .val (.int z6), .val (.int z7), .val (.int z8), .val (.int z9), .val (.int ca), .val (.int cb), .val (.int cc), .val (.ref s0), .val (.ref s1), .val (.ref s2), .val val, .val (.ref t), .val (.int (1 : Int32)), .unset, .unset, .unset] [])) := by
                intro T9 h9 L9 vm9 k9 nz X9 e9 hS9 hk9 hZ9 hown9 N9 E9 F9 hN
                have J278 : ∀ (k0 : Int32) (hk0 : k0 = own_keep z5 z7 z8 ca cc), Go p e below (WdW s below (fun v h L => v = some (.int 1) ∧ Fr n0 L) room_1.cells room_1.slots) (T9.setTop (mkF m 278 #[.val (.int ia), .val (.int ib), .val (.int ic), .val (.int ops), .val (.int room), .val (.int z5), .val (.int z6), .val (.int z7), .val (.int z8), .val (.int z9), .val (.int ca), .val (.int cb), .val (.int cc), .val (.ref s0), .val (.ref s1), .val (.ref s2), .val val, .val (.ref t), .val (.int (1 : Int32)), .unset, .unset, .unset] [(.int k0)])) := by
                  intro k0 hk0
                  have J307 : ∀ (k1 : Int32) (hk1 : k1 = own_keep z6 z7 z8 cb cc), Go p e below (WdW s below (fun v h L => v = some (.int 1) ∧ Fr n0 L) room_1.cells room_1.slots) (T9.setTop (mkF m 307 #[.val (.int ia), .val (.int ib), .val (.int ic), .val (.int ops), .val (.int room), .val (.int z5), .val (.int z6), .val (.int z7), .val (.int z8), .val (.int z9), .val (.int ca), .val (.int cb), .val (.int cc), .val (.ref s0), .val (.ref s1), .val (.ref s2), .val val, .val (.ref t), .val (.int (1 : Int32)), .val (.int k0), .unset, .unset] [(.int k1)])) := by
                    intro k1 hk1
                    have J349 : ∀ (ex : Int32) (hex : ex = own_exs k0 k1 ca cb), Go p e below (WdW s below (fun v h L => v = some (.int 1) ∧ Fr n0 L) room_1.cells room_1.slots) (T9.setTop (mkF m 349 #[.val (.int ia), .val (.int ib), .val (.int ic), .val (.int ops), .val (.int room), .val (.int z5), .val (.int z6), .val (.int z7), .val (.int z8), .val (.int z9), .val (.int ca), .val (.int cb), .val (.int cc), .val (.ref s0), .val (.ref s1), .val (.ref s2), .val val, .val (.ref t), .val (.int (1 : Int32)), .val (.int k0), .val (.int k1), .unset] [(.int ex)])) := by
                      intro ex hex
                      have hne : nz = ex := by rw [hN, hex, hk0, hk1]; rfl
                      refine g_istore X9 hx (hb hby at_349) (L' := #[.val (.int ia), .val (.int ib), .val (.int ic), .val (.int ops), .val (.int room), .val (.int z5), .val (.int z6), .val (.int z7), .val (.int z8), .val (.int z9), .val (.int ca), .val (.int cb), .val (.int cc), .val (.ref s0), .val (.ref s1), .val (.ref s2), .val val, .val (.ref t), .val (.int (1 : Int32)), .val (.int k0), .val (.int k1), .val (.int ex)]) rfl (q := 351) rfl ?_
                      refine g_iload X9 hx (hb hby at_351) (v := (1 : Int32)) rfl (q := 353) rfl ?_
                      refine g_if_eq X9 hx (hb hby at_353) (by decide) (q := 388) (by decide) (q2 := 356) rfl (fun hb353 => absurd hb353 (by decide)) (fun hb353 => ?_)
                      refine g_aload X9 hx (hb hby at_356) (v := (.ref t)) rfl rfl (q := 358) rfl ?_
                      refine g_callV X9 hx hZ9 hown9 (hw _ (List.mem_of_getElem? (i := 59) rfl)) (hw _ (List.mem_of_getElem? (i := 60) rfl)) (hw _ (List.mem_of_getElem? (i := 62) rfl)) (hw _ (List.mem_of_getElem? (i := 61) rfl)) (hw _ (List.mem_of_getElem? (i := 63) rfl)) (hw _ (List.mem_of_getElem? (i := 35) rfl)) (notFace_of_selects (args := #[]) (mvT hZ9 (hw _ (List.mem_of_getElem? (i := 62) rfl)))) (by decide) e9 E9 (rmZs l Z a0 hw t nz h9 F9) (by exact hml.symm) (argsL := []) (rest := []) rfl rfl pd_8 rfl (Nat.le_of_ble_eq_true rfl) (Nat.le_of_ble_eq_true rfl) (Nat.le_of_ble_eq_true rfl) (Nat.le_of_ble_eq_true rfl) (hb hby at_358) (q := 361) rfl (g_pure rfl rfl fun T1826 X1826 e1826 => ?_)
                      show Go p e below _ (T1826.setTop (mkF m 361 #[.val (.int ia), .val (.int ib), .val (.int ic), .val (.int ops), .val (.int room), .val (.int z5), .val (.int z6), .val (.int z7), .val (.int z8), .val (.int z9), .val (.int ca), .val (.int cb), .val (.int cc), .val (.ref s0), .val (.ref s1), .val (.ref s2), .val val, .val (.ref t), .val (.int (1 : Int32)), .val (.int k0), .val (.int k1), .val (.int ex)] [(.int nz)]))
                      refine g_iload X1826 hx (hb hby at_361) (v := ex) rfl (q := 363) rfl ?_
                      refine g_icmp_ne X1826 hx (hb hby at_363) (by decide) (q := 388) (by decide) (q2 := 366) rfl (fun hb363 => absurd hb363 (not_not_intro hne)) (fun hb363 => ?_)
                      refine g_aload X1826 hx (hb hby at_366) (v := (.ref t)) rfl rfl (q := 368) rfl ?_
                      refine g_callV X1826 hx hZ9 hown9 (hw _ (List.mem_of_getElem? (i := 52) rfl)) (hw _ (List.mem_of_getElem? (i := 53) rfl)) (hw _ (List.mem_of_getElem? (i := 55) rfl)) (hw _ (List.mem_of_getElem? (i := 54) rfl)) (hw _ (List.mem_of_getElem? (i := 56) rfl)) (hw _ (List.mem_of_getElem? (i := 35) rfl)) (notFace_of_selects (args := #[]) (mvT hZ9 (hw _ (List.mem_of_getElem? (i := 55) rfl)))) (by decide) e1826 E9 (rmEs l Z a0 hw t nz h9 F9) (by exact hml.symm) (argsL := []) (rest := []) rfl rfl pd_5 rfl (Nat.le_of_ble_eq_true rfl) (Nat.le_of_ble_eq_true rfl) (Nat.le_of_ble_eq_true rfl) (Nat.le_of_ble_eq_true rfl) (hb hby at_368) (q := 371) rfl (g_pure rfl rfl fun T1827 X1827 e1827 => ?_)
                      show Go p e below _ (T1827.setTop (mkF m 371 #[.val (.int ia), .val (.int ib), .val (.int ic), .val (.int ops), .val (.int room), .val (.int z5), .val (.int z6), .val (.int z7), .val (.int z8), .val (.int z9), .val (.int ca), .val (.int cb), .val (.int cc), .val (.ref s0), .val (.ref s1), .val (.ref s2), .val val, .val (.ref t), .val (.int (1 : Int32)), .val (.int k0), .val (.int k1), .val (.int ex)] [(.int (if nz = 0 then (1 : Int32) else 0))]))
                      refine g_iload X1827 hx (hb hby at_371) (v := ex) rfl (q := 373) rfl ?_
                      refine g_if_ne X1827 hx (hb hby at_373) (by decide) (q := 380) (by decide) (q2 := 376) rfl (fun hb373 => ?_) (fun hb373 => ?_)
                      · refine g_iconst X1827 hx (hb hby at_380) (n := (0 : Int32)) (by decide) (q := 381) rfl ?_
                        refine g_icmp_ne X1827 hx (hb hby at_381) (by decide) (q := 388) (by decide) (q2 := 384) rfl (fun hb381 => absurd hb381 (not_not_intro (by rw [hne, if_neg hb373]))) (fun hb381 => ?_)
                        refine g_iconst X1827 hx (hb hby at_384) (n := (1 : Int32)) (by decide) (q := 385) rfl ?_
                        refine g_goto X1827 hx (hb hby at_385) (by decide) (q := 389) (by decide) ?_
                        refine g_istore X1827 hx (hb hby at_389) (L' := #[.val (.int ia), .val (.int ib), .val (.int ic), .val (.int ops), .val (.int room), .val (.int z5), .val (.int z6), .val (.int z7), .val (.int z8), .val (.int z9), .val (.int ca), .val (.int cb), .val (.int cc), .val (.ref s0), .val (.ref s1), .val (.ref s2), .val val, .val (.ref t), .val (.int (1 : Int32)), .val (.int k0), .val (.int k1), .val (.int ex)]) rfl (q := 391) rfl ?_
                        refine g_iload X1827 hx (hb hby at_391) (v := (1 : Int32)) rfl (q := 393) rfl ?_
                        exact g_retBW X1827 hS9 (by rw [e1827]; exact hk9) hx hret hlk (hb hby at_393) (by decide) ⟨rfl, by simpa using N9⟩ (Nat.le_of_ble_eq_true rfl) (Nat.le_of_ble_eq_true rfl)
                      · refine g_iconst X1827 hx (hb hby at_376) (n := (1 : Int32)) (by decide) (q := 377) rfl ?_
                        refine g_goto X1827 hx (hb hby at_377) (by decide) (q := 381) (by decide) ?_
                        refine g_icmp_ne X1827 hx (hb hby at_381) (by decide) (q := 388) (by decide) (q2 := 384) rfl (fun hb381 => absurd hb381 (not_not_intro (by rw [hne, if_pos hb373]))) (fun hb381 => ?_)
                        refine g_iconst X1827 hx (hb hby at_384) (n := (1 : Int32)) (by decide) (q := 385) rfl ?_
                        refine g_goto X1827 hx (hb hby at_385) (by decide) (q := 389) (by decide) ?_
                        refine g_istore X1827 hx (hb hby at_389) (L' := #[.val (.int ia), .val (.int ib), .val (.int ic), .val (.int ops), .val (.int room), .val (.int z5), .val (.int z6), .val (.int z7), .val (.int z8), .val (.int z9), .val (.int ca), .val (.int cb), .val (.int cc), .val (.ref s0), .val (.ref s1), .val (.ref s2), .val val, .val (.ref t), .val (.int (1 : Int32)), .val (.int k0), .val (.int k1), .val (.int ex)]) rfl (q := 391) rfl ?_
                        refine g_iload X1827 hx (hb hby at_391) (v := (1 : Int32)) rfl (q := 393) rfl ?_
                        exact g_retBW X1827 hS9 (by rw [e1827]; exact hk9) hx hret hlk (hb hby at_393) (by decide) ⟨rfl, by simpa using N9⟩ (Nat.le_of_ble_eq_true rfl) (Nat.le_of_ble_eq_true rfl)
                    refine g_istore X9 hx (hb hby at_307) (L' := #[.val (.int ia), .val (.int ib), .val (.int ic), .val (.int ops), .val (.int room), .val (.int z5), .val (.int z6), .val (.int z7), .val (.int z8), .val (.int z9), .val (.int ca), .val (.int cb), .val (.int cc), .val (.ref s0), .val (.ref s1), .val (.ref s2), .val val, .val (.ref t), .val (.int (1 : Int32)), .val (.int k0), .val (.int k1), .unset]) rfl (q := 309) rfl ?_
                    refine g_iload X9 hx (hb hby at_309) (v := k0) rfl (q := 311) rfl ?_
                    refine g_if_eq X9 hx (hb hby at_311) (by decide) (q := 334) (by decide) (q2 := 314) rfl (fun hb311 => ?_) (fun hb311 => ?_)
                    · refine g_iload X9 hx (hb hby at_334) (v := k0) rfl (q := 336) rfl ?_
                      refine g_if_ne X9 hx (hb hby at_336) (by decide) (q := 344) (by decide) (q2 := 339) rfl (fun hb336 => absurd hb336 (not_not_intro hb311)) (fun hb336 => ?_)
                      refine g_iload X9 hx (hb hby at_339) (v := k1) rfl (q := 341) rfl ?_
                      refine g_if_eq X9 hx (hb hby at_341) (by decide) (q := 348) (by decide) (q2 := 344) rfl (fun hb341 => ?_) (fun hb341 => ?_)
                      · refine g_iconst X9 hx (hb hby at_348) (n := (0 : Int32)) (by decide) (q := 349) rfl ?_
                        exact J349 _ (by rw [own_exs, if_pos hb311, if_pos hb341])
                      · refine g_iconst X9 hx (hb hby at_344) (n := (1 : Int32)) (by decide) (q := 345) rfl ?_
                        refine g_goto X9 hx (hb hby at_345) (by decide) (q := 349) (by decide) ?_
                        exact J349 _ (by rw [own_exs, if_pos hb311, if_neg hb341])
                    · refine g_iload X9 hx (hb hby at_314) (v := k1) rfl (q := 316) rfl ?_
                      refine g_if_eq X9 hx (hb hby at_316) (by decide) (q := 334) (by decide) (q2 := 319) rfl (fun hb316 => ?_) (fun hb316 => ?_)
                      · refine g_iload X9 hx (hb hby at_334) (v := k0) rfl (q := 336) rfl ?_
                        refine g_if_ne X9 hx (hb hby at_336) (by decide) (q := 344) (by decide) (q2 := 339) rfl (fun hb336 => ?_) (fun hb336 => absurd hb336 hb311)
                        refine g_iconst X9 hx (hb hby at_344) (n := (1 : Int32)) (by decide) (q := 345) rfl ?_
                        refine g_goto X9 hx (hb hby at_345) (by decide) (q := 349) (by decide) ?_
                        exact J349 _ (by rw [own_exs, if_neg hb311, if_pos hb316])
                      · refine g_iload X9 hx (hb hby at_319) (v := ca) rfl (q := 321) rfl ?_
                        refine g_iload X9 hx (hb hby at_321) (v := cb) rfl (q := 323) rfl ?_
                        refine g_icmp_ne X9 hx (hb hby at_323) (by decide) (q := 330) (by decide) (q2 := 326) rfl (fun hb323 => ?_) (fun hb323 => ?_)
                        · refine g_iconst X9 hx (hb hby at_330) (n := (2 : Int32)) (by decide) (q := 331) rfl ?_
                          refine g_goto X9 hx (hb hby at_331) (by decide) (q := 349) (by decide) ?_
                          exact J349 _ (by rw [own_exs, if_neg hb311, if_neg hb316, if_neg hb323])
                        · refine g_iconst X9 hx (hb hby at_326) (n := (1 : Int32)) (by decide) (q := 327) rfl ?_
                          refine g_goto X9 hx (hb hby at_327) (by decide) (q := 349) (by decide) ?_
                          exact J349 _ (by rw [own_exs, if_neg hb311, if_neg hb316, if_pos hb323])
                  refine g_istore X9 hx (hb hby at_278) (L' := #[.val (.int ia), .val (.int ib), .val (.int ic), .val (.int ops), .val (.int room), .val (.int z5), .val (.int z6), .val (.int z7), .val (.int z8), .val (.int z9), .val (.int ca), .val (.int cb), .val (.int cc), .val (.ref s0), .val (.ref s1), .val (.ref s2), .val val, .val (.ref t), .val (.int (1 : Int32)), .val (.int k0), .unset, .unset]) rfl (q := 280) rfl ?_
                  refine g_iload X9 hx (hb hby at_280) (v := z6) rfl (q := 282) rfl ?_
                  refine g_if_eq X9 hx (hb hby at_282) (by decide) (q := 306) (by decide) (q2 := 285) rfl (fun hb282 => ?_) (fun hb282 => ?_)
                  · refine g_iconst X9 hx (hb hby at_306) (n := (0 : Int32)) (by decide) (q := 307) rfl ?_
                    exact J307 _ (by rw [own_keep, if_pos hb282])
                  · refine g_iload X9 hx (hb hby at_285) (v := z7) rfl (q := 287) rfl ?_
                    refine g_if_eq X9 hx (hb hby at_287) (by decide) (q := 297) (by decide) (q2 := 290) rfl (fun hb287 => ?_) (fun hb287 => ?_)
                    · refine g_iload X9 hx (hb hby at_297) (v := z8) rfl (q := 299) rfl ?_
                      refine g_if_ne X9 hx (hb hby at_299) (by decide) (q := 306) (by decide) (q2 := 302) rfl (fun hb299 => ?_) (fun hb299 => ?_)
                      · refine g_iconst X9 hx (hb hby at_306) (n := (0 : Int32)) (by decide) (q := 307) rfl ?_
                        exact J307 _ (by rw [own_keep, if_neg hb282, if_pos hb287, if_neg hb299])
                      · refine g_iconst X9 hx (hb hby at_302) (n := (1 : Int32)) (by decide) (q := 303) rfl ?_
                        refine g_goto X9 hx (hb hby at_303) (by decide) (q := 307) (by decide) ?_
                        exact J307 _ (by rw [own_keep, if_neg hb282, if_pos hb287, if_pos hb299])
                    · refine g_iload X9 hx (hb hby at_290) (v := cb) rfl (q := 292) rfl ?_
                      refine g_iload X9 hx (hb hby at_292) (v := cc) rfl (q := 294) rfl ?_
                      refine g_icmp_eq X9 hx (hb hby at_294) (by decide) (q := 306) (by decide) (q2 := 297) rfl (fun hb294 => ?_) (fun hb294 => ?_)
                      · refine g_iconst X9 hx (hb hby at_306) (n := (0 : Int32)) (by decide) (q := 307) rfl ?_
                        exact J307 _ (by rw [own_keep, if_neg hb282, if_neg hb287, if_pos hb294])
                      · refine g_iload X9 hx (hb hby at_297) (v := z8) rfl (q := 299) rfl ?_
                        refine g_if_ne X9 hx (hb hby at_299) (by decide) (q := 306) (by decide) (q2 := 302) rfl (fun hb299 => ?_) (fun hb299 => ?_)
                        · refine g_iconst X9 hx (hb hby at_306) (n := (0 : Int32)) (by decide) (q := 307) rfl ?_
                          exact J307 _ (by rw [own_keep, if_neg hb282, if_neg hb287, if_neg hb294, if_neg hb299])
                        · refine g_iconst X9 hx (hb hby at_302) (n := (1 : Int32)) (by decide) (q := 303) rfl ?_
                          refine g_goto X9 hx (hb hby at_303) (by decide) (q := 307) (by decide) ?_
                          exact J307 _ (by rw [own_keep, if_neg hb282, if_neg hb287, if_neg hb294, if_pos hb299])
                refine g_iload X9 hx (hb hby at_251) (v := z5) rfl (q := 253) rfl ?_
                refine g_if_eq X9 hx (hb hby at_253) (by decide) (q := 277) (by decide) (q2 := 256) rfl (fun hb253 => ?_) (fun hb253 => ?_)
                · refine g_iconst X9 hx (hb hby at_277) (n := (0 : Int32)) (by decide) (q := 278) rfl ?_
                  exact J278 _ (by rw [own_keep, if_pos hb253])
                · refine g_iload X9 hx (hb hby at_256) (v := z7) rfl (q := 258) rfl ?_
                  refine g_if_eq X9 hx (hb hby at_258) (by decide) (q := 268) (by decide) (q2 := 261) rfl (fun hb258 => ?_) (fun hb258 => ?_)
                  · refine g_iload X9 hx (hb hby at_268) (v := z8) rfl (q := 270) rfl ?_
                    refine g_if_ne X9 hx (hb hby at_270) (by decide) (q := 277) (by decide) (q2 := 273) rfl (fun hb270 => ?_) (fun hb270 => ?_)
                    · refine g_iconst X9 hx (hb hby at_277) (n := (0 : Int32)) (by decide) (q := 278) rfl ?_
                      exact J278 _ (by rw [own_keep, if_neg hb253, if_pos hb258, if_neg hb270])
                    · refine g_iconst X9 hx (hb hby at_273) (n := (1 : Int32)) (by decide) (q := 274) rfl ?_
                      refine g_goto X9 hx (hb hby at_274) (by decide) (q := 278) (by decide) ?_
                      exact J278 _ (by rw [own_keep, if_neg hb253, if_pos hb258, if_pos hb270])
                  · refine g_iload X9 hx (hb hby at_261) (v := ca) rfl (q := 263) rfl ?_
                    refine g_iload X9 hx (hb hby at_263) (v := cc) rfl (q := 265) rfl ?_
                    refine g_icmp_eq X9 hx (hb hby at_265) (by decide) (q := 277) (by decide) (q2 := 268) rfl (fun hb265 => ?_) (fun hb265 => ?_)
                    · refine g_iconst X9 hx (hb hby at_277) (n := (0 : Int32)) (by decide) (q := 278) rfl ?_
                      exact J278 _ (by rw [own_keep, if_neg hb253, if_neg hb258, if_pos hb265])
                    · refine g_iload X9 hx (hb hby at_268) (v := z8) rfl (q := 270) rfl ?_
                      refine g_if_ne X9 hx (hb hby at_270) (by decide) (q := 277) (by decide) (q2 := 273) rfl (fun hb270 => ?_) (fun hb270 => ?_)
                      · refine g_iconst X9 hx (hb hby at_277) (n := (0 : Int32)) (by decide) (q := 278) rfl ?_
                        exact J278 _ (by rw [own_keep, if_neg hb253, if_neg hb258, if_neg hb265, if_neg hb270])
                      · refine g_iconst X9 hx (hb hby at_273) (n := (1 : Int32)) (by decide) (q := 274) rfl ?_
                        refine g_goto X9 hx (hb hby at_274) (by decide) (q := 278) (by decide) ?_
                        exact J278 _ (by rw [own_keep, if_neg hb253, if_neg hb258, if_neg hb265, if_pos hb270])
              rcases hz5 with rfl | rfl
              · refine g_iload X1824 hx (hb hby at_163) (v := (0 : Int32)) rfl (q := 165) rfl ?_
                refine g_if_eq X1824 hx (hb hby at_165) (by decide) (q := 178) (by decide) (q2 := 168) rfl (fun hb165 => ?_) (fun hb165 => absurd hb165 (by decide))
                rcases hz6 with rfl | rfl
                · refine g_iload X1824 hx (hb hby at_178) (v := (0 : Int32)) rfl (q := 180) rfl ?_
                  refine g_if_eq X1824 hx (hb hby at_180) (by decide) (q := 193) (by decide) (q2 := 183) rfl (fun hb180 => ?_) (fun hb180 => absurd hb180 (by decide))
                  refine g_iload X1824 hx (hb hby at_193) (v := (1 : Int32)) rfl (q := 195) rfl ?_
                  refine g_if_eq X1824 hx (hb hby at_195) (by decide) (q := 225) (by decide) (q2 := 198) rfl (fun hb195 => absurd hb195 (by decide)) (fun hb195 => ?_)
                  refine g_aload X1824 hx (hb hby at_198) (v := (.ref t)) rfl rfl (q := 200) rfl ?_
                  obtain ⟨ma, ha, r, fm, fh, cg, TC⟩ := R1825
                  refine g_callV X1824 hx hZ hown (hw _ (List.mem_of_getElem? (i := 52) rfl)) (hw _ (List.mem_of_getElem? (i := 53) rfl)) (hw _ (List.mem_of_getElem? (i := 55) rfl)) (hw _ (List.mem_of_getElem? (i := 54) rfl)) (hw _ (List.mem_of_getElem? (i := 56) rfl)) (hw _ (List.mem_of_getElem? (i := 35) rfl)) (notFace_of_selects (args := #[]) (mvT hZ (hw _ (List.mem_of_getElem? (i := 55) rfl)))) (by decide) e1824 TC.1 (rmE0 l Z a0 hw t h1817 TC.2.2.2.1) (by exact hml.symm) (argsL := []) (rest := []) rfl rfl pd_5 rfl (Nat.le_of_ble_eq_true rfl) (Nat.le_of_ble_eq_true rfl) (Nat.le_of_ble_eq_true rfl) (Nat.le_of_ble_eq_true rfl) (hb hby at_200) (q := 203) rfl (g_pure rfl rfl fun T1828 X1828 e1828 => ?_)
                  show Go p e below _ (T1828.setTop (mkF m 203 #[.val (.int ia), .val (.int ib), .val (.int ic), .val (.int ops), .val (.int room), .val (.int (0 : Int32)), .val (.int (0 : Int32)), .val (.int z7), .val (.int z8), .val (.int z9), .val (.int ca), .val (.int cb), .val (.int cc), .val (.ref s0), .val (.ref s1), .val (.ref s2), .val val, .val (.ref t), .val (.int (1 : Int32)), .unset, .unset, .unset] [(.int (1 : Int32))]))
                  have R1829 : Tr0 Z h1817 t := ⟨ma, ha, r, fm, fh, cg, TC⟩
                  refine g_iload X1828 hx (hb hby at_203) (v := (0 : Int32)) rfl (q := 205) rfl ?_
                  refine g_if_ne X1828 hx (hb hby at_205) (by decide) (q := 217) (by decide) (q2 := 208) rfl (fun hb205 => absurd hb205 (by decide)) (fun hb205 => ?_)
                  refine g_iload X1828 hx (hb hby at_208) (v := (0 : Int32)) rfl (q := 210) rfl ?_
                  refine g_if_ne X1828 hx (hb hby at_210) (by decide) (q := 217) (by decide) (q2 := 213) rfl (fun hb210 => absurd hb210 (by decide)) (fun hb210 => ?_)
                  refine g_iconst X1828 hx (hb hby at_213) (n := (1 : Int32)) (by decide) (q := 214) rfl ?_
                  refine g_goto X1828 hx (hb hby at_214) (by decide) (q := 218) (by decide) ?_
                  refine g_icmp_ne X1828 hx (hb hby at_218) (by decide) (q := 225) (by decide) (q2 := 221) rfl (fun hb218 => absurd hb218 (by decide)) (fun hb218 => ?_)
                  refine g_iconst X1828 hx (hb hby at_221) (n := (1 : Int32)) (by decide) (q := 222) rfl ?_
                  refine g_goto X1828 hx (hb hby at_222) (by decide) (q := 226) (by decide) ?_
                  refine g_istore X1828 hx (hb hby at_226) (L' := #[.val (.int ia), .val (.int ib), .val (.int ic), .val (.int ops), .val (.int room), .val (.int (0 : Int32)), .val (.int (0 : Int32)), .val (.int z7), .val (.int z8), .val (.int z9), .val (.int ca), .val (.int cb), .val (.int cc), .val (.ref s0), .val (.ref s1), .val (.ref s2), .val val, .val (.ref t), .val (.int (1 : Int32)), .unset, .unset, .unset]) rfl (q := 228) rfl ?_
                  rcases hz7 with rfl | rfl
                  · refine g_iload X1828 hx (hb hby at_228) (v := (0 : Int32)) rfl (q := 230) rfl ?_
                    refine g_if_eq X1828 hx (hb hby at_230) (by decide) (q := 241) (by decide) (q2 := 233) rfl (fun hb230 => ?_) (fun hb230 => absurd hb230 (by decide))
                    rcases hz8 with rfl | rfl
                    · refine g_iload X1828 hx (hb hby at_241) (v := (0 : Int32)) rfl (q := 243) rfl ?_
                      refine g_if_eq X1828 hx (hb hby at_243) (by decide) (q := 251) (by decide) (q2 := 246) rfl (fun hb243 => ?_) (fun hb243 => absurd hb243 (by decide))
                      obtain ⟨ma, ha, r, fm, fh, cg, TC⟩ := R1829
                      exact J251 _ _ _ _ _ (0 : Int32) (X1828.more (Nat.le_of_ble_eq_true rfl) (Nat.le_of_ble_eq_true rfl)) e1828 hS hk_1817 hZ hown (by simpa using N1817) TC.1 TC.2.2.2.1 (by simp [own_sz, own_keep, own_exs])
                    · refine g_iload X1828 hx (hb hby at_241) (v := (1 : Int32)) rfl (q := 243) rfl ?_
                      refine g_if_eq X1828 hx (hb hby at_243) (by decide) (q := 251) (by decide) (q2 := 246) rfl (fun hb243 => absurd hb243 (by decide)) (fun hb243 => ?_)
                      refine g_aload X1828 hx (hb hby at_246) (v := (.ref t)) rfl rfl (q := 248) rfl ?_
                      obtain ⟨ma, ha, r, fm, fh, cg, TC⟩ := R1829
                      refine g_callV X1828 hx hZ hown (hw _ (List.mem_of_getElem? (i := 116) rfl)) (hw _ (List.mem_of_getElem? (i := 117) rfl)) (hw _ (List.mem_of_getElem? (i := 119) rfl)) (hw _ (List.mem_of_getElem? (i := 118) rfl)) (hw _ (List.mem_of_getElem? (i := 120) rfl)) (hw _ (List.mem_of_getElem? (i := 35) rfl)) (notFace_of_selects (args := #[]) (mvT hZ (hw _ (List.mem_of_getElem? (i := 119) rfl)))) (by decide) e1828 TC.1 (rmCl0 l Z a0 hw t ma ha r fm fh cg h1817 n0 ge_t TC (Nat.zero_le _)) (by exact hml.symm) (argsL := []) (rest := []) rfl rfl pd_3 rfl (Nat.le_of_ble_eq_true rfl) (Nat.le_of_ble_eq_true rfl) (Nat.le_of_ble_eq_true rfl) (Nat.le_of_ble_eq_true rfl) (hb hby at_248) (q := 251) rfl (fun v1830 T1830 L1830 X1830 hQ1830 => ?_)
                      generalize e1830 : T1830.heap = h1830 at hQ1830
                      obtain ⟨rfl, M1830, U1830, R1830⟩ := hQ1830
                      have N1830 := Fr.app N1817 M1830
                      have hk_1830 := Nat.le_trans hk_1817 (Up.le U1830)
                      show Go p e below _ (T1830.setTop (mkF m 251 #[.val (.int ia), .val (.int ib), .val (.int ic), .val (.int ops), .val (.int room), .val (.int (0 : Int32)), .val (.int (0 : Int32)), .val (.int (0 : Int32)), .val (.int (1 : Int32)), .val (.int z9), .val (.int ca), .val (.int cb), .val (.int cc), .val (.ref s0), .val (.ref s1), .val (.ref s2), .val val, .val (.ref t), .val (.int (1 : Int32)), .unset, .unset, .unset] []))
                      obtain ⟨ma, ha, r, fm, fh, cg, TC⟩ := R1830
                      exact J251 _ _ _ _ _ (0 : Int32) (X1830.more (Nat.le_of_ble_eq_true rfl) (Nat.le_of_ble_eq_true rfl)) e1830 hS hk_1830 hZ hown (by simpa using N1830) TC.1 TC.2.2.2.1 (by simp [own_sz, own_keep, own_exs])
                  · refine g_iload X1828 hx (hb hby at_228) (v := (1 : Int32)) rfl (q := 230) rfl ?_
                    refine g_if_eq X1828 hx (hb hby at_230) (by decide) (q := 241) (by decide) (q2 := 233) rfl (fun hb230 => absurd hb230 (by decide)) (fun hb230 => ?_)
                    refine g_aload X1828 hx (hb hby at_233) (v := (.ref t)) rfl rfl (q := 235) rfl ?_
                    refine g_aload X1828 hx (hb hby at_235) (v := (.ref s2)) rfl rfl (q := 237) rfl ?_
                    obtain ⟨ma, ha, r, fm, fh, cg, TC⟩ := R1829
                    refine g_callV X1828 hx hZ hown (hw _ (List.mem_of_getElem? (i := 111) rfl)) (hw _ (List.mem_of_getElem? (i := 112) rfl)) (hw _ (List.mem_of_getElem? (i := 114) rfl)) (hw _ (List.mem_of_getElem? (i := 113) rfl)) (hw _ (List.mem_of_getElem? (i := 115) rfl)) (hw _ (List.mem_of_getElem? (i := 35) rfl)) (notFace_of_selects (args := #[]) (mvT hZ (hw _ (List.mem_of_getElem? (i := 114) rfl)))) (by decide) e1828 TC.1 (rmRe0 l Z a0 hw t ma ha r fm fh cg s2 v2 cc cs hcs h1817 n0 z_1817 ge_s2 ge_t f1818 f1822 hs2t hv2t TC (Nat.zero_le _)) (by exact hml.symm) (argsL := [(.ref s2)]) (rest := []) rfl rfl pd_20 rfl (Nat.le_of_ble_eq_true rfl) (Nat.le_of_ble_eq_true rfl) (Nat.le_of_ble_eq_true rfl) (Nat.le_of_ble_eq_true rfl) (hb hby at_237) (q := 240) rfl (fun v1831 T1831 L1831 X1831 hQ1831 => ?_)
                    generalize e1831 : T1831.heap = h1831 at hQ1831
                    obtain ⟨pv1831, rfl, rv1831, M1831, U1831, F1831_2, R1831⟩ := hQ1831
                    have N1831 := Fr.app N1817 M1831
                    have hk_1831 := Nat.le_trans hk_1817 (Up.le U1831)
                    have F1831_0 := Up.str U1831 f1820 ne_s0_s2 hs0t ne_v0_s2 hv0t
                    have F1831_1 := Up.str U1831 f1821 ne_s1_s2 hs1t ne_v1_s2 hv1t
                    have VV1831 := Up.vok U1831 f1819
                    have SC1831 := Up.sta U1831 f1818
                    have ZZ1831 := Nat.le_trans z_1817 (Up.le U1831)
                    show Go p e below _ (T1831.setTop (mkF m 240 #[.val (.int ia), .val (.int ib), .val (.int ic), .val (.int ops), .val (.int room), .val (.int (0 : Int32)), .val (.int (0 : Int32)), .val (.int (1 : Int32)), .val (.int z8), .val (.int z9), .val (.int ca), .val (.int cb), .val (.int cc), .val (.ref s0), .val (.ref s1), .val (.ref s2), .val val, .val (.ref t), .val (.int (1 : Int32)), .unset, .unset, .unset] [pv1831]))
                    refine g_pop X1831 hx (hb hby at_240) (own_cat1 rv1831) (q := 241) rfl ?_
                    rcases hz8 with rfl | rfl
                    · refine g_iload X1831 hx (hb hby at_241) (v := (0 : Int32)) rfl (q := 243) rfl ?_
                      refine g_if_eq X1831 hx (hb hby at_243) (by decide) (q := 251) (by decide) (q2 := 246) rfl (fun hb243 => ?_) (fun hb243 => absurd hb243 (by decide))
                      obtain ⟨ma, ha, r, fm, fh, cg, TC⟩ := R1831
                      exact J251 _ _ _ _ _ (0 : Int32) (X1831.more (Nat.le_of_ble_eq_true rfl) (Nat.le_of_ble_eq_true rfl)) e1831 hS hk_1831 hZ hown (by simpa using N1831) TC.1 TC.2.2.2.1 (by simp [own_sz, own_keep, own_exs])
                    · refine g_iload X1831 hx (hb hby at_241) (v := (1 : Int32)) rfl (q := 243) rfl ?_
                      refine g_if_eq X1831 hx (hb hby at_243) (by decide) (q := 251) (by decide) (q2 := 246) rfl (fun hb243 => absurd hb243 (by decide)) (fun hb243 => ?_)
                      refine g_aload X1831 hx (hb hby at_246) (v := (.ref t)) rfl rfl (q := 248) rfl ?_
                      obtain ⟨ma, ha, r, fm, fh, cg, TC⟩ := R1831
                      refine g_callV X1831 hx hZ hown (hw _ (List.mem_of_getElem? (i := 116) rfl)) (hw _ (List.mem_of_getElem? (i := 117) rfl)) (hw _ (List.mem_of_getElem? (i := 119) rfl)) (hw _ (List.mem_of_getElem? (i := 118) rfl)) (hw _ (List.mem_of_getElem? (i := 120) rfl)) (hw _ (List.mem_of_getElem? (i := 35) rfl)) (notFace_of_selects (args := #[]) (mvT hZ (hw _ (List.mem_of_getElem? (i := 119) rfl)))) (by decide) e1831 TC.1 (rmCl0 l Z a0 hw t ma ha r fm fh cg h1831 n0 ge_t TC (Nat.zero_le _)) (by exact hml.symm) (argsL := []) (rest := []) rfl rfl pd_3 rfl (Nat.le_of_ble_eq_true rfl) (Nat.le_of_ble_eq_true rfl) (Nat.le_of_ble_eq_true rfl) (Nat.le_of_ble_eq_true rfl) (hb hby at_248) (q := 251) rfl (fun v1832 T1832 L1832 X1832 hQ1832 => ?_)
                      generalize e1832 : T1832.heap = h1832 at hQ1832
                      obtain ⟨rfl, M1832, U1832, R1832⟩ := hQ1832
                      have N1832 := Fr.app N1831 M1832
                      have hk_1832 := Nat.le_trans hk_1831 (Up.le U1832)
                      show Go p e below _ (T1832.setTop (mkF m 251 #[.val (.int ia), .val (.int ib), .val (.int ic), .val (.int ops), .val (.int room), .val (.int (0 : Int32)), .val (.int (0 : Int32)), .val (.int (1 : Int32)), .val (.int (1 : Int32)), .val (.int z9), .val (.int ca), .val (.int cb), .val (.int cc), .val (.ref s0), .val (.ref s1), .val (.ref s2), .val val, .val (.ref t), .val (.int (1 : Int32)), .unset, .unset, .unset] []))
                      obtain ⟨ma, ha, r, fm, fh, cg, TC⟩ := R1832
                      exact J251 _ _ _ _ _ (0 : Int32) (X1832.more (Nat.le_of_ble_eq_true rfl) (Nat.le_of_ble_eq_true rfl)) e1832 hS hk_1832 hZ hown (by simpa using N1832) TC.1 TC.2.2.2.1 (by simp [own_sz, own_keep, own_exs])
                · refine g_iload X1824 hx (hb hby at_178) (v := (1 : Int32)) rfl (q := 180) rfl ?_
                  refine g_if_eq X1824 hx (hb hby at_180) (by decide) (q := 193) (by decide) (q2 := 183) rfl (fun hb180 => absurd hb180 (by decide)) (fun hb180 => ?_)
                  refine g_aload X1824 hx (hb hby at_183) (v := (.ref t)) rfl rfl (q := 185) rfl ?_
                  refine g_aload X1824 hx (hb hby at_185) (v := (.ref s1)) rfl rfl (q := 187) rfl ?_
                  refine g_aload X1824 hx (hb hby at_187) (v := val) rfl VV.isRef (q := 189) rfl ?_
                  obtain ⟨ma, ha, r, fm, fh, cg, TC⟩ := R1825
                  refine g_callVW X1824 hx hZ hown (hw _ (List.mem_of_getElem? (i := 64) rfl)) (hw _ (List.mem_of_getElem? (i := 65) rfl)) (hw _ (List.mem_of_getElem? (i := 67) rfl)) (hw _ (List.mem_of_getElem? (i := 66) rfl)) (hw _ (List.mem_of_getElem? (i := 68) rfl)) (hw _ (List.mem_of_getElem? (i := 35) rfl)) (notFace_of_selects (args := #[]) (mvT hZ (hw _ (List.mem_of_getElem? (i := 67) rfl)))) (by decide) e1824 hS hk_1817 TC.1 (rmPut0 l Z a0 hw t ma ha r fm fh cg s1 v1 mr val cb cs hcs h1817 n0 z_1817 ge_s1 ge_t f1818 f1821 f1819.sb f1819.isRef MR hs1t hv1t TC (Nat.zero_le _)) (by exact hml.symm) (argsL := [(.ref s1), val]) (rest := []) rfl rfl pd_21 rfl (Nat.le_of_ble_eq_true rfl) (Nat.le_of_ble_eq_true rfl) (Nat.le_of_ble_eq_true rfl) (Nat.le_of_ble_eq_true rfl) (hb hby at_189) (q := 192) rfl fun v1833 T1833 L1833 h1833 e1833 X1833 hS1833 hZ1833 hown1833 hQ1833 => ?_
                  obtain ⟨pv1833, rfl, rv1833, M1833, U1833, F1833_1, R1833⟩ := hQ1833
                  have N1833 := Fr.app N1817 M1833
                  have F1833_0 := Up.str U1833 f1820 ne_s0_s1 hs0t ne_v0_s1 hv0t
                  have F1833_2 := Up.str U1833 f1822 (Ne.symm ne_s1_s2) hs2t (Ne.symm ne_s1_v2) hv2t
                  have VV1833 := Up.vok U1833 f1819
                  have SC1833 := Up.sta U1833 f1818
                  have ZZ1833 := Nat.le_trans z_1817 (Up.le U1833)
                  show Go p e below _ (T1833.setTop (mkF m 192 #[.val (.int ia), .val (.int ib), .val (.int ic), .val (.int ops), .val (.int room), .val (.int (0 : Int32)), .val (.int (1 : Int32)), .val (.int z7), .val (.int z8), .val (.int z9), .val (.int ca), .val (.int cb), .val (.int cc), .val (.ref s0), .val (.ref s1), .val (.ref s2), .val val, .val (.ref t), .val (.int (1 : Int32)), .unset, .unset, .unset] [pv1833]))
                  refine g_pop X1833 hx (hb hby at_192) (own_cat1 rv1833) (q := 193) rfl ?_
                  refine g_iload X1833 hx (hb hby at_193) (v := (1 : Int32)) rfl (q := 195) rfl ?_
                  refine g_if_eq X1833 hx (hb hby at_195) (by decide) (q := 225) (by decide) (q2 := 198) rfl (fun hb195 => absurd hb195 (by decide)) (fun hb195 => ?_)
                  refine g_aload X1833 hx (hb hby at_198) (v := (.ref t)) rfl rfl (q := 200) rfl ?_
                  obtain ⟨ma, ha, r, fm, fh, cg, TC, hnr, hm0, hv0, hh0⟩ := R1833
                  refine g_callV X1833 hx hZ1833 hown1833 (hw _ (List.mem_of_getElem? (i := 52) rfl)) (hw _ (List.mem_of_getElem? (i := 53) rfl)) (hw _ (List.mem_of_getElem? (i := 55) rfl)) (hw _ (List.mem_of_getElem? (i := 54) rfl)) (hw _ (List.mem_of_getElem? (i := 56) rfl)) (hw _ (List.mem_of_getElem? (i := 35) rfl)) (notFace_of_selects (args := #[]) (mvT hZ1833 (hw _ (List.mem_of_getElem? (i := 55) rfl)))) (by decide) e1833 TC.1 (rmE1 l Z a0 hw t h1833 TC.2.2.2.1) (by exact hml.symm) (argsL := []) (rest := []) rfl rfl pd_5 rfl (Nat.le_of_ble_eq_true rfl) (Nat.le_of_ble_eq_true rfl) (Nat.le_of_ble_eq_true rfl) (Nat.le_of_ble_eq_true rfl) (hb hby at_200) (q := 203) rfl (g_pure rfl rfl fun T1834 X1834 e1834 => ?_)
                  show Go p e below _ (T1834.setTop (mkF m 203 #[.val (.int ia), .val (.int ib), .val (.int ic), .val (.int ops), .val (.int room), .val (.int (0 : Int32)), .val (.int (1 : Int32)), .val (.int z7), .val (.int z8), .val (.int z9), .val (.int ca), .val (.int cb), .val (.int cc), .val (.ref s0), .val (.ref s1), .val (.ref s2), .val val, .val (.ref t), .val (.int (1 : Int32)), .unset, .unset, .unset] [(.int (0 : Int32))]))
                  have R1835 : Tr1 Z h1833 t s1 cb := ⟨ma, ha, r, fm, fh, cg, TC, hnr, hm0, hv0, hh0⟩
                  refine g_iload X1834 hx (hb hby at_203) (v := (0 : Int32)) rfl (q := 205) rfl ?_
                  refine g_if_ne X1834 hx (hb hby at_205) (by decide) (q := 217) (by decide) (q2 := 208) rfl (fun hb205 => absurd hb205 (by decide)) (fun hb205 => ?_)
                  refine g_iload X1834 hx (hb hby at_208) (v := (1 : Int32)) rfl (q := 210) rfl ?_
                  refine g_if_ne X1834 hx (hb hby at_210) (by decide) (q := 217) (by decide) (q2 := 213) rfl (fun hb210 => ?_) (fun hb210 => absurd hb210 (by decide))
                  refine g_iconst X1834 hx (hb hby at_217) (n := (0 : Int32)) (by decide) (q := 218) rfl ?_
                  refine g_icmp_ne X1834 hx (hb hby at_218) (by decide) (q := 225) (by decide) (q2 := 221) rfl (fun hb218 => absurd hb218 (by decide)) (fun hb218 => ?_)
                  refine g_iconst X1834 hx (hb hby at_221) (n := (1 : Int32)) (by decide) (q := 222) rfl ?_
                  refine g_goto X1834 hx (hb hby at_222) (by decide) (q := 226) (by decide) ?_
                  refine g_istore X1834 hx (hb hby at_226) (L' := #[.val (.int ia), .val (.int ib), .val (.int ic), .val (.int ops), .val (.int room), .val (.int (0 : Int32)), .val (.int (1 : Int32)), .val (.int z7), .val (.int z8), .val (.int z9), .val (.int ca), .val (.int cb), .val (.int cc), .val (.ref s0), .val (.ref s1), .val (.ref s2), .val val, .val (.ref t), .val (.int (1 : Int32)), .unset, .unset, .unset]) rfl (q := 228) rfl ?_
                  rcases hz7 with rfl | rfl
                  · refine g_iload X1834 hx (hb hby at_228) (v := (0 : Int32)) rfl (q := 230) rfl ?_
                    refine g_if_eq X1834 hx (hb hby at_230) (by decide) (q := 241) (by decide) (q2 := 233) rfl (fun hb230 => ?_) (fun hb230 => absurd hb230 (by decide))
                    rcases hz8 with rfl | rfl
                    · refine g_iload X1834 hx (hb hby at_241) (v := (0 : Int32)) rfl (q := 243) rfl ?_
                      refine g_if_eq X1834 hx (hb hby at_243) (by decide) (q := 251) (by decide) (q2 := 246) rfl (fun hb243 => ?_) (fun hb243 => absurd hb243 (by decide))
                      obtain ⟨ma, ha, r, fm, fh, cg, TC, hnr, hm0, hv0, hh0⟩ := R1835
                      exact J251 _ _ _ _ _ (1 : Int32) (X1834.more (Nat.le_of_ble_eq_true rfl) (Nat.le_of_ble_eq_true rfl)) e1834 hS1833 (Nat.le_refl _) hZ1833 hown1833 (by simpa using N1833) TC.1 TC.2.2.2.1 (by simp [own_sz, own_keep, own_exs])
                    · refine g_iload X1834 hx (hb hby at_241) (v := (1 : Int32)) rfl (q := 243) rfl ?_
                      refine g_if_eq X1834 hx (hb hby at_243) (by decide) (q := 251) (by decide) (q2 := 246) rfl (fun hb243 => absurd hb243 (by decide)) (fun hb243 => ?_)
                      refine g_aload X1834 hx (hb hby at_246) (v := (.ref t)) rfl rfl (q := 248) rfl ?_
                      obtain ⟨ma, ha, r, fm, fh, cg, TC, hnr, hm0, hv0, hh0⟩ := R1835
                      refine g_callV X1834 hx hZ1833 hown1833 (hw _ (List.mem_of_getElem? (i := 116) rfl)) (hw _ (List.mem_of_getElem? (i := 117) rfl)) (hw _ (List.mem_of_getElem? (i := 119) rfl)) (hw _ (List.mem_of_getElem? (i := 118) rfl)) (hw _ (List.mem_of_getElem? (i := 120) rfl)) (hw _ (List.mem_of_getElem? (i := 35) rfl)) (notFace_of_selects (args := #[]) (mvT hZ1833 (hw _ (List.mem_of_getElem? (i := 119) rfl)))) (by decide) e1834 TC.1 (rmCl1 l Z a0 hw t ma ha r fm fh cg h1833 n0 ge_t TC hnr) (by exact hml.symm) (argsL := []) (rest := []) rfl rfl pd_3 rfl (Nat.le_of_ble_eq_true rfl) (Nat.le_of_ble_eq_true rfl) (Nat.le_of_ble_eq_true rfl) (Nat.le_of_ble_eq_true rfl) (hb hby at_248) (q := 251) rfl (fun v1836 T1836 L1836 X1836 hQ1836 => ?_)
                      generalize e1836 : T1836.heap = h1836 at hQ1836
                      obtain ⟨rfl, M1836, U1836, R1836⟩ := hQ1836
                      have N1836 := Fr.app N1833 M1836
                      have hk_1836 := Nat.le_trans (Nat.le_refl _) (Up.le U1836)
                      show Go p e below _ (T1836.setTop (mkF m 251 #[.val (.int ia), .val (.int ib), .val (.int ic), .val (.int ops), .val (.int room), .val (.int (0 : Int32)), .val (.int (1 : Int32)), .val (.int (0 : Int32)), .val (.int (1 : Int32)), .val (.int z9), .val (.int ca), .val (.int cb), .val (.int cc), .val (.ref s0), .val (.ref s1), .val (.ref s2), .val val, .val (.ref t), .val (.int (1 : Int32)), .unset, .unset, .unset] []))
                      obtain ⟨ma, ha, r, fm, fh, cg, TC⟩ := R1836
                      exact J251 _ _ _ _ _ (0 : Int32) (X1836.more (Nat.le_of_ble_eq_true rfl) (Nat.le_of_ble_eq_true rfl)) e1836 hS1833 hk_1836 hZ1833 hown1833 (by simpa using N1836) TC.1 TC.2.2.2.1 (by simp [own_sz, own_keep, own_exs])
                  · refine g_iload X1834 hx (hb hby at_228) (v := (1 : Int32)) rfl (q := 230) rfl ?_
                    refine g_if_eq X1834 hx (hb hby at_230) (by decide) (q := 241) (by decide) (q2 := 233) rfl (fun hb230 => absurd hb230 (by decide)) (fun hb230 => ?_)
                    refine g_aload X1834 hx (hb hby at_233) (v := (.ref t)) rfl rfl (q := 235) rfl ?_
                    refine g_aload X1834 hx (hb hby at_235) (v := (.ref s2)) rfl rfl (q := 237) rfl ?_
                    obtain ⟨ma, ha, r, fm, fh, cg, TC, hnr, hm0, hv0, hh0⟩ := R1835
                    by_cases cm_cb_cc : cb = cc
                    · refine g_callV X1834 hx hZ1833 hown1833 (hw _ (List.mem_of_getElem? (i := 111) rfl)) (hw _ (List.mem_of_getElem? (i := 112) rfl)) (hw _ (List.mem_of_getElem? (i := 114) rfl)) (hw _ (List.mem_of_getElem? (i := 113) rfl)) (hw _ (List.mem_of_getElem? (i := 115) rfl)) (hw _ (List.mem_of_getElem? (i := 35) rfl)) (notFace_of_selects (args := #[]) (mvT hZ1833 (hw _ (List.mem_of_getElem? (i := 114) rfl)))) (by decide) e1834 TC.1 (rmRe1_0 l Z a0 hw t ma ha r fm fh cg s2 v2 cc cs hcs h1833 n0 ZZ1833 ge_s2 ge_t SC1833 F1833_2 hs2t hv2t TC hnr s1 cb hm0 hv0 hh0 F1833_1.sb v1 F1833_1 ne_s1_s2 ne_v1_s2 cm_cb_cc) (by exact hml.symm) (argsL := [(.ref s2)]) (rest := []) rfl rfl pd_20 rfl (Nat.le_of_ble_eq_true rfl) (Nat.le_of_ble_eq_true rfl) (Nat.le_of_ble_eq_true rfl) (Nat.le_of_ble_eq_true rfl) (hb hby at_237) (q := 240) rfl (fun v1837 T1837 L1837 X1837 hQ1837 => ?_)
                      generalize e1837 : T1837.heap = h1837 at hQ1837
                      obtain ⟨pv1837, rfl, rv1837, M1837, U1837, F1837_2, R1837⟩ := hQ1837
                      have N1837 := Fr.app N1833 M1837
                      have hk_1837 := Nat.le_trans (Nat.le_refl _) (Up.le U1837)
                      have F1837_0 := Up.str U1837 F1833_0 ne_s0_s2 hs0t ne_v0_s2 hv0t
                      have F1837_1 := Up.str U1837 F1833_1 ne_s1_s2 hs1t ne_v1_s2 hv1t
                      have VV1837 := Up.vok U1837 VV1833
                      have SC1837 := Up.sta U1837 SC1833
                      have ZZ1837 := Nat.le_trans ZZ1833 (Up.le U1837)
                      show Go p e below _ (T1837.setTop (mkF m 240 #[.val (.int ia), .val (.int ib), .val (.int ic), .val (.int ops), .val (.int room), .val (.int (0 : Int32)), .val (.int (1 : Int32)), .val (.int (1 : Int32)), .val (.int z8), .val (.int z9), .val (.int ca), .val (.int cb), .val (.int cc), .val (.ref s0), .val (.ref s1), .val (.ref s2), .val val, .val (.ref t), .val (.int (1 : Int32)), .unset, .unset, .unset] [pv1837]))
                      refine g_pop X1837 hx (hb hby at_240) (own_cat1 rv1837) (q := 241) rfl ?_
                      rcases hz8 with rfl | rfl
                      · refine g_iload X1837 hx (hb hby at_241) (v := (0 : Int32)) rfl (q := 243) rfl ?_
                        refine g_if_eq X1837 hx (hb hby at_243) (by decide) (q := 251) (by decide) (q2 := 246) rfl (fun hb243 => ?_) (fun hb243 => absurd hb243 (by decide))
                        obtain ⟨ma, ha, r, fm, fh, cg, TC⟩ := R1837
                        exact J251 _ _ _ _ _ (0 : Int32) (X1837.more (Nat.le_of_ble_eq_true rfl) (Nat.le_of_ble_eq_true rfl)) e1837 hS1833 hk_1837 hZ1833 hown1833 (by simpa using N1837) TC.1 TC.2.2.2.1 (by simp [own_sz, own_keep, own_exs, eq_true cm_cb_cc])
                      · refine g_iload X1837 hx (hb hby at_241) (v := (1 : Int32)) rfl (q := 243) rfl ?_
                        refine g_if_eq X1837 hx (hb hby at_243) (by decide) (q := 251) (by decide) (q2 := 246) rfl (fun hb243 => absurd hb243 (by decide)) (fun hb243 => ?_)
                        refine g_aload X1837 hx (hb hby at_246) (v := (.ref t)) rfl rfl (q := 248) rfl ?_
                        obtain ⟨ma, ha, r, fm, fh, cg, TC⟩ := R1837
                        refine g_callV X1837 hx hZ1833 hown1833 (hw _ (List.mem_of_getElem? (i := 116) rfl)) (hw _ (List.mem_of_getElem? (i := 117) rfl)) (hw _ (List.mem_of_getElem? (i := 119) rfl)) (hw _ (List.mem_of_getElem? (i := 118) rfl)) (hw _ (List.mem_of_getElem? (i := 120) rfl)) (hw _ (List.mem_of_getElem? (i := 35) rfl)) (notFace_of_selects (args := #[]) (mvT hZ1833 (hw _ (List.mem_of_getElem? (i := 119) rfl)))) (by decide) e1837 TC.1 (rmCl0 l Z a0 hw t ma ha r fm fh cg h1837 n0 ge_t TC (Nat.zero_le _)) (by exact hml.symm) (argsL := []) (rest := []) rfl rfl pd_3 rfl (Nat.le_of_ble_eq_true rfl) (Nat.le_of_ble_eq_true rfl) (Nat.le_of_ble_eq_true rfl) (Nat.le_of_ble_eq_true rfl) (hb hby at_248) (q := 251) rfl (fun v1838 T1838 L1838 X1838 hQ1838 => ?_)
                        generalize e1838 : T1838.heap = h1838 at hQ1838
                        obtain ⟨rfl, M1838, U1838, R1838⟩ := hQ1838
                        have N1838 := Fr.app N1837 M1838
                        have hk_1838 := Nat.le_trans hk_1837 (Up.le U1838)
                        show Go p e below _ (T1838.setTop (mkF m 251 #[.val (.int ia), .val (.int ib), .val (.int ic), .val (.int ops), .val (.int room), .val (.int (0 : Int32)), .val (.int (1 : Int32)), .val (.int (1 : Int32)), .val (.int (1 : Int32)), .val (.int z9), .val (.int ca), .val (.int cb), .val (.int cc), .val (.ref s0), .val (.ref s1), .val (.ref s2), .val val, .val (.ref t), .val (.int (1 : Int32)), .unset, .unset, .unset] []))
                        obtain ⟨ma, ha, r, fm, fh, cg, TC⟩ := R1838
                        exact J251 _ _ _ _ _ (0 : Int32) (X1838.more (Nat.le_of_ble_eq_true rfl) (Nat.le_of_ble_eq_true rfl)) e1838 hS1833 hk_1838 hZ1833 hown1833 (by simpa using N1838) TC.1 TC.2.2.2.1 (by simp [own_sz, own_keep, own_exs, eq_true cm_cb_cc])
                    · refine g_callV X1834 hx hZ1833 hown1833 (hw _ (List.mem_of_getElem? (i := 111) rfl)) (hw _ (List.mem_of_getElem? (i := 112) rfl)) (hw _ (List.mem_of_getElem? (i := 114) rfl)) (hw _ (List.mem_of_getElem? (i := 113) rfl)) (hw _ (List.mem_of_getElem? (i := 115) rfl)) (hw _ (List.mem_of_getElem? (i := 35) rfl)) (notFace_of_selects (args := #[]) (mvT hZ1833 (hw _ (List.mem_of_getElem? (i := 114) rfl)))) (by decide) e1834 TC.1 (rmRe1 l Z a0 hw t ma ha r fm fh cg s2 v2 cc cs hcs h1833 n0 ZZ1833 ge_s2 ge_t SC1833 F1833_2 hs2t hv2t TC hnr s1 cb hm0 hv0 hh0 F1833_1.sb v1 F1833_1 ne_s1_s2 ne_v1_s2 cm_cb_cc) (by exact hml.symm) (argsL := [(.ref s2)]) (rest := []) rfl rfl pd_20 rfl (Nat.le_of_ble_eq_true rfl) (Nat.le_of_ble_eq_true rfl) (Nat.le_of_ble_eq_true rfl) (Nat.le_of_ble_eq_true rfl) (hb hby at_237) (q := 240) rfl (fun v1839 T1839 L1839 X1839 hQ1839 => ?_)
                      generalize e1839 : T1839.heap = h1839 at hQ1839
                      obtain ⟨pv1839, rfl, rv1839, M1839, U1839, F1839_2, R1839⟩ := hQ1839
                      have N1839 := Fr.app N1833 M1839
                      have hk_1839 := Nat.le_trans (Nat.le_refl _) (Up.le U1839)
                      have F1839_0 := Up.str U1839 F1833_0 ne_s0_s2 hs0t ne_v0_s2 hv0t
                      have F1839_1 := Up.str U1839 F1833_1 ne_s1_s2 hs1t ne_v1_s2 hv1t
                      have VV1839 := Up.vok U1839 VV1833
                      have SC1839 := Up.sta U1839 SC1833
                      have ZZ1839 := Nat.le_trans ZZ1833 (Up.le U1839)
                      show Go p e below _ (T1839.setTop (mkF m 240 #[.val (.int ia), .val (.int ib), .val (.int ic), .val (.int ops), .val (.int room), .val (.int (0 : Int32)), .val (.int (1 : Int32)), .val (.int (1 : Int32)), .val (.int z8), .val (.int z9), .val (.int ca), .val (.int cb), .val (.int cc), .val (.ref s0), .val (.ref s1), .val (.ref s2), .val val, .val (.ref t), .val (.int (1 : Int32)), .unset, .unset, .unset] [pv1839]))
                      refine g_pop X1839 hx (hb hby at_240) (own_cat1 rv1839) (q := 241) rfl ?_
                      rcases hz8 with rfl | rfl
                      · refine g_iload X1839 hx (hb hby at_241) (v := (0 : Int32)) rfl (q := 243) rfl ?_
                        refine g_if_eq X1839 hx (hb hby at_243) (by decide) (q := 251) (by decide) (q2 := 246) rfl (fun hb243 => ?_) (fun hb243 => absurd hb243 (by decide))
                        obtain ⟨ma, ha, r, fm, fh, cg, TC, hnr, hm0, hv0, hh0⟩ := R1839
                        exact J251 _ _ _ _ _ (1 : Int32) (X1839.more (Nat.le_of_ble_eq_true rfl) (Nat.le_of_ble_eq_true rfl)) e1839 hS1833 hk_1839 hZ1833 hown1833 (by simpa using N1839) TC.1 TC.2.2.2.1 (by simp [own_sz, own_keep, own_exs, eq_false cm_cb_cc])
                      · refine g_iload X1839 hx (hb hby at_241) (v := (1 : Int32)) rfl (q := 243) rfl ?_
                        refine g_if_eq X1839 hx (hb hby at_243) (by decide) (q := 251) (by decide) (q2 := 246) rfl (fun hb243 => absurd hb243 (by decide)) (fun hb243 => ?_)
                        refine g_aload X1839 hx (hb hby at_246) (v := (.ref t)) rfl rfl (q := 248) rfl ?_
                        obtain ⟨ma, ha, r, fm, fh, cg, TC, hnr, hm0, hv0, hh0⟩ := R1839
                        refine g_callV X1839 hx hZ1833 hown1833 (hw _ (List.mem_of_getElem? (i := 116) rfl)) (hw _ (List.mem_of_getElem? (i := 117) rfl)) (hw _ (List.mem_of_getElem? (i := 119) rfl)) (hw _ (List.mem_of_getElem? (i := 118) rfl)) (hw _ (List.mem_of_getElem? (i := 120) rfl)) (hw _ (List.mem_of_getElem? (i := 35) rfl)) (notFace_of_selects (args := #[]) (mvT hZ1833 (hw _ (List.mem_of_getElem? (i := 119) rfl)))) (by decide) e1839 TC.1 (rmCl1 l Z a0 hw t ma ha r fm fh cg h1839 n0 ge_t TC hnr) (by exact hml.symm) (argsL := []) (rest := []) rfl rfl pd_3 rfl (Nat.le_of_ble_eq_true rfl) (Nat.le_of_ble_eq_true rfl) (Nat.le_of_ble_eq_true rfl) (Nat.le_of_ble_eq_true rfl) (hb hby at_248) (q := 251) rfl (fun v1840 T1840 L1840 X1840 hQ1840 => ?_)
                        generalize e1840 : T1840.heap = h1840 at hQ1840
                        obtain ⟨rfl, M1840, U1840, R1840⟩ := hQ1840
                        have N1840 := Fr.app N1839 M1840
                        have hk_1840 := Nat.le_trans hk_1839 (Up.le U1840)
                        show Go p e below _ (T1840.setTop (mkF m 251 #[.val (.int ia), .val (.int ib), .val (.int ic), .val (.int ops), .val (.int room), .val (.int (0 : Int32)), .val (.int (1 : Int32)), .val (.int (1 : Int32)), .val (.int (1 : Int32)), .val (.int z9), .val (.int ca), .val (.int cb), .val (.int cc), .val (.ref s0), .val (.ref s1), .val (.ref s2), .val val, .val (.ref t), .val (.int (1 : Int32)), .unset, .unset, .unset] []))
                        obtain ⟨ma, ha, r, fm, fh, cg, TC⟩ := R1840
                        exact J251 _ _ _ _ _ (0 : Int32) (X1840.more (Nat.le_of_ble_eq_true rfl) (Nat.le_of_ble_eq_true rfl)) e1840 hS1833 hk_1840 hZ1833 hown1833 (by simpa using N1840) TC.1 TC.2.2.2.1 (by simp [own_sz, own_keep, own_exs, eq_false cm_cb_cc])
              · refine g_iload X1824 hx (hb hby at_163) (v := (1 : Int32)) rfl (q := 165) rfl ?_
                refine g_if_eq X1824 hx (hb hby at_165) (by decide) (q := 178) (by decide) (q2 := 168) rfl (fun hb165 => absurd hb165 (by decide)) (fun hb165 => ?_)
                refine g_aload X1824 hx (hb hby at_168) (v := (.ref t)) rfl rfl (q := 170) rfl ?_
                refine g_aload X1824 hx (hb hby at_170) (v := (.ref s0)) rfl rfl (q := 172) rfl ?_
                refine g_aload X1824 hx (hb hby at_172) (v := val) rfl VV.isRef (q := 174) rfl ?_
                obtain ⟨ma, ha, r, fm, fh, cg, TC⟩ := R1825
                refine g_callVW X1824 hx hZ hown (hw _ (List.mem_of_getElem? (i := 64) rfl)) (hw _ (List.mem_of_getElem? (i := 65) rfl)) (hw _ (List.mem_of_getElem? (i := 67) rfl)) (hw _ (List.mem_of_getElem? (i := 66) rfl)) (hw _ (List.mem_of_getElem? (i := 68) rfl)) (hw _ (List.mem_of_getElem? (i := 35) rfl)) (notFace_of_selects (args := #[]) (mvT hZ (hw _ (List.mem_of_getElem? (i := 67) rfl)))) (by decide) e1824 hS hk_1817 TC.1 (rmPut0 l Z a0 hw t ma ha r fm fh cg s0 v0 mr val ca cs hcs h1817 n0 z_1817 ge_s0 ge_t f1818 f1820 f1819.sb f1819.isRef MR hs0t hv0t TC (Nat.zero_le _)) (by exact hml.symm) (argsL := [(.ref s0), val]) (rest := []) rfl rfl pd_21 rfl (Nat.le_of_ble_eq_true rfl) (Nat.le_of_ble_eq_true rfl) (Nat.le_of_ble_eq_true rfl) (Nat.le_of_ble_eq_true rfl) (hb hby at_174) (q := 177) rfl fun v1841 T1841 L1841 h1841 e1841 X1841 hS1841 hZ1841 hown1841 hQ1841 => ?_
                obtain ⟨pv1841, rfl, rv1841, M1841, U1841, F1841_0, R1841⟩ := hQ1841
                have N1841 := Fr.app N1817 M1841
                have F1841_1 := Up.str U1841 f1821 (Ne.symm ne_s0_s1) hs1t (Ne.symm ne_s0_v1) hv1t
                have F1841_2 := Up.str U1841 f1822 (Ne.symm ne_s0_s2) hs2t (Ne.symm ne_s0_v2) hv2t
                have VV1841 := Up.vok U1841 f1819
                have SC1841 := Up.sta U1841 f1818
                have ZZ1841 := Nat.le_trans z_1817 (Up.le U1841)
                show Go p e below _ (T1841.setTop (mkF m 177 #[.val (.int ia), .val (.int ib), .val (.int ic), .val (.int ops), .val (.int room), .val (.int (1 : Int32)), .val (.int z6), .val (.int z7), .val (.int z8), .val (.int z9), .val (.int ca), .val (.int cb), .val (.int cc), .val (.ref s0), .val (.ref s1), .val (.ref s2), .val val, .val (.ref t), .val (.int (1 : Int32)), .unset, .unset, .unset] [pv1841]))
                refine g_pop X1841 hx (hb hby at_177) (own_cat1 rv1841) (q := 178) rfl ?_
                rcases hz6 with rfl | rfl
                · refine g_iload X1841 hx (hb hby at_178) (v := (0 : Int32)) rfl (q := 180) rfl ?_
                  refine g_if_eq X1841 hx (hb hby at_180) (by decide) (q := 193) (by decide) (q2 := 183) rfl (fun hb180 => ?_) (fun hb180 => absurd hb180 (by decide))
                  refine g_iload X1841 hx (hb hby at_193) (v := (1 : Int32)) rfl (q := 195) rfl ?_
                  refine g_if_eq X1841 hx (hb hby at_195) (by decide) (q := 225) (by decide) (q2 := 198) rfl (fun hb195 => absurd hb195 (by decide)) (fun hb195 => ?_)
                  refine g_aload X1841 hx (hb hby at_198) (v := (.ref t)) rfl rfl (q := 200) rfl ?_
                  obtain ⟨ma, ha, r, fm, fh, cg, TC, hnr, hm0, hv0, hh0⟩ := R1841
                  refine g_callV X1841 hx hZ1841 hown1841 (hw _ (List.mem_of_getElem? (i := 52) rfl)) (hw _ (List.mem_of_getElem? (i := 53) rfl)) (hw _ (List.mem_of_getElem? (i := 55) rfl)) (hw _ (List.mem_of_getElem? (i := 54) rfl)) (hw _ (List.mem_of_getElem? (i := 56) rfl)) (hw _ (List.mem_of_getElem? (i := 35) rfl)) (notFace_of_selects (args := #[]) (mvT hZ1841 (hw _ (List.mem_of_getElem? (i := 55) rfl)))) (by decide) e1841 TC.1 (rmE1 l Z a0 hw t h1841 TC.2.2.2.1) (by exact hml.symm) (argsL := []) (rest := []) rfl rfl pd_5 rfl (Nat.le_of_ble_eq_true rfl) (Nat.le_of_ble_eq_true rfl) (Nat.le_of_ble_eq_true rfl) (Nat.le_of_ble_eq_true rfl) (hb hby at_200) (q := 203) rfl (g_pure rfl rfl fun T1842 X1842 e1842 => ?_)
                  show Go p e below _ (T1842.setTop (mkF m 203 #[.val (.int ia), .val (.int ib), .val (.int ic), .val (.int ops), .val (.int room), .val (.int (1 : Int32)), .val (.int (0 : Int32)), .val (.int z7), .val (.int z8), .val (.int z9), .val (.int ca), .val (.int cb), .val (.int cc), .val (.ref s0), .val (.ref s1), .val (.ref s2), .val val, .val (.ref t), .val (.int (1 : Int32)), .unset, .unset, .unset] [(.int (0 : Int32))]))
                  have R1843 : Tr1 Z h1841 t s0 ca := ⟨ma, ha, r, fm, fh, cg, TC, hnr, hm0, hv0, hh0⟩
                  refine g_iload X1842 hx (hb hby at_203) (v := (1 : Int32)) rfl (q := 205) rfl ?_
                  refine g_if_ne X1842 hx (hb hby at_205) (by decide) (q := 217) (by decide) (q2 := 208) rfl (fun hb205 => ?_) (fun hb205 => absurd hb205 (by decide))
                  refine g_iconst X1842 hx (hb hby at_217) (n := (0 : Int32)) (by decide) (q := 218) rfl ?_
                  refine g_icmp_ne X1842 hx (hb hby at_218) (by decide) (q := 225) (by decide) (q2 := 221) rfl (fun hb218 => absurd hb218 (by decide)) (fun hb218 => ?_)
                  refine g_iconst X1842 hx (hb hby at_221) (n := (1 : Int32)) (by decide) (q := 222) rfl ?_
                  refine g_goto X1842 hx (hb hby at_222) (by decide) (q := 226) (by decide) ?_
                  refine g_istore X1842 hx (hb hby at_226) (L' := #[.val (.int ia), .val (.int ib), .val (.int ic), .val (.int ops), .val (.int room), .val (.int (1 : Int32)), .val (.int (0 : Int32)), .val (.int z7), .val (.int z8), .val (.int z9), .val (.int ca), .val (.int cb), .val (.int cc), .val (.ref s0), .val (.ref s1), .val (.ref s2), .val val, .val (.ref t), .val (.int (1 : Int32)), .unset, .unset, .unset]) rfl (q := 228) rfl ?_
                  rcases hz7 with rfl | rfl
                  · refine g_iload X1842 hx (hb hby at_228) (v := (0 : Int32)) rfl (q := 230) rfl ?_
                    refine g_if_eq X1842 hx (hb hby at_230) (by decide) (q := 241) (by decide) (q2 := 233) rfl (fun hb230 => ?_) (fun hb230 => absurd hb230 (by decide))
                    rcases hz8 with rfl | rfl
                    · refine g_iload X1842 hx (hb hby at_241) (v := (0 : Int32)) rfl (q := 243) rfl ?_
                      refine g_if_eq X1842 hx (hb hby at_243) (by decide) (q := 251) (by decide) (q2 := 246) rfl (fun hb243 => ?_) (fun hb243 => absurd hb243 (by decide))
                      obtain ⟨ma, ha, r, fm, fh, cg, TC, hnr, hm0, hv0, hh0⟩ := R1843
                      exact J251 _ _ _ _ _ (1 : Int32) (X1842.more (Nat.le_of_ble_eq_true rfl) (Nat.le_of_ble_eq_true rfl)) e1842 hS1841 (Nat.le_refl _) hZ1841 hown1841 (by simpa using N1841) TC.1 TC.2.2.2.1 (by simp [own_sz, own_keep, own_exs])
                    · refine g_iload X1842 hx (hb hby at_241) (v := (1 : Int32)) rfl (q := 243) rfl ?_
                      refine g_if_eq X1842 hx (hb hby at_243) (by decide) (q := 251) (by decide) (q2 := 246) rfl (fun hb243 => absurd hb243 (by decide)) (fun hb243 => ?_)
                      refine g_aload X1842 hx (hb hby at_246) (v := (.ref t)) rfl rfl (q := 248) rfl ?_
                      obtain ⟨ma, ha, r, fm, fh, cg, TC, hnr, hm0, hv0, hh0⟩ := R1843
                      refine g_callV X1842 hx hZ1841 hown1841 (hw _ (List.mem_of_getElem? (i := 116) rfl)) (hw _ (List.mem_of_getElem? (i := 117) rfl)) (hw _ (List.mem_of_getElem? (i := 119) rfl)) (hw _ (List.mem_of_getElem? (i := 118) rfl)) (hw _ (List.mem_of_getElem? (i := 120) rfl)) (hw _ (List.mem_of_getElem? (i := 35) rfl)) (notFace_of_selects (args := #[]) (mvT hZ1841 (hw _ (List.mem_of_getElem? (i := 119) rfl)))) (by decide) e1842 TC.1 (rmCl1 l Z a0 hw t ma ha r fm fh cg h1841 n0 ge_t TC hnr) (by exact hml.symm) (argsL := []) (rest := []) rfl rfl pd_3 rfl (Nat.le_of_ble_eq_true rfl) (Nat.le_of_ble_eq_true rfl) (Nat.le_of_ble_eq_true rfl) (Nat.le_of_ble_eq_true rfl) (hb hby at_248) (q := 251) rfl (fun v1844 T1844 L1844 X1844 hQ1844 => ?_)
                      generalize e1844 : T1844.heap = h1844 at hQ1844
                      obtain ⟨rfl, M1844, U1844, R1844⟩ := hQ1844
                      have N1844 := Fr.app N1841 M1844
                      have hk_1844 := Nat.le_trans (Nat.le_refl _) (Up.le U1844)
                      show Go p e below _ (T1844.setTop (mkF m 251 #[.val (.int ia), .val (.int ib), .val (.int ic), .val (.int ops), .val (.int room), .val (.int (1 : Int32)), .val (.int (0 : Int32)), .val (.int (0 : Int32)), .val (.int (1 : Int32)), .val (.int z9), .val (.int ca), .val (.int cb), .val (.int cc), .val (.ref s0), .val (.ref s1), .val (.ref s2), .val val, .val (.ref t), .val (.int (1 : Int32)), .unset, .unset, .unset] []))
                      obtain ⟨ma, ha, r, fm, fh, cg, TC⟩ := R1844
                      exact J251 _ _ _ _ _ (0 : Int32) (X1844.more (Nat.le_of_ble_eq_true rfl) (Nat.le_of_ble_eq_true rfl)) e1844 hS1841 hk_1844 hZ1841 hown1841 (by simpa using N1844) TC.1 TC.2.2.2.1 (by simp [own_sz, own_keep, own_exs])
                  · refine g_iload X1842 hx (hb hby at_228) (v := (1 : Int32)) rfl (q := 230) rfl ?_
                    refine g_if_eq X1842 hx (hb hby at_230) (by decide) (q := 241) (by decide) (q2 := 233) rfl (fun hb230 => absurd hb230 (by decide)) (fun hb230 => ?_)
                    refine g_aload X1842 hx (hb hby at_233) (v := (.ref t)) rfl rfl (q := 235) rfl ?_
                    refine g_aload X1842 hx (hb hby at_235) (v := (.ref s2)) rfl rfl (q := 237) rfl ?_
                    obtain ⟨ma, ha, r, fm, fh, cg, TC, hnr, hm0, hv0, hh0⟩ := R1843
                    by_cases cm_ca_cc : ca = cc
                    · refine g_callV X1842 hx hZ1841 hown1841 (hw _ (List.mem_of_getElem? (i := 111) rfl)) (hw _ (List.mem_of_getElem? (i := 112) rfl)) (hw _ (List.mem_of_getElem? (i := 114) rfl)) (hw _ (List.mem_of_getElem? (i := 113) rfl)) (hw _ (List.mem_of_getElem? (i := 115) rfl)) (hw _ (List.mem_of_getElem? (i := 35) rfl)) (notFace_of_selects (args := #[]) (mvT hZ1841 (hw _ (List.mem_of_getElem? (i := 114) rfl)))) (by decide) e1842 TC.1 (rmRe1_0 l Z a0 hw t ma ha r fm fh cg s2 v2 cc cs hcs h1841 n0 ZZ1841 ge_s2 ge_t SC1841 F1841_2 hs2t hv2t TC hnr s0 ca hm0 hv0 hh0 F1841_0.sb v0 F1841_0 ne_s0_s2 ne_v0_s2 cm_ca_cc) (by exact hml.symm) (argsL := [(.ref s2)]) (rest := []) rfl rfl pd_20 rfl (Nat.le_of_ble_eq_true rfl) (Nat.le_of_ble_eq_true rfl) (Nat.le_of_ble_eq_true rfl) (Nat.le_of_ble_eq_true rfl) (hb hby at_237) (q := 240) rfl (fun v1845 T1845 L1845 X1845 hQ1845 => ?_)
                      generalize e1845 : T1845.heap = h1845 at hQ1845
                      obtain ⟨pv1845, rfl, rv1845, M1845, U1845, F1845_2, R1845⟩ := hQ1845
                      have N1845 := Fr.app N1841 M1845
                      have hk_1845 := Nat.le_trans (Nat.le_refl _) (Up.le U1845)
                      have F1845_0 := Up.str U1845 F1841_0 ne_s0_s2 hs0t ne_v0_s2 hv0t
                      have F1845_1 := Up.str U1845 F1841_1 ne_s1_s2 hs1t ne_v1_s2 hv1t
                      have VV1845 := Up.vok U1845 VV1841
                      have SC1845 := Up.sta U1845 SC1841
                      have ZZ1845 := Nat.le_trans ZZ1841 (Up.le U1845)
                      show Go p e below _ (T1845.setTop (mkF m 240 #[.val (.int ia), .val (.int ib), .val (.int ic), .val (.int ops), .val (.int room), .val (.int (1 : Int32)), .val (.int (0 : Int32)), .val (.int (1 : Int32)), .val (.int z8), .val (.int z9), .val (.int ca), .val (.int cb), .val (.int cc), .val (.ref s0), .val (.ref s1), .val (.ref s2), .val val, .val (.ref t), .val (.int (1 : Int32)), .unset, .unset, .unset] [pv1845]))
                      refine g_pop X1845 hx (hb hby at_240) (own_cat1 rv1845) (q := 241) rfl ?_
                      rcases hz8 with rfl | rfl
                      · refine g_iload X1845 hx (hb hby at_241) (v := (0 : Int32)) rfl (q := 243) rfl ?_
                        refine g_if_eq X1845 hx (hb hby at_243) (by decide) (q := 251) (by decide) (q2 := 246) rfl (fun hb243 => ?_) (fun hb243 => absurd hb243 (by decide))
                        obtain ⟨ma, ha, r, fm, fh, cg, TC⟩ := R1845
                        exact J251 _ _ _ _ _ (0 : Int32) (X1845.more (Nat.le_of_ble_eq_true rfl) (Nat.le_of_ble_eq_true rfl)) e1845 hS1841 hk_1845 hZ1841 hown1841 (by simpa using N1845) TC.1 TC.2.2.2.1 (by simp [own_sz, own_keep, own_exs, eq_true cm_ca_cc])
                      · refine g_iload X1845 hx (hb hby at_241) (v := (1 : Int32)) rfl (q := 243) rfl ?_
                        refine g_if_eq X1845 hx (hb hby at_243) (by decide) (q := 251) (by decide) (q2 := 246) rfl (fun hb243 => absurd hb243 (by decide)) (fun hb243 => ?_)
                        refine g_aload X1845 hx (hb hby at_246) (v := (.ref t)) rfl rfl (q := 248) rfl ?_
                        obtain ⟨ma, ha, r, fm, fh, cg, TC⟩ := R1845
                        refine g_callV X1845 hx hZ1841 hown1841 (hw _ (List.mem_of_getElem? (i := 116) rfl)) (hw _ (List.mem_of_getElem? (i := 117) rfl)) (hw _ (List.mem_of_getElem? (i := 119) rfl)) (hw _ (List.mem_of_getElem? (i := 118) rfl)) (hw _ (List.mem_of_getElem? (i := 120) rfl)) (hw _ (List.mem_of_getElem? (i := 35) rfl)) (notFace_of_selects (args := #[]) (mvT hZ1841 (hw _ (List.mem_of_getElem? (i := 119) rfl)))) (by decide) e1845 TC.1 (rmCl0 l Z a0 hw t ma ha r fm fh cg h1845 n0 ge_t TC (Nat.zero_le _)) (by exact hml.symm) (argsL := []) (rest := []) rfl rfl pd_3 rfl (Nat.le_of_ble_eq_true rfl) (Nat.le_of_ble_eq_true rfl) (Nat.le_of_ble_eq_true rfl) (Nat.le_of_ble_eq_true rfl) (hb hby at_248) (q := 251) rfl (fun v1846 T1846 L1846 X1846 hQ1846 => ?_)
                        generalize e1846 : T1846.heap = h1846 at hQ1846
                        obtain ⟨rfl, M1846, U1846, R1846⟩ := hQ1846
                        have N1846 := Fr.app N1845 M1846
                        have hk_1846 := Nat.le_trans hk_1845 (Up.le U1846)
                        show Go p e below _ (T1846.setTop (mkF m 251 #[.val (.int ia), .val (.int ib), .val (.int ic), .val (.int ops), .val (.int room), .val (.int (1 : Int32)), .val (.int (0 : Int32)), .val (.int (1 : Int32)), .val (.int (1 : Int32)), .val (.int z9), .val (.int ca), .val (.int cb), .val (.int cc), .val (.ref s0), .val (.ref s1), .val (.ref s2), .val val, .val (.ref t), .val (.int (1 : Int32)), .unset, .unset, .unset] []))
                        obtain ⟨ma, ha, r, fm, fh, cg, TC⟩ := R1846
                        exact J251 _ _ _ _ _ (0 : Int32) (X1846.more (Nat.le_of_ble_eq_true rfl) (Nat.le_of_ble_eq_true rfl)) e1846 hS1841 hk_1846 hZ1841 hown1841 (by simpa using N1846) TC.1 TC.2.2.2.1 (by simp [own_sz, own_keep, own_exs, eq_true cm_ca_cc])
                    · refine g_callV X1842 hx hZ1841 hown1841 (hw _ (List.mem_of_getElem? (i := 111) rfl)) (hw _ (List.mem_of_getElem? (i := 112) rfl)) (hw _ (List.mem_of_getElem? (i := 114) rfl)) (hw _ (List.mem_of_getElem? (i := 113) rfl)) (hw _ (List.mem_of_getElem? (i := 115) rfl)) (hw _ (List.mem_of_getElem? (i := 35) rfl)) (notFace_of_selects (args := #[]) (mvT hZ1841 (hw _ (List.mem_of_getElem? (i := 114) rfl)))) (by decide) e1842 TC.1 (rmRe1 l Z a0 hw t ma ha r fm fh cg s2 v2 cc cs hcs h1841 n0 ZZ1841 ge_s2 ge_t SC1841 F1841_2 hs2t hv2t TC hnr s0 ca hm0 hv0 hh0 F1841_0.sb v0 F1841_0 ne_s0_s2 ne_v0_s2 cm_ca_cc) (by exact hml.symm) (argsL := [(.ref s2)]) (rest := []) rfl rfl pd_20 rfl (Nat.le_of_ble_eq_true rfl) (Nat.le_of_ble_eq_true rfl) (Nat.le_of_ble_eq_true rfl) (Nat.le_of_ble_eq_true rfl) (hb hby at_237) (q := 240) rfl (fun v1847 T1847 L1847 X1847 hQ1847 => ?_)
                      generalize e1847 : T1847.heap = h1847 at hQ1847
                      obtain ⟨pv1847, rfl, rv1847, M1847, U1847, F1847_2, R1847⟩ := hQ1847
                      have N1847 := Fr.app N1841 M1847
                      have hk_1847 := Nat.le_trans (Nat.le_refl _) (Up.le U1847)
                      have F1847_0 := Up.str U1847 F1841_0 ne_s0_s2 hs0t ne_v0_s2 hv0t
                      have F1847_1 := Up.str U1847 F1841_1 ne_s1_s2 hs1t ne_v1_s2 hv1t
                      have VV1847 := Up.vok U1847 VV1841
                      have SC1847 := Up.sta U1847 SC1841
                      have ZZ1847 := Nat.le_trans ZZ1841 (Up.le U1847)
                      show Go p e below _ (T1847.setTop (mkF m 240 #[.val (.int ia), .val (.int ib), .val (.int ic), .val (.int ops), .val (.int room), .val (.int (1 : Int32)), .val (.int (0 : Int32)), .val (.int (1 : Int32)), .val (.int z8), .val (.int z9), .val (.int ca), .val (.int cb), .val (.int cc), .val (.ref s0), .val (.ref s1), .val (.ref s2), .val val, .val (.ref t), .val (.int (1 : Int32)), .unset, .unset, .unset] [pv1847]))
                      refine g_pop X1847 hx (hb hby at_240) (own_cat1 rv1847) (q := 241) rfl ?_
                      rcases hz8 with rfl | rfl
                      · refine g_iload X1847 hx (hb hby at_241) (v := (0 : Int32)) rfl (q := 243) rfl ?_
                        refine g_if_eq X1847 hx (hb hby at_243) (by decide) (q := 251) (by decide) (q2 := 246) rfl (fun hb243 => ?_) (fun hb243 => absurd hb243 (by decide))
                        obtain ⟨ma, ha, r, fm, fh, cg, TC, hnr, hm0, hv0, hh0⟩ := R1847
                        exact J251 _ _ _ _ _ (1 : Int32) (X1847.more (Nat.le_of_ble_eq_true rfl) (Nat.le_of_ble_eq_true rfl)) e1847 hS1841 hk_1847 hZ1841 hown1841 (by simpa using N1847) TC.1 TC.2.2.2.1 (by simp [own_sz, own_keep, own_exs, eq_false cm_ca_cc])
                      · refine g_iload X1847 hx (hb hby at_241) (v := (1 : Int32)) rfl (q := 243) rfl ?_
                        refine g_if_eq X1847 hx (hb hby at_243) (by decide) (q := 251) (by decide) (q2 := 246) rfl (fun hb243 => absurd hb243 (by decide)) (fun hb243 => ?_)
                        refine g_aload X1847 hx (hb hby at_246) (v := (.ref t)) rfl rfl (q := 248) rfl ?_
                        obtain ⟨ma, ha, r, fm, fh, cg, TC, hnr, hm0, hv0, hh0⟩ := R1847
                        refine g_callV X1847 hx hZ1841 hown1841 (hw _ (List.mem_of_getElem? (i := 116) rfl)) (hw _ (List.mem_of_getElem? (i := 117) rfl)) (hw _ (List.mem_of_getElem? (i := 119) rfl)) (hw _ (List.mem_of_getElem? (i := 118) rfl)) (hw _ (List.mem_of_getElem? (i := 120) rfl)) (hw _ (List.mem_of_getElem? (i := 35) rfl)) (notFace_of_selects (args := #[]) (mvT hZ1841 (hw _ (List.mem_of_getElem? (i := 119) rfl)))) (by decide) e1847 TC.1 (rmCl1 l Z a0 hw t ma ha r fm fh cg h1847 n0 ge_t TC hnr) (by exact hml.symm) (argsL := []) (rest := []) rfl rfl pd_3 rfl (Nat.le_of_ble_eq_true rfl) (Nat.le_of_ble_eq_true rfl) (Nat.le_of_ble_eq_true rfl) (Nat.le_of_ble_eq_true rfl) (hb hby at_248) (q := 251) rfl (fun v1848 T1848 L1848 X1848 hQ1848 => ?_)
                        generalize e1848 : T1848.heap = h1848 at hQ1848
                        obtain ⟨rfl, M1848, U1848, R1848⟩ := hQ1848
                        have N1848 := Fr.app N1847 M1848
                        have hk_1848 := Nat.le_trans hk_1847 (Up.le U1848)
                        show Go p e below _ (T1848.setTop (mkF m 251 #[.val (.int ia), .val (.int ib), .val (.int ic), .val (.int ops), .val (.int room), .val (.int (1 : Int32)), .val (.int (0 : Int32)), .val (.int (1 : Int32)), .val (.int (1 : Int32)), .val (.int z9), .val (.int ca), .val (.int cb), .val (.int cc), .val (.ref s0), .val (.ref s1), .val (.ref s2), .val val, .val (.ref t), .val (.int (1 : Int32)), .unset, .unset, .unset] []))
                        obtain ⟨ma, ha, r, fm, fh, cg, TC⟩ := R1848
                        exact J251 _ _ _ _ _ (0 : Int32) (X1848.more (Nat.le_of_ble_eq_true rfl) (Nat.le_of_ble_eq_true rfl)) e1848 hS1841 hk_1848 hZ1841 hown1841 (by simpa using N1848) TC.1 TC.2.2.2.1 (by simp [own_sz, own_keep, own_exs, eq_false cm_ca_cc])
                · refine g_iload X1841 hx (hb hby at_178) (v := (1 : Int32)) rfl (q := 180) rfl ?_
                  refine g_if_eq X1841 hx (hb hby at_180) (by decide) (q := 193) (by decide) (q2 := 183) rfl (fun hb180 => absurd hb180 (by decide)) (fun hb180 => ?_)
                  refine g_aload X1841 hx (hb hby at_183) (v := (.ref t)) rfl rfl (q := 185) rfl ?_
                  refine g_aload X1841 hx (hb hby at_185) (v := (.ref s1)) rfl rfl (q := 187) rfl ?_
                  refine g_aload X1841 hx (hb hby at_187) (v := val) rfl VV.isRef (q := 189) rfl ?_
                  obtain ⟨ma, ha, r, fm, fh, cg, TC, hnr, hm0, hv0, hh0⟩ := R1841
                  by_cases cm_ca_cb : ca = cb
                  · refine g_callVW X1841 hx hZ1841 hown1841 (hw _ (List.mem_of_getElem? (i := 64) rfl)) (hw _ (List.mem_of_getElem? (i := 65) rfl)) (hw _ (List.mem_of_getElem? (i := 67) rfl)) (hw _ (List.mem_of_getElem? (i := 66) rfl)) (hw _ (List.mem_of_getElem? (i := 68) rfl)) (hw _ (List.mem_of_getElem? (i := 35) rfl)) (notFace_of_selects (args := #[]) (mvT hZ1841 (hw _ (List.mem_of_getElem? (i := 67) rfl)))) (by decide) e1841 hS1841 (Nat.le_refl _) TC.1 (rmPut1f l Z a0 hw t ma ha r fm fh cg s1 v1 mr val cb cs hcs h1841 n0 ZZ1841 ge_s1 ge_t SC1841 F1841_1 VV1841.sb VV1841.isRef MR hs1t hv1t TC hnr s0 ca hm0 hv0 hh0 F1841_0.sb v0 F1841_0 ne_s0_s1 ne_v0_s1 cm_ca_cb) (by exact hml.symm) (argsL := [(.ref s1), val]) (rest := []) rfl rfl pd_21 rfl (Nat.le_of_ble_eq_true rfl) (Nat.le_of_ble_eq_true rfl) (Nat.le_of_ble_eq_true rfl) (Nat.le_of_ble_eq_true rfl) (hb hby at_189) (q := 192) rfl fun v1849 T1849 L1849 h1849 e1849 X1849 hS1849 hZ1849 hown1849 hQ1849 => ?_
                    obtain ⟨pv1849, rfl, rv1849, M1849, U1849, F1849_1, R1849⟩ := hQ1849
                    have N1849 := Fr.app N1841 M1849
                    have F1849_0 := Up.str U1849 F1841_0 ne_s0_s1 hs0t ne_v0_s1 hv0t
                    have F1849_2 := Up.str U1849 F1841_2 (Ne.symm ne_s1_s2) hs2t (Ne.symm ne_s1_v2) hv2t
                    have VV1849 := Up.vok U1849 VV1841
                    have SC1849 := Up.sta U1849 SC1841
                    have ZZ1849 := Nat.le_trans ZZ1841 (Up.le U1849)
                    show Go p e below _ (T1849.setTop (mkF m 192 #[.val (.int ia), .val (.int ib), .val (.int ic), .val (.int ops), .val (.int room), .val (.int (1 : Int32)), .val (.int (1 : Int32)), .val (.int z7), .val (.int z8), .val (.int z9), .val (.int ca), .val (.int cb), .val (.int cc), .val (.ref s0), .val (.ref s1), .val (.ref s2), .val val, .val (.ref t), .val (.int (1 : Int32)), .unset, .unset, .unset] [pv1849]))
                    refine g_pop X1849 hx (hb hby at_192) (own_cat1 rv1849) (q := 193) rfl ?_
                    refine g_iload X1849 hx (hb hby at_193) (v := (1 : Int32)) rfl (q := 195) rfl ?_
                    refine g_if_eq X1849 hx (hb hby at_195) (by decide) (q := 225) (by decide) (q2 := 198) rfl (fun hb195 => absurd hb195 (by decide)) (fun hb195 => ?_)
                    refine g_aload X1849 hx (hb hby at_198) (v := (.ref t)) rfl rfl (q := 200) rfl ?_
                    obtain ⟨ma, ha, r, fm, fh, cg, TC, hnr, hm0, hv0, hh0⟩ := R1849
                    refine g_callV X1849 hx hZ1849 hown1849 (hw _ (List.mem_of_getElem? (i := 52) rfl)) (hw _ (List.mem_of_getElem? (i := 53) rfl)) (hw _ (List.mem_of_getElem? (i := 55) rfl)) (hw _ (List.mem_of_getElem? (i := 54) rfl)) (hw _ (List.mem_of_getElem? (i := 56) rfl)) (hw _ (List.mem_of_getElem? (i := 35) rfl)) (notFace_of_selects (args := #[]) (mvT hZ1849 (hw _ (List.mem_of_getElem? (i := 55) rfl)))) (by decide) e1849 TC.1 (rmE1 l Z a0 hw t h1849 TC.2.2.2.1) (by exact hml.symm) (argsL := []) (rest := []) rfl rfl pd_5 rfl (Nat.le_of_ble_eq_true rfl) (Nat.le_of_ble_eq_true rfl) (Nat.le_of_ble_eq_true rfl) (Nat.le_of_ble_eq_true rfl) (hb hby at_200) (q := 203) rfl (g_pure rfl rfl fun T1850 X1850 e1850 => ?_)
                    show Go p e below _ (T1850.setTop (mkF m 203 #[.val (.int ia), .val (.int ib), .val (.int ic), .val (.int ops), .val (.int room), .val (.int (1 : Int32)), .val (.int (1 : Int32)), .val (.int z7), .val (.int z8), .val (.int z9), .val (.int ca), .val (.int cb), .val (.int cc), .val (.ref s0), .val (.ref s1), .val (.ref s2), .val val, .val (.ref t), .val (.int (1 : Int32)), .unset, .unset, .unset] [(.int (0 : Int32))]))
                    have R1851 : Tr1 Z h1849 t s0 ca := ⟨ma, ha, r, fm, fh, cg, TC, hnr, hm0, hv0, hh0⟩
                    refine g_iload X1850 hx (hb hby at_203) (v := (1 : Int32)) rfl (q := 205) rfl ?_
                    refine g_if_ne X1850 hx (hb hby at_205) (by decide) (q := 217) (by decide) (q2 := 208) rfl (fun hb205 => ?_) (fun hb205 => absurd hb205 (by decide))
                    refine g_iconst X1850 hx (hb hby at_217) (n := (0 : Int32)) (by decide) (q := 218) rfl ?_
                    refine g_icmp_ne X1850 hx (hb hby at_218) (by decide) (q := 225) (by decide) (q2 := 221) rfl (fun hb218 => absurd hb218 (by decide)) (fun hb218 => ?_)
                    refine g_iconst X1850 hx (hb hby at_221) (n := (1 : Int32)) (by decide) (q := 222) rfl ?_
                    refine g_goto X1850 hx (hb hby at_222) (by decide) (q := 226) (by decide) ?_
                    refine g_istore X1850 hx (hb hby at_226) (L' := #[.val (.int ia), .val (.int ib), .val (.int ic), .val (.int ops), .val (.int room), .val (.int (1 : Int32)), .val (.int (1 : Int32)), .val (.int z7), .val (.int z8), .val (.int z9), .val (.int ca), .val (.int cb), .val (.int cc), .val (.ref s0), .val (.ref s1), .val (.ref s2), .val val, .val (.ref t), .val (.int (1 : Int32)), .unset, .unset, .unset]) rfl (q := 228) rfl ?_
                    rcases hz7 with rfl | rfl
                    · refine g_iload X1850 hx (hb hby at_228) (v := (0 : Int32)) rfl (q := 230) rfl ?_
                      refine g_if_eq X1850 hx (hb hby at_230) (by decide) (q := 241) (by decide) (q2 := 233) rfl (fun hb230 => ?_) (fun hb230 => absurd hb230 (by decide))
                      rcases hz8 with rfl | rfl
                      · refine g_iload X1850 hx (hb hby at_241) (v := (0 : Int32)) rfl (q := 243) rfl ?_
                        refine g_if_eq X1850 hx (hb hby at_243) (by decide) (q := 251) (by decide) (q2 := 246) rfl (fun hb243 => ?_) (fun hb243 => absurd hb243 (by decide))
                        obtain ⟨ma, ha, r, fm, fh, cg, TC, hnr, hm0, hv0, hh0⟩ := R1851
                        exact J251 _ _ _ _ _ (1 : Int32) (X1850.more (Nat.le_of_ble_eq_true rfl) (Nat.le_of_ble_eq_true rfl)) e1850 hS1849 (Nat.le_refl _) hZ1849 hown1849 (by simpa using N1849) TC.1 TC.2.2.2.1 (by simp [own_sz, own_keep, own_exs, eq_true cm_ca_cb])
                      · refine g_iload X1850 hx (hb hby at_241) (v := (1 : Int32)) rfl (q := 243) rfl ?_
                        refine g_if_eq X1850 hx (hb hby at_243) (by decide) (q := 251) (by decide) (q2 := 246) rfl (fun hb243 => absurd hb243 (by decide)) (fun hb243 => ?_)
                        refine g_aload X1850 hx (hb hby at_246) (v := (.ref t)) rfl rfl (q := 248) rfl ?_
                        obtain ⟨ma, ha, r, fm, fh, cg, TC, hnr, hm0, hv0, hh0⟩ := R1851
                        refine g_callV X1850 hx hZ1849 hown1849 (hw _ (List.mem_of_getElem? (i := 116) rfl)) (hw _ (List.mem_of_getElem? (i := 117) rfl)) (hw _ (List.mem_of_getElem? (i := 119) rfl)) (hw _ (List.mem_of_getElem? (i := 118) rfl)) (hw _ (List.mem_of_getElem? (i := 120) rfl)) (hw _ (List.mem_of_getElem? (i := 35) rfl)) (notFace_of_selects (args := #[]) (mvT hZ1849 (hw _ (List.mem_of_getElem? (i := 119) rfl)))) (by decide) e1850 TC.1 (rmCl1 l Z a0 hw t ma ha r fm fh cg h1849 n0 ge_t TC hnr) (by exact hml.symm) (argsL := []) (rest := []) rfl rfl pd_3 rfl (Nat.le_of_ble_eq_true rfl) (Nat.le_of_ble_eq_true rfl) (Nat.le_of_ble_eq_true rfl) (Nat.le_of_ble_eq_true rfl) (hb hby at_248) (q := 251) rfl (fun v1852 T1852 L1852 X1852 hQ1852 => ?_)
                        generalize e1852 : T1852.heap = h1852 at hQ1852
                        obtain ⟨rfl, M1852, U1852, R1852⟩ := hQ1852
                        have N1852 := Fr.app N1849 M1852
                        have hk_1852 := Nat.le_trans (Nat.le_refl _) (Up.le U1852)
                        show Go p e below _ (T1852.setTop (mkF m 251 #[.val (.int ia), .val (.int ib), .val (.int ic), .val (.int ops), .val (.int room), .val (.int (1 : Int32)), .val (.int (1 : Int32)), .val (.int (0 : Int32)), .val (.int (1 : Int32)), .val (.int z9), .val (.int ca), .val (.int cb), .val (.int cc), .val (.ref s0), .val (.ref s1), .val (.ref s2), .val val, .val (.ref t), .val (.int (1 : Int32)), .unset, .unset, .unset] []))
                        obtain ⟨ma, ha, r, fm, fh, cg, TC⟩ := R1852
                        exact J251 _ _ _ _ _ (0 : Int32) (X1852.more (Nat.le_of_ble_eq_true rfl) (Nat.le_of_ble_eq_true rfl)) e1852 hS1849 hk_1852 hZ1849 hown1849 (by simpa using N1852) TC.1 TC.2.2.2.1 (by simp [own_sz, own_keep, own_exs, eq_true cm_ca_cb])
                    · refine g_iload X1850 hx (hb hby at_228) (v := (1 : Int32)) rfl (q := 230) rfl ?_
                      refine g_if_eq X1850 hx (hb hby at_230) (by decide) (q := 241) (by decide) (q2 := 233) rfl (fun hb230 => absurd hb230 (by decide)) (fun hb230 => ?_)
                      refine g_aload X1850 hx (hb hby at_233) (v := (.ref t)) rfl rfl (q := 235) rfl ?_
                      refine g_aload X1850 hx (hb hby at_235) (v := (.ref s2)) rfl rfl (q := 237) rfl ?_
                      obtain ⟨ma, ha, r, fm, fh, cg, TC, hnr, hm0, hv0, hh0⟩ := R1851
                      by_cases cm_ca_cc : ca = cc
                      · refine g_callV X1850 hx hZ1849 hown1849 (hw _ (List.mem_of_getElem? (i := 111) rfl)) (hw _ (List.mem_of_getElem? (i := 112) rfl)) (hw _ (List.mem_of_getElem? (i := 114) rfl)) (hw _ (List.mem_of_getElem? (i := 113) rfl)) (hw _ (List.mem_of_getElem? (i := 115) rfl)) (hw _ (List.mem_of_getElem? (i := 35) rfl)) (notFace_of_selects (args := #[]) (mvT hZ1849 (hw _ (List.mem_of_getElem? (i := 114) rfl)))) (by decide) e1850 TC.1 (rmRe1_0 l Z a0 hw t ma ha r fm fh cg s2 v2 cc cs hcs h1849 n0 ZZ1849 ge_s2 ge_t SC1849 F1849_2 hs2t hv2t TC hnr s0 ca hm0 hv0 hh0 F1849_0.sb v0 F1849_0 ne_s0_s2 ne_v0_s2 cm_ca_cc) (by exact hml.symm) (argsL := [(.ref s2)]) (rest := []) rfl rfl pd_20 rfl (Nat.le_of_ble_eq_true rfl) (Nat.le_of_ble_eq_true rfl) (Nat.le_of_ble_eq_true rfl) (Nat.le_of_ble_eq_true rfl) (hb hby at_237) (q := 240) rfl (fun v1853 T1853 L1853 X1853 hQ1853 => ?_)
                        generalize e1853 : T1853.heap = h1853 at hQ1853
                        obtain ⟨pv1853, rfl, rv1853, M1853, U1853, F1853_2, R1853⟩ := hQ1853
                        have N1853 := Fr.app N1849 M1853
                        have hk_1853 := Nat.le_trans (Nat.le_refl _) (Up.le U1853)
                        have F1853_0 := Up.str U1853 F1849_0 ne_s0_s2 hs0t ne_v0_s2 hv0t
                        have F1853_1 := Up.str U1853 F1849_1 ne_s1_s2 hs1t ne_v1_s2 hv1t
                        have VV1853 := Up.vok U1853 VV1849
                        have SC1853 := Up.sta U1853 SC1849
                        have ZZ1853 := Nat.le_trans ZZ1849 (Up.le U1853)
                        show Go p e below _ (T1853.setTop (mkF m 240 #[.val (.int ia), .val (.int ib), .val (.int ic), .val (.int ops), .val (.int room), .val (.int (1 : Int32)), .val (.int (1 : Int32)), .val (.int (1 : Int32)), .val (.int z8), .val (.int z9), .val (.int ca), .val (.int cb), .val (.int cc), .val (.ref s0), .val (.ref s1), .val (.ref s2), .val val, .val (.ref t), .val (.int (1 : Int32)), .unset, .unset, .unset] [pv1853]))
                        refine g_pop X1853 hx (hb hby at_240) (own_cat1 rv1853) (q := 241) rfl ?_
                        rcases hz8 with rfl | rfl
                        · refine g_iload X1853 hx (hb hby at_241) (v := (0 : Int32)) rfl (q := 243) rfl ?_
                          refine g_if_eq X1853 hx (hb hby at_243) (by decide) (q := 251) (by decide) (q2 := 246) rfl (fun hb243 => ?_) (fun hb243 => absurd hb243 (by decide))
                          obtain ⟨ma, ha, r, fm, fh, cg, TC⟩ := R1853
                          have cm_cb_cc : cb = cc := cm_ca_cb.symm.trans cm_ca_cc
                          exact J251 _ _ _ _ _ (0 : Int32) (X1853.more (Nat.le_of_ble_eq_true rfl) (Nat.le_of_ble_eq_true rfl)) e1853 hS1849 hk_1853 hZ1849 hown1849 (by simpa using N1853) TC.1 TC.2.2.2.1 (by simp [own_sz, own_keep, own_exs, eq_true cm_ca_cb, eq_true cm_ca_cc, eq_true cm_cb_cc])
                        · refine g_iload X1853 hx (hb hby at_241) (v := (1 : Int32)) rfl (q := 243) rfl ?_
                          refine g_if_eq X1853 hx (hb hby at_243) (by decide) (q := 251) (by decide) (q2 := 246) rfl (fun hb243 => absurd hb243 (by decide)) (fun hb243 => ?_)
                          refine g_aload X1853 hx (hb hby at_246) (v := (.ref t)) rfl rfl (q := 248) rfl ?_
                          obtain ⟨ma, ha, r, fm, fh, cg, TC⟩ := R1853
                          refine g_callV X1853 hx hZ1849 hown1849 (hw _ (List.mem_of_getElem? (i := 116) rfl)) (hw _ (List.mem_of_getElem? (i := 117) rfl)) (hw _ (List.mem_of_getElem? (i := 119) rfl)) (hw _ (List.mem_of_getElem? (i := 118) rfl)) (hw _ (List.mem_of_getElem? (i := 120) rfl)) (hw _ (List.mem_of_getElem? (i := 35) rfl)) (notFace_of_selects (args := #[]) (mvT hZ1849 (hw _ (List.mem_of_getElem? (i := 119) rfl)))) (by decide) e1853 TC.1 (rmCl0 l Z a0 hw t ma ha r fm fh cg h1853 n0 ge_t TC (Nat.zero_le _)) (by exact hml.symm) (argsL := []) (rest := []) rfl rfl pd_3 rfl (Nat.le_of_ble_eq_true rfl) (Nat.le_of_ble_eq_true rfl) (Nat.le_of_ble_eq_true rfl) (Nat.le_of_ble_eq_true rfl) (hb hby at_248) (q := 251) rfl (fun v1854 T1854 L1854 X1854 hQ1854 => ?_)
                          generalize e1854 : T1854.heap = h1854 at hQ1854
                          obtain ⟨rfl, M1854, U1854, R1854⟩ := hQ1854
                          have N1854 := Fr.app N1853 M1854
                          have hk_1854 := Nat.le_trans hk_1853 (Up.le U1854)
                          show Go p e below _ (T1854.setTop (mkF m 251 #[.val (.int ia), .val (.int ib), .val (.int ic), .val (.int ops), .val (.int room), .val (.int (1 : Int32)), .val (.int (1 : Int32)), .val (.int (1 : Int32)), .val (.int (1 : Int32)), .val (.int z9), .val (.int ca), .val (.int cb), .val (.int cc), .val (.ref s0), .val (.ref s1), .val (.ref s2), .val val, .val (.ref t), .val (.int (1 : Int32)), .unset, .unset, .unset] []))
                          obtain ⟨ma, ha, r, fm, fh, cg, TC⟩ := R1854
                          have cm_cb_cc : cb = cc := cm_ca_cb.symm.trans cm_ca_cc
                          exact J251 _ _ _ _ _ (0 : Int32) (X1854.more (Nat.le_of_ble_eq_true rfl) (Nat.le_of_ble_eq_true rfl)) e1854 hS1849 hk_1854 hZ1849 hown1849 (by simpa using N1854) TC.1 TC.2.2.2.1 (by simp [own_sz, own_keep, own_exs, eq_true cm_ca_cb, eq_true cm_ca_cc, eq_true cm_cb_cc])
                      · refine g_callV X1850 hx hZ1849 hown1849 (hw _ (List.mem_of_getElem? (i := 111) rfl)) (hw _ (List.mem_of_getElem? (i := 112) rfl)) (hw _ (List.mem_of_getElem? (i := 114) rfl)) (hw _ (List.mem_of_getElem? (i := 113) rfl)) (hw _ (List.mem_of_getElem? (i := 115) rfl)) (hw _ (List.mem_of_getElem? (i := 35) rfl)) (notFace_of_selects (args := #[]) (mvT hZ1849 (hw _ (List.mem_of_getElem? (i := 114) rfl)))) (by decide) e1850 TC.1 (rmRe1 l Z a0 hw t ma ha r fm fh cg s2 v2 cc cs hcs h1849 n0 ZZ1849 ge_s2 ge_t SC1849 F1849_2 hs2t hv2t TC hnr s0 ca hm0 hv0 hh0 F1849_0.sb v0 F1849_0 ne_s0_s2 ne_v0_s2 cm_ca_cc) (by exact hml.symm) (argsL := [(.ref s2)]) (rest := []) rfl rfl pd_20 rfl (Nat.le_of_ble_eq_true rfl) (Nat.le_of_ble_eq_true rfl) (Nat.le_of_ble_eq_true rfl) (Nat.le_of_ble_eq_true rfl) (hb hby at_237) (q := 240) rfl (fun v1855 T1855 L1855 X1855 hQ1855 => ?_)
                        generalize e1855 : T1855.heap = h1855 at hQ1855
                        obtain ⟨pv1855, rfl, rv1855, M1855, U1855, F1855_2, R1855⟩ := hQ1855
                        have N1855 := Fr.app N1849 M1855
                        have hk_1855 := Nat.le_trans (Nat.le_refl _) (Up.le U1855)
                        have F1855_0 := Up.str U1855 F1849_0 ne_s0_s2 hs0t ne_v0_s2 hv0t
                        have F1855_1 := Up.str U1855 F1849_1 ne_s1_s2 hs1t ne_v1_s2 hv1t
                        have VV1855 := Up.vok U1855 VV1849
                        have SC1855 := Up.sta U1855 SC1849
                        have ZZ1855 := Nat.le_trans ZZ1849 (Up.le U1855)
                        show Go p e below _ (T1855.setTop (mkF m 240 #[.val (.int ia), .val (.int ib), .val (.int ic), .val (.int ops), .val (.int room), .val (.int (1 : Int32)), .val (.int (1 : Int32)), .val (.int (1 : Int32)), .val (.int z8), .val (.int z9), .val (.int ca), .val (.int cb), .val (.int cc), .val (.ref s0), .val (.ref s1), .val (.ref s2), .val val, .val (.ref t), .val (.int (1 : Int32)), .unset, .unset, .unset] [pv1855]))
                        refine g_pop X1855 hx (hb hby at_240) (own_cat1 rv1855) (q := 241) rfl ?_
                        rcases hz8 with rfl | rfl
                        · refine g_iload X1855 hx (hb hby at_241) (v := (0 : Int32)) rfl (q := 243) rfl ?_
                          refine g_if_eq X1855 hx (hb hby at_243) (by decide) (q := 251) (by decide) (q2 := 246) rfl (fun hb243 => ?_) (fun hb243 => absurd hb243 (by decide))
                          obtain ⟨ma, ha, r, fm, fh, cg, TC, hnr, hm0, hv0, hh0⟩ := R1855
                          have cm_cb_cc : ¬ cb = cc := fun q => cm_ca_cc (cm_ca_cb.trans q)
                          exact J251 _ _ _ _ _ (1 : Int32) (X1855.more (Nat.le_of_ble_eq_true rfl) (Nat.le_of_ble_eq_true rfl)) e1855 hS1849 hk_1855 hZ1849 hown1849 (by simpa using N1855) TC.1 TC.2.2.2.1 (by simp [own_sz, own_keep, own_exs, eq_true cm_ca_cb, eq_false cm_ca_cc, eq_false cm_cb_cc])
                        · refine g_iload X1855 hx (hb hby at_241) (v := (1 : Int32)) rfl (q := 243) rfl ?_
                          refine g_if_eq X1855 hx (hb hby at_243) (by decide) (q := 251) (by decide) (q2 := 246) rfl (fun hb243 => absurd hb243 (by decide)) (fun hb243 => ?_)
                          refine g_aload X1855 hx (hb hby at_246) (v := (.ref t)) rfl rfl (q := 248) rfl ?_
                          obtain ⟨ma, ha, r, fm, fh, cg, TC, hnr, hm0, hv0, hh0⟩ := R1855
                          refine g_callV X1855 hx hZ1849 hown1849 (hw _ (List.mem_of_getElem? (i := 116) rfl)) (hw _ (List.mem_of_getElem? (i := 117) rfl)) (hw _ (List.mem_of_getElem? (i := 119) rfl)) (hw _ (List.mem_of_getElem? (i := 118) rfl)) (hw _ (List.mem_of_getElem? (i := 120) rfl)) (hw _ (List.mem_of_getElem? (i := 35) rfl)) (notFace_of_selects (args := #[]) (mvT hZ1849 (hw _ (List.mem_of_getElem? (i := 119) rfl)))) (by decide) e1855 TC.1 (rmCl1 l Z a0 hw t ma ha r fm fh cg h1855 n0 ge_t TC hnr) (by exact hml.symm) (argsL := []) (rest := []) rfl rfl pd_3 rfl (Nat.le_of_ble_eq_true rfl) (Nat.le_of_ble_eq_true rfl) (Nat.le_of_ble_eq_true rfl) (Nat.le_of_ble_eq_true rfl) (hb hby at_248) (q := 251) rfl (fun v1856 T1856 L1856 X1856 hQ1856 => ?_)
                          generalize e1856 : T1856.heap = h1856 at hQ1856
                          obtain ⟨rfl, M1856, U1856, R1856⟩ := hQ1856
                          have N1856 := Fr.app N1855 M1856
                          have hk_1856 := Nat.le_trans hk_1855 (Up.le U1856)
                          show Go p e below _ (T1856.setTop (mkF m 251 #[.val (.int ia), .val (.int ib), .val (.int ic), .val (.int ops), .val (.int room), .val (.int (1 : Int32)), .val (.int (1 : Int32)), .val (.int (1 : Int32)), .val (.int (1 : Int32)), .val (.int z9), .val (.int ca), .val (.int cb), .val (.int cc), .val (.ref s0), .val (.ref s1), .val (.ref s2), .val val, .val (.ref t), .val (.int (1 : Int32)), .unset, .unset, .unset] []))
                          obtain ⟨ma, ha, r, fm, fh, cg, TC⟩ := R1856
                          have cm_cb_cc : ¬ cb = cc := fun q => cm_ca_cc (cm_ca_cb.trans q)
                          exact J251 _ _ _ _ _ (0 : Int32) (X1856.more (Nat.le_of_ble_eq_true rfl) (Nat.le_of_ble_eq_true rfl)) e1856 hS1849 hk_1856 hZ1849 hown1849 (by simpa using N1856) TC.1 TC.2.2.2.1 (by simp [own_sz, own_keep, own_exs, eq_true cm_ca_cb, eq_false cm_ca_cc, eq_false cm_cb_cc])
                  · refine g_callVW X1841 hx hZ1841 hown1841 (hw _ (List.mem_of_getElem? (i := 64) rfl)) (hw _ (List.mem_of_getElem? (i := 65) rfl)) (hw _ (List.mem_of_getElem? (i := 67) rfl)) (hw _ (List.mem_of_getElem? (i := 66) rfl)) (hw _ (List.mem_of_getElem? (i := 68) rfl)) (hw _ (List.mem_of_getElem? (i := 35) rfl)) (notFace_of_selects (args := #[]) (mvT hZ1841 (hw _ (List.mem_of_getElem? (i := 67) rfl)))) (by decide) e1841 hS1841 (Nat.le_refl _) TC.1 (rmPut1 l Z a0 hw t ma ha r fm fh cg s1 v1 mr val cb cs hcs h1841 n0 ZZ1841 ge_s1 ge_t SC1841 F1841_1 VV1841.sb VV1841.isRef MR hs1t hv1t TC hnr s0 ca hm0 hv0 hh0 F1841_0.sb v0 F1841_0 ne_s0_s1 ne_v0_s1 cm_ca_cb) (by exact hml.symm) (argsL := [(.ref s1), val]) (rest := []) rfl rfl pd_21 rfl (Nat.le_of_ble_eq_true rfl) (Nat.le_of_ble_eq_true rfl) (Nat.le_of_ble_eq_true rfl) (Nat.le_of_ble_eq_true rfl) (hb hby at_189) (q := 192) rfl fun v1857 T1857 L1857 h1857 e1857 X1857 hS1857 hZ1857 hown1857 hQ1857 => ?_
                    obtain ⟨pv1857, rfl, rv1857, M1857, U1857, F1857_1, R1857⟩ := hQ1857
                    have N1857 := Fr.app N1841 M1857
                    have F1857_0 := Up.str U1857 F1841_0 ne_s0_s1 hs0t ne_v0_s1 hv0t
                    have F1857_2 := Up.str U1857 F1841_2 (Ne.symm ne_s1_s2) hs2t (Ne.symm ne_s1_v2) hv2t
                    have VV1857 := Up.vok U1857 VV1841
                    have SC1857 := Up.sta U1857 SC1841
                    have ZZ1857 := Nat.le_trans ZZ1841 (Up.le U1857)
                    show Go p e below _ (T1857.setTop (mkF m 192 #[.val (.int ia), .val (.int ib), .val (.int ic), .val (.int ops), .val (.int room), .val (.int (1 : Int32)), .val (.int (1 : Int32)), .val (.int z7), .val (.int z8), .val (.int z9), .val (.int ca), .val (.int cb), .val (.int cc), .val (.ref s0), .val (.ref s1), .val (.ref s2), .val val, .val (.ref t), .val (.int (1 : Int32)), .unset, .unset, .unset] [pv1857]))
                    refine g_pop X1857 hx (hb hby at_192) (own_cat1 rv1857) (q := 193) rfl ?_
                    refine g_iload X1857 hx (hb hby at_193) (v := (1 : Int32)) rfl (q := 195) rfl ?_
                    refine g_if_eq X1857 hx (hb hby at_195) (by decide) (q := 225) (by decide) (q2 := 198) rfl (fun hb195 => absurd hb195 (by decide)) (fun hb195 => ?_)
                    refine g_aload X1857 hx (hb hby at_198) (v := (.ref t)) rfl rfl (q := 200) rfl ?_
                    obtain ⟨ma, ha, r, fm, fh, cg, TC, hnr, hm0, hv0, hh0, hm1, hv1, hh1⟩ := R1857
                    refine g_callV X1857 hx hZ1857 hown1857 (hw _ (List.mem_of_getElem? (i := 52) rfl)) (hw _ (List.mem_of_getElem? (i := 53) rfl)) (hw _ (List.mem_of_getElem? (i := 55) rfl)) (hw _ (List.mem_of_getElem? (i := 54) rfl)) (hw _ (List.mem_of_getElem? (i := 56) rfl)) (hw _ (List.mem_of_getElem? (i := 35) rfl)) (notFace_of_selects (args := #[]) (mvT hZ1857 (hw _ (List.mem_of_getElem? (i := 55) rfl)))) (by decide) e1857 TC.1 (rmE2 l Z a0 hw t h1857 TC.2.2.2.1) (by exact hml.symm) (argsL := []) (rest := []) rfl rfl pd_5 rfl (Nat.le_of_ble_eq_true rfl) (Nat.le_of_ble_eq_true rfl) (Nat.le_of_ble_eq_true rfl) (Nat.le_of_ble_eq_true rfl) (hb hby at_200) (q := 203) rfl (g_pure rfl rfl fun T1858 X1858 e1858 => ?_)
                    show Go p e below _ (T1858.setTop (mkF m 203 #[.val (.int ia), .val (.int ib), .val (.int ic), .val (.int ops), .val (.int room), .val (.int (1 : Int32)), .val (.int (1 : Int32)), .val (.int z7), .val (.int z8), .val (.int z9), .val (.int ca), .val (.int cb), .val (.int cc), .val (.ref s0), .val (.ref s1), .val (.ref s2), .val val, .val (.ref t), .val (.int (1 : Int32)), .unset, .unset, .unset] [(.int (0 : Int32))]))
                    have R1859 : Tr2 Z h1857 t s0 ca s1 cb := ⟨ma, ha, r, fm, fh, cg, TC, hnr, hm0, hv0, hh0, hm1, hv1, hh1⟩
                    refine g_iload X1858 hx (hb hby at_203) (v := (1 : Int32)) rfl (q := 205) rfl ?_
                    refine g_if_ne X1858 hx (hb hby at_205) (by decide) (q := 217) (by decide) (q2 := 208) rfl (fun hb205 => ?_) (fun hb205 => absurd hb205 (by decide))
                    refine g_iconst X1858 hx (hb hby at_217) (n := (0 : Int32)) (by decide) (q := 218) rfl ?_
                    refine g_icmp_ne X1858 hx (hb hby at_218) (by decide) (q := 225) (by decide) (q2 := 221) rfl (fun hb218 => absurd hb218 (by decide)) (fun hb218 => ?_)
                    refine g_iconst X1858 hx (hb hby at_221) (n := (1 : Int32)) (by decide) (q := 222) rfl ?_
                    refine g_goto X1858 hx (hb hby at_222) (by decide) (q := 226) (by decide) ?_
                    refine g_istore X1858 hx (hb hby at_226) (L' := #[.val (.int ia), .val (.int ib), .val (.int ic), .val (.int ops), .val (.int room), .val (.int (1 : Int32)), .val (.int (1 : Int32)), .val (.int z7), .val (.int z8), .val (.int z9), .val (.int ca), .val (.int cb), .val (.int cc), .val (.ref s0), .val (.ref s1), .val (.ref s2), .val val, .val (.ref t), .val (.int (1 : Int32)), .unset, .unset, .unset]) rfl (q := 228) rfl ?_
                    rcases hz7 with rfl | rfl
                    · refine g_iload X1858 hx (hb hby at_228) (v := (0 : Int32)) rfl (q := 230) rfl ?_
                      refine g_if_eq X1858 hx (hb hby at_230) (by decide) (q := 241) (by decide) (q2 := 233) rfl (fun hb230 => ?_) (fun hb230 => absurd hb230 (by decide))
                      rcases hz8 with rfl | rfl
                      · refine g_iload X1858 hx (hb hby at_241) (v := (0 : Int32)) rfl (q := 243) rfl ?_
                        refine g_if_eq X1858 hx (hb hby at_243) (by decide) (q := 251) (by decide) (q2 := 246) rfl (fun hb243 => ?_) (fun hb243 => absurd hb243 (by decide))
                        obtain ⟨ma, ha, r, fm, fh, cg, TC, hnr, hm0, hv0, hh0, hm1, hv1, hh1⟩ := R1859
                        exact J251 _ _ _ _ _ (2 : Int32) (X1858.more (Nat.le_of_ble_eq_true rfl) (Nat.le_of_ble_eq_true rfl)) e1858 hS1857 (Nat.le_refl _) hZ1857 hown1857 (by simpa using N1857) TC.1 TC.2.2.2.1 (by simp [own_sz, own_keep, own_exs, eq_false cm_ca_cb])
                      · refine g_iload X1858 hx (hb hby at_241) (v := (1 : Int32)) rfl (q := 243) rfl ?_
                        refine g_if_eq X1858 hx (hb hby at_243) (by decide) (q := 251) (by decide) (q2 := 246) rfl (fun hb243 => absurd hb243 (by decide)) (fun hb243 => ?_)
                        refine g_aload X1858 hx (hb hby at_246) (v := (.ref t)) rfl rfl (q := 248) rfl ?_
                        obtain ⟨ma, ha, r, fm, fh, cg, TC, hnr, hm0, hv0, hh0, hm1, hv1, hh1⟩ := R1859
                        refine g_callV X1858 hx hZ1857 hown1857 (hw _ (List.mem_of_getElem? (i := 116) rfl)) (hw _ (List.mem_of_getElem? (i := 117) rfl)) (hw _ (List.mem_of_getElem? (i := 119) rfl)) (hw _ (List.mem_of_getElem? (i := 118) rfl)) (hw _ (List.mem_of_getElem? (i := 120) rfl)) (hw _ (List.mem_of_getElem? (i := 35) rfl)) (notFace_of_selects (args := #[]) (mvT hZ1857 (hw _ (List.mem_of_getElem? (i := 119) rfl)))) (by decide) e1858 TC.1 (rmCl2 l Z a0 hw t ma ha r fm fh cg h1857 n0 ge_t TC hnr) (by exact hml.symm) (argsL := []) (rest := []) rfl rfl pd_3 rfl (Nat.le_of_ble_eq_true rfl) (Nat.le_of_ble_eq_true rfl) (Nat.le_of_ble_eq_true rfl) (Nat.le_of_ble_eq_true rfl) (hb hby at_248) (q := 251) rfl (fun v1860 T1860 L1860 X1860 hQ1860 => ?_)
                        generalize e1860 : T1860.heap = h1860 at hQ1860
                        obtain ⟨rfl, M1860, U1860, R1860⟩ := hQ1860
                        have N1860 := Fr.app N1857 M1860
                        have hk_1860 := Nat.le_trans (Nat.le_refl _) (Up.le U1860)
                        show Go p e below _ (T1860.setTop (mkF m 251 #[.val (.int ia), .val (.int ib), .val (.int ic), .val (.int ops), .val (.int room), .val (.int (1 : Int32)), .val (.int (1 : Int32)), .val (.int (0 : Int32)), .val (.int (1 : Int32)), .val (.int z9), .val (.int ca), .val (.int cb), .val (.int cc), .val (.ref s0), .val (.ref s1), .val (.ref s2), .val val, .val (.ref t), .val (.int (1 : Int32)), .unset, .unset, .unset] []))
                        obtain ⟨ma, ha, r, fm, fh, cg, TC⟩ := R1860
                        exact J251 _ _ _ _ _ (0 : Int32) (X1860.more (Nat.le_of_ble_eq_true rfl) (Nat.le_of_ble_eq_true rfl)) e1860 hS1857 hk_1860 hZ1857 hown1857 (by simpa using N1860) TC.1 TC.2.2.2.1 (by simp [own_sz, own_keep, own_exs, eq_false cm_ca_cb])
                    · refine g_iload X1858 hx (hb hby at_228) (v := (1 : Int32)) rfl (q := 230) rfl ?_
                      refine g_if_eq X1858 hx (hb hby at_230) (by decide) (q := 241) (by decide) (q2 := 233) rfl (fun hb230 => absurd hb230 (by decide)) (fun hb230 => ?_)
                      refine g_aload X1858 hx (hb hby at_233) (v := (.ref t)) rfl rfl (q := 235) rfl ?_
                      refine g_aload X1858 hx (hb hby at_235) (v := (.ref s2)) rfl rfl (q := 237) rfl ?_
                      obtain ⟨ma, ha, r, fm, fh, cg, TC, hnr, hm0, hv0, hh0, hm1, hv1, hh1⟩ := R1859
                      by_cases cm_ca_cc : ca = cc
                      · refine g_callV X1858 hx hZ1857 hown1857 (hw _ (List.mem_of_getElem? (i := 111) rfl)) (hw _ (List.mem_of_getElem? (i := 112) rfl)) (hw _ (List.mem_of_getElem? (i := 114) rfl)) (hw _ (List.mem_of_getElem? (i := 113) rfl)) (hw _ (List.mem_of_getElem? (i := 115) rfl)) (hw _ (List.mem_of_getElem? (i := 35) rfl)) (notFace_of_selects (args := #[]) (mvT hZ1857 (hw _ (List.mem_of_getElem? (i := 114) rfl)))) (by decide) e1858 TC.1 (rmRe2_0 l Z a0 hw t ma ha r fm fh cg s2 v2 cc cs hcs h1857 n0 ZZ1857 ge_s2 ge_t SC1857 F1857_2 hs2t hv2t TC hnr s0 ca s1 cb hm0 hv0 hh0 hm1 hv1 hh1 F1857_0.sb F1857_1.sb v0 F1857_0 ne_s0_s2 ne_v0_s2 v1 F1857_1 ne_s1_s2 ne_v1_s2 cm_ca_cc) (by exact hml.symm) (argsL := [(.ref s2)]) (rest := []) rfl rfl pd_20 rfl (Nat.le_of_ble_eq_true rfl) (Nat.le_of_ble_eq_true rfl) (Nat.le_of_ble_eq_true rfl) (Nat.le_of_ble_eq_true rfl) (hb hby at_237) (q := 240) rfl (fun v1861 T1861 L1861 X1861 hQ1861 => ?_)
                        generalize e1861 : T1861.heap = h1861 at hQ1861
                        obtain ⟨pv1861, rfl, rv1861, M1861, U1861, F1861_2, R1861⟩ := hQ1861
                        have N1861 := Fr.app N1857 M1861
                        have hk_1861 := Nat.le_trans (Nat.le_refl _) (Up.le U1861)
                        have F1861_0 := Up.str U1861 F1857_0 ne_s0_s2 hs0t ne_v0_s2 hv0t
                        have F1861_1 := Up.str U1861 F1857_1 ne_s1_s2 hs1t ne_v1_s2 hv1t
                        have VV1861 := Up.vok U1861 VV1857
                        have SC1861 := Up.sta U1861 SC1857
                        have ZZ1861 := Nat.le_trans ZZ1857 (Up.le U1861)
                        show Go p e below _ (T1861.setTop (mkF m 240 #[.val (.int ia), .val (.int ib), .val (.int ic), .val (.int ops), .val (.int room), .val (.int (1 : Int32)), .val (.int (1 : Int32)), .val (.int (1 : Int32)), .val (.int z8), .val (.int z9), .val (.int ca), .val (.int cb), .val (.int cc), .val (.ref s0), .val (.ref s1), .val (.ref s2), .val val, .val (.ref t), .val (.int (1 : Int32)), .unset, .unset, .unset] [pv1861]))
                        refine g_pop X1861 hx (hb hby at_240) (own_cat1 rv1861) (q := 241) rfl ?_
                        rcases hz8 with rfl | rfl
                        · refine g_iload X1861 hx (hb hby at_241) (v := (0 : Int32)) rfl (q := 243) rfl ?_
                          refine g_if_eq X1861 hx (hb hby at_243) (by decide) (q := 251) (by decide) (q2 := 246) rfl (fun hb243 => ?_) (fun hb243 => absurd hb243 (by decide))
                          obtain ⟨ma, ha, r, fm, fh, cg, TC, hnr, hm0, hv0, hh0⟩ := R1861
                          have cm_cb_cc : ¬ cb = cc := fun q => cm_ca_cb (cm_ca_cc.trans q.symm)
                          exact J251 _ _ _ _ _ (1 : Int32) (X1861.more (Nat.le_of_ble_eq_true rfl) (Nat.le_of_ble_eq_true rfl)) e1861 hS1857 hk_1861 hZ1857 hown1857 (by simpa using N1861) TC.1 TC.2.2.2.1 (by simp [own_sz, own_keep, own_exs, eq_false cm_ca_cb, eq_true cm_ca_cc, eq_false cm_cb_cc])
                        · refine g_iload X1861 hx (hb hby at_241) (v := (1 : Int32)) rfl (q := 243) rfl ?_
                          refine g_if_eq X1861 hx (hb hby at_243) (by decide) (q := 251) (by decide) (q2 := 246) rfl (fun hb243 => absurd hb243 (by decide)) (fun hb243 => ?_)
                          refine g_aload X1861 hx (hb hby at_246) (v := (.ref t)) rfl rfl (q := 248) rfl ?_
                          obtain ⟨ma, ha, r, fm, fh, cg, TC, hnr, hm0, hv0, hh0⟩ := R1861
                          refine g_callV X1861 hx hZ1857 hown1857 (hw _ (List.mem_of_getElem? (i := 116) rfl)) (hw _ (List.mem_of_getElem? (i := 117) rfl)) (hw _ (List.mem_of_getElem? (i := 119) rfl)) (hw _ (List.mem_of_getElem? (i := 118) rfl)) (hw _ (List.mem_of_getElem? (i := 120) rfl)) (hw _ (List.mem_of_getElem? (i := 35) rfl)) (notFace_of_selects (args := #[]) (mvT hZ1857 (hw _ (List.mem_of_getElem? (i := 119) rfl)))) (by decide) e1861 TC.1 (rmCl1 l Z a0 hw t ma ha r fm fh cg h1861 n0 ge_t TC hnr) (by exact hml.symm) (argsL := []) (rest := []) rfl rfl pd_3 rfl (Nat.le_of_ble_eq_true rfl) (Nat.le_of_ble_eq_true rfl) (Nat.le_of_ble_eq_true rfl) (Nat.le_of_ble_eq_true rfl) (hb hby at_248) (q := 251) rfl (fun v1862 T1862 L1862 X1862 hQ1862 => ?_)
                          generalize e1862 : T1862.heap = h1862 at hQ1862
                          obtain ⟨rfl, M1862, U1862, R1862⟩ := hQ1862
                          have N1862 := Fr.app N1861 M1862
                          have hk_1862 := Nat.le_trans hk_1861 (Up.le U1862)
                          show Go p e below _ (T1862.setTop (mkF m 251 #[.val (.int ia), .val (.int ib), .val (.int ic), .val (.int ops), .val (.int room), .val (.int (1 : Int32)), .val (.int (1 : Int32)), .val (.int (1 : Int32)), .val (.int (1 : Int32)), .val (.int z9), .val (.int ca), .val (.int cb), .val (.int cc), .val (.ref s0), .val (.ref s1), .val (.ref s2), .val val, .val (.ref t), .val (.int (1 : Int32)), .unset, .unset, .unset] []))
                          obtain ⟨ma, ha, r, fm, fh, cg, TC⟩ := R1862
                          have cm_cb_cc : ¬ cb = cc := fun q => cm_ca_cb (cm_ca_cc.trans q.symm)
                          exact J251 _ _ _ _ _ (0 : Int32) (X1862.more (Nat.le_of_ble_eq_true rfl) (Nat.le_of_ble_eq_true rfl)) e1862 hS1857 hk_1862 hZ1857 hown1857 (by simpa using N1862) TC.1 TC.2.2.2.1 (by simp [own_sz, own_keep, own_exs, eq_false cm_ca_cb, eq_true cm_ca_cc, eq_false cm_cb_cc])
                      · by_cases cm_cb_cc : cb = cc
                        · refine g_callV X1858 hx hZ1857 hown1857 (hw _ (List.mem_of_getElem? (i := 111) rfl)) (hw _ (List.mem_of_getElem? (i := 112) rfl)) (hw _ (List.mem_of_getElem? (i := 114) rfl)) (hw _ (List.mem_of_getElem? (i := 113) rfl)) (hw _ (List.mem_of_getElem? (i := 115) rfl)) (hw _ (List.mem_of_getElem? (i := 35) rfl)) (notFace_of_selects (args := #[]) (mvT hZ1857 (hw _ (List.mem_of_getElem? (i := 114) rfl)))) (by decide) e1858 TC.1 (rmRe2_1 l Z a0 hw t ma ha r fm fh cg s2 v2 cc cs hcs h1857 n0 ZZ1857 ge_s2 ge_t SC1857 F1857_2 hs2t hv2t TC hnr s0 ca s1 cb hm0 hv0 hh0 hm1 hv1 hh1 F1857_0.sb F1857_1.sb v0 F1857_0 ne_s0_s2 ne_v0_s2 v1 F1857_1 ne_s1_s2 ne_v1_s2 cm_ca_cc cm_cb_cc) (by exact hml.symm) (argsL := [(.ref s2)]) (rest := []) rfl rfl pd_20 rfl (Nat.le_of_ble_eq_true rfl) (Nat.le_of_ble_eq_true rfl) (Nat.le_of_ble_eq_true rfl) (Nat.le_of_ble_eq_true rfl) (hb hby at_237) (q := 240) rfl (fun v1863 T1863 L1863 X1863 hQ1863 => ?_)
                          generalize e1863 : T1863.heap = h1863 at hQ1863
                          obtain ⟨pv1863, rfl, rv1863, M1863, U1863, F1863_2, R1863⟩ := hQ1863
                          have N1863 := Fr.app N1857 M1863
                          have hk_1863 := Nat.le_trans (Nat.le_refl _) (Up.le U1863)
                          have F1863_0 := Up.str U1863 F1857_0 ne_s0_s2 hs0t ne_v0_s2 hv0t
                          have F1863_1 := Up.str U1863 F1857_1 ne_s1_s2 hs1t ne_v1_s2 hv1t
                          have VV1863 := Up.vok U1863 VV1857
                          have SC1863 := Up.sta U1863 SC1857
                          have ZZ1863 := Nat.le_trans ZZ1857 (Up.le U1863)
                          show Go p e below _ (T1863.setTop (mkF m 240 #[.val (.int ia), .val (.int ib), .val (.int ic), .val (.int ops), .val (.int room), .val (.int (1 : Int32)), .val (.int (1 : Int32)), .val (.int (1 : Int32)), .val (.int z8), .val (.int z9), .val (.int ca), .val (.int cb), .val (.int cc), .val (.ref s0), .val (.ref s1), .val (.ref s2), .val val, .val (.ref t), .val (.int (1 : Int32)), .unset, .unset, .unset] [pv1863]))
                          refine g_pop X1863 hx (hb hby at_240) (own_cat1 rv1863) (q := 241) rfl ?_
                          rcases hz8 with rfl | rfl
                          · refine g_iload X1863 hx (hb hby at_241) (v := (0 : Int32)) rfl (q := 243) rfl ?_
                            refine g_if_eq X1863 hx (hb hby at_243) (by decide) (q := 251) (by decide) (q2 := 246) rfl (fun hb243 => ?_) (fun hb243 => absurd hb243 (by decide))
                            obtain ⟨ma, ha, r, fm, fh, cg, TC, hnr, hm0, hv0, hh0⟩ := R1863
                            exact J251 _ _ _ _ _ (1 : Int32) (X1863.more (Nat.le_of_ble_eq_true rfl) (Nat.le_of_ble_eq_true rfl)) e1863 hS1857 hk_1863 hZ1857 hown1857 (by simpa using N1863) TC.1 TC.2.2.2.1 (by simp [own_sz, own_keep, own_exs, eq_false cm_ca_cb, eq_false cm_ca_cc, eq_true cm_cb_cc])
                          · refine g_iload X1863 hx (hb hby at_241) (v := (1 : Int32)) rfl (q := 243) rfl ?_
                            refine g_if_eq X1863 hx (hb hby at_243) (by decide) (q := 251) (by decide) (q2 := 246) rfl (fun hb243 => absurd hb243 (by decide)) (fun hb243 => ?_)
                            refine g_aload X1863 hx (hb hby at_246) (v := (.ref t)) rfl rfl (q := 248) rfl ?_
                            obtain ⟨ma, ha, r, fm, fh, cg, TC, hnr, hm0, hv0, hh0⟩ := R1863
                            refine g_callV X1863 hx hZ1857 hown1857 (hw _ (List.mem_of_getElem? (i := 116) rfl)) (hw _ (List.mem_of_getElem? (i := 117) rfl)) (hw _ (List.mem_of_getElem? (i := 119) rfl)) (hw _ (List.mem_of_getElem? (i := 118) rfl)) (hw _ (List.mem_of_getElem? (i := 120) rfl)) (hw _ (List.mem_of_getElem? (i := 35) rfl)) (notFace_of_selects (args := #[]) (mvT hZ1857 (hw _ (List.mem_of_getElem? (i := 119) rfl)))) (by decide) e1863 TC.1 (rmCl1 l Z a0 hw t ma ha r fm fh cg h1863 n0 ge_t TC hnr) (by exact hml.symm) (argsL := []) (rest := []) rfl rfl pd_3 rfl (Nat.le_of_ble_eq_true rfl) (Nat.le_of_ble_eq_true rfl) (Nat.le_of_ble_eq_true rfl) (Nat.le_of_ble_eq_true rfl) (hb hby at_248) (q := 251) rfl (fun v1864 T1864 L1864 X1864 hQ1864 => ?_)
                            generalize e1864 : T1864.heap = h1864 at hQ1864
                            obtain ⟨rfl, M1864, U1864, R1864⟩ := hQ1864
                            have N1864 := Fr.app N1863 M1864
                            have hk_1864 := Nat.le_trans hk_1863 (Up.le U1864)
                            show Go p e below _ (T1864.setTop (mkF m 251 #[.val (.int ia), .val (.int ib), .val (.int ic), .val (.int ops), .val (.int room), .val (.int (1 : Int32)), .val (.int (1 : Int32)), .val (.int (1 : Int32)), .val (.int (1 : Int32)), .val (.int z9), .val (.int ca), .val (.int cb), .val (.int cc), .val (.ref s0), .val (.ref s1), .val (.ref s2), .val val, .val (.ref t), .val (.int (1 : Int32)), .unset, .unset, .unset] []))
                            obtain ⟨ma, ha, r, fm, fh, cg, TC⟩ := R1864
                            exact J251 _ _ _ _ _ (0 : Int32) (X1864.more (Nat.le_of_ble_eq_true rfl) (Nat.le_of_ble_eq_true rfl)) e1864 hS1857 hk_1864 hZ1857 hown1857 (by simpa using N1864) TC.1 TC.2.2.2.1 (by simp [own_sz, own_keep, own_exs, eq_false cm_ca_cb, eq_false cm_ca_cc, eq_true cm_cb_cc])
                        · refine g_callV X1858 hx hZ1857 hown1857 (hw _ (List.mem_of_getElem? (i := 111) rfl)) (hw _ (List.mem_of_getElem? (i := 112) rfl)) (hw _ (List.mem_of_getElem? (i := 114) rfl)) (hw _ (List.mem_of_getElem? (i := 113) rfl)) (hw _ (List.mem_of_getElem? (i := 115) rfl)) (hw _ (List.mem_of_getElem? (i := 35) rfl)) (notFace_of_selects (args := #[]) (mvT hZ1857 (hw _ (List.mem_of_getElem? (i := 114) rfl)))) (by decide) e1858 TC.1 (rmRe2 l Z a0 hw t ma ha r fm fh cg s2 v2 cc cs hcs h1857 n0 ZZ1857 ge_s2 ge_t SC1857 F1857_2 hs2t hv2t TC hnr s0 ca s1 cb hm0 hv0 hh0 hm1 hv1 hh1 F1857_0.sb F1857_1.sb v0 F1857_0 ne_s0_s2 ne_v0_s2 v1 F1857_1 ne_s1_s2 ne_v1_s2 cm_ca_cc cm_cb_cc) (by exact hml.symm) (argsL := [(.ref s2)]) (rest := []) rfl rfl pd_20 rfl (Nat.le_of_ble_eq_true rfl) (Nat.le_of_ble_eq_true rfl) (Nat.le_of_ble_eq_true rfl) (Nat.le_of_ble_eq_true rfl) (hb hby at_237) (q := 240) rfl (fun v1865 T1865 L1865 X1865 hQ1865 => ?_)
                          generalize e1865 : T1865.heap = h1865 at hQ1865
                          obtain ⟨pv1865, rfl, rv1865, M1865, U1865, F1865_2, R1865⟩ := hQ1865
                          have N1865 := Fr.app N1857 M1865
                          have hk_1865 := Nat.le_trans (Nat.le_refl _) (Up.le U1865)
                          have F1865_0 := Up.str U1865 F1857_0 ne_s0_s2 hs0t ne_v0_s2 hv0t
                          have F1865_1 := Up.str U1865 F1857_1 ne_s1_s2 hs1t ne_v1_s2 hv1t
                          have VV1865 := Up.vok U1865 VV1857
                          have SC1865 := Up.sta U1865 SC1857
                          have ZZ1865 := Nat.le_trans ZZ1857 (Up.le U1865)
                          show Go p e below _ (T1865.setTop (mkF m 240 #[.val (.int ia), .val (.int ib), .val (.int ic), .val (.int ops), .val (.int room), .val (.int (1 : Int32)), .val (.int (1 : Int32)), .val (.int (1 : Int32)), .val (.int z8), .val (.int z9), .val (.int ca), .val (.int cb), .val (.int cc), .val (.ref s0), .val (.ref s1), .val (.ref s2), .val val, .val (.ref t), .val (.int (1 : Int32)), .unset, .unset, .unset] [pv1865]))
                          refine g_pop X1865 hx (hb hby at_240) (own_cat1 rv1865) (q := 241) rfl ?_
                          rcases hz8 with rfl | rfl
                          · refine g_iload X1865 hx (hb hby at_241) (v := (0 : Int32)) rfl (q := 243) rfl ?_
                            refine g_if_eq X1865 hx (hb hby at_243) (by decide) (q := 251) (by decide) (q2 := 246) rfl (fun hb243 => ?_) (fun hb243 => absurd hb243 (by decide))
                            obtain ⟨ma, ha, r, fm, fh, cg, TC, hnr, hm0, hv0, hh0, hm1, hv1, hh1⟩ := R1865
                            exact J251 _ _ _ _ _ (2 : Int32) (X1865.more (Nat.le_of_ble_eq_true rfl) (Nat.le_of_ble_eq_true rfl)) e1865 hS1857 hk_1865 hZ1857 hown1857 (by simpa using N1865) TC.1 TC.2.2.2.1 (by simp [own_sz, own_keep, own_exs, eq_false cm_ca_cb, eq_false cm_ca_cc, eq_false cm_cb_cc])
                          · refine g_iload X1865 hx (hb hby at_241) (v := (1 : Int32)) rfl (q := 243) rfl ?_
                            refine g_if_eq X1865 hx (hb hby at_243) (by decide) (q := 251) (by decide) (q2 := 246) rfl (fun hb243 => absurd hb243 (by decide)) (fun hb243 => ?_)
                            refine g_aload X1865 hx (hb hby at_246) (v := (.ref t)) rfl rfl (q := 248) rfl ?_
                            obtain ⟨ma, ha, r, fm, fh, cg, TC, hnr, hm0, hv0, hh0, hm1, hv1, hh1⟩ := R1865
                            refine g_callV X1865 hx hZ1857 hown1857 (hw _ (List.mem_of_getElem? (i := 116) rfl)) (hw _ (List.mem_of_getElem? (i := 117) rfl)) (hw _ (List.mem_of_getElem? (i := 119) rfl)) (hw _ (List.mem_of_getElem? (i := 118) rfl)) (hw _ (List.mem_of_getElem? (i := 120) rfl)) (hw _ (List.mem_of_getElem? (i := 35) rfl)) (notFace_of_selects (args := #[]) (mvT hZ1857 (hw _ (List.mem_of_getElem? (i := 119) rfl)))) (by decide) e1865 TC.1 (rmCl2 l Z a0 hw t ma ha r fm fh cg h1865 n0 ge_t TC hnr) (by exact hml.symm) (argsL := []) (rest := []) rfl rfl pd_3 rfl (Nat.le_of_ble_eq_true rfl) (Nat.le_of_ble_eq_true rfl) (Nat.le_of_ble_eq_true rfl) (Nat.le_of_ble_eq_true rfl) (hb hby at_248) (q := 251) rfl (fun v1866 T1866 L1866 X1866 hQ1866 => ?_)
                            generalize e1866 : T1866.heap = h1866 at hQ1866
                            obtain ⟨rfl, M1866, U1866, R1866⟩ := hQ1866
                            have N1866 := Fr.app N1865 M1866
                            have hk_1866 := Nat.le_trans hk_1865 (Up.le U1866)
                            show Go p e below _ (T1866.setTop (mkF m 251 #[.val (.int ia), .val (.int ib), .val (.int ic), .val (.int ops), .val (.int room), .val (.int (1 : Int32)), .val (.int (1 : Int32)), .val (.int (1 : Int32)), .val (.int (1 : Int32)), .val (.int z9), .val (.int ca), .val (.int cb), .val (.int cc), .val (.ref s0), .val (.ref s1), .val (.ref s2), .val val, .val (.ref t), .val (.int (1 : Int32)), .unset, .unset, .unset] []))
                            obtain ⟨ma, ha, r, fm, fh, cg, TC⟩ := R1866
                            exact J251 _ _ _ _ _ (0 : Int32) (X1866.more (Nat.le_of_ble_eq_true rfl) (Nat.le_of_ble_eq_true rfl)) e1866 hS1857 hk_1866 hZ1857 hown1857 (by simpa using N1866) TC.1 TC.2.2.2.1 (by simp [own_sz, own_keep, own_exs, eq_false cm_ca_cb, eq_false cm_ca_cc, eq_false cm_cb_cc])
            refine g_iload X1804 hx (hb hby at_130) (v := z9) rfl (q := 132) rfl ?_
            refine g_if_eq X1804 hx (hb hby at_132) (by decide) (q := 139) (by decide) (q2 := 135) rfl (fun hb132 => ?_) (fun hb132 => ?_)
            · refine g_iloadN X1804 hx (hb hby at_139) (v := ia) rfl (q := 140) rfl ?_
              refine g_callS X1804 hx hZ hown (hw _ (List.mem_of_getElem? (i := 26) rfl)) (hw _ (List.mem_of_getElem? (i := 27) rfl)) (hw _ (List.mem_of_getElem? (i := 28) rfl)) (hw _ (List.mem_of_getElem? (i := 29) rfl)) (by decide) e1804 (rmIV l Z a0 hw ia ca_ fc h1804 n0 z_1804 f1806 f1807 f1808.1 f1808.2) (by exact hml.symm) (argsL := [(.int ia)]) (rest := []) rfl rfl pd_22 rfl (Nat.le_of_ble_eq_true rfl) (Nat.le_of_ble_eq_true rfl) (Nat.le_of_ble_eq_true rfl) (Nat.le_of_ble_eq_true rfl) (hb hby at_140) (q := 143) rfl (fun v1867 T1867 L1867 X1867 hQ1867 => ?_)
              generalize e1867 : T1867.heap = h1867 at hQ1867
              obtain ⟨val, rfl, M1867, K1867, VV⟩ := hQ1867
              have N1867 := Fr.app N1804 M1867
              have z_1867 := Nat.le_trans z_1804 K1867.1
              have hk_1867 := Nat.le_trans hk_1804 K1867.1
              have f1868 := (own_sta_keep f1805 K1867 ns0)
              have f1869 := (own_sta_keep f1806 K1867 ns0)
              have f1870 := (own_sta_keep f1807 K1867 ns0)
              have f1871 := (f1808.keep K1867)
              have f1872 := (f1809.keep K1867 nin0 nin0)
              have f1873 := (f1810.keep K1867 nin0 nin0)
              have f1874 := (U1804.keep K1867 nin0 nin0)
              show Go p e below _ (T1867.setTop (mkF m 143 #[.val (.int ia), .val (.int ib), .val (.int ic), .val (.int ops), .val (.int room), .val (.int z5), .val (.int z6), .val (.int z7), .val (.int z8), .val (.int z9), .val (.int ca), .val (.int cb), .val (.int cc), .val (.ref s0), .val (.ref s1), .val (.ref s2), .unset, .unset, .unset, .unset, .unset, .unset] [val]))
              exact J143 _ _ _ _ (X1867.more (Nat.le_of_ble_eq_true rfl) (Nat.le_of_ble_eq_true rfl)) e1867 (by simpa using N1867) z_1867 hk_1867 f1868 f1872 f1873 f1874 VV
            · refine g_aconst_null X1804 hx (hb hby at_135) (q := 136) rfl ?_
              refine g_goto X1804 hx (hb hby at_136) (by decide) (q := 143) (by decide) ?_
              exact J143 _ _ _ _ (X1804.more (Nat.le_of_ble_eq_true rfl) (Nat.le_of_ble_eq_true rfl)) e1804 (by simpa using N1804) z_1804 hk_1804 f1805 f1809 f1810 U1804 (Or.inl rfl)
          refine g_iloadN X0 hx (hb hby at_69) (v := ops) rfl (q := 70) rfl ?_
          refine g_bipush X0 hx (hb hby at_70) (n := (7 : Int32)) (by decide) (q := 72) rfl ?_
          refine g_ishr X0 hx (hb hby at_72) (z := (ops >>> ((7 : Int32) &&& 31))) rfl (q := 73) rfl ?_
          refine g_iconst X0 hx (hb hby at_73) (n := (1 : Int32)) (by decide) (q := 74) rfl ?_
          refine g_iand X0 hx (hb hby at_74) (z := ((ops >>> ((7 : Int32) &&& 31)) &&& (1 : Int32))) rfl (q := 75) rfl ?_
          refine g_if_eq X0 hx (hb hby at_75) (by decide) (q := 82) (by decide) (q2 := 78) rfl (fun hb75 => ?_) (fun hb75 => ?_)
          · refine g_iconst X0 hx (hb hby at_82) (n := (0 : Int32)) (by decide) (q := 83) rfl ?_
            refine g_istore X0 hx (hb hby at_83) (L' := #[.val (.int ia), .val (.int ib), .val (.int ic), .val (.int ops), .val (.int room), .val (.int z5), .val (.int z6), .val (.int z7), .val (.int z8), .val (.int (0 : Int32)), .unset, .unset, .unset, .unset, .unset, .unset, .unset, .unset, .unset, .unset, .unset, .unset]) rfl (q := 85) rfl ?_
            exact J85 _ (Or.inl rfl)
          · refine g_iconst X0 hx (hb hby at_78) (n := (1 : Int32)) (by decide) (q := 79) rfl ?_
            refine g_goto X0 hx (hb hby at_79) (by decide) (q := 83) (by decide) ?_
            refine g_istore X0 hx (hb hby at_83) (L' := #[.val (.int ia), .val (.int ib), .val (.int ic), .val (.int ops), .val (.int room), .val (.int z5), .val (.int z6), .val (.int z7), .val (.int z8), .val (.int (1 : Int32)), .unset, .unset, .unset, .unset, .unset, .unset, .unset, .unset, .unset, .unset, .unset, .unset]) rfl (q := 85) rfl ?_
            exact J85 _ (Or.inr rfl)
        refine g_iloadN X0 hx (hb hby at_53) (v := ops) rfl (q := 54) rfl ?_
        refine g_bipush X0 hx (hb hby at_54) (n := (6 : Int32)) (by decide) (q := 56) rfl ?_
        refine g_ishr X0 hx (hb hby at_56) (z := (ops >>> ((6 : Int32) &&& 31))) rfl (q := 57) rfl ?_
        refine g_iconst X0 hx (hb hby at_57) (n := (1 : Int32)) (by decide) (q := 58) rfl ?_
        refine g_iand X0 hx (hb hby at_58) (z := ((ops >>> ((6 : Int32) &&& 31)) &&& (1 : Int32))) rfl (q := 59) rfl ?_
        refine g_if_eq X0 hx (hb hby at_59) (by decide) (q := 66) (by decide) (q2 := 62) rfl (fun hb59 => ?_) (fun hb59 => ?_)
        · refine g_iconst X0 hx (hb hby at_66) (n := (0 : Int32)) (by decide) (q := 67) rfl ?_
          refine g_istore X0 hx (hb hby at_67) (L' := #[.val (.int ia), .val (.int ib), .val (.int ic), .val (.int ops), .val (.int room), .val (.int z5), .val (.int z6), .val (.int z7), .val (.int (0 : Int32)), .unset, .unset, .unset, .unset, .unset, .unset, .unset, .unset, .unset, .unset, .unset, .unset, .unset]) rfl (q := 69) rfl ?_
          exact J69 _ (Or.inl rfl)
        · refine g_iconst X0 hx (hb hby at_62) (n := (1 : Int32)) (by decide) (q := 63) rfl ?_
          refine g_goto X0 hx (hb hby at_63) (by decide) (q := 67) (by decide) ?_
          refine g_istore X0 hx (hb hby at_67) (L' := #[.val (.int ia), .val (.int ib), .val (.int ic), .val (.int ops), .val (.int room), .val (.int z5), .val (.int z6), .val (.int z7), .val (.int (1 : Int32)), .unset, .unset, .unset, .unset, .unset, .unset, .unset, .unset, .unset, .unset, .unset, .unset, .unset]) rfl (q := 69) rfl ?_
          exact J69 _ (Or.inr rfl)
      refine g_iloadN X0 hx (hb hby at_38) (v := ops) rfl (q := 39) rfl ?_
      refine g_iconst X0 hx (hb hby at_39) (n := (5 : Int32)) (by decide) (q := 40) rfl ?_
      refine g_ishr X0 hx (hb hby at_40) (z := (ops >>> ((5 : Int32) &&& 31))) rfl (q := 41) rfl ?_
      refine g_iconst X0 hx (hb hby at_41) (n := (1 : Int32)) (by decide) (q := 42) rfl ?_
      refine g_iand X0 hx (hb hby at_42) (z := ((ops >>> ((5 : Int32) &&& 31)) &&& (1 : Int32))) rfl (q := 43) rfl ?_
      refine g_if_eq X0 hx (hb hby at_43) (by decide) (q := 50) (by decide) (q2 := 46) rfl (fun hb43 => ?_) (fun hb43 => ?_)
      · refine g_iconst X0 hx (hb hby at_50) (n := (0 : Int32)) (by decide) (q := 51) rfl ?_
        refine g_istore X0 hx (hb hby at_51) (L' := #[.val (.int ia), .val (.int ib), .val (.int ic), .val (.int ops), .val (.int room), .val (.int z5), .val (.int z6), .val (.int (0 : Int32)), .unset, .unset, .unset, .unset, .unset, .unset, .unset, .unset, .unset, .unset, .unset, .unset, .unset, .unset]) rfl (q := 53) rfl ?_
        exact J53 _ (Or.inl rfl)
      · refine g_iconst X0 hx (hb hby at_46) (n := (1 : Int32)) (by decide) (q := 47) rfl ?_
        refine g_goto X0 hx (hb hby at_47) (by decide) (q := 51) (by decide) ?_
        refine g_istore X0 hx (hb hby at_51) (L' := #[.val (.int ia), .val (.int ib), .val (.int ic), .val (.int ops), .val (.int room), .val (.int z5), .val (.int z6), .val (.int (1 : Int32)), .unset, .unset, .unset, .unset, .unset, .unset, .unset, .unset, .unset, .unset, .unset, .unset, .unset, .unset]) rfl (q := 53) rfl ?_
        exact J53 _ (Or.inr rfl)
    refine g_iloadN X0 hx (hb hby at_23) (v := ops) rfl (q := 24) rfl ?_
    refine g_iconst X0 hx (hb hby at_24) (n := (4 : Int32)) (by decide) (q := 25) rfl ?_
    refine g_ishr X0 hx (hb hby at_25) (z := (ops >>> ((4 : Int32) &&& 31))) rfl (q := 26) rfl ?_
    refine g_iconst X0 hx (hb hby at_26) (n := (1 : Int32)) (by decide) (q := 27) rfl ?_
    refine g_iand X0 hx (hb hby at_27) (z := ((ops >>> ((4 : Int32) &&& 31)) &&& (1 : Int32))) rfl (q := 28) rfl ?_
    refine g_if_eq X0 hx (hb hby at_28) (by decide) (q := 35) (by decide) (q2 := 31) rfl (fun hb28 => ?_) (fun hb28 => ?_)
    · refine g_iconst X0 hx (hb hby at_35) (n := (0 : Int32)) (by decide) (q := 36) rfl ?_
      refine g_istore X0 hx (hb hby at_36) (L' := #[.val (.int ia), .val (.int ib), .val (.int ic), .val (.int ops), .val (.int room), .val (.int z5), .val (.int (0 : Int32)), .unset, .unset, .unset, .unset, .unset, .unset, .unset, .unset, .unset, .unset, .unset, .unset, .unset, .unset, .unset]) rfl (q := 38) rfl ?_
      exact J38 _ (Or.inl rfl)
    · refine g_iconst X0 hx (hb hby at_31) (n := (1 : Int32)) (by decide) (q := 32) rfl ?_
      refine g_goto X0 hx (hb hby at_32) (by decide) (q := 36) (by decide) ?_
      refine g_istore X0 hx (hb hby at_36) (L' := #[.val (.int ia), .val (.int ib), .val (.int ic), .val (.int ops), .val (.int room), .val (.int z5), .val (.int (1 : Int32)), .unset, .unset, .unset, .unset, .unset, .unset, .unset, .unset, .unset, .unset, .unset, .unset, .unset, .unset, .unset]) rfl (q := 38) rfl ?_
      exact J38 _ (Or.inr rfl)
  refine g_iloadN X0 hx (hb hby at_0) (v := ops) rfl (q := 1) rfl ?_
  refine g_bipush X0 hx (hb hby at_1) (n := (7 : Int32)) (by decide) (q := 3) rfl ?_
  refine g_iand X0 hx (hb hby at_3) (z := (ops &&& (7 : Int32))) rfl (q := 4) rfl ?_
  refine g_iconst X0 hx (hb hby at_4) (n := (1 : Int32)) (by decide) (q := 5) rfl ?_
  refine g_isub X0 hx (hb hby at_5) (z := room) hroom (q := 6) rfl ?_
  refine g_istore X0 hx (hb hby at_6) (L' := #[.val (.int ia), .val (.int ib), .val (.int ic), .val (.int ops), .val (.int room), .unset, .unset, .unset, .unset, .unset, .unset, .unset, .unset, .unset, .unset, .unset, .unset, .unset, .unset, .unset, .unset, .unset]) rfl (q := 8) rfl ?_
  refine g_iloadN X0 hx (hb hby at_8) (v := ops) rfl (q := 9) rfl ?_
  refine g_iconst X0 hx (hb hby at_9) (n := (3 : Int32)) (by decide) (q := 10) rfl ?_
  refine g_ishr X0 hx (hb hby at_10) (z := (ops >>> ((3 : Int32) &&& 31))) rfl (q := 11) rfl ?_
  refine g_iconst X0 hx (hb hby at_11) (n := (1 : Int32)) (by decide) (q := 12) rfl ?_
  refine g_iand X0 hx (hb hby at_12) (z := ((ops >>> ((3 : Int32) &&& 31)) &&& (1 : Int32))) rfl (q := 13) rfl ?_
  refine g_if_eq X0 hx (hb hby at_13) (by decide) (q := 20) (by decide) (q2 := 16) rfl (fun hb13 => ?_) (fun hb13 => ?_)
  · refine g_iconst X0 hx (hb hby at_20) (n := (0 : Int32)) (by decide) (q := 21) rfl ?_
    refine g_istore X0 hx (hb hby at_21) (L' := #[.val (.int ia), .val (.int ib), .val (.int ic), .val (.int ops), .val (.int room), .val (.int (0 : Int32)), .unset, .unset, .unset, .unset, .unset, .unset, .unset, .unset, .unset, .unset, .unset, .unset, .unset, .unset, .unset, .unset]) rfl (q := 23) rfl ?_
    exact J23 _ (Or.inl rfl)
  · refine g_iconst X0 hx (hb hby at_16) (n := (1 : Int32)) (by decide) (q := 17) rfl ?_
    refine g_goto X0 hx (hb hby at_17) (by decide) (q := 21) (by decide) ?_
    refine g_istore X0 hx (hb hby at_21) (L' := #[.val (.int ia), .val (.int ib), .val (.int ic), .val (.int ops), .val (.int room), .val (.int (1 : Int32)), .unset, .unset, .unset, .unset, .unset, .unset, .unset, .unset, .unset, .unset, .unset, .unset, .unset, .unset, .unset, .unset]) rfl (q := 23) rfl ?_
    exact J23 _ (Or.inr rfl)
set_option maxRecDepth 65536 in
set_option maxHeartbeats 40000000 in
theorem comes_1 {Post : Tables → Env → Array Value → State → Outcome → State → Prop} (hpost : ∀ tb e args s v u, (limb_1_1.after args s (.returned v) u = true ∧ limb_1_2.after args s (.returned v) u = true ∧ True) → ReturnedEndW s (.returned v) u (Jvm.fieldLocs frame_1_writes args s ++ Jvm.arrayLocs frame_1_arrays args s ++ Jvm.staticLocs frame_1_statics s) 40 1216 → Post tb e args s (.returned v) u) :
    ArmFor flags0 classFile x code maxLocals ret World_1 tables_1 room_1 Calls_1 rest_1 Pre_1 Post := by
  intro l hfl _ _ p e ha hc hk s m args below hf hA hF happ hP
  obtain ⟨hcalls, hrest, hpre⟩ := hP
  obtain ⟨-, -, -, hnamed, -, -, -, hat⟩ := (Spec.applies_iff hf).mp happ
  obtain ⟨hg, hn⟩ := and_e (Cond.before_iff.mp (show (Jvm.Cond.and given_1 narrow_1).before args s = true from hpre))
  obtain ⟨gc, gr0⟩ := and_e hg
  obtain ⟨ga0, gr1⟩ := and_e gr0
  obtain ⟨ga1, gr2⟩ := and_e gr1
  obtain ⟨ga2, gr3⟩ := and_e gr2
  have ga3 := gr3
  obtain ⟨w0, w1, w2, w3, rfl⟩ : ∃ w0 w1 w2 w3 : Value, args = #[w0, w1, w2, w3] := by
    have hs : args.size = 4 := by simpa [Cond.value, given_1] using gc
    obtain ⟨L⟩ := args
    match L, hs with
    | [w0, w1, w2, w3], _ => exact ⟨w0, w1, w2, w3, rfl⟩
  have hw := fun d (hd : d ∈ tables_1) => atoms_spec (ws := Jvm.Cond.code x code maxLocals ret :: tables_1) hat d (List.mem_cons_of_mem _ hd)
  have hfit : Fit s := fun {y c} hc i hi => by
    obtain ⟨ha, rfl⟩ := Array.getElem?_eq_some_iff.mp hc
    have q := List.all_eq_true.mp ((Array.all_eq_true_iff_forall_mem.mp hF) _ (Array.getElem_mem ha)) i (List.mem_range.mpr hi)
    simpa [Array.getElem?_eq_getElem hi] using q
  obtain ⟨hsets, hown0⟩ := atoms_of _ (rest_1_c_eq ▸ (show rest_1_c.before _ s = true from hrest))
  have hr0 := Cond.before_iff.mp hown0
  obtain ⟨i0, ei0⟩ := is_v ga0
  obtain rfl : w0 = (.int i0) := Option.some.inj ei0
  obtain ⟨i1, ei1⟩ := is_v ga1
  obtain rfl : w1 = (.int i1) := Option.some.inj ei1
  obtain ⟨i2, ei2⟩ := is_v ga2
  obtain rfl : w2 = (.int i2) := Option.some.inj ei2
  obtain ⟨i3, ei3⟩ := is_v ga3
  obtain rfl : w3 = (.int i3) := Option.some.inj ei3
  obtain ⟨cM, kM, mr, mm1, mm2, mm3⟩ := hcalls.1
  have MR : Mr s "[Ljava/lang/Object;" mr := ⟨cM, kM, mm1, mm2, mm3.1⟩
  obtain ⟨cs, ecs⟩ := is_v (Cond.before_iff.mp (hsets _ (List.mem_of_getElem? (i := 1) rfl)))
  have SC := Sta.start ecs (Or.inl (hsets _ (List.mem_of_getElem? (i := 0) rfl)))
  have hcs := own_ne0 ecs (Cond.before_iff.mp (hsets _ (List.mem_of_getElem? (i := 2) rfl)))
  have SH := Sta.start (own_is127 (Cond.before_iff.mp (hsets _ (List.mem_of_getElem? (i := 12) rfl)))) (Or.inl (hsets _ (List.mem_of_getElem? (i := 10) rfl)))
  obtain ⟨cA, eca⟩ := exa_v (Cond.before_iff.mp (hsets _ (List.mem_of_getElem? (i := 14) rfl)))
  have SA := Sta.start eca (Or.inr ⟨(hw _ (List.mem_of_getElem? (i := 31) rfl)), (hsets _ (List.mem_of_getElem? (i := 11) rfl))⟩)
  obtain ⟨clA, AA⟩ := Arr.start eca (Cond.before_iff.mp (hsets _ (List.mem_of_getElem? (i := 13) rfl)))
  have CH := own_cache AA (own_lenN AA eca (Cond.before_iff.mp (hsets _ (List.mem_of_getElem? (i := 15) rfl)))) eca (fun _ => eca) (Cond.before_iff.mp (hsets _ (List.mem_of_getElem? (i := 16) rfl)))
  obtain ⟨n, o, h1, h2, h3, _, L, rfl, ⟨rfl, N⟩, hq⟩ := rm0 l s _ hw i0 i1 i2 i3 _ _ _ _ cs cA mr _ s.heap s.heap.size (Nat.le_refl _) rfl (own_room i3) rfl (own_ch i0).1 (own_ch i0).2 rfl (own_ch i1).1 (own_ch i1).2 rfl (own_ch i2).1 (own_ch i2).2 hcs SC SH SA CH MR tables_1 p e ha hc hk s m _ below hf ((Spec.applies_iff_loose hf).mp happ).1 ⟨rfl, State.Warmed39.refl s, rfl⟩ trivial
  refine ⟨n, _, h1, h2, h3, hpost _ _ _ _ _ _ ⟨Cond.after_iff.mpr rfl, Cond.after_iff.mpr (eq_i res_at (Term.int_eval (1)) rfl), trivial⟩ ⟨hq.1, hq.2.1, hq.2.2.1, (hq.2.2.2.sift fun y hy => Or.inr (N y hy)).mono (by decide) (by decide)⟩⟩
theorem main_1_1 : Claimed_1_1 := comes_1 fun _ _ _ _ _ _ h hF => ⟨h.1, hF⟩
theorem main_1_2 : Claimed_1_2 := comes_1 fun _ _ _ _ _ _ h hF => ⟨h.2.1, hF⟩
end Jvm.Pilot.@@N@@
namespace Jvm.Pilot.@@N@@
open Jvm Jvm.ClassFile Sem Op Lib Jvm.Free Jvm.Stand Jvm.Pilot.@@N@@.Jvm.D
/-! MADE BY PROGRAM (witnessworld.py) out of the Statement's table words and the real class files: 29 classes; the members and pool entries that the words name. The judged class is class 1, her method 1. -/
namespace start1
open Jvm.ClassFile
def u (s : String) : CpInfo := .utf8 (stringToUtf16 s)
/-- a pool by its gaps: so many unusable entries, then the entry; so many at the end -/
def gap : Nat → List CpInfo → List CpInfo
  | 0, r => r
  | n + 1, r => .unusable :: gap n r
def poolList (es : List (Nat × CpInfo)) (last : Nat) : List CpInfo := es.foldr (fun e r => gap e.1 (e.2 :: r)) (gap last [])
def pool (es : List (Nat × CpInfo)) (last : Nat) : Array CpInfo := ⟨poolList es last⟩
def fileOf (pool : Array CpInfo) (this : Nat) (attrs : Array Attribute := #[]) (ms : Array MethodInfo := #[]) (fl : Nat := 33) (sup : Nat := 0) (ifs : Array Nat := #[]) (fds : Array FieldInfo := #[]) : ClassFile where
  minorVersion := 0
  majorVersion := 65
  constantPool := pool
  accessFlags := fl
  thisClass := this
  superClass := sup
  interfaces := ifs
  fields := fds
  methods := ms
  attributes := attrs
def plain (name : String) (sup : Option ClassId) : Class where
  name := name
  kind := .ordinary
  loader := none
  accessFlags := 33
  super := sup
  interfaces := #[]
  cf := none
  fields := #[]
  methods := #[]
  instanceTypes := #[]
  staticTypes := #[]
  resolved := #[]
  callSites := []
  init := .initialized
  statics := none
  mirror := none

def pool0 : Array CpInfo := pool [(5, u "<init>"), (0, u "()V"), (1, .class_ 10), (1, u "java/lang/Object"), (0, u "getClass"), (0, u "()Ljava/lang/Class;"), (14, u "hashCode"), (0, u "()I"), (63, u "equals"), (0, u "(Ljava/lang/Object;)Z")] 30

def k0c0 : Code := { maxStack := 0, maxLocals := 1, code := object_method_1_code, exceptionTable := #[], attributes := #[] }
def k0m0 : Method := { name := "<init>", desc := "()V", sig := { parameters := [], returnType := none }, accessFlags := 1, code := some k0c0 }
def k0m1 : Method := { name := "getClass", desc := "()Ljava/lang/Class;", sig := { parameters := [], returnType := some (.object "java/lang/Class") }, accessFlags := 273, code := none }
def k0m2 : Method := { name := "hashCode", desc := "()I", sig := { parameters := [], returnType := some .int }, accessFlags := 257, code := none }
def k0c3 : Code := { maxStack := 2, maxLocals := 2, code := object_method_1_code, exceptionTable := #[], attributes := #[] }
def k0m3 : Method := { name := "equals", desc := "(Ljava/lang/Object;)Z", sig := { parameters := [(.object "java/lang/Object")], returnType := some .boolean }, accessFlags := 1, code := some k0c3 }
/-- java/lang/Object -/
def k0 : Class := { plain "java/lang/Object" none with
  accessFlags := 33
  interfaces := #[]
  cf := some (fileOf pool0 8 #[] #[{ accessFlags := 1, nameIndex := 5, descriptorIndex := 6, attributes := #[] }, { accessFlags := 273, nameIndex := 11, descriptorIndex := 12, attributes := #[] }, { accessFlags := 257, nameIndex := 27, descriptorIndex := 28, attributes := #[] }, { accessFlags := 1, nameIndex := 92, descriptorIndex := 93, attributes := #[] }] 33 0 #[] #[])
  fields := #[]
  methods := #[k0m0, k0m1, k0m2, k0m3]
  instanceTypes := #[]
  staticTypes := #[]
  resolved := Array.replicate 124 none
  statics := none }

def pool1 : Array CpInfo := pool [(2, .class_ 4), (1, u "java/lang/Object"), (0, u "<init>"), (0, u "()V"), (0, .methodref 8 9), (0, .class_ 10), (0, .nameAndType 11 12), (0, u "java/lang/String"), (0, u "valueOf"), (0, u "(C)Ljava/lang/String;"), (0, .methodref 14 15), (0, .class_ 16), (0, .nameAndType 11 17), (0, u "java/lang/Integer"), (0, u "(I)Ljava/lang/Integer;"), (0, .class_ 19), (0, u "com/example/kehys/kehys/io/TreeObject"), (0, .methodref 18 21), (0, .nameAndType 5 22), (0, u "(I)V"), (0, .methodref 18 24), (0, .nameAndType 25 26), (0, u "isEmpty"), (0, u "()Z"), (0, .methodref 18 28), (0, .nameAndType 29 30), (0, u "put"), (0, u "(Ljava/lang/String;Ljava/lang/Object;)Ljava/lang/Object;"), (0, .methodref 18 32), (0, .nameAndType 33 34), (0, u "remove"), (0, u "(Ljava/lang/Object;)Ljava/lang/Object;"), (0, .methodref 18 36), (0, .nameAndType 37 6), (0, u "clear"), (0, .methodref 18 39), (0, .nameAndType 40 41), (0, u "size"), (0, u "()I"), (0, .class_ 43), (0, u "com/example/kehys/kehys/io/TreeObjectIsEmptyPinLaw"), (2, u "law"), (0, u "(IIII)Z")] 3

def k1m0 : Method := { name := "<init>", desc := "()V", sig := { parameters := [], returnType := none }, accessFlags := 1, code := none }
def k1c1 : Code := { maxStack := 3, maxLocals := 22, code := code, exceptionTable := #[], attributes := #[] }
def k1m1 : Method := { name := "law", desc := "(IIII)Z", sig := { parameters := [.int, .int, .int, .int], returnType := some .boolean }, accessFlags := 9, code := some k1c1 }
/-- com/example/kehys/kehys/io/TreeObjectIsEmptyPinLaw -/
def k1 : Class := { plain "com/example/kehys/kehys/io/TreeObjectIsEmptyPinLaw" (some 0) with
  accessFlags := 49
  interfaces := #[]
  cf := some (fileOf pool1 42 #[] #[{ accessFlags := 1, nameIndex := 5, descriptorIndex := 6, attributes := #[] }, { accessFlags := 9, nameIndex := 46, descriptorIndex := 47, attributes := #[] }] 49 2 #[] #[])
  fields := #[]
  methods := #[k1m0, k1m1]
  instanceTypes := #[]
  staticTypes := #[]
  resolved := Array.replicate 51 none
  statics := none }

def pool2 : Array CpInfo := pool [(1, .class_ 2), (0, u "java/io/Serializable"), (0, .class_ 4), (0, u "java/lang/Object")] 2

/-- java/io/Serializable -/
def k2 : Class := { plain "java/io/Serializable" (some 0) with
  accessFlags := 1537
  interfaces := #[]
  cf := some (fileOf pool2 1 #[] #[] 1537 3 #[] #[])
  fields := #[]
  methods := #[]
  instanceTypes := #[]
  staticTypes := #[]
  resolved := Array.replicate 7 none
  statics := none }

def pool3 : Array CpInfo := pool [(1, .class_ 2), (0, u "java/lang/Comparable"), (0, .class_ 4), (0, u "java/lang/Object")] 7

/-- java/lang/Comparable -/
def k3 : Class := { plain "java/lang/Comparable" (some 0) with
  accessFlags := 1537
  interfaces := #[]
  cf := some (fileOf pool3 1 #[] #[] 1537 3 #[] #[])
  fields := #[]
  methods := #[]
  instanceTypes := #[]
  staticTypes := #[]
  resolved := Array.replicate 12 none
  statics := none }

def pool4 : Array CpInfo := pool [(2, .class_ 4), (1, u "java/lang/CharSequence"), (42, .class_ 48), (0, u "java/lang/CharSequence$1CodePointIterator"), (10, .class_ 60), (0, u "java/lang/CharSequence$1CharIterator"), (5, .class_ 67), (0, u "java/lang/Object")] 63

/-- java/lang/CharSequence -/
def k4 : Class := { plain "java/lang/CharSequence" (some 0) with
  accessFlags := 1537
  interfaces := #[]
  cf := some (fileOf pool4 2 #[.nestMembers #[47, 59]] #[] 1537 66 #[] #[])
  fields := #[]
  methods := #[]
  instanceTypes := #[]
  staticTypes := #[]
  resolved := Array.replicate 131 none
  statics := none }

def pool5 : Array CpInfo := pool [(1, .class_ 2), (0, u "java/lang/constant/Constable"), (0, .class_ 4), (0, u "java/lang/Object")] 6

/-- java/lang/constant/Constable -/
def k5 : Class := { plain "java/lang/constant/Constable" (some 0) with
  accessFlags := 1537
  interfaces := #[]
  cf := some (fileOf pool5 1 #[] #[] 1537 3 #[] #[])
  fields := #[]
  methods := #[]
  instanceTypes := #[]
  staticTypes := #[]
  resolved := Array.replicate 11 none
  statics := none }

def pool6 : Array CpInfo := pool [(1, .class_ 2), (0, u "java/lang/constant/ConstantDesc"), (0, .class_ 4), (0, u "java/lang/Object")] 32

/-- java/lang/constant/ConstantDesc -/
def k6 : Class := { plain "java/lang/constant/ConstantDesc" (some 0) with
  accessFlags := 1537
  interfaces := #[]
  cf := some (fileOf pool6 1 #[] #[] 1537 3 #[] #[])
  fields := #[]
  methods := #[]
  instanceTypes := #[]
  staticTypes := #[]
  resolved := Array.replicate 37 none
  statics := none }

def pool7 : Array CpInfo := pool [(1, .methodref 2 3), (0, .class_ 4), (0, .nameAndType 5 6), (0, u "java/lang/Object"), (0, u "<init>"), (0, u "()V"), (2, .fieldref 10 11), (0, .class_ 12), (0, .nameAndType 13 14), (0, u "java/lang/String"), (0, u "value"), (0, u "[B"), (0, .fieldref 10 16), (0, .nameAndType 17 18), (0, u "coder"), (0, u "B"), (0, .fieldref 10 20), (0, .nameAndType 21 22), (0, u "hash"), (0, u "I"), (0, .fieldref 10 24), (0, .nameAndType 25 26), (0, u "hashIsZero"), (0, u "Z"), (11, .fieldref 10 39), (0, .nameAndType 40 26), (0, u "COMPACT_STRINGS"), (12, u "toBytes"), (53, .class_ 109), (1, u "java/lang/StringLatin1"), (32, u "()Z"), (66, .methodref 10 210), (0, .nameAndType 5 211), (0, u "([BB)V"), (122, u "()I"), (34, u "(C)Z"), (122, .methodref 10 493), (0, .nameAndType 494 142), (0, u "isLatin1"), (46, .methodref 107 542), (0, .nameAndType 543 544), (0, u "equals"), (0, u "([B[B)Z"), (28, u "(Ljava/lang/Object;)Z"), (1, .class_ 576), (0, u "java/lang/CharSequence"), (22, u "CASE_INSENSITIVE_ORDER"), (0, u "Ljava/util/Comparator;"), (27, .methodref 107 629), (0, .nameAndType 630 631), (0, u "hashCode"), (0, u "([B)I"), (150, u "valueOf"), (0, u "(C)Ljava/lang/String;"), (231, .methodref 107 1016), (0, .nameAndType 1017 369), (0, u "canEncode"), (0, .methodref 107 1019), (0, .nameAndType 53 1020), (0, u "(C)[B"), (80, u "serialPersistentFields"), (0, u "[Ljava/io/ObjectStreamField;"), (0, .class_ 1104), (0, u "java/lang/String$CaseInsensitiveComparator"), (1, .class_ 1107), (0, u "java/io/Serializable"), (0, .class_ 1109), (0, u "java/lang/Comparable"), (0, .class_ 1111), (0, u "java/lang/constant/Constable"), (0, .class_ 1113), (0, u "java/lang/constant/ConstantDesc"), (2, u "serialVersionUID"), (0, u "J"), (3, u "REPL"), (0, u "C"), (2, u "LATIN1"), (1, u "UTF16")] 323

def k7m0 : Method := { name := "<init>", desc := "()V", sig := { parameters := [], returnType := none }, accessFlags := 1, code := none }
def k7c1 : Code := { maxStack := 2, maxLocals := 3, code := jdk_42_method_66_code, exceptionTable := #[], attributes := #[] }
def k7m1 : Method := { name := "equals", desc := "(Ljava/lang/Object;)Z", sig := { parameters := [(.object "java/lang/Object")], returnType := some .boolean }, accessFlags := 1, code := some k7c1 }
def k7c2 : Code := { maxStack := 2, maxLocals := 2, code := jdk_42_method_78_code, exceptionTable := #[], attributes := #[] }
def k7m2 : Method := { name := "hashCode", desc := "()I", sig := { parameters := [], returnType := some .int }, accessFlags := 1, code := some k7c2 }
def k7c3 : Code := { maxStack := 4, maxLocals := 1, code := jdk_42_method_139_code, exceptionTable := #[], attributes := #[] }
def k7m3 : Method := { name := "valueOf", desc := "(C)Ljava/lang/String;", sig := { parameters := [.char], returnType := some (.object "java/lang/String") }, accessFlags := 9, code := some k7c3 }
def k7c4 : Code := { maxStack := 2, maxLocals := 3, code := jdk_42_method_151_code, exceptionTable := #[], attributes := #[] }
def k7m4 : Method := { name := "<init>", desc := "([BB)V", sig := { parameters := [(.array .byte), .byte], returnType := none }, accessFlags := 0, code := some k7c4 }
def k7c5 : Code := { maxStack := 1, maxLocals := 1, code := jdk_42_method_154_code, exceptionTable := #[], attributes := #[] }
def k7m5 : Method := { name := "isLatin1", desc := "()Z", sig := { parameters := [], returnType := some .boolean }, accessFlags := 0, code := some k7c5 }
/-- java/lang/String -/
def k7 : Class := { plain "java/lang/String" (some 0) with
  accessFlags := 49
  interfaces := #[2, 3, 4, 5, 6]
  cf := some (fileOf pool7 10 #[.nestMembers #[1103]] #[{ accessFlags := 1, nameIndex := 5, descriptorIndex := 6, attributes := #[] }, { accessFlags := 1, nameIndex := 543, descriptorIndex := 573, attributes := #[] }, { accessFlags := 1, nameIndex := 630, descriptorIndex := 334, attributes := #[] }, { accessFlags := 9, nameIndex := 782, descriptorIndex := 783, attributes := #[] }, { accessFlags := 0, nameIndex := 5, descriptorIndex := 211, attributes := #[] }, { accessFlags := 0, nameIndex := 494, descriptorIndex := 142, attributes := #[] }] 49 2 #[1106, 1108, 575, 1110, 1112] #[{ accessFlags := 18, nameIndex := 13, descriptorIndex := 14, attributes := #[] }, { accessFlags := 18, nameIndex := 17, descriptorIndex := 18, attributes := #[] }, { accessFlags := 2, nameIndex := 21, descriptorIndex := 22, attributes := #[] }, { accessFlags := 2, nameIndex := 25, descriptorIndex := 26, attributes := #[] }, { accessFlags := 26, nameIndex := 1116, descriptorIndex := 1117, attributes := #[] }, { accessFlags := 24, nameIndex := 40, descriptorIndex := 26, attributes := #[] }, { accessFlags := 26, nameIndex := 1101, descriptorIndex := 1102, attributes := #[] }, { accessFlags := 26, nameIndex := 1121, descriptorIndex := 1122, attributes := #[] }, { accessFlags := 25, nameIndex := 599, descriptorIndex := 600, attributes := #[] }, { accessFlags := 24, nameIndex := 1125, descriptorIndex := 18, attributes := #[] }, { accessFlags := 24, nameIndex := 1127, descriptorIndex := 18, attributes := #[] }])
  fields := #[{ name := "value", type := (.array .byte), accessFlags := 18, slot := 0, constantValue := 0 }, { name := "coder", type := .byte, accessFlags := 18, slot := 1, constantValue := 0 }, { name := "hash", type := .int, accessFlags := 2, slot := 2, constantValue := 0 }, { name := "hashIsZero", type := .boolean, accessFlags := 2, slot := 3, constantValue := 0 }, { name := "serialVersionUID", type := .long, accessFlags := 26, slot := 0, constantValue := 0 }, { name := "COMPACT_STRINGS", type := .boolean, accessFlags := 24, slot := 1, constantValue := 0 }, { name := "serialPersistentFields", type := (.array (.object "java/io/ObjectStreamField")), accessFlags := 26, slot := 2, constantValue := 0 }, { name := "REPL", type := .char, accessFlags := 26, slot := 3, constantValue := 0 }, { name := "CASE_INSENSITIVE_ORDER", type := (.object "java/util/Comparator"), accessFlags := 25, slot := 4, constantValue := 0 }, { name := "LATIN1", type := .byte, accessFlags := 24, slot := 5, constantValue := 0 }, { name := "UTF16", type := .byte, accessFlags := 24, slot := 6, constantValue := 0 }]
  methods := #[k7m0, k7m1, k7m2, k7m3, k7m4, k7m5]
  instanceTypes := #[(.array .byte), .byte, .int, .boolean]
  staticTypes := #[.long, .boolean, (.array (.object "java/io/ObjectStreamField")), .char, (.object "java/util/Comparator"), .byte, .byte]
  resolved := Array.replicate 1451 none
  statics := some 0 }

def pool8 : Array CpInfo := pool [(4, .class_ 6), (1, u "java/lang/Object"), (0, u "<init>"), (0, u "()V"), (5, .class_ 16), (1, u "java/lang/StringLatin1"), (40, u "([B)I"), (32, u "canEncode"), (14, u "(C)Z"), (15, u "$assertionsDisabled"), (0, u "Z"), (98, .class_ 223), (1, u "java/lang/StringLatin1$LinesSpliterator"), (57, u "equals"), (0, u "([B[B)Z"), (15, u "hashCode"), (81, u "toBytes"), (1, u "(C)[B"), (7, .class_ 391), (0, u "java/lang/StringLatin1$CharsSpliterator")] 3

def k8m0 : Method := { name := "<init>", desc := "()V", sig := { parameters := [], returnType := none }, accessFlags := 0, code := none }
def k8c1 : Code := { maxStack := 2, maxLocals := 1, code := jdk_43_method_3_code, exceptionTable := #[], attributes := #[] }
def k8m1 : Method := { name := "canEncode", desc := "(C)Z", sig := { parameters := [.char], returnType := some .boolean }, accessFlags := 9, code := some k8c1 }
def k8c2 : Code := { maxStack := 3, maxLocals := 3, code := jdk_43_method_13_code, exceptionTable := #[], attributes := #[] }
def k8m2 : Method := { name := "equals", desc := "([B[B)Z", sig := { parameters := [(.array .byte), (.array .byte)], returnType := some .boolean }, accessFlags := 9, code := some k8c2 }
def k8c3 : Code := { maxStack := 5, maxLocals := 1, code := jdk_43_method_21_code, exceptionTable := #[], attributes := #[] }
def k8m3 : Method := { name := "hashCode", desc := "([B)I", sig := { parameters := [(.array .byte)], returnType := some .int }, accessFlags := 9, code := some k8c3 }
def k8c4 : Code := { maxStack := 4, maxLocals := 1, code := jdk_43_method_46_code, exceptionTable := #[], attributes := #[] }
def k8m4 : Method := { name := "toBytes", desc := "(C)[B", sig := { parameters := [.char], returnType := some (.array .byte) }, accessFlags := 9, code := some k8c4 }
/-- java/lang/StringLatin1 -/
def k8 : Class := { plain "java/lang/StringLatin1" (some 0) with
  accessFlags := 48
  interfaces := #[]
  cf := some (fileOf pool8 14 #[.nestMembers #[390, 221]] #[{ accessFlags := 0, nameIndex := 7, descriptorIndex := 8, attributes := #[] }, { accessFlags := 9, nameIndex := 90, descriptorIndex := 105, attributes := #[] }, { accessFlags := 9, nameIndex := 281, descriptorIndex := 282, attributes := #[] }, { accessFlags := 9, nameIndex := 298, descriptorIndex := 57, attributes := #[] }, { accessFlags := 9, nameIndex := 380, descriptorIndex := 382, attributes := #[] }] 48 4 #[] #[{ accessFlags := 4120, nameIndex := 121, descriptorIndex := 122, attributes := #[] }])
  fields := #[{ name := "$assertionsDisabled", type := .boolean, accessFlags := 4120, slot := 0, constantValue := 0 }]
  methods := #[k8m0, k8m1, k8m2, k8m3, k8m4]
  instanceTypes := #[]
  staticTypes := #[.boolean]
  resolved := Array.replicate 395 none
  statics := none }

def pool9 : Array CpInfo := pool [(1, .methodref 2 3), (0, .class_ 4), (0, .nameAndType 5 6), (0, u "java/lang/Object"), (0, u "<init>"), (0, u "()V"), (1, .class_ 10), (1, u "java/lang/Number"), (2, .class_ 14), (0, u "java/io/Serializable"), (0, u "serialVersionUID"), (0, u "J")] 20

def k9c0 : Code := { maxStack := 1, maxLocals := 1, code := jdk_18_method_1_code, exceptionTable := #[], attributes := #[] }
def k9m0 : Method := { name := "<init>", desc := "()V", sig := { parameters := [], returnType := none }, accessFlags := 1, code := some k9c0 }
/-- java/lang/Number -/
def k9 : Class := { plain "java/lang/Number" (some 0) with
  accessFlags := 1057
  interfaces := #[2]
  cf := some (fileOf pool9 8 #[] #[{ accessFlags := 1, nameIndex := 5, descriptorIndex := 6, attributes := #[] }] 1057 2 #[13] #[{ accessFlags := 26, nameIndex := 15, descriptorIndex := 16, attributes := #[] }])
  fields := #[{ name := "serialVersionUID", type := .long, accessFlags := 26, slot := 0, constantValue := 0 }]
  methods := #[k9m0]
  instanceTypes := #[]
  staticTypes := #[.long]
  resolved := Array.replicate 37 none
  statics := none }

def pool10 : Array CpInfo := pool [(1, .class_ 2), (0, u "java/lang/Integer"), (16, u "digits"), (0, u "[C"), (46, u "<init>"), (17, u "DigitOnes"), (0, u "[B"), (2, u "DigitTens"), (10, .nameAndType 67 101), (0, u "()V"), (85, u "valueOf"), (0, u "(I)Ljava/lang/Integer;"), (0, .class_ 190), (0, u "java/lang/Integer$IntegerCache"), (0, .fieldref 189 192), (0, .nameAndType 193 194), (0, u "high"), (0, u "I"), (0, .fieldref 189 196), (0, .nameAndType 197 198), (0, u "cache"), (0, u "[Ljava/lang/Integer;"), (0, .methodref 1 200), (0, .nameAndType 67 201), (0, u "(I)V"), (0, .methodref 203 100), (0, .class_ 204), (0, u "java/lang/Number"), (0, .fieldref 1 206), (0, .nameAndType 207 194), (0, u "value"), (94, u "TYPE"), (0, u "Ljava/lang/Class;"), (0, .class_ 305), (0, u "java/lang/Comparable"), (0, .class_ 307), (0, u "java/lang/constant/Constable"), (0, .class_ 309), (0, u "java/lang/constant/ConstantDesc"), (0, u "MIN_VALUE"), (1, u "MAX_VALUE"), (3, u "SIZE"), (1, u "BYTES"), (1, u "serialVersionUID"), (0, u "J")] 131

def k10c0 : Code := { maxStack := 3, maxLocals := 1, code := jdk_33_method_22_code, exceptionTable := #[], attributes := #[] }
def k10m0 : Method := { name := "valueOf", desc := "(I)Ljava/lang/Integer;", sig := { parameters := [.int], returnType := some (.object "java/lang/Integer") }, accessFlags := 9, code := some k10c0 }
def k10c1 : Code := { maxStack := 2, maxLocals := 2, code := jdk_33_method_23_code, exceptionTable := #[], attributes := #[] }
def k10m1 : Method := { name := "<init>", desc := "(I)V", sig := { parameters := [.int], returnType := none }, accessFlags := 1, code := some k10c1 }
/-- java/lang/Integer -/
def k10 : Class := { plain "java/lang/Integer" (some 9) with
  accessFlags := 49
  interfaces := #[3, 5, 6]
  cf := some (fileOf pool10 1 #[.nestMembers #[189]] #[{ accessFlags := 9, nameIndex := 187, descriptorIndex := 188, attributes := #[] }, { accessFlags := 1, nameIndex := 67, descriptorIndex := 201, attributes := #[] }] 49 203 #[304, 306, 308] #[{ accessFlags := 25, nameIndex := 310, descriptorIndex := 194, attributes := #[] }, { accessFlags := 25, nameIndex := 312, descriptorIndex := 194, attributes := #[] }, { accessFlags := 25, nameIndex := 302, descriptorIndex := 303, attributes := #[] }, { accessFlags := 24, nameIndex := 19, descriptorIndex := 20, attributes := #[] }, { accessFlags := 24, nameIndex := 89, descriptorIndex := 86, attributes := #[] }, { accessFlags := 24, nameIndex := 85, descriptorIndex := 86, attributes := #[] }, { accessFlags := 18, nameIndex := 207, descriptorIndex := 194, attributes := #[] }, { accessFlags := 25, nameIndex := 316, descriptorIndex := 194, attributes := #[] }, { accessFlags := 25, nameIndex := 318, descriptorIndex := 194, attributes := #[] }, { accessFlags := 26, nameIndex := 320, descriptorIndex := 321, attributes := #[] }])
  fields := #[{ name := "MIN_VALUE", type := .int, accessFlags := 25, slot := 0, constantValue := 0 }, { name := "MAX_VALUE", type := .int, accessFlags := 25, slot := 1, constantValue := 0 }, { name := "TYPE", type := (.object "java/lang/Class"), accessFlags := 25, slot := 2, constantValue := 0 }, { name := "digits", type := (.array .char), accessFlags := 24, slot := 3, constantValue := 0 }, { name := "DigitTens", type := (.array .byte), accessFlags := 24, slot := 4, constantValue := 0 }, { name := "DigitOnes", type := (.array .byte), accessFlags := 24, slot := 5, constantValue := 0 }, { name := "value", type := .int, accessFlags := 18, slot := 0, constantValue := 0 }, { name := "SIZE", type := .int, accessFlags := 25, slot := 6, constantValue := 0 }, { name := "BYTES", type := .int, accessFlags := 25, slot := 7, constantValue := 0 }, { name := "serialVersionUID", type := .long, accessFlags := 26, slot := 8, constantValue := 0 }]
  methods := #[k10m0, k10m1]
  instanceTypes := #[.int]
  staticTypes := #[.int, .int, (.object "java/lang/Class"), (.array .char), (.array .byte), (.array .byte), .int, .int, .long]
  resolved := Array.replicate 453 none
  statics := none }

def pool11 : Array CpInfo := pool [(2, .class_ 4), (1, u "java/lang/Object"), (0, u "<init>"), (0, u "()V"), (0, .class_ 8), (0, u "java/lang/Integer"), (7, .class_ 18), (1, u "java/lang/Integer$IntegerCache"), (0, u "$assertionsDisabled"), (0, u "Z"), (26, u "high"), (0, u "I"), (8, u "archivedCache"), (0, u "[Ljava/lang/Integer;"), (12, u "cache"), (0, u "low")] 27

def k11m0 : Method := { name := "<init>", desc := "()V", sig := { parameters := [], returnType := none }, accessFlags := 2, code := none }
/-- java/lang/Integer$IntegerCache -/
def k11 : Class := { plain "java/lang/Integer$IntegerCache" (some 0) with
  accessFlags := 48
  interfaces := #[]
  cf := some (fileOf pool11 16 #[.nestHost 7] #[{ accessFlags := 2, nameIndex := 5, descriptorIndex := 6, attributes := #[] }] 48 2 #[] #[{ accessFlags := 24, nameIndex := 72, descriptorIndex := 48, attributes := #[] }, { accessFlags := 24, nameIndex := 47, descriptorIndex := 48, attributes := #[] }, { accessFlags := 24, nameIndex := 71, descriptorIndex := 58, attributes := #[] }, { accessFlags := 8, nameIndex := 57, descriptorIndex := 58, attributes := #[] }, { accessFlags := 4120, nameIndex := 19, descriptorIndex := 20, attributes := #[] }])
  fields := #[{ name := "low", type := .int, accessFlags := 24, slot := 0, constantValue := 0 }, { name := "high", type := .int, accessFlags := 24, slot := 1, constantValue := 0 }, { name := "cache", type := (.array (.object "java/lang/Integer")), accessFlags := 24, slot := 2, constantValue := 0 }, { name := "archivedCache", type := (.array (.object "java/lang/Integer")), accessFlags := 8, slot := 3, constantValue := 0 }, { name := "$assertionsDisabled", type := .boolean, accessFlags := 4120, slot := 4, constantValue := 0 }]
  methods := #[k11m0]
  instanceTypes := #[]
  staticTypes := #[.int, .int, (.array (.object "java/lang/Integer")), (.array (.object "java/lang/Integer")), .boolean]
  resolved := Array.replicate 100 none
  statics := some 1 }

def pool12 : Array CpInfo := pool [(2, .class_ 4), (1, u "java/util/Map"), (31, .class_ 37), (0, u "java/util/Map$Entry"), (55, .class_ 94), (0, u "java/lang/Object")] 168

/-- java/util/Map -/
def k12 : Class := { plain "java/util/Map" (some 0) with
  accessFlags := 1537
  interfaces := #[]
  cf := some (fileOf pool12 2 #[.nestMembers #[36]] #[] 1537 93 #[] #[])
  fields := #[]
  methods := #[]
  instanceTypes := #[]
  staticTypes := #[]
  resolved := Array.replicate 263 none
  statics := none }

def pool13 : Array CpInfo := pool [(1, .methodref 2 3), (0, .class_ 4), (0, .nameAndType 5 6), (0, u "java/lang/Object"), (0, u "<init>"), (0, u "()V"), (1, .class_ 10), (1, u "java/util/AbstractMap"), (42, .class_ 54), (0, u "java/util/Map"), (9, u "keySet"), (0, u "Ljava/util/Set;"), (0, .class_ 67), (0, u "java/util/AbstractMap$1"), (5, u "values"), (0, u "Ljava/util/Collection;"), (0, .class_ 76), (0, u "java/util/AbstractMap$2"), (104, .class_ 182), (0, u "java/util/AbstractMap$ViewCollection"), (0, .class_ 184), (0, u "java/util/AbstractMap$SimpleImmutableEntry"), (0, .class_ 186), (0, u "java/util/AbstractMap$SimpleEntry"), (0, .class_ 188), (0, u "java/util/AbstractMap$2$1"), (0, .class_ 190), (0, u "java/util/AbstractMap$1$1")] 5

def k13c0 : Code := { maxStack := 1, maxLocals := 1, code := jdk_71_method_1_code, exceptionTable := #[], attributes := #[] }
def k13m0 : Method := { name := "<init>", desc := "()V", sig := { parameters := [], returnType := none }, accessFlags := 4, code := some k13c0 }
/-- java/util/AbstractMap -/
def k13 : Class := { plain "java/util/AbstractMap" (some 0) with
  accessFlags := 1057
  interfaces := #[12]
  cf := some (fileOf pool13 8 #[.nestMembers #[181, 183, 185, 75, 187, 66, 189]] #[{ accessFlags := 4, nameIndex := 5, descriptorIndex := 6, attributes := #[] }] 1057 2 #[53] #[{ accessFlags := 128, nameIndex := 64, descriptorIndex := 65, attributes := #[] }, { accessFlags := 128, nameIndex := 73, descriptorIndex := 74, attributes := #[] }])
  fields := #[{ name := "keySet", type := (.object "java/util/Set"), accessFlags := 128, slot := 0, constantValue := 0 }, { name := "values", type := (.object "java/util/Collection"), accessFlags := 128, slot := 1, constantValue := 0 }]
  methods := #[k13m0]
  instanceTypes := #[(.object "java/util/Set"), (.object "java/util/Collection")]
  staticTypes := #[]
  resolved := Array.replicate 196 none
  statics := none }

def pool14 : Array CpInfo := pool [(1, .methodref 2 3), (0, .class_ 4), (0, .nameAndType 5 6), (0, u "java/util/AbstractMap"), (0, u "<init>"), (0, u "()V"), (0, .class_ 8), (0, u "com/example/kehys/kehys/io/TreeObject"), (0, .class_ 10), (0, u "java/lang/Object"), (0, .fieldref 7 12), (0, .nameAndType 13 14), (0, u "members"), (0, u "[Ljava/lang/Object;"), (0, .fieldref 7 16), (0, .nameAndType 17 18), (0, u "hashes"), (0, u "[I"), (0, .fieldref 7 20), (0, .nameAndType 21 22), (0, u "size"), (0, u "I"), (0, .methodref 7 24), (0, .nameAndType 25 26), (0, u "find"), (0, u "(Ljava/lang/Object;)I"), (0, .methodref 7 28), (0, .nameAndType 29 30), (0, u "append"), (0, u "(Ljava/lang/String;Ljava/lang/Object;)V"), (0, .fieldref 7 32), (0, .nameAndType 33 22), (0, u "changes"), (5, u "(Ljava/lang/Object;)Ljava/lang/Object;"), (3, .class_ 44), (0, u "java/lang/String"), (2, u "put"), (0, u "(Ljava/lang/String;Ljava/lang/Object;)Ljava/lang/Object;"), (4, .methodref 7 54), (0, .nameAndType 55 56), (0, u "removeMember"), (0, u "(I)V"), (0, .methodref 58 59), (0, .class_ 60), (0, .nameAndType 61 62), (0, u "java/util/Arrays"), (0, u "fill"), (0, u "([Ljava/lang/Object;IILjava/lang/Object;)V"), (0, .fieldref 7 64), (0, .nameAndType 65 66), (0, u "index"), (0, u "Ljava/util/Map;"), (0, .class_ 68), (0, u "com/example/kehys/kehys/io/TreeObject$1"), (3, .class_ 73), (0, u "com/example/kehys/kehys/io/TreeObject$2"), (1, .class_ 76), (0, u "com/example/kehys/kehys/io/TreeObject$3"), (6, .class_ 84), (0, u "java/lang/Integer"), (3, u "()I"), (0, .methodref 9 90), (0, .nameAndType 91 88), (0, u "hashCode"), (0, .methodref 9 93), (0, .nameAndType 94 95), (0, u "equals"), (0, u "(Ljava/lang/Object;)Z"), (0, .string 97), (0, u "name"), (0, .methodref 99 100), (0, .class_ 101), (0, .nameAndType 102 103), (0, u "java/util/Objects"), (0, u "requireNonNull"), (0, u "(Ljava/lang/Object;Ljava/lang/String;)Ljava/lang/Object;"), (0, .methodref 105 106), (0, .class_ 107), (0, .nameAndType 108 109), (0, u "java/lang/Math"), (0, u "max"), (0, u "(II)I"), (0, .methodref 58 111), (0, .nameAndType 112 113), (0, u "copyOf"), (0, u "([Ljava/lang/Object;I)[Ljava/lang/Object;"), (0, .methodref 58 115), (0, .nameAndType 112 116), (0, u "([II)[I"), (0, .methodref 43 90), (0, .methodref 83 119), (0, .nameAndType 120 121), (0, u "valueOf"), (0, u "(I)Ljava/lang/Integer;"), (6, .methodref 129 130), (0, .class_ 131), (0, .nameAndType 132 133), (0, u "java/lang/System"), (0, u "arraycopy"), (0, u "(Ljava/lang/Object;ILjava/lang/Object;II)V"), (8, u "SCANNED"), (2, u "DEFAULT_ROOM"), (6, u "isEmpty"), (0, u "()Z"), (6, u "remove"), (0, u "clear"), (15, .class_ 178), (0, u "com/example/kehys/kehys/io/TreeObject$Member"), (0, .class_ 180), (0, u "com/example/kehys/kehys/io/TreeObject$Members"), (0, .class_ 182), (0, u "com/example/kehys/kehys/io/TreeObject$3$1"), (0, .class_ 184), (0, u "com/example/kehys/kehys/io/TreeObject$2$1"), (0, .class_ 186), (0, u "com/example/kehys/kehys/io/TreeObject$1$1")] 6

def k14c0 : Code := { maxStack := 3, maxLocals := 3, code := prog_18_method_1_code, exceptionTable := #[], attributes := #[] }
def k14m0 : Method := { name := "<init>", desc := "(I)V", sig := { parameters := [.int], returnType := none }, accessFlags := 0, code := some k14c0 }
def k14c1 : Code := { maxStack := 1, maxLocals := 1, code := prog_18_method_2_code, exceptionTable := #[], attributes := #[] }
def k14m1 : Method := { name := "size", desc := "()I", sig := { parameters := [], returnType := some .int }, accessFlags := 1, code := some k14c1 }
def k14c2 : Code := { maxStack := 1, maxLocals := 1, code := prog_18_method_3_code, exceptionTable := #[], attributes := #[] }
def k14m2 : Method := { name := "isEmpty", desc := "()Z", sig := { parameters := [], returnType := some .boolean }, accessFlags := 1, code := some k14c2 }
def k14c3 : Code := { maxStack := 3, maxLocals := 5, code := prog_18_method_7_code, exceptionTable := #[], attributes := #[] }
def k14m3 : Method := { name := "put", desc := "(Ljava/lang/String;Ljava/lang/Object;)Ljava/lang/Object;", sig := { parameters := [(.object "java/lang/String"), (.object "java/lang/Object")], returnType := some (.object "java/lang/Object") }, accessFlags := 1, code := some k14c3 }
def k14c4 : Code := { maxStack := 3, maxLocals := 4, code := prog_18_method_11_code, exceptionTable := #[], attributes := #[] }
def k14m4 : Method := { name := "remove", desc := "(Ljava/lang/Object;)Ljava/lang/Object;", sig := { parameters := [(.object "java/lang/Object")], returnType := some (.object "java/lang/Object") }, accessFlags := 1, code := some k14c4 }
def k14c5 : Code := { maxStack := 4, maxLocals := 1, code := prog_18_method_12_code, exceptionTable := #[], attributes := #[] }
def k14m5 : Method := { name := "clear", desc := "()V", sig := { parameters := [], returnType := none }, accessFlags := 1, code := some k14c5 }
def k14c6 : Code := { maxStack := 4, maxLocals := 6, code := prog_18_method_16_code, exceptionTable := #[], attributes := #[] }
def k14m6 : Method := { name := "find", desc := "(Ljava/lang/Object;)I", sig := { parameters := [(.object "java/lang/Object")], returnType := some .int }, accessFlags := 2, code := some k14c6 }
def k14c7 : Code := { maxStack := 4, maxLocals := 4, code := prog_18_method_17_code, exceptionTable := #[], attributes := #[] }
def k14m7 : Method := { name := "append", desc := "(Ljava/lang/String;Ljava/lang/Object;)V", sig := { parameters := [(.object "java/lang/String"), (.object "java/lang/Object")], returnType := none }, accessFlags := 2, code := some k14c7 }
def k14c8 : Code := { maxStack := 7, maxLocals := 2, code := prog_18_method_18_code, exceptionTable := #[], attributes := #[] }
def k14m8 : Method := { name := "removeMember", desc := "(I)V", sig := { parameters := [.int], returnType := none }, accessFlags := 2, code := some k14c8 }
/-- com/example/kehys/kehys/io/TreeObject -/
def k14 : Class := { plain "com/example/kehys/kehys/io/TreeObject" (some 13) with
  accessFlags := 32
  interfaces := #[]
  cf := some (fileOf pool14 7 #[.nestMembers #[177, 179, 75, 181, 72, 183, 67, 185]] #[{ accessFlags := 0, nameIndex := 5, descriptorIndex := 56, attributes := #[] }, { accessFlags := 1, nameIndex := 21, descriptorIndex := 88, attributes := #[] }, { accessFlags := 1, nameIndex := 152, descriptorIndex := 153, attributes := #[] }, { accessFlags := 1, nameIndex := 47, descriptorIndex := 48, attributes := #[] }, { accessFlags := 1, nameIndex := 160, descriptorIndex := 39, attributes := #[] }, { accessFlags := 1, nameIndex := 161, descriptorIndex := 6, attributes := #[] }, { accessFlags := 2, nameIndex := 25, descriptorIndex := 26, attributes := #[] }, { accessFlags := 2, nameIndex := 29, descriptorIndex := 30, attributes := #[] }, { accessFlags := 2, nameIndex := 55, descriptorIndex := 56, attributes := #[] }] 32 2 #[] #[{ accessFlags := 26, nameIndex := 142, descriptorIndex := 22, attributes := #[] }, { accessFlags := 26, nameIndex := 145, descriptorIndex := 22, attributes := #[] }, { accessFlags := 2, nameIndex := 13, descriptorIndex := 14, attributes := #[] }, { accessFlags := 2, nameIndex := 17, descriptorIndex := 18, attributes := #[] }, { accessFlags := 2, nameIndex := 21, descriptorIndex := 22, attributes := #[] }, { accessFlags := 2, nameIndex := 65, descriptorIndex := 66, attributes := #[] }, { accessFlags := 2, nameIndex := 33, descriptorIndex := 22, attributes := #[] }])
  fields := #[{ name := "SCANNED", type := .int, accessFlags := 26, slot := 0, constantValue := 0 }, { name := "DEFAULT_ROOM", type := .int, accessFlags := 26, slot := 1, constantValue := 0 }, { name := "members", type := (.array (.object "java/lang/Object")), accessFlags := 2, slot := 2, constantValue := 0 }, { name := "hashes", type := (.array .int), accessFlags := 2, slot := 3, constantValue := 0 }, { name := "size", type := .int, accessFlags := 2, slot := 4, constantValue := 0 }, { name := "index", type := (.object "java/util/Map"), accessFlags := 2, slot := 5, constantValue := 0 }, { name := "changes", type := .int, accessFlags := 2, slot := 6, constantValue := 0 }]
  methods := #[k14m0, k14m1, k14m2, k14m3, k14m4, k14m5, k14m6, k14m7, k14m8]
  instanceTypes := #[(.object "java/util/Set"), (.object "java/util/Collection"), (.array (.object "java/lang/Object")), (.array .int), .int, (.object "java/util/Map"), .int]
  staticTypes := #[.int, .int]
  resolved := Array.replicate 193 none
  statics := none }

def pool15 : Array CpInfo := pool [(2, .class_ 4), (1, u "java/lang/Object"), (0, u "<init>"), (0, u "()V"), (35, .class_ 44), (1, u "java/util/Objects"), (0, u "requireNonNull"), (48, u "(Ljava/lang/Object;Ljava/lang/String;)Ljava/lang/Object;")] 89

def k15m0 : Method := { name := "<init>", desc := "()V", sig := { parameters := [], returnType := none }, accessFlags := 2, code := none }
def k15c1 : Code := { maxStack := 3, maxLocals := 2, code := jdk_31_method_11_code, exceptionTable := #[], attributes := #[] }
def k15m1 : Method := { name := "requireNonNull", desc := "(Ljava/lang/Object;Ljava/lang/String;)Ljava/lang/Object;", sig := { parameters := [(.object "java/lang/Object"), (.object "java/lang/String")], returnType := some (.object "java/lang/Object") }, accessFlags := 9, code := some k15c1 }
/-- java/util/Objects -/
def k15 : Class := { plain "java/util/Objects" (some 0) with
  accessFlags := 49
  interfaces := #[]
  cf := some (fileOf pool15 42 #[] #[{ accessFlags := 2, nameIndex := 5, descriptorIndex := 6, attributes := #[] }, { accessFlags := 9, nameIndex := 45, descriptorIndex := 94, attributes := #[] }] 49 2 #[] #[])
  fields := #[]
  methods := #[k15m0, k15m1]
  instanceTypes := #[]
  staticTypes := #[]
  resolved := Array.replicate 184 none
  statics := none }

def pool16 : Array CpInfo := pool [(2, .class_ 4), (1, u "java/lang/Object"), (0, u "<init>"), (0, u "()V"), (6, .methodref 14 15), (0, .class_ 16), (0, .nameAndType 17 18), (0, u "java/util/Arrays"), (0, u "rangeCheck"), (0, u "(III)V"), (55, .class_ 76), (1, u "java/util/Arrays$NaturalOrder"), (9, .methodref 2 87), (0, .nameAndType 88 89), (0, u "getClass"), (0, u "()Ljava/lang/Class;"), (20, .class_ 111), (0, u "[Ljava/lang/Object;"), (1, .class_ 115), (1, u "java/util/Arrays$LegacyMergeSort"), (1, u "Z"), (32, .methodref 151 152), (0, .class_ 153), (0, .nameAndType 154 155), (0, u "java/lang/System"), (0, u "arraycopy"), (0, u "(Ljava/lang/Object;ILjava/lang/Object;II)V"), (144, .methodref 14 301), (0, .nameAndType 302 303), (0, u "copyOf"), (0, u "([Ljava/lang/Object;ILjava/lang/Class;)[Ljava/lang/Object;"), (0, .methodref 305 306), (0, .class_ 307), (0, .nameAndType 308 309), (0, u "java/lang/Math"), (0, u "min"), (0, u "(II)I"), (65, .class_ 376), (0, u "java/util/Arrays$ArrayList"), (68, u "$assertionsDisabled"), (269, u "MIN_ARRAY_SORT_GRAN"), (0, u "I"), (2, u "INSERTIONSORT_THRESHOLD"), (120, u "fill"), (18, u "([Ljava/lang/Object;IILjava/lang/Object;)V"), (0, u "([Ljava/lang/Object;I)[Ljava/lang/Object;"), (10, u "([II)[I"), (103, .class_ 976), (0, u "java/util/Arrays$ArrayItr")] 52

def k16m0 : Method := { name := "<init>", desc := "()V", sig := { parameters := [], returnType := none }, accessFlags := 2, code := none }
def k16c1 : Code := { maxStack := 4, maxLocals := 3, code := jdk_65_method_30_code, exceptionTable := #[], attributes := #[] }
def k16m1 : Method := { name := "rangeCheck", desc := "(III)V", sig := { parameters := [.int, .int, .int], returnType := none }, accessFlags := 8, code := some k16c1 }
def k16c2 : Code := { maxStack := 3, maxLocals := 5, code := jdk_65_method_118_code, exceptionTable := #[], attributes := #[] }
def k16m2 : Method := { name := "fill", desc := "([Ljava/lang/Object;IILjava/lang/Object;)V", sig := { parameters := [(.array (.object "java/lang/Object")), .int, .int, (.object "java/lang/Object")], returnType := none }, accessFlags := 9, code := some k16c2 }
def k16c3 : Code := { maxStack := 3, maxLocals := 2, code := jdk_65_method_119_code, exceptionTable := #[], attributes := #[] }
def k16m3 : Method := { name := "copyOf", desc := "([Ljava/lang/Object;I)[Ljava/lang/Object;", sig := { parameters := [(.array (.object "java/lang/Object")), .int], returnType := some (.array (.object "java/lang/Object")) }, accessFlags := 9, code := some k16c3 }
def k16c4 : Code := { maxStack := 6, maxLocals := 4, code := jdk_65_method_120_code, exceptionTable := #[], attributes := #[] }
def k16m4 : Method := { name := "copyOf", desc := "([Ljava/lang/Object;ILjava/lang/Class;)[Ljava/lang/Object;", sig := { parameters := [(.array (.object "java/lang/Object")), .int, (.object "java/lang/Class")], returnType := some (.array (.object "java/lang/Object")) }, accessFlags := 9, code := some k16c4 }
def k16c5 : Code := { maxStack := 6, maxLocals := 3, code := jdk_65_method_123_code, exceptionTable := #[], attributes := #[] }
def k16m5 : Method := { name := "copyOf", desc := "([II)[I", sig := { parameters := [(.array .int), .int], returnType := some (.array .int) }, accessFlags := 9, code := some k16c5 }
/-- java/util/Arrays -/
def k16 : Class := { plain "java/util/Arrays" (some 0) with
  accessFlags := 49
  interfaces := #[]
  cf := some (fileOf pool16 14 #[.nestMembers #[975, 375, 113, 74]] #[{ accessFlags := 2, nameIndex := 5, descriptorIndex := 6, attributes := #[] }, { accessFlags := 8, nameIndex := 17, descriptorIndex := 18, attributes := #[] }, { accessFlags := 9, nameIndex := 840, descriptorIndex := 859, attributes := #[] }, { accessFlags := 9, nameIndex := 302, descriptorIndex := 860, attributes := #[] }, { accessFlags := 9, nameIndex := 302, descriptorIndex := 303, attributes := #[] }, { accessFlags := 9, nameIndex := 302, descriptorIndex := 871, attributes := #[] }] 49 2 #[] #[{ accessFlags := 26, nameIndex := 715, descriptorIndex := 716, attributes := #[] }, { accessFlags := 26, nameIndex := 719, descriptorIndex := 716, attributes := #[] }, { accessFlags := 4120, nameIndex := 445, descriptorIndex := 117, attributes := #[] }])
  fields := #[{ name := "MIN_ARRAY_SORT_GRAN", type := .int, accessFlags := 26, slot := 0, constantValue := 0 }, { name := "INSERTIONSORT_THRESHOLD", type := .int, accessFlags := 26, slot := 1, constantValue := 0 }, { name := "$assertionsDisabled", type := .boolean, accessFlags := 4120, slot := 2, constantValue := 0 }]
  methods := #[k16m0, k16m1, k16m2, k16m3, k16m4, k16m5]
  instanceTypes := #[]
  staticTypes := #[.int, .int, .boolean]
  resolved := Array.replicate 1029 none
  statics := none }

def pool17 : Array CpInfo := pool [(1, .class_ 2), (0, u "java/lang/Math"), (1, .class_ 6), (1, u "java/lang/Object"), (0, u "<init>"), (0, u "()V"), (89, .class_ 100), (1, u "java/lang/Math$RandomNumberGeneratorHolder"), (71, u "negativeZeroFloatBits"), (0, u "J"), (2, u "negativeZeroDoubleBits"), (21, u "max"), (2, u "min"), (43, u "$assertionsDisabled"), (0, u "Z"), (88, u "(II)I"), (2, u "twoToTheDoubleScaleDown"), (0, u "D"), (4, u "twoToTheDoubleScaleUp"), (9, u "E"), (3, u "PI"), (2, u "TAU"), (2, u "DEGREES_TO_RADIANS"), (0, u "RADIANS_TO_DEGREES")] 94

def k17m0 : Method := { name := "<init>", desc := "()V", sig := { parameters := [], returnType := none }, accessFlags := 2, code := none }
def k17c1 : Code := { maxStack := 2, maxLocals := 2, code := jdk_29_method_65_code, exceptionTable := #[], attributes := #[] }
def k17m1 : Method := { name := "max", desc := "(II)I", sig := { parameters := [.int, .int], returnType := some .int }, accessFlags := 9, code := some k17c1 }
def k17c2 : Code := { maxStack := 2, maxLocals := 2, code := jdk_29_method_69_code, exceptionTable := #[], attributes := #[] }
def k17m2 : Method := { name := "min", desc := "(II)I", sig := { parameters := [.int, .int], returnType := some .int }, accessFlags := 9, code := some k17c2 }
/-- java/lang/Math -/
def k17 : Class := { plain "java/lang/Math" (some 0) with
  accessFlags := 49
  interfaces := #[]
  cf := some (fileOf pool17 1 #[.nestMembers #[98]] #[{ accessFlags := 2, nameIndex := 7, descriptorIndex := 8, attributes := #[] }, { accessFlags := 9, nameIndex := 198, descriptorIndex := 335, attributes := #[] }, { accessFlags := 9, nameIndex := 201, descriptorIndex := 335, attributes := #[] }] 49 4 #[] #[{ accessFlags := 25, nameIndex := 354, descriptorIndex := 339, attributes := #[] }, { accessFlags := 25, nameIndex := 358, descriptorIndex := 339, attributes := #[] }, { accessFlags := 25, nameIndex := 361, descriptorIndex := 339, attributes := #[] }, { accessFlags := 26, nameIndex := 364, descriptorIndex := 339, attributes := #[] }, { accessFlags := 26, nameIndex := 365, descriptorIndex := 339, attributes := #[] }, { accessFlags := 26, nameIndex := 172, descriptorIndex := 173, attributes := #[] }, { accessFlags := 26, nameIndex := 176, descriptorIndex := 173, attributes := #[] }, { accessFlags := 8, nameIndex := 344, descriptorIndex := 339, attributes := #[] }, { accessFlags := 8, nameIndex := 338, descriptorIndex := 339, attributes := #[] }, { accessFlags := 4120, nameIndex := 245, descriptorIndex := 246, attributes := #[] }])
  fields := #[{ name := "E", type := .double, accessFlags := 25, slot := 0, constantValue := 0 }, { name := "PI", type := .double, accessFlags := 25, slot := 1, constantValue := 0 }, { name := "TAU", type := .double, accessFlags := 25, slot := 2, constantValue := 0 }, { name := "DEGREES_TO_RADIANS", type := .double, accessFlags := 26, slot := 3, constantValue := 0 }, { name := "RADIANS_TO_DEGREES", type := .double, accessFlags := 26, slot := 4, constantValue := 0 }, { name := "negativeZeroFloatBits", type := .long, accessFlags := 26, slot := 5, constantValue := 0 }, { name := "negativeZeroDoubleBits", type := .long, accessFlags := 26, slot := 6, constantValue := 0 }, { name := "twoToTheDoubleScaleUp", type := .double, accessFlags := 8, slot := 7, constantValue := 0 }, { name := "twoToTheDoubleScaleDown", type := .double, accessFlags := 8, slot := 8, constantValue := 0 }, { name := "$assertionsDisabled", type := .boolean, accessFlags := 4120, slot := 9, constantValue := 0 }]
  methods := #[k17m0, k17m1, k17m2]
  instanceTypes := #[]
  staticTypes := #[.double, .double, .double, .double, .double, .long, .long, .double, .double, .boolean]
  resolved := Array.replicate 460 none
  statics := none }

def pool18 : Array CpInfo := pool [(2, .class_ 4), (1, u "java/lang/Object"), (0, u "<init>"), (0, u "()V"), (1, .class_ 10), (1, u "java/lang/System"), (0, u "allowSecurityManager"), (0, u "I"), (16, u "cons"), (0, u "Ljava/io/Console;"), (77, .class_ 110), (1, u "java/lang/System$CallersHolder"), (43, u "initialErrStream"), (0, u "Ljava/io/PrintStream;"), (19, u "security"), (0, u "Ljava/lang/SecurityManager;"), (31, .class_ 209), (0, u "java/lang/System$1"), (7, u "props"), (0, u "Ljava/util/Properties;"), (2, u "lineSeparator"), (0, u "Ljava/lang/String;"), (96, .class_ 321), (1, u "java/lang/System$LoggerFinder"), (5, .class_ 328), (0, u "java/lang/System$Logger"), (67, u "err"), (2, u "out"), (91, u "notSupportedJnuEncoding"), (15, u "in"), (17, u "initialIn"), (0, u "Ljava/io/InputStream;"), (35, u "bootLayer"), (0, u "Ljava/lang/ModuleLayer;"), (99, .class_ 664), (0, u "java/lang/System$2"), (9, u "NEVER"), (2, u "MAYBE"), (49, u "arraycopy"), (0, u "(Ljava/lang/Object;ILjava/lang/Object;II)V"), (72, .class_ 802), (0, u "java/lang/System$Logger$Level")] 31

def k18m0 : Method := { name := "<init>", desc := "()V", sig := { parameters := [], returnType := none }, accessFlags := 2, code := none }
def k18m1 : Method := { name := "arraycopy", desc := "(Ljava/lang/Object;ILjava/lang/Object;II)V", sig := { parameters := [(.object "java/lang/Object"), .int, (.object "java/lang/Object"), .int, .int], returnType := none }, accessFlags := 265, code := none }
/-- java/lang/System -/
def k18 : Class := { plain "java/lang/System" (some 0) with
  accessFlags := 49
  interfaces := #[]
  cf := some (fileOf pool18 8 #[.nestMembers #[319, 327, 801, 108, 663, 208]] #[{ accessFlags := 2, nameIndex := 5, descriptorIndex := 6, attributes := #[] }, { accessFlags := 265, nameIndex := 727, descriptorIndex := 728, attributes := #[] }] 49 2 #[] #[{ accessFlags := 25, nameIndex := 507, descriptorIndex := 526, attributes := #[] }, { accessFlags := 25, nameIndex := 399, descriptorIndex := 155, attributes := #[] }, { accessFlags := 25, nameIndex := 396, descriptorIndex := 155, attributes := #[] }, { accessFlags := 10, nameIndex := 525, descriptorIndex := 526, attributes := #[] }, { accessFlags := 26, nameIndex := 674, descriptorIndex := 12, attributes := #[] }, { accessFlags := 26, nameIndex := 677, descriptorIndex := 12, attributes := #[] }, { accessFlags := 10, nameIndex := 11, descriptorIndex := 12, attributes := #[] }, { accessFlags := 74, nameIndex := 175, descriptorIndex := 176, attributes := #[] }, { accessFlags := 10, nameIndex := 491, descriptorIndex := 222, attributes := #[] }, { accessFlags := 74, nameIndex := 29, descriptorIndex := 30, attributes := #[] }, { accessFlags := 74, nameIndex := 154, descriptorIndex := 155, attributes := #[] }, { accessFlags := 10, nameIndex := 217, descriptorIndex := 218, attributes := #[] }, { accessFlags := 10, nameIndex := 221, descriptorIndex := 222, attributes := #[] }, { accessFlags := 8, nameIndex := 562, descriptorIndex := 563, attributes := #[] }])
  fields := #[{ name := "in", type := (.object "java/io/InputStream"), accessFlags := 25, slot := 0, constantValue := 0 }, { name := "out", type := (.object "java/io/PrintStream"), accessFlags := 25, slot := 1, constantValue := 0 }, { name := "err", type := (.object "java/io/PrintStream"), accessFlags := 25, slot := 2, constantValue := 0 }, { name := "initialIn", type := (.object "java/io/InputStream"), accessFlags := 10, slot := 3, constantValue := 0 }, { name := "NEVER", type := .int, accessFlags := 26, slot := 4, constantValue := 0 }, { name := "MAYBE", type := .int, accessFlags := 26, slot := 5, constantValue := 0 }, { name := "allowSecurityManager", type := .int, accessFlags := 10, slot := 6, constantValue := 0 }, { name := "security", type := (.object "java/lang/SecurityManager"), accessFlags := 74, slot := 7, constantValue := 0 }, { name := "notSupportedJnuEncoding", type := (.object "java/lang/String"), accessFlags := 10, slot := 8, constantValue := 0 }, { name := "cons", type := (.object "java/io/Console"), accessFlags := 74, slot := 9, constantValue := 0 }, { name := "initialErrStream", type := (.object "java/io/PrintStream"), accessFlags := 74, slot := 10, constantValue := 0 }, { name := "props", type := (.object "java/util/Properties"), accessFlags := 10, slot := 11, constantValue := 0 }, { name := "lineSeparator", type := (.object "java/lang/String"), accessFlags := 10, slot := 12, constantValue := 0 }, { name := "bootLayer", type := (.object "java/lang/ModuleLayer"), accessFlags := 8, slot := 13, constantValue := 0 }]
  methods := #[k18m0, k18m1]
  instanceTypes := #[]
  staticTypes := #[(.object "java/io/InputStream"), (.object "java/io/PrintStream"), (.object "java/io/PrintStream"), (.object "java/io/InputStream"), .int, .int, .int, (.object "java/lang/SecurityManager"), (.object "java/lang/String"), (.object "java/io/Console"), (.object "java/io/PrintStream"), (.object "java/util/Properties"), (.object "java/lang/String"), (.object "java/lang/ModuleLayer")]
  resolved := Array.replicate 834 none
  statics := none }

def pool19 : Array CpInfo := pool [(2, .class_ 4), (1, u "java/lang/Object"), (0, u "<init>"), (0, u "()V"), (17, .class_ 26), (1, u "jdk/internal/util/Preconditions"), (28, .class_ 56), (0, u "jdk/internal/util/Preconditions$4"), (57, .class_ 115), (0, u "jdk/internal/util/Preconditions$1"), (7, u "SIOOBE_FORMATTER"), (0, u "Ljava/util/function/BiFunction;"), (0, .class_ 126), (0, u "jdk/internal/util/Preconditions$2"), (3, u "AIOOBE_FORMATTER"), (0, .class_ 132), (0, u "jdk/internal/util/Preconditions$3"), (3, u "IOOBE_FORMATTER")] 57

def k19m0 : Method := { name := "<init>", desc := "()V", sig := { parameters := [], returnType := none }, accessFlags := 1, code := none }
/-- jdk/internal/util/Preconditions -/
def k19 : Class := { plain "jdk/internal/util/Preconditions" (some 0) with
  accessFlags := 33
  interfaces := #[]
  cf := some (fileOf pool19 24 #[.nestMembers #[55, 131, 125, 114]] #[{ accessFlags := 1, nameIndex := 5, descriptorIndex := 6, attributes := #[] }] 33 2 #[] #[{ accessFlags := 25, nameIndex := 123, descriptorIndex := 124, attributes := #[] }, { accessFlags := 25, nameIndex := 130, descriptorIndex := 124, attributes := #[] }, { accessFlags := 25, nameIndex := 136, descriptorIndex := 124, attributes := #[] }])
  fields := #[{ name := "SIOOBE_FORMATTER", type := (.object "java/util/function/BiFunction"), accessFlags := 25, slot := 0, constantValue := 0 }, { name := "AIOOBE_FORMATTER", type := (.object "java/util/function/BiFunction"), accessFlags := 25, slot := 1, constantValue := 0 }, { name := "IOOBE_FORMATTER", type := (.object "java/util/function/BiFunction"), accessFlags := 25, slot := 2, constantValue := 0 }]
  methods := #[k19m0]
  instanceTypes := #[]
  staticTypes := #[(.object "java/util/function/BiFunction"), (.object "java/util/function/BiFunction"), (.object "java/util/function/BiFunction")]
  resolved := Array.replicate 194 none
  statics := some 2 }

def pool20 : Array CpInfo := pool [(9, u "<init>"), (6, .class_ 18), (1, u "java/lang/Object"), (0, u "()V"), (1, .class_ 23), (1, u "jdk/internal/util/ArraysSupport"), (0, u "LOG2_ARRAY_LONG_INDEX_SCALE"), (0, u "I"), (2, u "U"), (0, u "Ljdk/internal/misc/Unsafe;"), (8, u "BIG_ENDIAN"), (0, u "Z"), (8, u "LOG2_BYTE_BIT_SIZE"), (4, u "LOG2_ARRAY_INT_INDEX_SCALE"), (54, u "JLA"), (0, u "Ljdk/internal/access/JavaLangAccess;"), (11, u "LOG2_ARRAY_BOOLEAN_INDEX_SCALE"), (9, u "LOG2_ARRAY_BYTE_INDEX_SCALE"), (5, u "LOG2_ARRAY_CHAR_INDEX_SCALE"), (5, u "LOG2_ARRAY_SHORT_INDEX_SCALE"), (18, u "LOG2_ARRAY_FLOAT_INDEX_SCALE"), (24, u "LOG2_ARRAY_DOUBLE_INDEX_SCALE"), (89, u "T_BOOLEAN"), (2, u "T_CHAR"), (1, u "T_FLOAT"), (1, u "T_DOUBLE"), (1, u "T_BYTE"), (1, u "T_SHORT"), (1, u "T_INT"), (1, u "T_LONG"), (1, u "SOFT_MAX_ARRAY_LENGTH")] 83

def k20m0 : Method := { name := "<init>", desc := "()V", sig := { parameters := [], returnType := none }, accessFlags := 2, code := none }
/-- jdk/internal/util/ArraysSupport -/
def k20 : Class := { plain "jdk/internal/util/ArraysSupport" (some 0) with
  accessFlags := 33
  interfaces := #[]
  cf := some (fileOf pool20 21 #[] #[{ accessFlags := 2, nameIndex := 9, descriptorIndex := 19, attributes := #[] }] 33 16 #[] #[{ accessFlags := 24, nameIndex := 28, descriptorIndex := 29, attributes := #[] }, { accessFlags := 26, nameIndex := 38, descriptorIndex := 39, attributes := #[] }, { accessFlags := 25, nameIndex := 121, descriptorIndex := 25, attributes := #[] }, { accessFlags := 25, nameIndex := 131, descriptorIndex := 25, attributes := #[] }, { accessFlags := 25, nameIndex := 137, descriptorIndex := 25, attributes := #[] }, { accessFlags := 25, nameIndex := 143, descriptorIndex := 25, attributes := #[] }, { accessFlags := 25, nameIndex := 53, descriptorIndex := 25, attributes := #[] }, { accessFlags := 25, nameIndex := 24, descriptorIndex := 25, attributes := #[] }, { accessFlags := 25, nameIndex := 162, descriptorIndex := 25, attributes := #[] }, { accessFlags := 25, nameIndex := 187, descriptorIndex := 25, attributes := #[] }, { accessFlags := 26, nameIndex := 48, descriptorIndex := 25, attributes := #[] }, { accessFlags := 25, nameIndex := 277, descriptorIndex := 25, attributes := #[] }, { accessFlags := 25, nameIndex := 280, descriptorIndex := 25, attributes := #[] }, { accessFlags := 25, nameIndex := 282, descriptorIndex := 25, attributes := #[] }, { accessFlags := 25, nameIndex := 284, descriptorIndex := 25, attributes := #[] }, { accessFlags := 25, nameIndex := 286, descriptorIndex := 25, attributes := #[] }, { accessFlags := 25, nameIndex := 288, descriptorIndex := 25, attributes := #[] }, { accessFlags := 25, nameIndex := 290, descriptorIndex := 25, attributes := #[] }, { accessFlags := 25, nameIndex := 292, descriptorIndex := 25, attributes := #[] }, { accessFlags := 26, nameIndex := 108, descriptorIndex := 109, attributes := #[] }, { accessFlags := 25, nameIndex := 294, descriptorIndex := 25, attributes := #[] }])
  fields := #[{ name := "U", type := (.object "jdk/internal/misc/Unsafe"), accessFlags := 24, slot := 0, constantValue := 0 }, { name := "BIG_ENDIAN", type := .boolean, accessFlags := 26, slot := 1, constantValue := 0 }, { name := "LOG2_ARRAY_BOOLEAN_INDEX_SCALE", type := .int, accessFlags := 25, slot := 2, constantValue := 0 }, { name := "LOG2_ARRAY_BYTE_INDEX_SCALE", type := .int, accessFlags := 25, slot := 3, constantValue := 0 }, { name := "LOG2_ARRAY_CHAR_INDEX_SCALE", type := .int, accessFlags := 25, slot := 4, constantValue := 0 }, { name := "LOG2_ARRAY_SHORT_INDEX_SCALE", type := .int, accessFlags := 25, slot := 5, constantValue := 0 }, { name := "LOG2_ARRAY_INT_INDEX_SCALE", type := .int, accessFlags := 25, slot := 6, constantValue := 0 }, { name := "LOG2_ARRAY_LONG_INDEX_SCALE", type := .int, accessFlags := 25, slot := 7, constantValue := 0 }, { name := "LOG2_ARRAY_FLOAT_INDEX_SCALE", type := .int, accessFlags := 25, slot := 8, constantValue := 0 }, { name := "LOG2_ARRAY_DOUBLE_INDEX_SCALE", type := .int, accessFlags := 25, slot := 9, constantValue := 0 }, { name := "LOG2_BYTE_BIT_SIZE", type := .int, accessFlags := 26, slot := 10, constantValue := 0 }, { name := "T_BOOLEAN", type := .int, accessFlags := 25, slot := 11, constantValue := 0 }, { name := "T_CHAR", type := .int, accessFlags := 25, slot := 12, constantValue := 0 }, { name := "T_FLOAT", type := .int, accessFlags := 25, slot := 13, constantValue := 0 }, { name := "T_DOUBLE", type := .int, accessFlags := 25, slot := 14, constantValue := 0 }, { name := "T_BYTE", type := .int, accessFlags := 25, slot := 15, constantValue := 0 }, { name := "T_SHORT", type := .int, accessFlags := 25, slot := 16, constantValue := 0 }, { name := "T_INT", type := .int, accessFlags := 25, slot := 17, constantValue := 0 }, { name := "T_LONG", type := .int, accessFlags := 25, slot := 18, constantValue := 0 }, { name := "JLA", type := (.object "jdk/internal/access/JavaLangAccess"), accessFlags := 26, slot := 19, constantValue := 0 }, { name := "SOFT_MAX_ARRAY_LENGTH", type := .int, accessFlags := 25, slot := 20, constantValue := 0 }]
  methods := #[k20m0]
  instanceTypes := #[]
  staticTypes := #[(.object "jdk/internal/misc/Unsafe"), .boolean, .int, .int, .int, .int, .int, .int, .int, .int, .int, .int, .int, .int, .int, .int, .int, .int, .int, (.object "jdk/internal/access/JavaLangAccess"), .int]
  resolved := Array.replicate 378 none
  statics := none }

def pool21 : Array CpInfo := pool [(1, u "java/lang/Class"), (0, .class_ 1), (0, u "java/lang/Object"), (0, .class_ 3)] 0

/-- java/lang/Class -/
def k21 : Class := { plain "java/lang/Class" (some 0) with
  accessFlags := 49
  interfaces := #[]
  cf := some (fileOf pool21 2 #[] #[] 49 4 #[] #[])
  fields := #[]
  methods := #[]
  instanceTypes := #[]
  staticTypes := #[]
  resolved := Array.replicate 5 none
  statics := none }

def pool22 : Array CpInfo := pool [(1, u "java/lang/Cloneable"), (0, .class_ 1), (0, u "java/lang/Object"), (0, .class_ 3)] 3

/-- java/lang/Cloneable -/
def k22 : Class := { plain "java/lang/Cloneable" (some 0) with
  accessFlags := 1537
  interfaces := #[]
  cf := some (fileOf pool22 2 #[] #[] 1537 4 #[] #[])
  fields := #[]
  methods := #[]
  instanceTypes := #[]
  staticTypes := #[]
  resolved := Array.replicate 8 none
  statics := none }

/-- the primitive byte -/
def k23 : Class := { plain "byte" none with kind := .primitive 'B', accessFlags := 0x411 }
/-- [B -/
def k24 : Class := { plain "[B" (some 0) with kind := .array 23 .byte, interfaces := #[22, 2], accessFlags := 1041 }

/-- the primitive int -/
def k25 : Class := { plain "int" none with kind := .primitive 'I', accessFlags := 0x411 }
/-- [I -/
def k26 : Class := { plain "[I" (some 0) with kind := .array 25 .int, interfaces := #[22, 2], accessFlags := 1041 }

/-- [Ljava/lang/Integer; -/
def k27 : Class := { plain "[Ljava/lang/Integer;" (some 0) with kind := .array 10 (.object "java/lang/Integer"), interfaces := #[22, 2], accessFlags := 1041 }

/-- [Ljava/lang/Object; -/
def k28 : Class := { plain "[Ljava/lang/Object;" (some 0) with kind := .array 0 (.object "java/lang/Object"), interfaces := #[22, 2], accessFlags := 1041, mirror := some 3 }

def heap : Heap := #[{ cls := 7, slots := #[.long 0, .int 1, .null, .int 0, .null, .int 0, .int 0], vm := .statics 7 },
  { cls := 11, slots := #[.int 0, .int 127, .ref 4, .null, .int 0], vm := .statics 11 },
  { cls := 19, slots := #[.null, .null, .null], vm := .statics 19 },
  { cls := 21, slots := #[], vm := .mirror 28 },
  { cls := 27, slots := #[.ref 5, .ref 6, .ref 7, .ref 8, .ref 9, .ref 10, .ref 11, .ref 12, .ref 13, .ref 14, .ref 15, .ref 16, .ref 17, .ref 18, .ref 19, .ref 20, .ref 21, .ref 22, .ref 23, .ref 24, .ref 25, .ref 26, .ref 27, .ref 28, .ref 29, .ref 30, .ref 31, .ref 32, .ref 33, .ref 34, .ref 35, .ref 36, .ref 37, .ref 38, .ref 39, .ref 40, .ref 41, .ref 42, .ref 43, .ref 44, .ref 45, .ref 46, .ref 47, .ref 48, .ref 49, .ref 50, .ref 51, .ref 52, .ref 53, .ref 54, .ref 55, .ref 56, .ref 57, .ref 58, .ref 59, .ref 60, .ref 61, .ref 62, .ref 63, .ref 64, .ref 65, .ref 66, .ref 67, .ref 68, .ref 69, .ref 70, .ref 71, .ref 72, .ref 73, .ref 74, .ref 75, .ref 76, .ref 77, .ref 78, .ref 79, .ref 80, .ref 81, .ref 82, .ref 83, .ref 84, .ref 85, .ref 86, .ref 87, .ref 88, .ref 89, .ref 90, .ref 91, .ref 92, .ref 93, .ref 94, .ref 95, .ref 96, .ref 97, .ref 98, .ref 99, .ref 100, .ref 101, .ref 102, .ref 103, .ref 104, .ref 105, .ref 106, .ref 107, .ref 108, .ref 109, .ref 110, .ref 111, .ref 112, .ref 113, .ref 114, .ref 115, .ref 116, .ref 117, .ref 118, .ref 119, .ref 120, .ref 121, .ref 122, .ref 123, .ref 124, .ref 125, .ref 126, .ref 127, .ref 128, .ref 129, .ref 130, .ref 131, .ref 132, .ref 133, .ref 134, .ref 135, .ref 136, .ref 137, .ref 138, .ref 139, .ref 140, .ref 141, .ref 142, .ref 143, .ref 144, .ref 145, .ref 146, .ref 147, .ref 148, .ref 149, .ref 150, .ref 151, .ref 152, .ref 153, .ref 154, .ref 155, .ref 156, .ref 157, .ref 158, .ref 159, .ref 160, .ref 161, .ref 162, .ref 163, .ref 164, .ref 165, .ref 166, .ref 167, .ref 168, .ref 169, .ref 170, .ref 171, .ref 172, .ref 173, .ref 174, .ref 175, .ref 176, .ref 177, .ref 178, .ref 179, .ref 180, .ref 181, .ref 182, .ref 183, .ref 184, .ref 185, .ref 186, .ref 187, .ref 188, .ref 189, .ref 190, .ref 191, .ref 192, .ref 193, .ref 194, .ref 195, .ref 196, .ref 197, .ref 198, .ref 199, .ref 200, .ref 201, .ref 202, .ref 203, .ref 204, .ref 205, .ref 206, .ref 207, .ref 208, .ref 209, .ref 210, .ref 211, .ref 212, .ref 213, .ref 214, .ref 215, .ref 216, .ref 217, .ref 218, .ref 219, .ref 220, .ref 221, .ref 222, .ref 223, .ref 224, .ref 225, .ref 226, .ref 227, .ref 228, .ref 229, .ref 230, .ref 231, .ref 232, .ref 233, .ref 234, .ref 235, .ref 236, .ref 237, .ref 238, .ref 239, .ref 240, .ref 241, .ref 242, .ref 243, .ref 244, .ref 245, .ref 246, .ref 247, .ref 248, .ref 249, .ref 250, .ref 251, .ref 252, .ref 253, .ref 254, .ref 255, .ref 256, .ref 257, .ref 258, .ref 259, .ref 260], vm := .none },
  { cls := 10, slots := #[.int (-128)], vm := .none },
  { cls := 10, slots := #[.int (-127)], vm := .none },
  { cls := 10, slots := #[.int (-126)], vm := .none },
  { cls := 10, slots := #[.int (-125)], vm := .none },
  { cls := 10, slots := #[.int (-124)], vm := .none },
  { cls := 10, slots := #[.int (-123)], vm := .none },
  { cls := 10, slots := #[.int (-122)], vm := .none },
  { cls := 10, slots := #[.int (-121)], vm := .none },
  { cls := 10, slots := #[.int (-120)], vm := .none },
  { cls := 10, slots := #[.int (-119)], vm := .none },
  { cls := 10, slots := #[.int (-118)], vm := .none },
  { cls := 10, slots := #[.int (-117)], vm := .none },
  { cls := 10, slots := #[.int (-116)], vm := .none },
  { cls := 10, slots := #[.int (-115)], vm := .none },
  { cls := 10, slots := #[.int (-114)], vm := .none },
  { cls := 10, slots := #[.int (-113)], vm := .none },
  { cls := 10, slots := #[.int (-112)], vm := .none },
  { cls := 10, slots := #[.int (-111)], vm := .none },
  { cls := 10, slots := #[.int (-110)], vm := .none },
  { cls := 10, slots := #[.int (-109)], vm := .none },
  { cls := 10, slots := #[.int (-108)], vm := .none },
  { cls := 10, slots := #[.int (-107)], vm := .none },
  { cls := 10, slots := #[.int (-106)], vm := .none },
  { cls := 10, slots := #[.int (-105)], vm := .none },
  { cls := 10, slots := #[.int (-104)], vm := .none },
  { cls := 10, slots := #[.int (-103)], vm := .none },
  { cls := 10, slots := #[.int (-102)], vm := .none },
  { cls := 10, slots := #[.int (-101)], vm := .none },
  { cls := 10, slots := #[.int (-100)], vm := .none },
  { cls := 10, slots := #[.int (-99)], vm := .none },
  { cls := 10, slots := #[.int (-98)], vm := .none },
  { cls := 10, slots := #[.int (-97)], vm := .none },
  { cls := 10, slots := #[.int (-96)], vm := .none },
  { cls := 10, slots := #[.int (-95)], vm := .none },
  { cls := 10, slots := #[.int (-94)], vm := .none },
  { cls := 10, slots := #[.int (-93)], vm := .none },
  { cls := 10, slots := #[.int (-92)], vm := .none },
  { cls := 10, slots := #[.int (-91)], vm := .none },
  { cls := 10, slots := #[.int (-90)], vm := .none },
  { cls := 10, slots := #[.int (-89)], vm := .none },
  { cls := 10, slots := #[.int (-88)], vm := .none },
  { cls := 10, slots := #[.int (-87)], vm := .none },
  { cls := 10, slots := #[.int (-86)], vm := .none },
  { cls := 10, slots := #[.int (-85)], vm := .none },
  { cls := 10, slots := #[.int (-84)], vm := .none },
  { cls := 10, slots := #[.int (-83)], vm := .none },
  { cls := 10, slots := #[.int (-82)], vm := .none },
  { cls := 10, slots := #[.int (-81)], vm := .none },
  { cls := 10, slots := #[.int (-80)], vm := .none },
  { cls := 10, slots := #[.int (-79)], vm := .none },
  { cls := 10, slots := #[.int (-78)], vm := .none },
  { cls := 10, slots := #[.int (-77)], vm := .none },
  { cls := 10, slots := #[.int (-76)], vm := .none },
  { cls := 10, slots := #[.int (-75)], vm := .none },
  { cls := 10, slots := #[.int (-74)], vm := .none },
  { cls := 10, slots := #[.int (-73)], vm := .none },
  { cls := 10, slots := #[.int (-72)], vm := .none },
  { cls := 10, slots := #[.int (-71)], vm := .none },
  { cls := 10, slots := #[.int (-70)], vm := .none },
  { cls := 10, slots := #[.int (-69)], vm := .none },
  { cls := 10, slots := #[.int (-68)], vm := .none },
  { cls := 10, slots := #[.int (-67)], vm := .none },
  { cls := 10, slots := #[.int (-66)], vm := .none },
  { cls := 10, slots := #[.int (-65)], vm := .none },
  { cls := 10, slots := #[.int (-64)], vm := .none },
  { cls := 10, slots := #[.int (-63)], vm := .none },
  { cls := 10, slots := #[.int (-62)], vm := .none },
  { cls := 10, slots := #[.int (-61)], vm := .none },
  { cls := 10, slots := #[.int (-60)], vm := .none },
  { cls := 10, slots := #[.int (-59)], vm := .none },
  { cls := 10, slots := #[.int (-58)], vm := .none },
  { cls := 10, slots := #[.int (-57)], vm := .none },
  { cls := 10, slots := #[.int (-56)], vm := .none },
  { cls := 10, slots := #[.int (-55)], vm := .none },
  { cls := 10, slots := #[.int (-54)], vm := .none },
  { cls := 10, slots := #[.int (-53)], vm := .none },
  { cls := 10, slots := #[.int (-52)], vm := .none },
  { cls := 10, slots := #[.int (-51)], vm := .none },
  { cls := 10, slots := #[.int (-50)], vm := .none },
  { cls := 10, slots := #[.int (-49)], vm := .none },
  { cls := 10, slots := #[.int (-48)], vm := .none },
  { cls := 10, slots := #[.int (-47)], vm := .none },
  { cls := 10, slots := #[.int (-46)], vm := .none },
  { cls := 10, slots := #[.int (-45)], vm := .none },
  { cls := 10, slots := #[.int (-44)], vm := .none },
  { cls := 10, slots := #[.int (-43)], vm := .none },
  { cls := 10, slots := #[.int (-42)], vm := .none },
  { cls := 10, slots := #[.int (-41)], vm := .none },
  { cls := 10, slots := #[.int (-40)], vm := .none },
  { cls := 10, slots := #[.int (-39)], vm := .none },
  { cls := 10, slots := #[.int (-38)], vm := .none },
  { cls := 10, slots := #[.int (-37)], vm := .none },
  { cls := 10, slots := #[.int (-36)], vm := .none },
  { cls := 10, slots := #[.int (-35)], vm := .none },
  { cls := 10, slots := #[.int (-34)], vm := .none },
  { cls := 10, slots := #[.int (-33)], vm := .none },
  { cls := 10, slots := #[.int (-32)], vm := .none },
  { cls := 10, slots := #[.int (-31)], vm := .none },
  { cls := 10, slots := #[.int (-30)], vm := .none },
  { cls := 10, slots := #[.int (-29)], vm := .none },
  { cls := 10, slots := #[.int (-28)], vm := .none },
  { cls := 10, slots := #[.int (-27)], vm := .none },
  { cls := 10, slots := #[.int (-26)], vm := .none },
  { cls := 10, slots := #[.int (-25)], vm := .none },
  { cls := 10, slots := #[.int (-24)], vm := .none },
  { cls := 10, slots := #[.int (-23)], vm := .none },
  { cls := 10, slots := #[.int (-22)], vm := .none },
  { cls := 10, slots := #[.int (-21)], vm := .none },
  { cls := 10, slots := #[.int (-20)], vm := .none },
  { cls := 10, slots := #[.int (-19)], vm := .none },
  { cls := 10, slots := #[.int (-18)], vm := .none },
  { cls := 10, slots := #[.int (-17)], vm := .none },
  { cls := 10, slots := #[.int (-16)], vm := .none },
  { cls := 10, slots := #[.int (-15)], vm := .none },
  { cls := 10, slots := #[.int (-14)], vm := .none },
  { cls := 10, slots := #[.int (-13)], vm := .none },
  { cls := 10, slots := #[.int (-12)], vm := .none },
  { cls := 10, slots := #[.int (-11)], vm := .none },
  { cls := 10, slots := #[.int (-10)], vm := .none },
  { cls := 10, slots := #[.int (-9)], vm := .none },
  { cls := 10, slots := #[.int (-8)], vm := .none },
  { cls := 10, slots := #[.int (-7)], vm := .none },
  { cls := 10, slots := #[.int (-6)], vm := .none },
  { cls := 10, slots := #[.int (-5)], vm := .none },
  { cls := 10, slots := #[.int (-4)], vm := .none },
  { cls := 10, slots := #[.int (-3)], vm := .none },
  { cls := 10, slots := #[.int (-2)], vm := .none },
  { cls := 10, slots := #[.int (-1)], vm := .none },
  { cls := 10, slots := #[.int (0)], vm := .none },
  { cls := 10, slots := #[.int (1)], vm := .none },
  { cls := 10, slots := #[.int (2)], vm := .none },
  { cls := 10, slots := #[.int (3)], vm := .none },
  { cls := 10, slots := #[.int (4)], vm := .none },
  { cls := 10, slots := #[.int (5)], vm := .none },
  { cls := 10, slots := #[.int (6)], vm := .none },
  { cls := 10, slots := #[.int (7)], vm := .none },
  { cls := 10, slots := #[.int (8)], vm := .none },
  { cls := 10, slots := #[.int (9)], vm := .none },
  { cls := 10, slots := #[.int (10)], vm := .none },
  { cls := 10, slots := #[.int (11)], vm := .none },
  { cls := 10, slots := #[.int (12)], vm := .none },
  { cls := 10, slots := #[.int (13)], vm := .none },
  { cls := 10, slots := #[.int (14)], vm := .none },
  { cls := 10, slots := #[.int (15)], vm := .none },
  { cls := 10, slots := #[.int (16)], vm := .none },
  { cls := 10, slots := #[.int (17)], vm := .none },
  { cls := 10, slots := #[.int (18)], vm := .none },
  { cls := 10, slots := #[.int (19)], vm := .none },
  { cls := 10, slots := #[.int (20)], vm := .none },
  { cls := 10, slots := #[.int (21)], vm := .none },
  { cls := 10, slots := #[.int (22)], vm := .none },
  { cls := 10, slots := #[.int (23)], vm := .none },
  { cls := 10, slots := #[.int (24)], vm := .none },
  { cls := 10, slots := #[.int (25)], vm := .none },
  { cls := 10, slots := #[.int (26)], vm := .none },
  { cls := 10, slots := #[.int (27)], vm := .none },
  { cls := 10, slots := #[.int (28)], vm := .none },
  { cls := 10, slots := #[.int (29)], vm := .none },
  { cls := 10, slots := #[.int (30)], vm := .none },
  { cls := 10, slots := #[.int (31)], vm := .none },
  { cls := 10, slots := #[.int (32)], vm := .none },
  { cls := 10, slots := #[.int (33)], vm := .none },
  { cls := 10, slots := #[.int (34)], vm := .none },
  { cls := 10, slots := #[.int (35)], vm := .none },
  { cls := 10, slots := #[.int (36)], vm := .none },
  { cls := 10, slots := #[.int (37)], vm := .none },
  { cls := 10, slots := #[.int (38)], vm := .none },
  { cls := 10, slots := #[.int (39)], vm := .none },
  { cls := 10, slots := #[.int (40)], vm := .none },
  { cls := 10, slots := #[.int (41)], vm := .none },
  { cls := 10, slots := #[.int (42)], vm := .none },
  { cls := 10, slots := #[.int (43)], vm := .none },
  { cls := 10, slots := #[.int (44)], vm := .none },
  { cls := 10, slots := #[.int (45)], vm := .none },
  { cls := 10, slots := #[.int (46)], vm := .none },
  { cls := 10, slots := #[.int (47)], vm := .none },
  { cls := 10, slots := #[.int (48)], vm := .none },
  { cls := 10, slots := #[.int (49)], vm := .none },
  { cls := 10, slots := #[.int (50)], vm := .none },
  { cls := 10, slots := #[.int (51)], vm := .none },
  { cls := 10, slots := #[.int (52)], vm := .none },
  { cls := 10, slots := #[.int (53)], vm := .none },
  { cls := 10, slots := #[.int (54)], vm := .none },
  { cls := 10, slots := #[.int (55)], vm := .none },
  { cls := 10, slots := #[.int (56)], vm := .none },
  { cls := 10, slots := #[.int (57)], vm := .none },
  { cls := 10, slots := #[.int (58)], vm := .none },
  { cls := 10, slots := #[.int (59)], vm := .none },
  { cls := 10, slots := #[.int (60)], vm := .none },
  { cls := 10, slots := #[.int (61)], vm := .none },
  { cls := 10, slots := #[.int (62)], vm := .none },
  { cls := 10, slots := #[.int (63)], vm := .none },
  { cls := 10, slots := #[.int (64)], vm := .none },
  { cls := 10, slots := #[.int (65)], vm := .none },
  { cls := 10, slots := #[.int (66)], vm := .none },
  { cls := 10, slots := #[.int (67)], vm := .none },
  { cls := 10, slots := #[.int (68)], vm := .none },
  { cls := 10, slots := #[.int (69)], vm := .none },
  { cls := 10, slots := #[.int (70)], vm := .none },
  { cls := 10, slots := #[.int (71)], vm := .none },
  { cls := 10, slots := #[.int (72)], vm := .none },
  { cls := 10, slots := #[.int (73)], vm := .none },
  { cls := 10, slots := #[.int (74)], vm := .none },
  { cls := 10, slots := #[.int (75)], vm := .none },
  { cls := 10, slots := #[.int (76)], vm := .none },
  { cls := 10, slots := #[.int (77)], vm := .none },
  { cls := 10, slots := #[.int (78)], vm := .none },
  { cls := 10, slots := #[.int (79)], vm := .none },
  { cls := 10, slots := #[.int (80)], vm := .none },
  { cls := 10, slots := #[.int (81)], vm := .none },
  { cls := 10, slots := #[.int (82)], vm := .none },
  { cls := 10, slots := #[.int (83)], vm := .none },
  { cls := 10, slots := #[.int (84)], vm := .none },
  { cls := 10, slots := #[.int (85)], vm := .none },
  { cls := 10, slots := #[.int (86)], vm := .none },
  { cls := 10, slots := #[.int (87)], vm := .none },
  { cls := 10, slots := #[.int (88)], vm := .none },
  { cls := 10, slots := #[.int (89)], vm := .none },
  { cls := 10, slots := #[.int (90)], vm := .none },
  { cls := 10, slots := #[.int (91)], vm := .none },
  { cls := 10, slots := #[.int (92)], vm := .none },
  { cls := 10, slots := #[.int (93)], vm := .none },
  { cls := 10, slots := #[.int (94)], vm := .none },
  { cls := 10, slots := #[.int (95)], vm := .none },
  { cls := 10, slots := #[.int (96)], vm := .none },
  { cls := 10, slots := #[.int (97)], vm := .none },
  { cls := 10, slots := #[.int (98)], vm := .none },
  { cls := 10, slots := #[.int (99)], vm := .none },
  { cls := 10, slots := #[.int (100)], vm := .none },
  { cls := 10, slots := #[.int (101)], vm := .none },
  { cls := 10, slots := #[.int (102)], vm := .none },
  { cls := 10, slots := #[.int (103)], vm := .none },
  { cls := 10, slots := #[.int (104)], vm := .none },
  { cls := 10, slots := #[.int (105)], vm := .none },
  { cls := 10, slots := #[.int (106)], vm := .none },
  { cls := 10, slots := #[.int (107)], vm := .none },
  { cls := 10, slots := #[.int (108)], vm := .none },
  { cls := 10, slots := #[.int (109)], vm := .none },
  { cls := 10, slots := #[.int (110)], vm := .none },
  { cls := 10, slots := #[.int (111)], vm := .none },
  { cls := 10, slots := #[.int (112)], vm := .none },
  { cls := 10, slots := #[.int (113)], vm := .none },
  { cls := 10, slots := #[.int (114)], vm := .none },
  { cls := 10, slots := #[.int (115)], vm := .none },
  { cls := 10, slots := #[.int (116)], vm := .none },
  { cls := 10, slots := #[.int (117)], vm := .none },
  { cls := 10, slots := #[.int (118)], vm := .none },
  { cls := 10, slots := #[.int (119)], vm := .none },
  { cls := 10, slots := #[.int (120)], vm := .none },
  { cls := 10, slots := #[.int (121)], vm := .none },
  { cls := 10, slots := #[.int (122)], vm := .none },
  { cls := 10, slots := #[.int (123)], vm := .none },
  { cls := 10, slots := #[.int (124)], vm := .none },
  { cls := 10, slots := #[.int (125)], vm := .none },
  { cls := 10, slots := #[.int (126)], vm := .none },
  { cls := 10, slots := #[.int (127)], vm := .none }]
def classes : Array Class := #[k0, k1, k2, k3, k4, k5, k6, k7, k8, k9, k10, k11, k12, k13, k14, k15, k16, k17, k18, k19, k20, k21, k22, k23, k24, k25, k26, k27, k28]
def interned : List (Array UInt16 × Addr) := []
def slotsUsed : Nat := 527
def theMethod : MethodId := ⟨1, 1⟩
def args0 : Array Value := #[.int 5, .int 1, .int 7, .int 2]
def aboutOver (below : List Frame) : State where
  vm := { classes := classes, interned := interned.toArray }
  heap := heap
  slotsUsed := slotsUsed
  threads := #[{ frames := .invoking theMethod args0 :: below }]
def below0 : List Frame := [.native { method := ⟨0, 0⟩, args := #[] }]
def about1 : State := aboutOver below0
def p0 : Program := .bare "" "" ""
def e0 : Env := launch0.env 0 0 0
theorem w_frames : about1.frames = Frame.invoking theMethod args0 :: below0 := rfl
set_option maxRecDepth 65536 in
theorem w_args : argsFit about1.vm theMethod args0 = true := by decide +kernel
set_option maxRecDepth 65536 in
theorem w_heap : heapFits about1 = true := by decide +kernel
set_option maxRecDepth 65536 in
theorem w_runnable : about1.curStatus? = some .runnable := by decide +kernel
set_option maxRecDepth 65536 in
theorem w_alone : about1.alone = true := by decide +kernel
set_option maxRecDepth 65536 in
theorem w_named : about1.methodNamed? x = some theMethod := by decide +kernel
set_option maxRecDepth 65536 in
theorem w_hears : about1.hears theMethod below0 = true := by decide +kernel
set_option maxRecDepth 65536 in
theorem w_ripe : about1.ripe theMethod args0 below0 = true := by decide +kernel
theorem w_running : about1.status = .running := rfl
set_option maxRecDepth 65536 in
theorem w_room : about1.hasRoom e0.platform room_1 = true :=
  launch0.hasRoom_least _ room_1 (by decide +kernel) (by decide +kernel) (by decide +kernel) (by decide +kernel) (by decide +kernel) (by decide +kernel)
theorem allAtoms_all (ts : List Jvm.Cond) (a : Array Jvm.Value) (st : Jvm.State) : (allAtoms ts).before a st = ts.all (fun c => c.before a st) := by
  induction ts with
  | nil => rfl
  | cons c t ih =>
    show (Jvm.Cond.and c (allAtoms t)).before a st = _
    rw [Jvm.Cond.before_and, ih, List.all_cons]
def words1 : List Jvm.Cond := Jvm.Cond.code x code maxLocals ret :: tables_1
/-- a 'code' word, met by the world's own term for the bytes: nothing is compared byte by byte -/
theorem code_word {y : MethodName} {bytes : ByteArray} {mx : Nat} {rt : Option FieldType} {a : Array Value} {s : State} {m : MethodId} {meth : Method} {c : Code} (h1 : s.methodNamed? y = some m) (h2 : s.vm.method? m = some meth) (h3 : meth.code = some c) (h4 : c.code = bytes)
    (h5 : (c.maxLocals == mx && c.exceptionTable.isEmpty && decide (c.maxStack ≤ mostOperands) && decide (meth.sig.returnType = rt) && !meth.locks && decide (parseMethodDescriptor y.desc = some meth.sig)) = true) : (Jvm.Cond.code y bytes mx rt).before a s = true := by
  simp only [Bool.and_eq_true, beq_iff_eq, Bool.not_eq_true', decide_eq_true_eq] at h5
  obtain ⟨⟨⟨⟨⟨g1, g2⟩, g3⟩, g4⟩, g5⟩, g6⟩ := h5
  simp [Cond.before, Cond.holds, Cond.value, h1, h2, h3, h4, g1, g2, g3, g4, g5, g6]
def isCode : Jvm.Cond → Bool
  | .code _ _ _ _ => true
  | _ => false
theorem all_split {L : List Jvm.Cond} {P : Jvm.Cond → Bool} (h1 : L.all (fun c => isCode c || P c) = true) (h2 : ∀ c ∈ L.filter isCode, P c = true) : L.all P = true := by
  refine List.all_eq_true.mpr fun c hc => ?_
  have h := List.all_eq_true.mp h1 c hc
  rcases Bool.eq_false_or_eq_true (isCode c) with hi | hi
  · exact h2 c (List.mem_filter.mpr ⟨hc, hi⟩)
  · simpa [hi] using h
set_option maxRecDepth 65536 in
theorem w_c0 : (Jvm.Cond.code x code maxLocals ret).before args0 about1 = true := code_word (m := ⟨1, 1⟩) (meth := k1m1) (c := k1c1) (by decide +kernel) rfl rfl rfl (by decide +kernel)
set_option maxRecDepth 65536 in
theorem w_c1 : (Jvm.Cond.code ({ cls := "java/lang/String", name := "valueOf", desc := "(C)Ljava/lang/String;" } : Jvm.MethodName) jdk_42_method_139_code (1 : Nat) (Option.some (Jvm.ClassFile.FieldType.object "java/lang/String"))).before args0 about1 = true := code_word (m := ⟨7, 3⟩) (meth := k7m3) (c := k7c3) (by decide +kernel) rfl rfl rfl (by decide +kernel)
set_option maxRecDepth 65536 in
theorem w_c2 : (Jvm.Cond.code ({ cls := "java/lang/StringLatin1", name := "canEncode", desc := "(C)Z" } : Jvm.MethodName) jdk_43_method_3_code (1 : Nat) (Option.some Jvm.ClassFile.FieldType.boolean)).before args0 about1 = true := code_word (m := ⟨8, 1⟩) (meth := k8m1) (c := k8c1) (by decide +kernel) rfl rfl rfl (by decide +kernel)
set_option maxRecDepth 65536 in
theorem w_c3 : (Jvm.Cond.code ({ cls := "java/lang/StringLatin1", name := "toBytes", desc := "(C)[B" } : Jvm.MethodName) jdk_43_method_46_code (1 : Nat) (Option.some (Jvm.ClassFile.FieldType.array Jvm.ClassFile.FieldType.byte))).before args0 about1 = true := code_word (m := ⟨8, 4⟩) (meth := k8m4) (c := k8c4) (by decide +kernel) rfl rfl rfl (by decide +kernel)
set_option maxRecDepth 65536 in
theorem w_c4 : (Jvm.Cond.code ({ cls := "java/lang/String", name := "<init>", desc := "([BB)V" } : Jvm.MethodName) jdk_42_method_151_code (3 : Nat) (Option.none : Option Jvm.ClassFile.FieldType)).before args0 about1 = true := code_word (m := ⟨7, 4⟩) (meth := k7m4) (c := k7c4) (by decide +kernel) rfl rfl rfl (by decide +kernel)
set_option maxRecDepth 65536 in
theorem w_c5 : (Jvm.Cond.code ({ cls := "java/lang/Object", name := "<init>", desc := "()V" } : Jvm.MethodName) object_method_1_code (1 : Nat) (Option.none : Option Jvm.ClassFile.FieldType)).before args0 about1 = true := code_word (m := ⟨0, 0⟩) (meth := k0m0) (c := k0c0) (by decide +kernel) rfl rfl rfl (by decide +kernel)
set_option maxRecDepth 65536 in
theorem w_c6 : (Jvm.Cond.code ({ cls := "java/lang/Integer", name := "valueOf", desc := "(I)Ljava/lang/Integer;" } : Jvm.MethodName) jdk_33_method_22_code (1 : Nat) (Option.some (Jvm.ClassFile.FieldType.object "java/lang/Integer"))).before args0 about1 = true := code_word (m := ⟨10, 0⟩) (meth := k10m0) (c := k10c0) (by decide +kernel) rfl rfl rfl (by decide +kernel)
set_option maxRecDepth 65536 in
theorem w_c7 : (Jvm.Cond.code ({ cls := "com/example/kehys/kehys/io/TreeObject", name := "<init>", desc := "(I)V" } : Jvm.MethodName) prog_18_method_1_code (3 : Nat) (Option.none : Option Jvm.ClassFile.FieldType)).before args0 about1 = true := code_word (m := ⟨14, 0⟩) (meth := k14m0) (c := k14c0) (by decide +kernel) rfl rfl rfl (by decide +kernel)
set_option maxRecDepth 65536 in
theorem w_c8 : (Jvm.Cond.code ({ cls := "java/util/AbstractMap", name := "<init>", desc := "()V" } : Jvm.MethodName) jdk_71_method_1_code (1 : Nat) (Option.none : Option Jvm.ClassFile.FieldType)).before args0 about1 = true := code_word (m := ⟨13, 0⟩) (meth := k13m0) (c := k13c0) (by decide +kernel) rfl rfl rfl (by decide +kernel)
set_option maxRecDepth 65536 in
theorem w_c9 : (Jvm.Cond.code ({ cls := "com/example/kehys/kehys/io/TreeObject", name := "isEmpty", desc := "()Z" } : Jvm.MethodName) prog_18_method_3_code (1 : Nat) (Option.some Jvm.ClassFile.FieldType.boolean)).before args0 about1 = true := code_word (m := ⟨14, 2⟩) (meth := k14m2) (c := k14c2) (by decide +kernel) rfl rfl rfl (by decide +kernel)
set_option maxRecDepth 65536 in
theorem w_c10 : (Jvm.Cond.code ({ cls := "com/example/kehys/kehys/io/TreeObject", name := "size", desc := "()I" } : Jvm.MethodName) prog_18_method_2_code (1 : Nat) (Option.some Jvm.ClassFile.FieldType.int)).before args0 about1 = true := code_word (m := ⟨14, 1⟩) (meth := k14m1) (c := k14c1) (by decide +kernel) rfl rfl rfl (by decide +kernel)
set_option maxRecDepth 65536 in
theorem w_c11 : (Jvm.Cond.code ({ cls := "com/example/kehys/kehys/io/TreeObject", name := "put", desc := "(Ljava/lang/String;Ljava/lang/Object;)Ljava/lang/Object;" } : Jvm.MethodName) prog_18_method_7_code (5 : Nat) (Option.some (Jvm.ClassFile.FieldType.object "java/lang/Object"))).before args0 about1 = true := code_word (m := ⟨14, 3⟩) (meth := k14m3) (c := k14c3) (by decide +kernel) rfl rfl rfl (by decide +kernel)
set_option maxRecDepth 65536 in
theorem w_c12 : (Jvm.Cond.code ({ cls := "com/example/kehys/kehys/io/TreeObject", name := "find", desc := "(Ljava/lang/Object;)I" } : Jvm.MethodName) prog_18_method_16_code (6 : Nat) (Option.some Jvm.ClassFile.FieldType.int)).before args0 about1 = true := code_word (m := ⟨14, 6⟩) (meth := k14m6) (c := k14c6) (by decide +kernel) rfl rfl rfl (by decide +kernel)
set_option maxRecDepth 65536 in
theorem w_c13 : (Jvm.Cond.code ({ cls := "java/lang/String", name := "hashCode", desc := "()I" } : Jvm.MethodName) jdk_42_method_78_code (2 : Nat) (Option.some Jvm.ClassFile.FieldType.int)).before args0 about1 = true := code_word (m := ⟨7, 2⟩) (meth := k7m2) (c := k7c2) (by decide +kernel) rfl rfl rfl (by decide +kernel)
set_option maxRecDepth 65536 in
theorem w_c14 : (Jvm.Cond.code ({ cls := "java/lang/String", name := "isLatin1", desc := "()Z" } : Jvm.MethodName) jdk_42_method_154_code (1 : Nat) (Option.some Jvm.ClassFile.FieldType.boolean)).before args0 about1 = true := code_word (m := ⟨7, 5⟩) (meth := k7m5) (c := k7c5) (by decide +kernel) rfl rfl rfl (by decide +kernel)
set_option maxRecDepth 65536 in
theorem w_c15 : (Jvm.Cond.code ({ cls := "java/lang/StringLatin1", name := "hashCode", desc := "([B)I" } : Jvm.MethodName) jdk_43_method_21_code (1 : Nat) (Option.some Jvm.ClassFile.FieldType.int)).before args0 about1 = true := code_word (m := ⟨8, 3⟩) (meth := k8m3) (c := k8c3) (by decide +kernel) rfl rfl rfl (by decide +kernel)
set_option maxRecDepth 65536 in
theorem w_c16 : (Jvm.Cond.code ({ cls := "com/example/kehys/kehys/io/TreeObject", name := "append", desc := "(Ljava/lang/String;Ljava/lang/Object;)V" } : Jvm.MethodName) prog_18_method_17_code (4 : Nat) (Option.none : Option Jvm.ClassFile.FieldType)).before args0 about1 = true := code_word (m := ⟨14, 7⟩) (meth := k14m7) (c := k14c7) (by decide +kernel) rfl rfl rfl (by decide +kernel)
set_option maxRecDepth 65536 in
theorem w_c17 : (Jvm.Cond.code ({ cls := "java/util/Objects", name := "requireNonNull", desc := "(Ljava/lang/Object;Ljava/lang/String;)Ljava/lang/Object;" } : Jvm.MethodName) jdk_31_method_11_code (2 : Nat) (Option.some (Jvm.ClassFile.FieldType.object "java/lang/Object"))).before args0 about1 = true := code_word (m := ⟨15, 1⟩) (meth := k15m1) (c := k15c1) (by decide +kernel) rfl rfl rfl (by decide +kernel)
set_option maxRecDepth 65536 in
theorem w_c18 : (Jvm.Cond.code ({ cls := "com/example/kehys/kehys/io/TreeObject", name := "remove", desc := "(Ljava/lang/Object;)Ljava/lang/Object;" } : Jvm.MethodName) prog_18_method_11_code (4 : Nat) (Option.some (Jvm.ClassFile.FieldType.object "java/lang/Object"))).before args0 about1 = true := code_word (m := ⟨14, 4⟩) (meth := k14m4) (c := k14c4) (by decide +kernel) rfl rfl rfl (by decide +kernel)
set_option maxRecDepth 65536 in
theorem w_c19 : (Jvm.Cond.code ({ cls := "com/example/kehys/kehys/io/TreeObject", name := "clear", desc := "()V" } : Jvm.MethodName) prog_18_method_12_code (1 : Nat) (Option.none : Option Jvm.ClassFile.FieldType)).before args0 about1 = true := code_word (m := ⟨14, 5⟩) (meth := k14m5) (c := k14c5) (by decide +kernel) rfl rfl rfl (by decide +kernel)
set_option maxRecDepth 65536 in
theorem w_c20 : (Jvm.Cond.code ({ cls := "java/util/Arrays", name := "fill", desc := "([Ljava/lang/Object;IILjava/lang/Object;)V" } : Jvm.MethodName) jdk_65_method_118_code (5 : Nat) (Option.none : Option Jvm.ClassFile.FieldType)).before args0 about1 = true := code_word (m := ⟨16, 2⟩) (meth := k16m2) (c := k16c2) (by decide +kernel) rfl rfl rfl (by decide +kernel)
set_option maxRecDepth 65536 in
theorem w_c21 : (Jvm.Cond.code ({ cls := "java/util/Arrays", name := "rangeCheck", desc := "(III)V" } : Jvm.MethodName) jdk_65_method_30_code (3 : Nat) (Option.none : Option Jvm.ClassFile.FieldType)).before args0 about1 = true := code_word (m := ⟨16, 1⟩) (meth := k16m1) (c := k16c1) (by decide +kernel) rfl rfl rfl (by decide +kernel)
set_option maxRecDepth 65536 in
theorem w_c22 : (Jvm.Cond.code ({ cls := "java/lang/Math", name := "max", desc := "(II)I" } : Jvm.MethodName) jdk_29_method_65_code (2 : Nat) (Option.some Jvm.ClassFile.FieldType.int)).before args0 about1 = true := code_word (m := ⟨17, 1⟩) (meth := k17m1) (c := k17c1) (by decide +kernel) rfl rfl rfl (by decide +kernel)
set_option maxRecDepth 65536 in
theorem w_c23 : (Jvm.Cond.code ({ cls := "java/util/Arrays", name := "copyOf", desc := "([Ljava/lang/Object;I)[Ljava/lang/Object;" } : Jvm.MethodName) jdk_65_method_119_code (2 : Nat) (Option.some (Jvm.ClassFile.FieldType.array (Jvm.ClassFile.FieldType.object "java/lang/Object")))).before args0 about1 = true := code_word (m := ⟨16, 3⟩) (meth := k16m3) (c := k16c3) (by decide +kernel) rfl rfl rfl (by decide +kernel)
set_option maxRecDepth 65536 in
theorem w_c24 : (Jvm.Cond.code ({ cls := "java/util/Arrays", name := "copyOf", desc := "([Ljava/lang/Object;ILjava/lang/Class;)[Ljava/lang/Object;" } : Jvm.MethodName) jdk_65_method_120_code (4 : Nat) (Option.some (Jvm.ClassFile.FieldType.array (Jvm.ClassFile.FieldType.object "java/lang/Object")))).before args0 about1 = true := code_word (m := ⟨16, 4⟩) (meth := k16m4) (c := k16c4) (by decide +kernel) rfl rfl rfl (by decide +kernel)
set_option maxRecDepth 65536 in
theorem w_c25 : (Jvm.Cond.code ({ cls := "java/lang/Math", name := "min", desc := "(II)I" } : Jvm.MethodName) jdk_29_method_69_code (2 : Nat) (Option.some Jvm.ClassFile.FieldType.int)).before args0 about1 = true := code_word (m := ⟨17, 2⟩) (meth := k17m2) (c := k17c2) (by decide +kernel) rfl rfl rfl (by decide +kernel)
set_option maxRecDepth 65536 in
theorem w_c26 : (Jvm.Cond.code ({ cls := "java/util/Arrays", name := "copyOf", desc := "([II)[I" } : Jvm.MethodName) jdk_65_method_123_code (3 : Nat) (Option.some (Jvm.ClassFile.FieldType.array Jvm.ClassFile.FieldType.int))).before args0 about1 = true := code_word (m := ⟨16, 5⟩) (meth := k16m5) (c := k16c5) (by decide +kernel) rfl rfl rfl (by decide +kernel)
set_option maxRecDepth 65536 in
theorem w_c27 : (Jvm.Cond.code ({ cls := "java/lang/Integer", name := "<init>", desc := "(I)V" } : Jvm.MethodName) jdk_33_method_23_code (2 : Nat) (Option.none : Option Jvm.ClassFile.FieldType)).before args0 about1 = true := code_word (m := ⟨10, 1⟩) (meth := k10m1) (c := k10c1) (by decide +kernel) rfl rfl rfl (by decide +kernel)
set_option maxRecDepth 65536 in
theorem w_c28 : (Jvm.Cond.code ({ cls := "java/lang/Number", name := "<init>", desc := "()V" } : Jvm.MethodName) jdk_18_method_1_code (1 : Nat) (Option.none : Option Jvm.ClassFile.FieldType)).before args0 about1 = true := code_word (m := ⟨9, 0⟩) (meth := k9m0) (c := k9c0) (by decide +kernel) rfl rfl rfl (by decide +kernel)
set_option maxRecDepth 65536 in
theorem w_c29 : (Jvm.Cond.code ({ cls := "java/lang/String", name := "equals", desc := "(Ljava/lang/Object;)Z" } : Jvm.MethodName) jdk_42_method_66_code (3 : Nat) (Option.some Jvm.ClassFile.FieldType.boolean)).before args0 about1 = true := code_word (m := ⟨7, 1⟩) (meth := k7m1) (c := k7c1) (by decide +kernel) rfl rfl rfl (by decide +kernel)
set_option maxRecDepth 65536 in
theorem w_c30 : (Jvm.Cond.code ({ cls := "java/lang/StringLatin1", name := "equals", desc := "([B[B)Z" } : Jvm.MethodName) jdk_43_method_13_code (3 : Nat) (Option.some Jvm.ClassFile.FieldType.boolean)).before args0 about1 = true := code_word (m := ⟨8, 2⟩) (meth := k8m2) (c := k8c2) (by decide +kernel) rfl rfl rfl (by decide +kernel)
set_option maxRecDepth 65536 in
theorem w_c31 : (Jvm.Cond.code ({ cls := "com/example/kehys/kehys/io/TreeObject", name := "removeMember", desc := "(I)V" } : Jvm.MethodName) prog_18_method_18_code (2 : Nat) (Option.none : Option Jvm.ClassFile.FieldType)).before args0 about1 = true := code_word (m := ⟨14, 8⟩) (meth := k14m8) (c := k14c8) (by decide +kernel) rfl rfl rfl (by decide +kernel)
def codes1 : List Jvm.Cond := [Jvm.Cond.code x code maxLocals ret, Jvm.Cond.code ({ cls := "java/lang/String", name := "valueOf", desc := "(C)Ljava/lang/String;" } : Jvm.MethodName) jdk_42_method_139_code (1 : Nat) (Option.some (Jvm.ClassFile.FieldType.object "java/lang/String")), Jvm.Cond.code ({ cls := "java/lang/StringLatin1", name := "canEncode", desc := "(C)Z" } : Jvm.MethodName) jdk_43_method_3_code (1 : Nat) (Option.some Jvm.ClassFile.FieldType.boolean), Jvm.Cond.code ({ cls := "java/lang/StringLatin1", name := "toBytes", desc := "(C)[B" } : Jvm.MethodName) jdk_43_method_46_code (1 : Nat) (Option.some (Jvm.ClassFile.FieldType.array Jvm.ClassFile.FieldType.byte)), Jvm.Cond.code ({ cls := "java/lang/String", name := "<init>", desc := "([BB)V" } : Jvm.MethodName) jdk_42_method_151_code (3 : Nat) (Option.none : Option Jvm.ClassFile.FieldType), Jvm.Cond.code ({ cls := "java/lang/Object", name := "<init>", desc := "()V" } : Jvm.MethodName) object_method_1_code (1 : Nat) (Option.none : Option Jvm.ClassFile.FieldType), Jvm.Cond.code ({ cls := "java/lang/Integer", name := "valueOf", desc := "(I)Ljava/lang/Integer;" } : Jvm.MethodName) jdk_33_method_22_code (1 : Nat) (Option.some (Jvm.ClassFile.FieldType.object "java/lang/Integer")), Jvm.Cond.code ({ cls := "com/example/kehys/kehys/io/TreeObject", name := "<init>", desc := "(I)V" } : Jvm.MethodName) prog_18_method_1_code (3 : Nat) (Option.none : Option Jvm.ClassFile.FieldType), Jvm.Cond.code ({ cls := "java/util/AbstractMap", name := "<init>", desc := "()V" } : Jvm.MethodName) jdk_71_method_1_code (1 : Nat) (Option.none : Option Jvm.ClassFile.FieldType), Jvm.Cond.code ({ cls := "com/example/kehys/kehys/io/TreeObject", name := "isEmpty", desc := "()Z" } : Jvm.MethodName) prog_18_method_3_code (1 : Nat) (Option.some Jvm.ClassFile.FieldType.boolean), Jvm.Cond.code ({ cls := "com/example/kehys/kehys/io/TreeObject", name := "size", desc := "()I" } : Jvm.MethodName) prog_18_method_2_code (1 : Nat) (Option.some Jvm.ClassFile.FieldType.int), Jvm.Cond.code ({ cls := "com/example/kehys/kehys/io/TreeObject", name := "put", desc := "(Ljava/lang/String;Ljava/lang/Object;)Ljava/lang/Object;" } : Jvm.MethodName) prog_18_method_7_code (5 : Nat) (Option.some (Jvm.ClassFile.FieldType.object "java/lang/Object")), Jvm.Cond.code ({ cls := "com/example/kehys/kehys/io/TreeObject", name := "find", desc := "(Ljava/lang/Object;)I" } : Jvm.MethodName) prog_18_method_16_code (6 : Nat) (Option.some Jvm.ClassFile.FieldType.int), Jvm.Cond.code ({ cls := "java/lang/String", name := "hashCode", desc := "()I" } : Jvm.MethodName) jdk_42_method_78_code (2 : Nat) (Option.some Jvm.ClassFile.FieldType.int), Jvm.Cond.code ({ cls := "java/lang/String", name := "isLatin1", desc := "()Z" } : Jvm.MethodName) jdk_42_method_154_code (1 : Nat) (Option.some Jvm.ClassFile.FieldType.boolean), Jvm.Cond.code ({ cls := "java/lang/StringLatin1", name := "hashCode", desc := "([B)I" } : Jvm.MethodName) jdk_43_method_21_code (1 : Nat) (Option.some Jvm.ClassFile.FieldType.int), Jvm.Cond.code ({ cls := "com/example/kehys/kehys/io/TreeObject", name := "append", desc := "(Ljava/lang/String;Ljava/lang/Object;)V" } : Jvm.MethodName) prog_18_method_17_code (4 : Nat) (Option.none : Option Jvm.ClassFile.FieldType), Jvm.Cond.code ({ cls := "java/util/Objects", name := "requireNonNull", desc := "(Ljava/lang/Object;Ljava/lang/String;)Ljava/lang/Object;" } : Jvm.MethodName) jdk_31_method_11_code (2 : Nat) (Option.some (Jvm.ClassFile.FieldType.object "java/lang/Object")), Jvm.Cond.code ({ cls := "com/example/kehys/kehys/io/TreeObject", name := "remove", desc := "(Ljava/lang/Object;)Ljava/lang/Object;" } : Jvm.MethodName) prog_18_method_11_code (4 : Nat) (Option.some (Jvm.ClassFile.FieldType.object "java/lang/Object")), Jvm.Cond.code ({ cls := "com/example/kehys/kehys/io/TreeObject", name := "clear", desc := "()V" } : Jvm.MethodName) prog_18_method_12_code (1 : Nat) (Option.none : Option Jvm.ClassFile.FieldType), Jvm.Cond.code ({ cls := "java/util/Arrays", name := "fill", desc := "([Ljava/lang/Object;IILjava/lang/Object;)V" } : Jvm.MethodName) jdk_65_method_118_code (5 : Nat) (Option.none : Option Jvm.ClassFile.FieldType), Jvm.Cond.code ({ cls := "java/util/Arrays", name := "rangeCheck", desc := "(III)V" } : Jvm.MethodName) jdk_65_method_30_code (3 : Nat) (Option.none : Option Jvm.ClassFile.FieldType), Jvm.Cond.code ({ cls := "java/lang/Math", name := "max", desc := "(II)I" } : Jvm.MethodName) jdk_29_method_65_code (2 : Nat) (Option.some Jvm.ClassFile.FieldType.int), Jvm.Cond.code ({ cls := "java/util/Arrays", name := "copyOf", desc := "([Ljava/lang/Object;I)[Ljava/lang/Object;" } : Jvm.MethodName) jdk_65_method_119_code (2 : Nat) (Option.some (Jvm.ClassFile.FieldType.array (Jvm.ClassFile.FieldType.object "java/lang/Object"))), Jvm.Cond.code ({ cls := "java/util/Arrays", name := "copyOf", desc := "([Ljava/lang/Object;ILjava/lang/Class;)[Ljava/lang/Object;" } : Jvm.MethodName) jdk_65_method_120_code (4 : Nat) (Option.some (Jvm.ClassFile.FieldType.array (Jvm.ClassFile.FieldType.object "java/lang/Object"))), Jvm.Cond.code ({ cls := "java/lang/Math", name := "min", desc := "(II)I" } : Jvm.MethodName) jdk_29_method_69_code (2 : Nat) (Option.some Jvm.ClassFile.FieldType.int), Jvm.Cond.code ({ cls := "java/util/Arrays", name := "copyOf", desc := "([II)[I" } : Jvm.MethodName) jdk_65_method_123_code (3 : Nat) (Option.some (Jvm.ClassFile.FieldType.array Jvm.ClassFile.FieldType.int)), Jvm.Cond.code ({ cls := "java/lang/Integer", name := "<init>", desc := "(I)V" } : Jvm.MethodName) jdk_33_method_23_code (2 : Nat) (Option.none : Option Jvm.ClassFile.FieldType), Jvm.Cond.code ({ cls := "java/lang/Number", name := "<init>", desc := "()V" } : Jvm.MethodName) jdk_18_method_1_code (1 : Nat) (Option.none : Option Jvm.ClassFile.FieldType), Jvm.Cond.code ({ cls := "java/lang/String", name := "equals", desc := "(Ljava/lang/Object;)Z" } : Jvm.MethodName) jdk_42_method_66_code (3 : Nat) (Option.some Jvm.ClassFile.FieldType.boolean), Jvm.Cond.code ({ cls := "java/lang/StringLatin1", name := "equals", desc := "([B[B)Z" } : Jvm.MethodName) jdk_43_method_13_code (3 : Nat) (Option.some Jvm.ClassFile.FieldType.boolean), Jvm.Cond.code ({ cls := "com/example/kehys/kehys/io/TreeObject", name := "removeMember", desc := "(I)V" } : Jvm.MethodName) prog_18_method_18_code (2 : Nat) (Option.none : Option Jvm.ClassFile.FieldType)]
set_option maxRecDepth 65536 in
theorem codes_eq : words1.filter isCode = codes1 := rfl
theorem w_codes : ∀ c ∈ words1.filter isCode, c.before args0 about1 = true := by
  rw [codes_eq]
  intro c hc
  simp only [codes1, List.mem_cons, List.not_mem_nil, or_false] at hc
  rcases hc with rfl | rfl | rfl | rfl | rfl | rfl | rfl | rfl | rfl | rfl | rfl | rfl | rfl | rfl | rfl | rfl | rfl | rfl | rfl | rfl | rfl | rfl | rfl | rfl | rfl | rfl | rfl | rfl | rfl | rfl | rfl | rfl
  · exact w_c0
  · exact w_c1
  · exact w_c2
  · exact w_c3
  · exact w_c4
  · exact w_c5
  · exact w_c6
  · exact w_c7
  · exact w_c8
  · exact w_c9
  · exact w_c10
  · exact w_c11
  · exact w_c12
  · exact w_c13
  · exact w_c14
  · exact w_c15
  · exact w_c16
  · exact w_c17
  · exact w_c18
  · exact w_c19
  · exact w_c20
  · exact w_c21
  · exact w_c22
  · exact w_c23
  · exact w_c24
  · exact w_c25
  · exact w_c26
  · exact w_c27
  · exact w_c28
  · exact w_c29
  · exact w_c30
  · exact w_c31
set_option maxRecDepth 65536 in
theorem w_t1 : (words1.take 24).all (fun c => isCode c || c.before args0 about1) = true := by decide +kernel
set_option maxRecDepth 65536 in
theorem w_t2 : ((words1.drop 24).take 24).all (fun c => isCode c || c.before args0 about1) = true := by decide +kernel
set_option maxRecDepth 65536 in
theorem w_t3 : (((words1.drop 24).drop 24).take 24).all (fun c => isCode c || c.before args0 about1) = true := by decide +kernel
set_option maxRecDepth 65536 in
theorem w_t4 : ((((words1.drop 24).drop 24).drop 24).take 24).all (fun c => isCode c || c.before args0 about1) = true := by decide +kernel
set_option maxRecDepth 65536 in
theorem w_t5 : (((((words1.drop 24).drop 24).drop 24).drop 24).take 24).all (fun c => isCode c || c.before args0 about1) = true := by decide +kernel
set_option maxRecDepth 65536 in
theorem w_t6 : ((((((words1.drop 24).drop 24).drop 24).drop 24).drop 24).take 24).all (fun c => isCode c || c.before args0 about1) = true := by decide +kernel
set_option maxRecDepth 65536 in
theorem w_t7 : (((((((words1.drop 24).drop 24).drop 24).drop 24).drop 24).drop 24).take 24).all (fun c => isCode c || c.before args0 about1) = true := by decide +kernel
set_option maxRecDepth 65536 in
theorem w_t8 : (((((((words1.drop 24).drop 24).drop 24).drop 24).drop 24).drop 24).drop 24).all (fun c => isCode c || c.before args0 about1) = true := by decide +kernel
theorem w_tables : (allAtoms (Jvm.Cond.code x code maxLocals ret :: tables_1)).before args0 about1 = true := by
  rw [allAtoms_all]
  show words1.all (fun c => c.before args0 about1) = true
  refine all_split ?_ w_codes
  rw [← List.take_append_drop 24 words1, List.all_append, w_t1, ← List.take_append_drop 24 (words1.drop 24), List.all_append, w_t2, ← List.take_append_drop 24 ((words1.drop 24).drop 24), List.all_append, w_t3, ← List.take_append_drop 24 (((words1.drop 24).drop 24).drop 24), List.all_append, w_t4, ← List.take_append_drop 24 ((((words1.drop 24).drop 24).drop 24).drop 24), List.all_append, w_t5, ← List.take_append_drop 24 (((((words1.drop 24).drop 24).drop 24).drop 24).drop 24), List.all_append, w_t6, ← List.take_append_drop 24 ((((((words1.drop 24).drop 24).drop 24).drop 24).drop 24).drop 24), List.all_append, w_t7, w_t8]
  rfl
set_option maxRecDepth 65536 in
theorem w_rest : rest_1_c.before args0 about1 = true := by decide +kernel
set_option maxRecDepth 65536 in
theorem w_case : (Jvm.Cond.and given_1 narrow_1).before args0 about1 = true := by decide +kernel
theorem w_applies : (headSpec (Jvm.Cond.code x code maxLocals ret :: tables_1) room_1).applies x e0.platform about1 = true :=
  (Spec.applies_iff w_frames).mpr ⟨w_running, w_runnable, w_alone, w_named, w_hears, w_ripe, w_room, w_tables⟩
set_option maxRecDepth 65536 in
theorem atStart : AtStart classFile x code maxLocals ret World_1 tables_1 room_1 Calls_1 rest_1 Pre_1 launch0 p0 e0 about1 theMethod args0 below0 :=
  ⟨lists_1, trivial, launch0.admits_env _ _ _, launch0.least_env, fairChoices_fair.cas, fairChoices_fair.clock, w_frames, w_args, w_heap, w_applies, ⟨⟨28, k28, 3, by decide +kernel, rfl, rfl, _, rfl, rfl⟩, trivial⟩, w_rest, w_case⟩
end start1
theorem witness_1 : WitnessClaimed_1 := ⟨start1.p0, start1.e0, start1.about1, start1.theMethod, start1.args0, start1.below0, start1.atStart⟩
end Jvm.Pilot.@@N@@
