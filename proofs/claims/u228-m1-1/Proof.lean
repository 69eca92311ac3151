import JvmDerived
import JvmDerived.Pilot.@@N@@Statement
import JvmDerived.Pilot.@@N@@Code
set_option linter.unusedVariables false
set_option linter.unusedSimpArgs false
namespace Jvm.Pilot.@@N@@
open Jvm Jvm.ClassFile Sem Op Lib Jvm.Free Jvm.Stand Jvm.LawKit Jvm.RoadKit Bundle Jvm.Pilot.@@N@@.Jvm.D
section OwnKit
variable {p : Program} {l : Launch} {e : Env} {R : Room} {s : State} {m : MethodId} {args : Array Value} {below : List Frame} {meth : Method} {c : Code} {T : State} {locs : List Loc} {cells slots : Nat} {Z : State} {a0 : Array Value} {h : Heap} {W : State → Prop} {pc q : Nat} {Ls : Array Slot} {St : List Value}
/-- the run comes from S to an end of which W holds -/
def Go (p : Program) (e : Env) (below : List Frame) (W : State → Prop) (S : State) : Prop := ∃ U, Steps p.tables e below S U ∧ W U
theorem Go.on {S S' : State} (k : ∀ t, Steps p.tables e below S' t → Steps p.tables e below S t) (h : Go p e below W S') : Go p e below W S := by
  obtain ⟨U, h1, h2⟩ := h; exact ⟨U, k U h1, h2⟩
/-- what a body must leave -/
def Wd (s : State) (below : List Frame) (Q : Option Value → Heap → List Loc → Prop) (k n : Nat) (U : State) : Prop := U.status = .running ∧ ∃ v, Ended U below (.returned v) ∧ ∃ L, Q v U.heap L ∧ FrameEnd s (.returned v) U L k n
/-- a body's contract: from the heap h0 and the arguments as' it returns as Q says -/
def Con (l : Launch) (Z : State) (h0 : Heap) (y : MethodName) (bytes : ByteArray) (ml : Nat) (ret : Option FieldType) (rm : Room) (as' : Array Value) (Q : Option Value → Heap → List Loc → Prop) : Prop :=
  ∀ ws : List Jvm.Cond, MetFree l y (head1 (Jvm.Cond.code y bytes ml ret :: ws) rm) (fun a U => a = as' ∧ Z.Warmed39 U.vm ∧ U.heap = h0) (fun _ _ _ _ _ => True) (fun _ U o U' => ∃ v L, o = .returned v ∧ Q v U'.heap L ∧ FrameEnd U o U' L rm.cells rm.slots)
/-- it returns V and touches nothing -/
def Pur (V : Option Value) (h0 : Heap) (v : Option Value) (h : Heap) (L : List Loc) : Prop := v = V ∧ L = [] ∧ h = h0
theorem con_of {h0 : Heap} {y : MethodName} {bytes : ByteArray} {ml : Nat} {ret : Option FieldType} {rm : Room} {as' : Array Value} {Q : Option Value → Heap → List Loc → Prop} (hpl : plainFor y = true) {Ls : Array Slot}
    (hef : ∀ m : MethodId, entryFrame m as' ml = mkF m 0 Ls [])
    (body : ∀ (p : Program) (e : Env) (s : State) (m : MethodId) (below : List Frame) (meth : Method) (c : Code) (s₁ : State), p.tables.exec = Jvm.exec → Z.Warmed39 s.vm → c.code = bytes → c.maxLocals = ml → meth.sig.returnType = ret → meth.locks = false → meth.name = y.name → s.vm.findClass y.cls = some m.cls →
      Stand p l e rm s m as' below meth c s₁ [] 0 0 → s₁.heap = h0 → Go p e below (Wd s below Q rm.cells rm.slots) (s₁.setTop (mkF m 0 Ls []))) : Con l Z h0 y bytes ml ret rm as' Q := by
  intro ws
  refine MetFree.of_bodySF hpl hisR ?_
  intro p e s m args below meth c s₁ Bd hml0 hP hK
  obtain ⟨rfl, hZ, hh⟩ := hP
  obtain ⟨U, h1, h2, v, h3, L, h4, h5⟩ := body p e s m below meth c s₁ Bd.exec hZ Bd.bytes hml0 Bd.returns Bd.notSynchronized (name_of_methodNamed Bd.named Bd.method).1 (findClass_of_methodNamed Bd.named) (Stand.of_body Bd) (by rw [← hh, Bd.state]; rfl)
  rw [← hef] at h1
  exact ⟨U, _, h1, h2, h3, v, L, rfl, h4, h5⟩
theorem g_leave (X : Stand p l e R s m args below meth c T locs cells slots) {v : Option Value} (hv : meth.sig.returnType = none → v = none) (hlk : meth.locks = false) {S : State} {Q : Option Value → Heap → List Loc → Prop} {k n : Nat}
    (st : ∀ fs, (∀ (f : JFrame) (acts : List Action), f.method = m → f.locked = none → f.entered = [] → (doReturn e (T.setTop f) acts v).1 = T.setFrames fs) → Steps p.tables e below S (T.setFrames fs))
    (hQ : Q v T.heap locs) (hk : cells ≤ k) (hn : slots ≤ n) : Go p e below (Wd s below Q k n) S := by
  obtain ⟨fs, hr, hrun, hended, hW, hsame⟩ := X.leave (v := v) hv hlk
  exact ⟨_, st fs hr, hrun, v, hended, locs, hQ, ⟨_, rfl⟩, hW, hsame.mono hk hn⟩
section Leaves
variable {Q : Option Value → Heap → List Loc → Prop} {k n : Nat}
theorem g_retZ (X : Stand p l e R s m args below meth c T locs cells slots) (hx : p.tables.exec = Jvm.exec) {t : FieldType} {z : Int32} (hret : meth.sig.returnType = some t) (hlk : meth.locks = false) (hd : decode c.code pc = .ok (.ireturn, 1)) (ht : t = .int ∨ t = .boolean ∨ t = .byte ∨ t = .char ∨ t = .short) (hn' : narrow t (.int z) = .int z)
    (hQ : Q (some (.int z)) T.heap locs) (hk : cells ≤ k) (hn : slots ≤ n) : Go p e below (Wd s below Q k n) (T.setTop (mkF m pc Ls (.int z :: St))) :=
  g_leave X (fun h => by rw [hret] at h; cases h) hlk (fun fs hr => retOut X hx hret hn' (Or.inl ⟨rfl, ht, z, rfl⟩) hd hr) hQ hk hn
theorem g_retI (X : Stand p l e R s m args below meth c T locs cells slots) (hx : p.tables.exec = Jvm.exec) {z : Int32} (hret : meth.sig.returnType = some .int) (hlk : meth.locks = false) (hd : decode c.code pc = .ok (.ireturn, 1))
    (hQ : Q (some (.int z)) T.heap locs) (hk : cells ≤ k) (hn : slots ≤ n) : Go p e below (Wd s below Q k n) (T.setTop (mkF m pc Ls (.int z :: St))) :=
  g_retZ X hx hret hlk hd (Or.inl rfl) rfl hQ hk hn
theorem g_retB (X : Stand p l e R s m args below meth c T locs cells slots) (hx : p.tables.exec = Jvm.exec) {z : Int32} (hret : meth.sig.returnType = some .boolean) (hlk : meth.locks = false) (hd : decode c.code pc = .ok (.ireturn, 1)) (hz : z = 0 ∨ z = 1)
    (hQ : Q (some (.int z)) T.heap locs) (hk : cells ≤ k) (hn : slots ≤ n) : Go p e below (Wd s below Q k n) (T.setTop (mkF m pc Ls (.int z :: St))) :=
  g_retZ X hx hret hlk hd (Or.inr (Or.inl rfl)) (by rcases hz with rfl | rfl <;> rfl) hQ hk hn
theorem g_retJ (X : Stand p l e R s m args below meth c T locs cells slots) (hx : p.tables.exec = Jvm.exec) {z : Int64} (hret : meth.sig.returnType = some .long) (hlk : meth.locks = false) (hd : decode c.code pc = .ok (.lreturn, 1))
    (hQ : Q (some (.long z)) T.heap locs) (hk : cells ≤ k) (hn : slots ≤ n) : Go p e below (Wd s below Q k n) (T.setTop (mkF m pc Ls (.long z :: St))) :=
  g_leave X (fun h => by rw [hret] at h; cases h) hlk (fun fs hr => retOut X hx hret rfl (Or.inr (Or.inl ⟨rfl, rfl, z, rfl⟩)) hd hr) hQ hk hn
theorem g_retA (X : Stand p l e R s m args below meth c T locs cells slots) (hx : p.tables.exec = Jvm.exec) {t : FieldType} {w : Value} (hret : meth.sig.returnType = some t) (hlk : meth.locks = false) (hd : decode c.code pc = .ok (.areturn, 1)) (ht : t.isReference = true) (hw : w.isRef = true) (hn' : narrow t w = w)
    (hQ : Q (some w) T.heap locs) (hk : cells ≤ k) (hn : slots ≤ n) : Go p e below (Wd s below Q k n) (T.setTop (mkF m pc Ls (w :: St))) :=
  g_leave X (fun h => by rw [hret] at h; cases h) hlk (fun fs hr => retOut X hx hret hn' (Or.inr (Or.inr (Or.inr (Or.inr ⟨rfl, ht, hw⟩)))) hd hr) hQ hk hn
theorem g_retV (X : Stand p l e R s m args below meth c T locs cells slots) (hx : p.tables.exec = Jvm.exec) (hret : meth.sig.returnType = none) (hlk : meth.locks = false) (hd : decode c.code pc = .ok (.return_, 1))
    (hQ : Q none T.heap locs) (hk : cells ≤ k) (hn : slots ≤ n) : Go p e below (Wd s below Q k n) (T.setTop (mkF m pc Ls [])) :=
  g_leave X (fun _ => rfl) hlk (fun fs hr => X.returnOut hx hret hd hr) hQ hk hn
end Leaves
section Plain
theorem g_iload (X : Stand p l e R s m args below meth c T locs cells slots) (hx : p.tables.exec = Jvm.exec) {k : Nat} {v : Int32} (hd : decode c.code pc = .ok (.iload k, 2)) (hl : Ls[k]? = some (.val (.int v))) (hq : pc + 2 = q) (G : Go p e below W (T.setTop (mkF m q Ls (.int v :: St)))) : Go p e below W (T.setTop (mkF m pc Ls St)) := by
  subst hq; exact G.on fun t k' => XS.iload X.here hx rfl hd hl k'
theorem g_lload (X : Stand p l e R s m args below meth c T locs cells slots) (hx : p.tables.exec = Jvm.exec) {k : Nat} {v : Int64} (hd : decode c.code pc = .ok (.lload k, 2)) (hl : Ls[k]? = some (.val (.long v))) (hq : pc + 2 = q) (G : Go p e below W (T.setTop (mkF m q Ls (.long v :: St)))) : Go p e below W (T.setTop (mkF m pc Ls St)) := by
  subst hq; exact G.on fun t k' => XS.lload X.here hx rfl hd hl k'
theorem g_aload (X : Stand p l e R s m args below meth c T locs cells slots) (hx : p.tables.exec = Jvm.exec) {k : Nat} {v : Value} (hd : decode c.code pc = .ok (.aload k, 2)) (hl : Ls[k]? = some (.val v)) (hv : v.isRef = true) (hq : pc + 2 = q) (G : Go p e below W (T.setTop (mkF m q Ls (v :: St)))) : Go p e below W (T.setTop (mkF m pc Ls St)) := by
  subst hq; exact G.on fun t k' => XS.aload X.here hx rfl hd hl hv k'
theorem g_istore (X : Stand p l e R s m args below meth c T locs cells slots) (hx : p.tables.exec = Jvm.exec) {k : Nat} {x : Int32} {L' : Array Slot} (hd : decode c.code pc = .ok (.istore k, 2)) (hl : storeLocals Ls k (.int x) = some L') (hq : pc + 2 = q) (G : Go p e below W (T.setTop (mkF m q L' St))) : Go p e below W (T.setTop (mkF m pc Ls (.int x :: St))) := by
  subst hq; exact G.on fun t k' => XS.istore X.here hx rfl hd rfl hl k'
theorem g_lstore (X : Stand p l e R s m args below meth c T locs cells slots) (hx : p.tables.exec = Jvm.exec) {k : Nat} {x : Int64} {L' : Array Slot} (hd : decode c.code pc = .ok (.lstore k, 2)) (hl : storeLocals Ls k (.long x) = some L') (hq : pc + 2 = q) (G : Go p e below W (T.setTop (mkF m q L' St))) : Go p e below W (T.setTop (mkF m pc Ls (.long x :: St))) := by
  subst hq; exact G.on fun t k' => XS.lstore X.here hx rfl hd rfl hl k'
theorem g_astore (X : Stand p l e R s m args below meth c T locs cells slots) (hx : p.tables.exec = Jvm.exec) {k : Nat} {x : Value} {L' : Array Slot} (hd : decode c.code pc = .ok (.astore k, 2)) (hv : x.isRef = true) (hl : storeLocals Ls k x = some L') (hq : pc + 2 = q) (G : Go p e below W (T.setTop (mkF m q L' St))) : Go p e below W (T.setTop (mkF m pc Ls (x :: St))) := by
  subst hq; exact G.on fun t k' => XS.astore X.here hx rfl hd rfl hv hl k'
theorem g_iloadN (X : Stand p l e R s m args below meth c T locs cells slots) (hx : p.tables.exec = Jvm.exec) {k : Fin 4} {v : Int32} (hd : decode c.code pc = .ok (.iload_n k, 1)) (hl : Ls[k.val]? = some (.val (.int v))) (hq : pc + 1 = q) (G : Go p e below W (T.setTop (mkF m q Ls (.int v :: St)))) : Go p e below W (T.setTop (mkF m pc Ls St)) := by
  subst hq; exact G.on fun t k' => XS.iloadN X.here hx rfl hd hl k'
theorem g_lloadN (X : Stand p l e R s m args below meth c T locs cells slots) (hx : p.tables.exec = Jvm.exec) {k : Fin 4} {v : Int64} (hd : decode c.code pc = .ok (.lload_n k, 1)) (hl : Ls[k.val]? = some (.val (.long v))) (hq : pc + 1 = q) (G : Go p e below W (T.setTop (mkF m q Ls (.long v :: St)))) : Go p e below W (T.setTop (mkF m pc Ls St)) := by
  subst hq; exact G.on fun t k' => XS.lloadN X.here hx rfl hd hl k'
theorem g_aloadN (X : Stand p l e R s m args below meth c T locs cells slots) (hx : p.tables.exec = Jvm.exec) {k : Fin 4} {v : Value} (hd : decode c.code pc = .ok (.aload_n k, 1)) (hl : Ls[k.val]? = some (.val v)) (hv : v.isRef = true) (hq : pc + 1 = q) (G : Go p e below W (T.setTop (mkF m q Ls (v :: St)))) : Go p e below W (T.setTop (mkF m pc Ls St)) := by
  subst hq; exact G.on fun t k' => XS.aloadN X.here hx rfl hd hl hv k'
theorem g_istoreN (X : Stand p l e R s m args below meth c T locs cells slots) (hx : p.tables.exec = Jvm.exec) {k : Fin 4} {x : Int32} {L' : Array Slot} (hd : decode c.code pc = .ok (.istore_n k, 1)) (hl : storeLocals Ls k.val (.int x) = some L') (hq : pc + 1 = q) (G : Go p e below W (T.setTop (mkF m q L' St))) : Go p e below W (T.setTop (mkF m pc Ls (.int x :: St))) := by
  subst hq; exact G.on fun t k' => XS.istoreN X.here hx rfl hd rfl hl k'
theorem g_lstoreN (X : Stand p l e R s m args below meth c T locs cells slots) (hx : p.tables.exec = Jvm.exec) {k : Fin 4} {x : Int64} {L' : Array Slot} (hd : decode c.code pc = .ok (.lstore_n k, 1)) (hl : storeLocals Ls k.val (.long x) = some L') (hq : pc + 1 = q) (G : Go p e below W (T.setTop (mkF m q L' St))) : Go p e below W (T.setTop (mkF m pc Ls (.long x :: St))) := by
  subst hq; exact G.on fun t k' => XS.lstoreN X.here hx rfl hd rfl hl k'
theorem g_astoreN (X : Stand p l e R s m args below meth c T locs cells slots) (hx : p.tables.exec = Jvm.exec) {k : Fin 4} {x : Value} {L' : Array Slot} (hd : decode c.code pc = .ok (.astore_n k, 1)) (hv : x.isRef = true) (hl : storeLocals Ls k.val x = some L') (hq : pc + 1 = q) (G : Go p e below W (T.setTop (mkF m q L' St))) : Go p e below W (T.setTop (mkF m pc Ls (x :: St))) := by
  subst hq; exact G.on fun t k' => XS.astoreN X.here hx rfl hd rfl hv hl k'
theorem g_iconst (X : Stand p l e R s m args below meth c T locs cells slots) (hx : p.tables.exec = Jvm.exec) {i : Int} {n : Int32} (hd : decode c.code pc = .ok (.iconst i, 1)) (hn : Int32.ofInt i = n) (hq : pc + 1 = q) (G : Go p e below W (T.setTop (mkF m q Ls (.int n :: St)))) : Go p e below W (T.setTop (mkF m pc Ls St)) := by
  subst hq; subst hn; exact G.on fun t k' => XS.iconst X.here hx rfl hd k'
theorem g_bipush (X : Stand p l e R s m args below meth c T locs cells slots) (hx : p.tables.exec = Jvm.exec) {i : Int} {n : Int32} (hd : decode c.code pc = .ok (.bipush i, 2)) (hn : (Int8.ofInt i).toInt32 = n) (hq : pc + 2 = q) (G : Go p e below W (T.setTop (mkF m q Ls (.int n :: St)))) : Go p e below W (T.setTop (mkF m pc Ls St)) := by
  subst hq; subst hn; exact G.on fun t k' => XS.bipush X.here hx rfl hd k'
theorem g_sipush (X : Stand p l e R s m args below meth c T locs cells slots) (hx : p.tables.exec = Jvm.exec) {i : Int} {n : Int32} (hd : decode c.code pc = .ok (.sipush i, 3)) (hn : (Int16.ofInt i).toInt32 = n) (hq : pc + 3 = q) (G : Go p e below W (T.setTop (mkF m q Ls (.int n :: St)))) : Go p e below W (T.setTop (mkF m pc Ls St)) := by
  subst hq; subst hn; exact G.on fun t k' => XS.sipush X.here hx rfl hd k'
theorem g_lconst (X : Stand p l e R s m args below meth c T locs cells slots) (hx : p.tables.exec = Jvm.exec) {i : Fin 2} {n : Int64} (hd : decode c.code pc = .ok (.lconst i, 1)) (hn : Int64.ofNat i = n) (hq : pc + 1 = q) (G : Go p e below W (T.setTop (mkF m q Ls (.long n :: St)))) : Go p e below W (T.setTop (mkF m pc Ls St)) := by
  subst hq; subst hn; exact G.on fun t k' => XS.lconst X.here hx rfl hd k'
theorem g_aconst_null (X : Stand p l e R s m args below meth c T locs cells slots) (hx : p.tables.exec = Jvm.exec)  (hd : decode c.code pc = .ok (.aconst_null, 1)) (hq : pc + 1 = q) (G : Go p e below W (T.setTop (mkF m q Ls (.null :: St)))) : Go p e below W (T.setTop (mkF m pc Ls St)) := by
  subst hq; exact G.on fun t k' => XS.aconstNull X.here hx rfl hd k'
theorem g_iadd (X : Stand p l e R s m args below meth c T locs cells slots) (hx : p.tables.exec = Jvm.exec) {x y z : Int32} (hd : decode c.code pc = .ok (.iadd, 1)) (hz : x + y = z) (hq : pc + 1 = q) (G : Go p e below W (T.setTop (mkF m q Ls (.int z :: St)))) : Go p e below W (T.setTop (mkF m pc Ls (.int y :: .int x :: St))) := by
  subst hq; subst hz; exact G.on fun t k' => XS.iadd X.here hx rfl hd rfl k'
theorem g_isub (X : Stand p l e R s m args below meth c T locs cells slots) (hx : p.tables.exec = Jvm.exec) {x y z : Int32} (hd : decode c.code pc = .ok (.isub, 1)) (hz : x - y = z) (hq : pc + 1 = q) (G : Go p e below W (T.setTop (mkF m q Ls (.int z :: St)))) : Go p e below W (T.setTop (mkF m pc Ls (.int y :: .int x :: St))) := by
  subst hq; subst hz; exact G.on fun t k' => XS.isub X.here hx rfl hd rfl k'
theorem g_imul (X : Stand p l e R s m args below meth c T locs cells slots) (hx : p.tables.exec = Jvm.exec) {x y z : Int32} (hd : decode c.code pc = .ok (.imul, 1)) (hz : x * y = z) (hq : pc + 1 = q) (G : Go p e below W (T.setTop (mkF m q Ls (.int z :: St)))) : Go p e below W (T.setTop (mkF m pc Ls (.int y :: .int x :: St))) := by
  subst hq; subst hz; exact G.on fun t k' => XS.imul X.here hx rfl hd rfl k'
theorem g_iand (X : Stand p l e R s m args below meth c T locs cells slots) (hx : p.tables.exec = Jvm.exec) {x y z : Int32} (hd : decode c.code pc = .ok (.iand, 1)) (hz : x &&& y = z) (hq : pc + 1 = q) (G : Go p e below W (T.setTop (mkF m q Ls (.int z :: St)))) : Go p e below W (T.setTop (mkF m pc Ls (.int y :: .int x :: St))) := by
  subst hq; subst hz; exact G.on fun t k' => XS.iand X.here hx rfl hd rfl k'
theorem g_ior (X : Stand p l e R s m args below meth c T locs cells slots) (hx : p.tables.exec = Jvm.exec) {x y z : Int32} (hd : decode c.code pc = .ok (.ior, 1)) (hz : x ||| y = z) (hq : pc + 1 = q) (G : Go p e below W (T.setTop (mkF m q Ls (.int z :: St)))) : Go p e below W (T.setTop (mkF m pc Ls (.int y :: .int x :: St))) := by
  subst hq; subst hz; exact G.on fun t k' => XS.ior X.here hx rfl hd rfl k'
theorem g_ixor (X : Stand p l e R s m args below meth c T locs cells slots) (hx : p.tables.exec = Jvm.exec) {x y z : Int32} (hd : decode c.code pc = .ok (.ixor, 1)) (hz : x ^^^ y = z) (hq : pc + 1 = q) (G : Go p e below W (T.setTop (mkF m q Ls (.int z :: St)))) : Go p e below W (T.setTop (mkF m pc Ls (.int y :: .int x :: St))) := by
  subst hq; subst hz; exact G.on fun t k' => XS.ixor X.here hx rfl hd rfl k'
theorem g_ishl (X : Stand p l e R s m args below meth c T locs cells slots) (hx : p.tables.exec = Jvm.exec) {x y z : Int32} (hd : decode c.code pc = .ok (.ishl, 1)) (hz : x <<< (y &&& 31) = z) (hq : pc + 1 = q) (G : Go p e below W (T.setTop (mkF m q Ls (.int z :: St)))) : Go p e below W (T.setTop (mkF m pc Ls (.int y :: .int x :: St))) := by
  subst hq; subst hz; exact G.on fun t k' => XS.ishl X.here hx rfl hd rfl k'
theorem g_ishr (X : Stand p l e R s m args below meth c T locs cells slots) (hx : p.tables.exec = Jvm.exec) {x y z : Int32} (hd : decode c.code pc = .ok (.ishr, 1)) (hz : x >>> (y &&& 31) = z) (hq : pc + 1 = q) (G : Go p e below W (T.setTop (mkF m q Ls (.int z :: St)))) : Go p e below W (T.setTop (mkF m pc Ls (.int y :: .int x :: St))) := by
  subst hq; subst hz; exact G.on fun t k' => XS.ishr X.here hx rfl hd rfl k'
theorem g_iushr (X : Stand p l e R s m args below meth c T locs cells slots) (hx : p.tables.exec = Jvm.exec) {x y z : Int32} (hd : decode c.code pc = .ok (.iushr, 1)) (hz : (x.toUInt32 >>> (y &&& 31).toUInt32).toInt32 = z) (hq : pc + 1 = q) (G : Go p e below W (T.setTop (mkF m q Ls (.int z :: St)))) : Go p e below W (T.setTop (mkF m pc Ls (.int y :: .int x :: St))) := by
  subst hq; subst hz; exact G.on fun t k' => XS.iushr X.here hx rfl hd rfl k'
theorem g_irem (X : Stand p l e R s m args below meth c T locs cells slots) (hx : p.tables.exec = Jvm.exec) {x y z : Int32} (hd : decode c.code pc = .ok (.irem, 1)) (hy : y ≠ 0) (hz : x % y = z) (hq : pc + 1 = q) (G : Go p e below W (T.setTop (mkF m q Ls (.int z :: St)))) : Go p e below W (T.setTop (mkF m pc Ls (.int y :: .int x :: St))) := by
  subst hq; subst hz; exact G.on fun t k' => iremM X hx rfl hd rfl hy k'
theorem g_ladd (X : Stand p l e R s m args below meth c T locs cells slots) (hx : p.tables.exec = Jvm.exec) {x y z : Int64} (hd : decode c.code pc = .ok (.ladd, 1)) (hz : x + y = z) (hq : pc + 1 = q) (G : Go p e below W (T.setTop (mkF m q Ls (.long z :: St)))) : Go p e below W (T.setTop (mkF m pc Ls (.long y :: .long x :: St))) := by
  subst hq; subst hz; exact G.on fun t k' => XS.ladd X.here hx rfl hd rfl k'
theorem g_lsub (X : Stand p l e R s m args below meth c T locs cells slots) (hx : p.tables.exec = Jvm.exec) {x y z : Int64} (hd : decode c.code pc = .ok (.lsub, 1)) (hz : x - y = z) (hq : pc + 1 = q) (G : Go p e below W (T.setTop (mkF m q Ls (.long z :: St)))) : Go p e below W (T.setTop (mkF m pc Ls (.long y :: .long x :: St))) := by
  subst hq; subst hz; exact G.on fun t k' => XS.lsub X.here hx rfl hd rfl k'
theorem g_land (X : Stand p l e R s m args below meth c T locs cells slots) (hx : p.tables.exec = Jvm.exec) {x y z : Int64} (hd : decode c.code pc = .ok (.land, 1)) (hz : x &&& y = z) (hq : pc + 1 = q) (G : Go p e below W (T.setTop (mkF m q Ls (.long z :: St)))) : Go p e below W (T.setTop (mkF m pc Ls (.long y :: .long x :: St))) := by
  subst hq; subst hz; exact G.on fun t k' => XS.land X.here hx rfl hd rfl k'
theorem g_lor (X : Stand p l e R s m args below meth c T locs cells slots) (hx : p.tables.exec = Jvm.exec) {x y z : Int64} (hd : decode c.code pc = .ok (.lor, 1)) (hz : x ||| y = z) (hq : pc + 1 = q) (G : Go p e below W (T.setTop (mkF m q Ls (.long z :: St)))) : Go p e below W (T.setTop (mkF m pc Ls (.long y :: .long x :: St))) := by
  subst hq; subst hz; exact G.on fun t k' => XS.lor X.here hx rfl hd rfl k'
theorem g_lxor (X : Stand p l e R s m args below meth c T locs cells slots) (hx : p.tables.exec = Jvm.exec) {x y z : Int64} (hd : decode c.code pc = .ok (.lxor, 1)) (hz : x ^^^ y = z) (hq : pc + 1 = q) (G : Go p e below W (T.setTop (mkF m q Ls (.long z :: St)))) : Go p e below W (T.setTop (mkF m pc Ls (.long y :: .long x :: St))) := by
  subst hq; subst hz; exact G.on fun t k' => XS.lxor X.here hx rfl hd rfl k'
theorem g_lshl (X : Stand p l e R s m args below meth c T locs cells slots) (hx : p.tables.exec = Jvm.exec) {x z : Int64} {y : Int32} (hd : decode c.code pc = .ok (.lshl, 1)) (hz : x <<< (y &&& 0x3f).toInt64 = z) (hq : pc + 1 = q) (G : Go p e below W (T.setTop (mkF m q Ls (.long z :: St)))) : Go p e below W (T.setTop (mkF m pc Ls (.int y :: .long x :: St))) := by
  subst hq; subst hz; exact G.on fun t k' => XS.lshl X.here hx rfl hd rfl k'
theorem g_lshr (X : Stand p l e R s m args below meth c T locs cells slots) (hx : p.tables.exec = Jvm.exec) {x z : Int64} {y : Int32} (hd : decode c.code pc = .ok (.lshr, 1)) (hz : x >>> (y &&& 0x3f).toInt64 = z) (hq : pc + 1 = q) (G : Go p e below W (T.setTop (mkF m q Ls (.long z :: St)))) : Go p e below W (T.setTop (mkF m pc Ls (.int y :: .long x :: St))) := by
  subst hq; subst hz; exact G.on fun t k' => XS.lshr X.here hx rfl hd rfl k'
theorem g_lushr (X : Stand p l e R s m args below meth c T locs cells slots) (hx : p.tables.exec = Jvm.exec) {x z : Int64} {y : Int32} (hd : decode c.code pc = .ok (.lushr, 1)) (hz : (x.toUInt64 >>> (y &&& 0x3f).toInt64.toUInt64).toInt64 = z) (hq : pc + 1 = q) (G : Go p e below W (T.setTop (mkF m q Ls (.long z :: St)))) : Go p e below W (T.setTop (mkF m pc Ls (.int y :: .long x :: St))) := by
  subst hq; subst hz; exact G.on fun t k' => XS.lushr X.here hx rfl hd rfl k'
theorem g_lcmp (X : Stand p l e R s m args below meth c T locs cells slots) (hx : p.tables.exec = Jvm.exec) {x y : Int64} {z : Int32} (hd : decode c.code pc = .ok (.lcmp, 1)) (hz : lcmpW x y = z) (hq : pc + 1 = q) (G : Go p e below W (T.setTop (mkF m q Ls (.int z :: St)))) : Go p e below W (T.setTop (mkF m pc Ls (.long y :: .long x :: St))) := by
  subst hq; subst hz; exact G.on fun t k' => XS.lcmp X.here hx rfl hd rfl k'
theorem g_i2l (X : Stand p l e R s m args below meth c T locs cells slots) (hx : p.tables.exec = Jvm.exec) {x : Int32} {z : Int64} (hd : decode c.code pc = .ok (.i2l, 1)) (hz : x.toInt64 = z) (hq : pc + 1 = q) (G : Go p e below W (T.setTop (mkF m q Ls (.long z :: St)))) : Go p e below W (T.setTop (mkF m pc Ls (.int x :: St))) := by
  subst hq; subst hz; exact G.on fun t k' => XS.i2l X.here hx rfl hd rfl k'
theorem g_l2i (X : Stand p l e R s m args below meth c T locs cells slots) (hx : p.tables.exec = Jvm.exec) {x : Int64} {z : Int32} (hd : decode c.code pc = .ok (.l2i, 1)) (hz : x.toInt32 = z) (hq : pc + 1 = q) (G : Go p e below W (T.setTop (mkF m q Ls (.int z :: St)))) : Go p e below W (T.setTop (mkF m pc Ls (.long x :: St))) := by
  subst hq; subst hz; exact G.on fun t k' => XS.l2i X.here hx rfl hd rfl k'
theorem g_i2b (X : Stand p l e R s m args below meth c T locs cells slots) (hx : p.tables.exec = Jvm.exec) {x : Int32} {z : Int32} (hd : decode c.code pc = .ok (.i2b, 1)) (hz : x.toInt8.toInt32 = z) (hq : pc + 1 = q) (G : Go p e below W (T.setTop (mkF m q Ls (.int z :: St)))) : Go p e below W (T.setTop (mkF m pc Ls (.int x :: St))) := by
  subst hq; subst hz; exact G.on fun t k' => XS.i2b X.here hx rfl hd rfl k'
theorem g_i2c (X : Stand p l e R s m args below meth c T locs cells slots) (hx : p.tables.exec = Jvm.exec) {x : Int32} {z : Int32} (hd : decode c.code pc = .ok (.i2c, 1)) (hz : x.toUInt32.toUInt16.toUInt32.toInt32 = z) (hq : pc + 1 = q) (G : Go p e below W (T.setTop (mkF m q Ls (.int z :: St)))) : Go p e below W (T.setTop (mkF m pc Ls (.int x :: St))) := by
  subst hq; subst hz; exact G.on fun t k' => XS.i2c X.here hx rfl hd rfl k'
theorem g_ineg (X : Stand p l e R s m args below meth c T locs cells slots) (hx : p.tables.exec = Jvm.exec) {x : Int32} {z : Int32} (hd : decode c.code pc = .ok (.ineg, 1)) (hz : -x = z) (hq : pc + 1 = q) (G : Go p e below W (T.setTop (mkF m q Ls (.int z :: St)))) : Go p e below W (T.setTop (mkF m pc Ls (.int x :: St))) := by
  subst hq; subst hz; exact G.on fun t k' => XS.ineg X.here hx rfl hd rfl k'
theorem g_dup (X : Stand p l e R s m args below meth c T locs cells slots) (hx : p.tables.exec = Jvm.exec) {x : Value} (hd : decode c.code pc = .ok (.dup, 1)) (hc : x.category = 1) (hq : pc + 1 = q) (G : Go p e below W (T.setTop (mkF m q Ls (x :: x :: St)))) : Go p e below W (T.setTop (mkF m pc Ls (x :: St))) := by
  subst hq; exact G.on fun t k' => XS.dup X.here hx rfl hd rfl hc k'
theorem g_pop (X : Stand p l e R s m args below meth c T locs cells slots) (hx : p.tables.exec = Jvm.exec) {x : Value} (hd : decode c.code pc = .ok (.pop, 1)) (hc : x.category = 1) (hq : pc + 1 = q) (G : Go p e below W (T.setTop (mkF m q Ls St))) : Go p e below W (T.setTop (mkF m pc Ls (x :: St))) := by
  subst hq; exact G.on fun t k' => XS.pop X.here hx rfl hd rfl hc k'
theorem g_dup_x1 (X : Stand p l e R s m args below meth c T locs cells slots) (hx : p.tables.exec = Jvm.exec) {x y : Value} (hd : decode c.code pc = .ok (.dup_x1, 1)) (hc : x.category = 1) (hc2 : y.category = 1) (hq : pc + 1 = q) (G : Go p e below W (T.setTop (mkF m q Ls (x :: y :: x :: St)))) : Go p e below W (T.setTop (mkF m pc Ls (x :: y :: St))) := by
  subst hq; exact G.on fun t k' => XS.dupX1 X.here hx rfl hd rfl hc hc2 k'
theorem g_iinc (X : Stand p l e R s m args below meth c T locs cells slots) (hx : p.tables.exec = Jvm.exec) {k : Nat} {cst : Int} {x z : Int32} {L' : Array Slot} (hd : decode c.code pc = .ok (.iinc k cst, 3)) (hl : Ls[k]? = some (.val (.int x))) (hz : x + Int32.ofInt cst = z) (hl' : storeLocals Ls k (.int z) = some L') (hq : pc + 3 = q) (G : Go p e below W (T.setTop (mkF m q L' St))) : Go p e below W (T.setTop (mkF m pc Ls St)) := by
  subst hq; subst hz; exact G.on fun t k' => XS.iinc X.here hx rfl hd hl hl' k'
theorem g_goto (X : Stand p l e R s m args below meth c T locs cells slots) (hx : p.tables.exec = Jvm.exec) {o : Int} (hd : decode c.code pc = .ok (.goto o, 3)) (ho : 0 ≤ (pc : Int) + o) (hq : ((pc : Int) + o).toNat = q) (G : Go p e below W (T.setTop (mkF m q Ls St))) : Go p e below W (T.setTop (mkF m pc Ls St)) :=
  G.on fun t k' => XS.goto X.here hx rfl rfl hd ho hq k'
end Plain
section Branches
variable {q2 : Nat}
theorem g_icmp (X : Stand p l e R s m args below meth c T locs cells slots) (hx : p.tables.exec = Jvm.exec) {cd : ClassFile.Cond} {x y : Int32} {o : Int} (hd : decode c.code pc = .ok (.if_icmp cd o, 3)) (ho : 0 ≤ (pc : Int) + o) (hq : ((pc : Int) + o).toNat = q) (hq2 : pc + 3 = q2)
    (Gy : if_icmp.holds cd x y = true → Go p e below W (T.setTop (mkF m q Ls St))) (Gn : if_icmp.holds cd x y = false → Go p e below W (T.setTop (mkF m q2 Ls St))) : Go p e below W (T.setTop (mkF m pc Ls (.int y :: .int x :: St))) := by
  subst hq2
  cases hc : if_icmp.holds cd x y with
  | true => exact (Gy hc).on fun t k => XS.icmpYes X.here hx rfl rfl hd rfl hc ho hq k
  | false => exact (Gn hc).on fun t k => XS.icmpNo X.here hx rfl hd rfl hc k
theorem g_if0 (X : Stand p l e R s m args below meth c T locs cells slots) (hx : p.tables.exec = Jvm.exec) {cd : ClassFile.Cond} {x : Int32} {o : Int} (hd : decode c.code pc = .ok (.ifCond cd o, 3)) (ho : 0 ≤ (pc : Int) + o) (hq : ((pc : Int) + o).toNat = q) (hq2 : pc + 3 = q2)
    (Gy : if_icmp.holds cd x 0 = true → Go p e below W (T.setTop (mkF m q Ls St))) (Gn : if_icmp.holds cd x 0 = false → Go p e below W (T.setTop (mkF m q2 Ls St))) : Go p e below W (T.setTop (mkF m pc Ls (.int x :: St))) := by
  subst hq2
  cases hc : if_icmp.holds cd x 0 with
  | true => exact (Gy hc).on fun t k => XS.ifYes X.here hx rfl rfl hd rfl ((if0 _ _).trans hc) ho hq k
  | false => exact (Gn hc).on fun t k => XS.ifNo X.here hx rfl hd rfl ((if0 _ _).trans hc) k
theorem g_icmp_eq (X : Stand p l e R s m args below meth c T locs cells slots) (hx : p.tables.exec = Jvm.exec) {x y : Int32} {o : Int} (hd : decode c.code pc = .ok (.if_icmp .eq o, 3)) (ho : 0 ≤ (pc : Int) + o) (hq : ((pc : Int) + o).toNat = q) (hq2 : pc + 3 = q2) (Gy : x = y → Go p e below W (T.setTop (mkF m q Ls St))) (Gn : ¬ x = y → Go p e below W (T.setTop (mkF m q2 Ls St))) : Go p e below W (T.setTop (mkF m pc Ls (.int y :: .int x :: St))) :=
  g_icmp X hx hd ho hq hq2 (fun h => Gy (by simpa [if_icmp.holds] using h)) (fun h => Gn (by simpa [if_icmp.holds] using h))
theorem g_if_eq (X : Stand p l e R s m args below meth c T locs cells slots) (hx : p.tables.exec = Jvm.exec) {x : Int32} {o : Int} (hd : decode c.code pc = .ok (.ifCond .eq o, 3)) (ho : 0 ≤ (pc : Int) + o) (hq : ((pc : Int) + o).toNat = q) (hq2 : pc + 3 = q2) (Gy : x = (0 : Int32) → Go p e below W (T.setTop (mkF m q Ls St))) (Gn : ¬ x = (0 : Int32) → Go p e below W (T.setTop (mkF m q2 Ls St))) : Go p e below W (T.setTop (mkF m pc Ls (.int x :: St))) :=
  g_if0 X hx hd ho hq hq2 (fun h => Gy (by simpa [if_icmp.holds] using h)) (fun h => Gn (by simpa [if_icmp.holds] using h))
theorem g_icmp_ne (X : Stand p l e R s m args below meth c T locs cells slots) (hx : p.tables.exec = Jvm.exec) {x y : Int32} {o : Int} (hd : decode c.code pc = .ok (.if_icmp .ne o, 3)) (ho : 0 ≤ (pc : Int) + o) (hq : ((pc : Int) + o).toNat = q) (hq2 : pc + 3 = q2) (Gy : ¬ x = y → Go p e below W (T.setTop (mkF m q Ls St))) (Gn : x = y → Go p e below W (T.setTop (mkF m q2 Ls St))) : Go p e below W (T.setTop (mkF m pc Ls (.int y :: .int x :: St))) :=
  g_icmp X hx hd ho hq hq2 (fun h => Gy (by simpa [if_icmp.holds] using h)) (fun h => Gn (by simpa [if_icmp.holds] using h))
theorem g_if_ne (X : Stand p l e R s m args below meth c T locs cells slots) (hx : p.tables.exec = Jvm.exec) {x : Int32} {o : Int} (hd : decode c.code pc = .ok (.ifCond .ne o, 3)) (ho : 0 ≤ (pc : Int) + o) (hq : ((pc : Int) + o).toNat = q) (hq2 : pc + 3 = q2) (Gy : ¬ x = (0 : Int32) → Go p e below W (T.setTop (mkF m q Ls St))) (Gn : x = (0 : Int32) → Go p e below W (T.setTop (mkF m q2 Ls St))) : Go p e below W (T.setTop (mkF m pc Ls (.int x :: St))) :=
  g_if0 X hx hd ho hq hq2 (fun h => Gy (by simpa [if_icmp.holds] using h)) (fun h => Gn (by simpa [if_icmp.holds] using h))
theorem g_icmp_lt (X : Stand p l e R s m args below meth c T locs cells slots) (hx : p.tables.exec = Jvm.exec) {x y : Int32} {o : Int} (hd : decode c.code pc = .ok (.if_icmp .lt o, 3)) (ho : 0 ≤ (pc : Int) + o) (hq : ((pc : Int) + o).toNat = q) (hq2 : pc + 3 = q2) (Gy : x < y → Go p e below W (T.setTop (mkF m q Ls St))) (Gn : ¬ x < y → Go p e below W (T.setTop (mkF m q2 Ls St))) : Go p e below W (T.setTop (mkF m pc Ls (.int y :: .int x :: St))) :=
  g_icmp X hx hd ho hq hq2 (fun h => Gy (by simpa [if_icmp.holds] using h)) (fun h => Gn (by simpa [if_icmp.holds] using h))
theorem g_if_lt (X : Stand p l e R s m args below meth c T locs cells slots) (hx : p.tables.exec = Jvm.exec) {x : Int32} {o : Int} (hd : decode c.code pc = .ok (.ifCond .lt o, 3)) (ho : 0 ≤ (pc : Int) + o) (hq : ((pc : Int) + o).toNat = q) (hq2 : pc + 3 = q2) (Gy : x < (0 : Int32) → Go p e below W (T.setTop (mkF m q Ls St))) (Gn : ¬ x < (0 : Int32) → Go p e below W (T.setTop (mkF m q2 Ls St))) : Go p e below W (T.setTop (mkF m pc Ls (.int x :: St))) :=
  g_if0 X hx hd ho hq hq2 (fun h => Gy (by simpa [if_icmp.holds] using h)) (fun h => Gn (by simpa [if_icmp.holds] using h))
theorem g_icmp_ge (X : Stand p l e R s m args below meth c T locs cells slots) (hx : p.tables.exec = Jvm.exec) {x y : Int32} {o : Int} (hd : decode c.code pc = .ok (.if_icmp .ge o, 3)) (ho : 0 ≤ (pc : Int) + o) (hq : ((pc : Int) + o).toNat = q) (hq2 : pc + 3 = q2) (Gy : ¬ x < y → Go p e below W (T.setTop (mkF m q Ls St))) (Gn : x < y → Go p e below W (T.setTop (mkF m q2 Ls St))) : Go p e below W (T.setTop (mkF m pc Ls (.int y :: .int x :: St))) :=
  g_icmp X hx hd ho hq hq2 (fun h => Gy (by simpa [if_icmp.holds] using h)) (fun h => Gn (by simpa [if_icmp.holds] using h))
theorem g_if_ge (X : Stand p l e R s m args below meth c T locs cells slots) (hx : p.tables.exec = Jvm.exec) {x : Int32} {o : Int} (hd : decode c.code pc = .ok (.ifCond .ge o, 3)) (ho : 0 ≤ (pc : Int) + o) (hq : ((pc : Int) + o).toNat = q) (hq2 : pc + 3 = q2) (Gy : ¬ x < (0 : Int32) → Go p e below W (T.setTop (mkF m q Ls St))) (Gn : x < (0 : Int32) → Go p e below W (T.setTop (mkF m q2 Ls St))) : Go p e below W (T.setTop (mkF m pc Ls (.int x :: St))) :=
  g_if0 X hx hd ho hq hq2 (fun h => Gy (by simpa [if_icmp.holds] using h)) (fun h => Gn (by simpa [if_icmp.holds] using h))
theorem g_icmp_gt (X : Stand p l e R s m args below meth c T locs cells slots) (hx : p.tables.exec = Jvm.exec) {x y : Int32} {o : Int} (hd : decode c.code pc = .ok (.if_icmp .gt o, 3)) (ho : 0 ≤ (pc : Int) + o) (hq : ((pc : Int) + o).toNat = q) (hq2 : pc + 3 = q2) (Gy : y < x → Go p e below W (T.setTop (mkF m q Ls St))) (Gn : ¬ y < x → Go p e below W (T.setTop (mkF m q2 Ls St))) : Go p e below W (T.setTop (mkF m pc Ls (.int y :: .int x :: St))) :=
  g_icmp X hx hd ho hq hq2 (fun h => Gy (by simpa [if_icmp.holds] using h)) (fun h => Gn (by simpa [if_icmp.holds] using h))
theorem g_if_gt (X : Stand p l e R s m args below meth c T locs cells slots) (hx : p.tables.exec = Jvm.exec) {x : Int32} {o : Int} (hd : decode c.code pc = .ok (.ifCond .gt o, 3)) (ho : 0 ≤ (pc : Int) + o) (hq : ((pc : Int) + o).toNat = q) (hq2 : pc + 3 = q2) (Gy : (0 : Int32) < x → Go p e below W (T.setTop (mkF m q Ls St))) (Gn : ¬ (0 : Int32) < x → Go p e below W (T.setTop (mkF m q2 Ls St))) : Go p e below W (T.setTop (mkF m pc Ls (.int x :: St))) :=
  g_if0 X hx hd ho hq hq2 (fun h => Gy (by simpa [if_icmp.holds] using h)) (fun h => Gn (by simpa [if_icmp.holds] using h))
theorem g_icmp_le (X : Stand p l e R s m args below meth c T locs cells slots) (hx : p.tables.exec = Jvm.exec) {x y : Int32} {o : Int} (hd : decode c.code pc = .ok (.if_icmp .le o, 3)) (ho : 0 ≤ (pc : Int) + o) (hq : ((pc : Int) + o).toNat = q) (hq2 : pc + 3 = q2) (Gy : ¬ y < x → Go p e below W (T.setTop (mkF m q Ls St))) (Gn : y < x → Go p e below W (T.setTop (mkF m q2 Ls St))) : Go p e below W (T.setTop (mkF m pc Ls (.int y :: .int x :: St))) :=
  g_icmp X hx hd ho hq hq2 (fun h => Gy (by simpa [if_icmp.holds] using h)) (fun h => Gn (by simpa [if_icmp.holds] using h))
theorem g_if_le (X : Stand p l e R s m args below meth c T locs cells slots) (hx : p.tables.exec = Jvm.exec) {x : Int32} {o : Int} (hd : decode c.code pc = .ok (.ifCond .le o, 3)) (ho : 0 ≤ (pc : Int) + o) (hq : ((pc : Int) + o).toNat = q) (hq2 : pc + 3 = q2) (Gy : ¬ (0 : Int32) < x → Go p e below W (T.setTop (mkF m q Ls St))) (Gn : (0 : Int32) < x → Go p e below W (T.setTop (mkF m q2 Ls St))) : Go p e below W (T.setTop (mkF m pc Ls (.int x :: St))) :=
  g_if0 X hx hd ho hq hq2 (fun h => Gy (by simpa [if_icmp.holds] using h)) (fun h => Gn (by simpa [if_icmp.holds] using h))
theorem g_acmpEq (X : Stand p l e R s m args below meth c T locs cells slots) (hx : p.tables.exec = Jvm.exec) {x y : Value} (h1 : x.isRef = true) (h2 : y.isRef = true) {o : Int} (hd : decode c.code pc = .ok (.if_acmp .eq o, 3)) (ho : 0 ≤ (pc : Int) + o) (hq : ((pc : Int) + o).toNat = q) (hq2 : pc + 3 = q2)
    (Gy : x = y → Go p e below W (T.setTop (mkF m q Ls St))) (Gn : ¬ x = y → Go p e below W (T.setTop (mkF m q2 Ls St))) : Go p e below W (T.setTop (mkF m pc Ls (y :: x :: St))) := by
  by_cases hc : x = y
  · exact (Gy hc).on fun t k => Jvm.RoadKit.acmp X hx rfl h1 h2 (pc0 := pc) (same := true) rfl hd rfl (decide_eq_true hc) ho (by simp [acV, hq]) k
  · exact (Gn hc).on fun t k => Jvm.RoadKit.acmp X hx rfl h1 h2 (pc0 := pc) (same := false) rfl hd rfl (decide_eq_false hc) ho (by simp [acV, hq2]) k
theorem g_acmpNe (X : Stand p l e R s m args below meth c T locs cells slots) (hx : p.tables.exec = Jvm.exec) {x y : Value} (h1 : x.isRef = true) (h2 : y.isRef = true) {o : Int} (hd : decode c.code pc = .ok (.if_acmp .ne o, 3)) (ho : 0 ≤ (pc : Int) + o) (hq : ((pc : Int) + o).toNat = q) (hq2 : pc + 3 = q2)
    (Gy : ¬ x = y → Go p e below W (T.setTop (mkF m q Ls St))) (Gn : x = y → Go p e below W (T.setTop (mkF m q2 Ls St))) : Go p e below W (T.setTop (mkF m pc Ls (y :: x :: St))) := by
  by_cases hc : x = y
  · exact (Gn hc).on fun t k => Jvm.RoadKit.acmp X hx rfl h1 h2 (pc0 := pc) (same := true) rfl hd rfl (decide_eq_true hc) ho (by simp [acV, hq2]) k
  · exact (Gy hc).on fun t k => Jvm.RoadKit.acmp X hx rfl h1 h2 (pc0 := pc) (same := false) rfl hd rfl (decide_eq_false hc) ho (by simp [acV, hq]) k
theorem g_ifnullY (X : Stand p l e R s m args below meth c T locs cells slots) (hx : p.tables.exec = Jvm.exec) {o : Int} (hd : decode c.code pc = .ok (.ifnull o, 3)) (ho : 0 ≤ (pc : Int) + o) (hq : ((pc : Int) + o).toNat = q) (G : Go p e below W (T.setTop (mkF m q Ls St))) : Go p e below W (T.setTop (mkF m pc Ls (.null :: St))) :=
  G.on fun t k => XS.ifnullYes X.here hx rfl rfl hd rfl ho hq k
theorem g_ifnullN (X : Stand p l e R s m args below meth c T locs cells slots) (hx : p.tables.exec = Jvm.exec) {o : Int} {b : Addr} (hd : decode c.code pc = .ok (.ifnull o, 3)) (hq : pc + 3 = q) (G : Go p e below W (T.setTop (mkF m q Ls St))) : Go p e below W (T.setTop (mkF m pc Ls (.ref b :: St))) := by
  subst hq; exact G.on fun t k => XS.ifnullNo X.here hx rfl hd rfl k
theorem g_ifnonnullN (X : Stand p l e R s m args below meth c T locs cells slots) (hx : p.tables.exec = Jvm.exec) {o : Int} (hd : decode c.code pc = .ok (.ifnonnull o, 3)) (hq : pc + 3 = q) (G : Go p e below W (T.setTop (mkF m q Ls St))) : Go p e below W (T.setTop (mkF m pc Ls (.null :: St))) := by
  subst hq; exact G.on fun t k => XS.ifnonnullNo X.here hx rfl hd rfl k
theorem g_ifnonnullY (X : Stand p l e R s m args below meth c T locs cells slots) (hx : p.tables.exec = Jvm.exec) {o : Int} {b : Addr} (hd : decode c.code pc = .ok (.ifnonnull o, 3)) (ho : 0 ≤ (pc : Int) + o) (hq : ((pc : Int) + o).toNat = q) (G : Go p e below W (T.setTop (mkF m q Ls St))) : Go p e below W (T.setTop (mkF m pc Ls (.ref b :: St))) :=
  G.on fun t k => XS.ifnonnullYes X.here hx rfl rfl hd rfl ho hq k
end Branches
section HeapSteps
theorem g_ldcI (X : Stand p l e R s m args below meth c T locs cells slots) (hx : p.tables.exec = Jvm.exec) (hZ : Z.Warmed39 s.vm) {own : String} {index : Nat} {v : Int32} (hown : s.vm.findClass own = some m.cls) (w : (Jvm.Cond.constant own index v).before a0 Z = true) (hd : decode c.code pc = .ok (.ldc index, 2)) (hq : pc + 2 = q)
    (G : Go p e below W (T.setTop (mkF m q Ls (.int v :: St)))) : Go p e below W (T.setTop (mkF m pc Ls St)) := by
  subst hq; exact G.on fun t k => X.ldcInt hx hown (mvT hZ w) (g := mkF m pc Ls St) rfl hd t k
theorem g_ldcJ (X : Stand p l e R s m args below meth c T locs cells slots) (hx : p.tables.exec = Jvm.exec) (hZ : Z.Warmed39 s.vm) {own : String} {index : Nat} {v : Int64} (hown : s.vm.findClass own = some m.cls) (w : (Jvm.Cond.constantLong own index v).before a0 Z = true) (hd : decode c.code pc = .ok (.ldc2_w index, 3)) (hq : pc + 3 = q)
    (G : Go p e below W (T.setTop (mkF m q Ls (.long v :: St)))) : Go p e below W (T.setTop (mkF m pc Ls St)) := by
  subst hq; exact G.on fun t k => X.ldc2Long hx hown (mvT hZ w) (g := mkF m pc Ls St) rfl hd t k
theorem g_getF (X : Stand p l e R s m args below meth c T locs cells slots) (hx : p.tables.exec = Jvm.exec) (hZ : Z.Warmed39 s.vm) {own R0 O n d : String} {index : Nat} (hown : s.vm.findClass own = some m.cls) (w : (Jvm.Cond.fieldLink own index R0 n d).before a0 Z = true) (via : Via Z R0 O n d)
    (eT : T.heap = h) {a : Addr} {v : Value} (F : Fld Z h a O n d v) (hd : decode c.code pc = .ok (.getfield index, 3)) (hq : pc + 3 = q)
    (G : ∀ T', Stand p l e R s m args below meth c T' locs cells slots → T'.heap = h → Go p e below W (T'.setTop (mkF m q Ls (v :: St)))) : Go p e below W (T.setTop (mkF m pc Ls (.ref a :: St))) := by
  subst hq
  obtain ⟨T', X', e', st⟩ := getF X hx hZ hown (host := "") (Or.inl w) via eT F (g := mkF m pc Ls (.ref a :: St)) rfl rfl hd
  exact (G T' X' e').on st
theorem g_getS (X : Stand p l e R s m args below meth c T locs cells slots) (hx : p.tables.exec = Jvm.exec) (hZ : Z.Warmed39 s.vm) {own R0 O n d : String} {index : Nat} (hown : s.vm.findClass own = some m.cls) (w : (Jvm.Cond.fieldLink own index R0 n d).before a0 Z = true) (via : Via Z R0 O n d)
    (eT : T.heap = h) {v : Value} (F : Sta Z h O n d v) (hd : decode c.code pc = .ok (.getstatic index, 3)) (hq : pc + 3 = q)
    (G : ∀ T', Stand p l e R s m args below meth c T' locs cells slots → T'.heap = h → Go p e below W (T'.setTop (mkF m q Ls (v :: St)))) : Go p e below W (T.setTop (mkF m pc Ls St)) := by
  subst hq
  obtain ⟨T', X', e', st⟩ := getS2 X hx hZ hown (host := "") (Or.inl w) via eT F (g := mkF m pc Ls St) rfl hd
  exact (G T' X' e').on st
theorem g_putF (X : Stand p l e R s m args below meth c T locs cells slots) (hx : p.tables.exec = Jvm.exec) (hZ : Z.Warmed39 s.vm) {own R0 O n d C : String} {index kk : Nat} {ty : FieldType} (hown : s.vm.findClass own = some m.cls) (w : (Jvm.Cond.fieldLink own index R0 n d).before a0 Z = true) (via : Via Z R0 O n d)
    (eT : T.heap = h) {a : Addr} {v old : Value} (F : Fld Z h a O n d old) (E : Exa Z h a C) (L : (Jvm.Cond.lays C O n d).before a0 Z = true ∨ ((Jvm.Cond.laysFinal C O n d).before a0 Z = true ∧ own = O ∧ meth.name = "<init>")) (wi : (Jvm.Cond.instantiable C kk).before a0 Z = true)
    (hty : parseFieldDescriptor d = some ty) (hn : narrow ty v = v) (hf : fits ty v = true) (hd : decode c.code pc = .ok (.putfield index, 3)) (hq : pc + 3 = q)
    (G : ∀ T' h', Stand p l e R s m args below meth c T' (locs ++ [⟨a, Jvm.RoadKit.slotOf Z O n d⟩]) cells slots → T'.heap = h' → Wr h h' a (Jvm.RoadKit.slotOf Z O n d) v → Go p e below W (T'.setTop (mkF m q Ls St))) : Go p e below W (T.setTop (mkF m pc Ls (v :: .ref a :: St))) := by
  subst hq
  obtain ⟨T', h', X', e', W', st⟩ := putF X hx hZ hown (host := "") (Or.inl w) via eT F E L wi hty hn hf (g := mkF m pc Ls (v :: .ref a :: St)) rfl rfl hd
  exact (G T' h' X' e' W').on st
theorem g_new (X : Stand p l e R s m args below meth c T locs cells slots) (hx : p.tables.exec = Jvm.exec) (hZ : Z.Warmed39 s.vm) {own C : String} {index n : Nat} (hown : s.vm.findClass own = some m.cls) (w : (Jvm.Cond.classLink own index C).before a0 Z = true) (wi : (Jvm.Cond.instantiable C n).before a0 Z = true) (wz : (Jvm.Cond.initialized C).before a0 Z = true) (eT : T.heap = h)
    (hd : decode c.code pc = .ok (.new index, 3)) (hc : cells + 1 ≤ R.cells) (hl : slots + n ≤ R.slots) (hq : pc + 3 = q)
    (G : ∀ T' h' b, b = h.size → Stand p l e R s m args below meth c T' locs (cells + 1) (slots + n) → T'.heap = h' → Ext h h' → Exa Z h' b C → (∀ {O nm d : String} {ty : FieldType}, Laid Z a0 C O nm d → parseFieldDescriptor d = some ty → Fld Z h' b O nm d (defaultValue ty)) → Go p e below W (T'.setTop (mkF m q Ls (.ref b :: St)))) :
    Go p e below W (T.setTop (mkF m pc Ls St)) := by
  subst hq
  obtain ⟨T', h', X', e', E', A', D', -, st⟩ := newO X hx hZ hown w wi wz eT (g := mkF m pc Ls St) rfl hd hc hl
  exact (G T' h' _ rfl X' e' E' A' D').on st
theorem g_newP (X : Stand p l e R s m args below meth c T locs cells slots) (hx : p.tables.exec = Jvm.exec) (hZ : Z.Warmed39 s.vm) {aty : ArrayType} (w : (Jvm.Cond.arrayClass (newarray.typeOf aty)).before a0 Z = true) (eT : T.heap = h) (hd : decode c.code pc = .ok (.newarray aty, 2)) {n : Int32} (hn : ¬ n < 0) {cap : Nat} (hcap : n.toNatClampNeg ≤ cap) (hb : cap * 8 ≤ 536870912) (hc : cells + 1 ≤ R.cells) (hl : slots + cap ≤ R.slots) (hq : pc + 2 = q)
    (G : ∀ T' h' cA b, b = h.size → Stand p l e R s m args below meth c T' locs (cells + 1) (slots + cap) → T'.heap = h' → Ext h h' → Arr Z h' b (newA cA (newarray.typeOf aty) n) (newarray.typeOf aty) → Go p e below W (T'.setTop (mkF m q Ls (.ref b :: St)))) :
    Go p e below W (T.setTop (mkF m pc Ls (.int n :: St))) := by
  subst hq
  obtain ⟨T', h', cA, X', e', E', A', st⟩ := newP X hx hZ w eT (g := mkF m pc Ls (.int n :: St)) rfl hd rfl hn hcap hb hc hl
  exact (G T' h' cA _ rfl X' e' E' A').on st
theorem g_initO (X : Stand p l e R s m args below meth c T locs cells slots) (hx : p.tables.exec = Jvm.exec) (hZ : Z.Warmed39 s.vm) {own : String} {idx : Nat} (hown : s.vm.findClass own = some m.cls) (w1 : (Jvm.Cond.methodLink own idx Lib.objectInit).before a0 Z = true) (w2 : (Jvm.Cond.instanceMethod Lib.objectInit).before a0 Z = true)
    (w3 : (Jvm.Cond.code Lib.objectInit ⟨#[0xb1]⟩ 1 none).before a0 Z = true) (eT : T.heap = h) (hsz : Ls.size = c.maxLocals) {a : Addr} (hd : decode c.code pc = .ok (.invokespecial idx, 3)) (hf : 1 ≤ R.frames) (hl : (St.map fun v => v.category).sum + 12 ≤ R.locals) (hq : pc + 3 = q)
    (G : ∀ T', Stand p l e R s m args below meth c T' locs cells slots → T'.heap = h → Go p e below W (T'.setTop (mkF m q Ls St))) : Go p e below W (T.setTop (mkF m pc Ls (.ref a :: St))) := by
  subst hq
  obtain ⟨T', X', e', st⟩ := initO X hx hZ hown w1 w2 w3 eT (g := mkF m pc Ls (.ref a :: St)) rfl hsz rfl hd hf (W := (St.map fun v => v.category).sum) (by simp) hl
  exact (G T' X' e').on st
end HeapSteps
section Calls
variable {y z : MethodName} {bytes : ByteArray} {ml : Nat} {ret r : Option FieldType} {rm : Room} {as' : Array Value} {Q : Option Value → Heap → List Loc → Prop} {own C : String} {index : Nat} {ps : List FieldType}
theorem g_pure {V : Option Value} {rest : List Value} (h1 : rm.cells = 0) (h2 : rm.slots = 0) (G : ∀ T', Stand p l e R s m args below meth c T' locs cells slots → T'.heap = h → Go p e below W (T'.setTop (mkF m q Ls (V.toList ++ rest)))) :
    ∀ v T' L, Stand p l e R s m args below meth c T' (locs ++ L) (cells + rm.cells) (slots + rm.slots) → Pur V h v T'.heap L → Go p e below W (T'.setTop (mkF m q Ls (v.toList ++ rest))) := by
  intro v T' L X' hQ
  obtain ⟨rfl, rfl, e'⟩ := hQ
  rw [h1, h2, List.append_nil] at X'
  exact G T' X' e'
theorem g_callS (X : Stand p l e R s m args below meth c T locs cells slots) (hx : p.tables.exec = Jvm.exec) (hZ : Z.Warmed39 s.vm) (hown : s.vm.findClass own = some m.cls) (w1 : (Jvm.Cond.methodLink own index y).before a0 Z = true) (w2 : (Jvm.Cond.static y).before a0 Z = true) (w3 : (Jvm.Cond.initialized y.cls).before a0 Z = true) (w4 : (Jvm.Cond.code y bytes ml ret).before a0 Z = true)
    (hy : y.cls ≠ "java/lang/invoke/MethodHandle" ∧ y.cls ≠ "java/lang/invoke/VarHandle") (eT : T.heap = h) (hM : Con l Z h y bytes ml ret rm as' Q) (hsz : Ls.size = c.maxLocals) {argsL rest : List Value} (hst : St = argsL.reverse ++ rest) (has : argsL.toArray = as') (hpd : parseMethodDescriptor y.desc = some ⟨ps, r⟩) (hln : argsL.length = ps.length)
    (hf : rm.frames + 1 ≤ R.frames) (hl : (rest.map fun v => v.category).sum + (ml + 11) + rm.locals ≤ R.locals) (hc : cells + rm.cells ≤ R.cells) (hs : slots + rm.slots ≤ R.slots) (hd : decode c.code pc = .ok (.invokestatic index, 3)) (hq : pc + 3 = q)
    (G : ∀ v T' L, Stand p l e R s m args below meth c T' (locs ++ L) (cells + rm.cells) (slots + rm.slots) → Q v T'.heap L → Go p e below W (T'.setTop (mkF m q Ls (v.toList ++ rest)))) : Go p e below W (T.setTop (mkF m pc Ls St)) := by
  subst hq has
  obtain ⟨v, _, ⟨T', L', k', n'⟩, -, X', ⟨L, hQ, l', y', z'⟩, st⟩ := Jvm.LawKit.callS X hx hown (mvT hZ w1) (mvT hZ w2) (mvT hZ w3) (mvT hZ w4) hy (backOf (W := (rest.map fun v => v.category).sum) (hM []) hZ w4 w3 hf hl) (g := mkF m pc Ls St) rfl hsz (argsL := argsL) (rest := rest) (lenOf hpd hln) hst (by simp) hd (fun _ _ => ⟨rfl, eT, hc, hs⟩)
  dsimp only [Pt.U, Pt.locs, Pt.cells, Pt.slots] at X' l' y' z' st hQ
  subst l' y' z'
  exact (G v T' L X' hQ).on st
theorem g_callV (X : Stand p l e R s m args below meth c T locs cells slots) (hx : p.tables.exec = Jvm.exec) (hZ : Z.Warmed39 s.vm) (hown : s.vm.findClass own = some m.cls) (w1 : (Jvm.Cond.methodLink own index y).before a0 Z = true) (w2 : (Jvm.Cond.declares y).before a0 Z = true) (w3 : (Jvm.Cond.selects C y z).before a0 Z = true) (w4 : (Jvm.Cond.instanceMethod z).before a0 Z = true) (w5 : (Jvm.Cond.code z bytes ml ret).before a0 Z = true) (w6 : (Jvm.Cond.initialized z.cls).before a0 Z = true)
    (hnf : NotFace s y) (hy : y.cls ≠ "java/lang/invoke/MethodHandle" ∧ y.cls ≠ "java/lang/invoke/VarHandle") (eT : T.heap = h) {b : Addr} (E : Exa Z h b C) (hM : Con l Z h z bytes ml ret rm as' Q) (hsz : Ls.size = c.maxLocals) {argsL rest : List Value} (hst : St = argsL.reverse ++ .ref b :: rest) (has : (Value.ref b :: argsL).toArray = as') (hpd : parseMethodDescriptor y.desc = some ⟨ps, r⟩) (hln : argsL.length = ps.length)
    (hf : rm.frames + 1 ≤ R.frames) (hl : (rest.map fun v => v.category).sum + (ml + 11) + rm.locals ≤ R.locals) (hc : cells + rm.cells ≤ R.cells) (hs : slots + rm.slots ≤ R.slots) (hd : decode c.code pc = .ok (.invokevirtual index, 3)) (hq : pc + 3 = q)
    (G : ∀ v T' L, Stand p l e R s m args below meth c T' (locs ++ L) (cells + rm.cells) (slots + rm.slots) → Q v T'.heap L → Go p e below W (T'.setTop (mkF m q Ls (v.toList ++ rest)))) : Go p e below W (T.setTop (mkF m pc Ls St)) := by
  subst hq has
  obtain ⟨cq, kq, qa, qb, qc⟩ := isOf hZ eT E
  obtain ⟨v, _, ⟨T', L', k', n'⟩, -, X', ⟨L, hQ, l', y', z'⟩, st⟩ := X.virtualBack hx hown (mvT hZ w1) (mvT hZ w2) hnf (mvT hZ w3) (mvT hZ w4) hy (backOf (W := (rest.map fun v => v.category).sum) (hM []) hZ w5 w6 hf hl) qa qc (g := mkF m pc Ls St) rfl hsz (Steps.refl _) (argsL := argsL) (rest := rest) (lenOf hpd hln) hst (by simp) hd (fun _ _ => ⟨rfl, eT, hc, hs⟩)
  dsimp only [Pt.U, Pt.locs, Pt.cells, Pt.slots] at X' l' y' z' st hQ
  subst l' y' z'
  exact (G v T' L X' hQ).on fun t k => st.trans k
theorem g_callI (X : Stand p l e R s m args below meth c T locs cells slots) (hx : p.tables.exec = Jvm.exec) (hZ : Z.Warmed39 s.vm) (hown : s.vm.findClass own = some m.cls) (hnm : y.name = "<init>") (w1 : (Jvm.Cond.methodLink own index y).before a0 Z = true) (w2 : (Jvm.Cond.instanceMethod y).before a0 Z = true) (w3 : (Jvm.Cond.code y bytes ml none).before a0 Z = true) (w4 : (Jvm.Cond.initialized y.cls).before a0 Z = true)
    (hy : y.cls ≠ "java/lang/invoke/MethodHandle" ∧ y.cls ≠ "java/lang/invoke/VarHandle") (eT : T.heap = h) {b : Addr} (hM : Con l Z h y bytes ml none rm as' Q) (hsz : Ls.size = c.maxLocals) {argsL rest : List Value} (hst : St = argsL.reverse ++ .ref b :: rest) (has : (Value.ref b :: argsL).toArray = as') (hpd : parseMethodDescriptor y.desc = some ⟨ps, r⟩) (hln : argsL.length = ps.length)
    (hf : rm.frames + 1 ≤ R.frames) (hl : (rest.map fun v => v.category).sum + (ml + 11) + rm.locals ≤ R.locals) (hc : cells + rm.cells ≤ R.cells) (hs : slots + rm.slots ≤ R.slots) (hd : decode c.code pc = .ok (.invokespecial index, 3)) (hq : pc + 3 = q)
    (G : ∀ v T' L, Stand p l e R s m args below meth c T' (locs ++ L) (cells + rm.cells) (slots + rm.slots) → Q v T'.heap L → Go p e below W (T'.setTop (mkF m q Ls (v.toList ++ rest)))) : Go p e below W (T.setTop (mkF m pc Ls St)) := by
  subst hq has
  obtain ⟨v, _, ⟨T', L', k', n'⟩, -, X', ⟨L, hQ, l', y', z'⟩, st⟩ := X.specialBack hx (y := y) hnm hown (mvT hZ w1) (mvT hZ w2) (mvT hZ w3) hy (backOf (W := (rest.map fun v => v.category).sum) (hM []) hZ w3 w4 hf hl) (g := mkF m pc Ls St) rfl hsz (Steps.refl _) (a := b) (argsL := argsL) (rest := rest) (lenOf hpd hln) hst (by simp) hd (fun _ _ => ⟨rfl, eT, hc, hs⟩)
  dsimp only [Pt.U, Pt.locs, Pt.cells, Pt.slots] at X' l' y' z' st hQ
  subst l' y' z'
  exact (G v T' L X' hQ).on fun t k => st.trans k
end Calls
end OwnKit
section OwnMore
theorem own_sta_keep {Z : State} {h h' : Heap} {C n d : String} {w : Value} {ws : List Addr} (F : Sta Z h C n d w) (K : Keep h h' ws) (hn : ∀ x ∈ ws, ∀ cell : Cell, h[x]? = some cell → cell.vm.isStatics = false) : Sta Z h' C n d w := by
  obtain ⟨cf, i, k, f, st, cell, h1, h2, h3, h4, h5, h6, h7⟩ := F
  exact ⟨cf, i, k, f, st, cell, h1, h2, h3, h4, K.2.1 _ _ h5 (fun q => by rw [hn _ q _ h5] at h6; cases h6), h6, h7⟩
theorem own_cat1 {v : Value} (h : v.isRef = true) : v.category = 1 := by cases v <;> first | rfl | cases h
theorem own_nar {C : String} {v : Value} (h : v.isRef = true) : narrow (.object C) v = v := by cases v <;> first | rfl | cases h
theorem own_fit {C : String} {v : Value} (h : v.isRef = true) : fits (.object C) v = true := by cases v <;> first | rfl | cases h
theorem own_noref {a b : Addr} (h : ¬ a = b) : ¬ (Value.ref a = Value.ref b) := fun q => h (Value.ref.inj q)
end OwnMore
section OwnStart
variable {args : Array Value} {s : State}
theorem own_fldI {t : Term} {C n d : String} {k : Int32} {a : Addr} (ev : t.eval args s none [] s = some (.ref a)) (hh : (Jvm.Cond.eq (Term.field t C n d) (Term.int k)).value args s none s [] = some true) : Fld s s.heap a C n d (.int k) := by
  obtain ⟨x, y, e1, e2, k1, k2⟩ := cmp_v (Or.inl hh)
  obtain rfl : y = .int k := (Option.some.inj ((Term.int_eval k).symm.trans e2)).symm
  obtain ⟨z, rfl⟩ := k2
  have q : z = k := by simpa [Cond.value, e1, e2] using hh
  subst q
  exact Fld.start ((fld_at ev).symm.trans e1)
theorem own_fldJ {t : Term} {C n d : String} {k : Int64} {a : Addr} (ev : t.eval args s none [] s = some (.ref a)) (hh : (Jvm.Cond.eq (Term.field t C n d) (Term.long k)).value args s none s [] = some true) : Fld s s.heap a C n d (.long k) := by
  obtain ⟨x, y, e1, e2, k1, k2⟩ := cmp_v (Or.inl hh)
  obtain rfl : y = .long k := (Option.some.inj ((long_at k).symm.trans e2)).symm
  obtain ⟨z, rfl⟩ := k2
  have q : z = k := by simpa [Cond.value, e1, e2] using hh
  subst q
  exact Fld.start ((fld_at ev).symm.trans e1)
end OwnStart
theorem pd_0 : parseMethodDescriptor "(J)Z" = some ⟨[.long], some .boolean⟩ := by decide +kernel
theorem pd_1 : parseMethodDescriptor "()J" = some ⟨[], some .long⟩ := by decide +kernel
theorem pn_0 : plainName "com/example/pipe_to_people/pipetopeople/config/ESetting" = true := by first | (simp [plainName, overriddenIn]; done) | decide +kernel
theorem pn_1 : plainName "com/example/pipe_to_people/pipetopeople/config/ESettingAllowsPinLaw" = true := by first | (simp [plainName, overriddenIn]; done) | decide +kernel
theorem d1_0 : decode prog_3_method_6_code 0 = .ok (.lload_n 1, 1) := by decide +kernel
theorem d1_1 : decode prog_3_method_6_code 1 = .ok (.aload_n 0, 1) := by decide +kernel
theorem d1_2 : decode prog_3_method_6_code 2 = .ok (.getfield 49, 3) := by decide +kernel
theorem d1_5 : decode prog_3_method_6_code 5 = .ok (.lcmp, 1) := by decide +kernel
theorem d1_6 : decode prog_3_method_6_code 6 = .ok (.ifCond .lt 16, 3) := by decide +kernel
theorem d1_9 : decode prog_3_method_6_code 9 = .ok (.lload_n 1, 1) := by decide +kernel
theorem d1_10 : decode prog_3_method_6_code 10 = .ok (.aload_n 0, 1) := by decide +kernel
theorem d1_11 : decode prog_3_method_6_code 11 = .ok (.getfield 52, 3) := by decide +kernel
theorem d1_14 : decode prog_3_method_6_code 14 = .ok (.lcmp, 1) := by decide +kernel
theorem d1_15 : decode prog_3_method_6_code 15 = .ok (.ifCond .gt 7, 3) := by decide +kernel
theorem d1_18 : decode prog_3_method_6_code 18 = .ok (.iconst 1, 1) := by decide +kernel
theorem d1_19 : decode prog_3_method_6_code 19 = .ok (.goto 4, 3) := by decide +kernel
theorem d1_22 : decode prog_3_method_6_code 22 = .ok (.iconst 0, 1) := by decide +kernel
theorem d1_23 : decode prog_3_method_6_code 23 = .ok (.ireturn, 1) := by decide +kernel
set_option maxRecDepth 65536 in
set_option maxHeartbeats 40000000 in
theorem rmA (l : Launch) (Z : State) (a0 : Array Value) (hw : ∀ d ∈ tables_1, d.before a0 Z = true) (a1 : Addr) (x lo hi : Int64) (h0 : Heap) (FL : Fld Z h0 a1 "com/example/pipe_to_people/pipetopeople/config/ESetting" "m_nLowest" "J" (.long lo)) (FH : Fld Z h0 a1 "com/example/pipe_to_people/pipetopeople/config/ESetting" "m_nHighest" "J" (.long hi)) :
    Con l Z h0 (⟨"com/example/pipe_to_people/pipetopeople/config/ESetting", "allows", "(J)Z"⟩ : MethodName) prog_3_method_6_code 3 (some .boolean) ({ frames := 0, cells := 0, slots := 0, locals := 0 } : Room) #[(.ref a1), (.long x)] (Pur (some (.int (if x < lo then (0 : Int32) else if hi < x then 0 else 1))) h0) := by
  refine con_of (plainFor_of_name pn_0) (Ls := #[.val (.ref a1), .val (.long x), .second]) (fun m => by first | rfl | (simp [entryFrame, mkF, argsToLocals, Value.category]; done)) ?_
  intro p e s m below meth c s₁ hx hZ hby hml hret hlk hnm hown X0 e0
  refine g_lloadN X0 hx (hb hby d1_0) (v := x) rfl (q := 1) rfl ?_
  refine g_aloadN X0 hx (hb hby d1_1) (v := (.ref a1)) rfl rfl (q := 2) rfl ?_
  refine g_getF X0 hx hZ hown (hw _ (List.mem_of_getElem? (i := 10) rfl)) Via.refl e0 FL (hb hby d1_2) (q := 5) rfl fun T1 X1 e1 => ?_
  refine g_lcmp X1 hx (hb hby d1_5) (z := (lcmpW x lo)) rfl (q := 6) rfl ?_
  refine g_if_lt X1 hx (hb hby d1_6) (by decide) (q := 22) (by decide) (q2 := 9) rfl (fun hb6 => ?_) (fun hb6 => ?_)
  · refine g_iconst X1 hx (hb hby d1_22) (n := (0 : Int32)) (by decide) (q := 23) rfl ?_
    exact g_retB X1 hx hret hlk (hb hby d1_23) (by simp) ⟨(by rw [if_pos ((lw_lt _ _).mp hb6)]), rfl, e1⟩ (Nat.le_of_ble_eq_true rfl) (Nat.le_of_ble_eq_true rfl)
  · refine g_lloadN X1 hx (hb hby d1_9) (v := x) rfl (q := 10) rfl ?_
    refine g_aloadN X1 hx (hb hby d1_10) (v := (.ref a1)) rfl rfl (q := 11) rfl ?_
    refine g_getF X1 hx hZ hown (hw _ (List.mem_of_getElem? (i := 19) rfl)) Via.refl e1 FH (hb hby d1_11) (q := 14) rfl fun T2 X2 e2 => ?_
    refine g_lcmp X2 hx (hb hby d1_14) (z := (lcmpW x hi)) rfl (q := 15) rfl ?_
    refine g_if_gt X2 hx (hb hby d1_15) (by decide) (q := 22) (by decide) (q2 := 18) rfl (fun hb15 => ?_) (fun hb15 => ?_)
    · refine g_iconst X2 hx (hb hby d1_22) (n := (0 : Int32)) (by decide) (q := 23) rfl ?_
      exact g_retB X2 hx hret hlk (hb hby d1_23) (by simp) ⟨(by rw [if_neg (fun q => hb6 ((lw_lt _ _).mpr q)), if_pos ((lw_gt _ _).mp hb15)]), rfl, e2⟩ (Nat.le_of_ble_eq_true rfl) (Nat.le_of_ble_eq_true rfl)
    · refine g_iconst X2 hx (hb hby d1_18) (n := (1 : Int32)) (by decide) (q := 19) rfl ?_
      refine g_goto X2 hx (hb hby d1_19) (by decide) (q := 23) (by decide) ?_
      exact g_retB X2 hx hret hlk (hb hby d1_23) (by simp) ⟨(by rw [if_neg (fun q => hb6 ((lw_lt _ _).mpr q)), if_neg (fun q => hb15 ((lw_gt _ _).mpr q))]), rfl, e2⟩ (Nat.le_of_ble_eq_true rfl) (Nat.le_of_ble_eq_true rfl)
theorem d2_0 : decode prog_3_method_5_code 0 = .ok (.aload_n 0, 1) := by decide +kernel
theorem d2_1 : decode prog_3_method_5_code 1 = .ok (.getfield 45, 3) := by decide +kernel
theorem d2_4 : decode prog_3_method_5_code 4 = .ok (.lreturn, 1) := by decide +kernel
set_option maxRecDepth 65536 in
set_option maxHeartbeats 40000000 in
theorem rmD (l : Launch) (Z : State) (a0 : Array Value) (hw : ∀ d ∈ tables_1, d.before a0 Z = true) (a1 : Addr) (dd : Int64) (h0 : Heap) (FD : Fld Z h0 a1 "com/example/pipe_to_people/pipetopeople/config/ESetting" "m_nDefault" "J" (.long dd)) :
    Con l Z h0 (⟨"com/example/pipe_to_people/pipetopeople/config/ESetting", "getDefault", "()J"⟩ : MethodName) prog_3_method_5_code 1 (some .long) ({ frames := 0, cells := 0, slots := 0, locals := 0 } : Room) #[(.ref a1)] (Pur (some (.long dd)) h0) := by
  refine con_of (plainFor_of_name pn_0) (Ls := #[.val (.ref a1)]) (fun m => by first | rfl | (simp [entryFrame, mkF, argsToLocals, Value.category]; done)) ?_
  intro p e s m below meth c s₁ hx hZ hby hml hret hlk hnm hown X0 e0
  refine g_aloadN X0 hx (hb hby d2_0) (v := (.ref a1)) rfl rfl (q := 1) rfl ?_
  refine g_getF X0 hx hZ hown (hw _ (List.mem_of_getElem? (i := 17) rfl)) Via.refl e0 FD (hb hby d2_1) (q := 4) rfl fun T3 X3 e3 => ?_
  exact g_retJ X3 hx hret hlk (hb hby d2_4) ⟨rfl, rfl, e3⟩ (Nat.le_of_ble_eq_true rfl) (Nat.le_of_ble_eq_true rfl)
set_option maxRecDepth 65536 in
set_option maxHeartbeats 40000000 in
theorem rm0 (l : Launch) (Z : State) (a0 : Array Value) (hw : ∀ d ∈ tables_1, d.before a0 Z = true) (k : Int32) (v : Int64) (mode off : Int32) (w0 w1 w2 w3 w4 w5 : Addr) (h0 : Heap) (n0 : Nat) (S0 : Sta Z h0 "com/example/pipe_to_people/pipetopeople/config/ESetting" "TOKEN_LIFETIME_SECONDS" "Lcom/example/pipe_to_people/pipetopeople/config/ESetting;" (.ref w0)) (E0 : Exa Z h0 w0 "com/example/pipe_to_people/pipetopeople/config/ESetting") (L0 : Fld Z h0 w0 "com/example/pipe_to_people/pipetopeople/config/ESetting" "m_nLowest" "J" (.long (1 : Int64))) (H0 : Fld Z h0 w0 "com/example/pipe_to_people/pipetopeople/config/ESetting" "m_nHighest" "J" (.long (2147483647 : Int64))) (D0 : Fld Z h0 w0 "com/example/pipe_to_people/pipetopeople/config/ESetting" "m_nDefault" "J" (.long (3600 : Int64))) (S1 : Sta Z h0 "com/example/pipe_to_people/pipetopeople/config/ESetting" "LINK_WAIT_SECONDS" "Lcom/example/pipe_to_people/pipetopeople/config/ESetting;" (.ref w1)) (E1 : Exa Z h0 w1 "com/example/pipe_to_people/pipetopeople/config/ESetting") (L1 : Fld Z h0 w1 "com/example/pipe_to_people/pipetopeople/config/ESetting" "m_nLowest" "J" (.long (0 : Int64))) (H1 : Fld Z h0 w1 "com/example/pipe_to_people/pipetopeople/config/ESetting" "m_nHighest" "J" (.long (2147483647 : Int64))) (D1 : Fld Z h0 w1 "com/example/pipe_to_people/pipetopeople/config/ESetting" "m_nDefault" "J" (.long (3900 : Int64))) (S2 : Sta Z h0 "com/example/pipe_to_people/pipetopeople/config/ESetting" "LINK_RETRY_SECONDS" "Lcom/example/pipe_to_people/pipetopeople/config/ESetting;" (.ref w2)) (E2 : Exa Z h0 w2 "com/example/pipe_to_people/pipetopeople/config/ESetting") (L2 : Fld Z h0 w2 "com/example/pipe_to_people/pipetopeople/config/ESetting" "m_nLowest" "J" (.long (1 : Int64))) (H2 : Fld Z h0 w2 "com/example/pipe_to_people/pipetopeople/config/ESetting" "m_nHighest" "J" (.long (2147483647 : Int64))) (D2 : Fld Z h0 w2 "com/example/pipe_to_people/pipetopeople/config/ESetting" "m_nDefault" "J" (.long (300 : Int64))) (S3 : Sta Z h0 "com/example/pipe_to_people/pipetopeople/config/ESetting" "REQUESTS_PER_SECOND_PER_CLIENT" "Lcom/example/pipe_to_people/pipetopeople/config/ESetting;" (.ref w3)) (E3 : Exa Z h0 w3 "com/example/pipe_to_people/pipetopeople/config/ESetting") (L3 : Fld Z h0 w3 "com/example/pipe_to_people/pipetopeople/config/ESetting" "m_nLowest" "J" (.long (1 : Int64))) (H3 : Fld Z h0 w3 "com/example/pipe_to_people/pipetopeople/config/ESetting" "m_nHighest" "J" (.long (1000000000 : Int64))) (D3 : Fld Z h0 w3 "com/example/pipe_to_people/pipetopeople/config/ESetting" "m_nDefault" "J" (.long (5000 : Int64))) (S4 : Sta Z h0 "com/example/pipe_to_people/pipetopeople/config/ESetting" "OBJECTS_PER_DAY_PER_SUBSCRIPTION" "Lcom/example/pipe_to_people/pipetopeople/config/ESetting;" (.ref w4)) (E4 : Exa Z h0 w4 "com/example/pipe_to_people/pipetopeople/config/ESetting") (L4 : Fld Z h0 w4 "com/example/pipe_to_people/pipetopeople/config/ESetting" "m_nLowest" "J" (.long (1 : Int64))) (H4 : Fld Z h0 w4 "com/example/pipe_to_people/pipetopeople/config/ESetting" "m_nHighest" "J" (.long (2147483647 : Int64))) (D4 : Fld Z h0 w4 "com/example/pipe_to_people/pipetopeople/config/ESetting" "m_nDefault" "J" (.long (10000000 : Int64))) (S5 : Sta Z h0 "com/example/pipe_to_people/pipetopeople/config/ESetting" "MAX_PENDING_REQUESTS" "Lcom/example/pipe_to_people/pipetopeople/config/ESetting;" (.ref w5)) (E5 : Exa Z h0 w5 "com/example/pipe_to_people/pipetopeople/config/ESetting") (L5 : Fld Z h0 w5 "com/example/pipe_to_people/pipetopeople/config/ESetting" "m_nLowest" "J" (.long (1 : Int64))) (H5 : Fld Z h0 w5 "com/example/pipe_to_people/pipetopeople/config/ESetting" "m_nHighest" "J" (.long (2147483647 : Int64))) (D5 : Fld Z h0 w5 "com/example/pipe_to_people/pipetopeople/config/ESetting" "m_nDefault" "J" (.long (10000 : Int64))) :
    Con l Z h0 x code maxLocals ret room_1 #[(.int k), (.long v), (.int mode), (.int off)] (fun v h L => v = some (.int 1) ∧ Fr n0 L) := by
  refine con_of (plainFor_of_name pn_1) (Ls := #[.val (.int k), .val (.long v), .second, .val (.int mode), .val (.int off), .unset, .unset, .unset, .unset, .unset, .unset, .unset, .unset, .unset, .unset, .unset, .unset]) (fun m => by first | rfl | (simp [entryFrame, mkF, argsToLocals, Value.category, maxLocals]; done)) ?_
  intro p e s m below meth c s₁ hx hZ hby hml hret hlk hnm hown X0 e0
  have J131 : ∀ (Ta : State) (c0 : Int32) (a : Addr) (lo hi dd : Int64) (Xa : Stand p l e room_1 s m #[(.int k), (.long v), (.int mode), (.int off)] below meth c Ta [] 0 0) (ea : Ta.heap = h0) (EA : Exa Z h0 a "com/example/pipe_to_people/pipetopeople/config/ESetting") (FL : Fld Z h0 a "com/example/pipe_to_people/pipetopeople/config/ESetting" "m_nLowest" "J" (.long lo)) (FH : Fld Z h0 a "com/example/pipe_to_people/pipetopeople/config/ESetting" "m_nHighest" "J" (.long hi)) (FD : Fld Z h0 a "com/example/pipe_to_people/pipetopeople/config/ESetting" "m_nDefault" "J" (.long dd)) (hd1 : ¬ dd < lo) (hd2 : ¬ hi < dd), Go p e below (Wd s below (fun v h L => v = some (.int 1) ∧ Fr n0 L) room_1.cells room_1.slots) (Ta.setTop (mkF m 131 #[.val (.int k), .val (.long v), .second, .val (.int mode), .val (.int off), .val (.int c0), .val (.ref a), .val (.long lo), .second, .val (.long hi), .second, .unset, .unset, .unset, .unset, .unset, .unset] [])) := by
    intro Ta c0 a lo hi dd Xa ea EA FL FH FD hd1 hd2
    have J193 : ∀ (Tb : State) (x : Int64) (Xb : Stand p l e room_1 s m #[(.int k), (.long v), (.int mode), (.int off)] below meth c Tb [] 0 0) (eb : Tb.heap = h0), Go p e below (Wd s below (fun v h L => v = some (.int 1) ∧ Fr n0 L) room_1.cells room_1.slots) (Tb.setTop (mkF m 193 #[.val (.int k), .val (.long v), .second, .val (.int mode), .val (.int off), .val (.int c0), .val (.ref a), .val (.long lo), .second, .val (.long hi), .second, .val (.int (mode &&& (3 : Int32))), .val (.long (((off &&& (3 : Int32)) - (2 : Int32)).toInt64)), .second, .val (.long x), .second, .unset] [])) := by
      intro Tb x Xb eb
      refine g_lload Xb hx (hb hby at_193) (v := x) rfl (q := 195) rfl ?_
      refine g_lload Xb hx (hb hby at_195) (v := lo) rfl (q := 197) rfl ?_
      refine g_lcmp Xb hx (hb hby at_197) (z := (lcmpW x lo)) rfl (q := 198) rfl ?_
      refine g_if_lt Xb hx (hb hby at_198) (by decide) (q := 213) (by decide) (q2 := 201) rfl (fun hb198 => ?_) (fun hb198 => ?_)
      · refine g_iconst Xb hx (hb hby at_213) (n := (0 : Int32)) (by decide) (q := 214) rfl ?_
        refine g_istore Xb hx (hb hby at_214) (L' := #[.val (.int k), .val (.long v), .second, .val (.int mode), .val (.int off), .val (.int c0), .val (.ref a), .val (.long lo), .second, .val (.long hi), .second, .val (.int (mode &&& (3 : Int32))), .val (.long (((off &&& (3 : Int32)) - (2 : Int32)).toInt64)), .second, .val (.long x), .second, .val (.int (0 : Int32))]) rfl (q := 216) rfl ?_
        refine g_aload Xb hx (hb hby at_216) (v := (.ref a)) rfl rfl (q := 218) rfl ?_
        refine g_lload Xb hx (hb hby at_218) (v := x) rfl (q := 220) rfl ?_
        refine g_callV Xb hx hZ hown (hw _ (List.mem_of_getElem? (i := 5) rfl)) (hw _ (List.mem_of_getElem? (i := 6) rfl)) (hw _ (List.mem_of_getElem? (i := 8) rfl)) (hw _ (List.mem_of_getElem? (i := 7) rfl)) (hw _ (List.mem_of_getElem? (i := 9) rfl)) (hw _ (List.mem_of_getElem? (i := 2) rfl)) (notFace_of_selects (args := #[]) (mvT hZ (hw _ (List.mem_of_getElem? (i := 8) rfl)))) (by decide) eb EA (rmA l Z a0 hw a x lo hi h0 FL FH) (by exact hml.symm) (argsL := [(.long x)]) (rest := []) rfl rfl pd_0 rfl (Nat.le_of_ble_eq_true rfl) (Nat.le_of_ble_eq_true rfl) (Nat.le_of_ble_eq_true rfl) (Nat.le_of_ble_eq_true rfl) (hb hby at_220) (q := 223) rfl (g_pure rfl rfl fun T4 X4 e4 => ?_)
        show Go p e below _ (T4.setTop (mkF m 223 #[.val (.int k), .val (.long v), .second, .val (.int mode), .val (.int off), .val (.int c0), .val (.ref a), .val (.long lo), .second, .val (.long hi), .second, .val (.int (mode &&& (3 : Int32))), .val (.long (((off &&& (3 : Int32)) - (2 : Int32)).toInt64)), .second, .val (.long x), .second, .val (.int (0 : Int32))] [(.int (if x < lo then (0 : Int32) else if hi < x then 0 else 1))]))
        refine g_iload X4 hx (hb hby at_223) (v := (0 : Int32)) rfl (q := 225) rfl ?_
        refine g_icmp_ne X4 hx (hb hby at_225) (by decide) (q := 245) (by decide) (q2 := 228) rfl (fun hb225 => absurd hb225 (not_not_intro (if_pos ((lw_lt _ _).mp hb198)))) (fun hb225 => ?_)
        refine g_aload X4 hx (hb hby at_228) (v := (.ref a)) rfl rfl (q := 230) rfl ?_
        refine g_aload X4 hx (hb hby at_230) (v := (.ref a)) rfl rfl (q := 232) rfl ?_
        refine g_callV X4 hx hZ hown (hw _ (List.mem_of_getElem? (i := 12) rfl)) (hw _ (List.mem_of_getElem? (i := 13) rfl)) (hw _ (List.mem_of_getElem? (i := 15) rfl)) (hw _ (List.mem_of_getElem? (i := 14) rfl)) (hw _ (List.mem_of_getElem? (i := 16) rfl)) (hw _ (List.mem_of_getElem? (i := 2) rfl)) (notFace_of_selects (args := #[]) (mvT hZ (hw _ (List.mem_of_getElem? (i := 15) rfl)))) (by decide) e4 EA (rmD l Z a0 hw a dd h0 FD) (by exact hml.symm) (argsL := []) (rest := [(.ref a)]) rfl rfl pd_1 rfl (Nat.le_of_ble_eq_true rfl) (Nat.le_of_ble_eq_true rfl) (Nat.le_of_ble_eq_true rfl) (Nat.le_of_ble_eq_true rfl) (hb hby at_232) (q := 235) rfl (g_pure rfl rfl fun T5 X5 e5 => ?_)
        show Go p e below _ (T5.setTop (mkF m 235 #[.val (.int k), .val (.long v), .second, .val (.int mode), .val (.int off), .val (.int c0), .val (.ref a), .val (.long lo), .second, .val (.long hi), .second, .val (.int (mode &&& (3 : Int32))), .val (.long (((off &&& (3 : Int32)) - (2 : Int32)).toInt64)), .second, .val (.long x), .second, .val (.int (0 : Int32))] [(.long dd), (.ref a)]))
        refine g_callV X5 hx hZ hown (hw _ (List.mem_of_getElem? (i := 5) rfl)) (hw _ (List.mem_of_getElem? (i := 6) rfl)) (hw _ (List.mem_of_getElem? (i := 8) rfl)) (hw _ (List.mem_of_getElem? (i := 7) rfl)) (hw _ (List.mem_of_getElem? (i := 9) rfl)) (hw _ (List.mem_of_getElem? (i := 2) rfl)) (notFace_of_selects (args := #[]) (mvT hZ (hw _ (List.mem_of_getElem? (i := 8) rfl)))) (by decide) e5 EA (rmA l Z a0 hw a dd lo hi h0 FL FH) (by exact hml.symm) (argsL := [(.long dd)]) (rest := []) rfl rfl pd_0 rfl (Nat.le_of_ble_eq_true rfl) (Nat.le_of_ble_eq_true rfl) (Nat.le_of_ble_eq_true rfl) (Nat.le_of_ble_eq_true rfl) (hb hby at_235) (q := 238) rfl (g_pure rfl rfl fun T6 X6 e6 => ?_)
        show Go p e below _ (T6.setTop (mkF m 238 #[.val (.int k), .val (.long v), .second, .val (.int mode), .val (.int off), .val (.int c0), .val (.ref a), .val (.long lo), .second, .val (.long hi), .second, .val (.int (mode &&& (3 : Int32))), .val (.long (((off &&& (3 : Int32)) - (2 : Int32)).toInt64)), .second, .val (.long x), .second, .val (.int (0 : Int32))] [(.int (if dd < lo then (0 : Int32) else if hi < dd then 0 else 1))]))
        refine g_if_eq X6 hx (hb hby at_238) (by decide) (q := 245) (by decide) (q2 := 241) rfl (fun hb238 => absurd hb238 (by rw [if_neg hd1, if_neg hd2]; decide)) (fun hb238 => ?_)
        refine g_iconst X6 hx (hb hby at_241) (n := (1 : Int32)) (by decide) (q := 242) rfl ?_
        refine g_goto X6 hx (hb hby at_242) (by decide) (q := 246) (by decide) ?_
        exact g_retB X6 hx hret hlk (hb hby at_246) (by simp) ⟨rfl, Fr.nil n0⟩ (Nat.le_of_ble_eq_true rfl) (Nat.le_of_ble_eq_true rfl)
      · refine g_lload Xb hx (hb hby at_201) (v := x) rfl (q := 203) rfl ?_
        refine g_lload Xb hx (hb hby at_203) (v := hi) rfl (q := 205) rfl ?_
        refine g_lcmp Xb hx (hb hby at_205) (z := (lcmpW x hi)) rfl (q := 206) rfl ?_
        refine g_if_gt Xb hx (hb hby at_206) (by decide) (q := 213) (by decide) (q2 := 209) rfl (fun hb206 => ?_) (fun hb206 => ?_)
        · refine g_iconst Xb hx (hb hby at_213) (n := (0 : Int32)) (by decide) (q := 214) rfl ?_
          refine g_istore Xb hx (hb hby at_214) (L' := #[.val (.int k), .val (.long v), .second, .val (.int mode), .val (.int off), .val (.int c0), .val (.ref a), .val (.long lo), .second, .val (.long hi), .second, .val (.int (mode &&& (3 : Int32))), .val (.long (((off &&& (3 : Int32)) - (2 : Int32)).toInt64)), .second, .val (.long x), .second, .val (.int (0 : Int32))]) rfl (q := 216) rfl ?_
          refine g_aload Xb hx (hb hby at_216) (v := (.ref a)) rfl rfl (q := 218) rfl ?_
          refine g_lload Xb hx (hb hby at_218) (v := x) rfl (q := 220) rfl ?_
          refine g_callV Xb hx hZ hown (hw _ (List.mem_of_getElem? (i := 5) rfl)) (hw _ (List.mem_of_getElem? (i := 6) rfl)) (hw _ (List.mem_of_getElem? (i := 8) rfl)) (hw _ (List.mem_of_getElem? (i := 7) rfl)) (hw _ (List.mem_of_getElem? (i := 9) rfl)) (hw _ (List.mem_of_getElem? (i := 2) rfl)) (notFace_of_selects (args := #[]) (mvT hZ (hw _ (List.mem_of_getElem? (i := 8) rfl)))) (by decide) eb EA (rmA l Z a0 hw a x lo hi h0 FL FH) (by exact hml.symm) (argsL := [(.long x)]) (rest := []) rfl rfl pd_0 rfl (Nat.le_of_ble_eq_true rfl) (Nat.le_of_ble_eq_true rfl) (Nat.le_of_ble_eq_true rfl) (Nat.le_of_ble_eq_true rfl) (hb hby at_220) (q := 223) rfl (g_pure rfl rfl fun T7 X7 e7 => ?_)
          show Go p e below _ (T7.setTop (mkF m 223 #[.val (.int k), .val (.long v), .second, .val (.int mode), .val (.int off), .val (.int c0), .val (.ref a), .val (.long lo), .second, .val (.long hi), .second, .val (.int (mode &&& (3 : Int32))), .val (.long (((off &&& (3 : Int32)) - (2 : Int32)).toInt64)), .second, .val (.long x), .second, .val (.int (0 : Int32))] [(.int (if x < lo then (0 : Int32) else if hi < x then 0 else 1))]))
          refine g_iload X7 hx (hb hby at_223) (v := (0 : Int32)) rfl (q := 225) rfl ?_
          refine g_icmp_ne X7 hx (hb hby at_225) (by decide) (q := 245) (by decide) (q2 := 228) rfl (fun hb225 => absurd hb225 (not_not_intro ((if_neg (fun q => hb198 ((lw_lt _ _).mpr q))).trans (if_pos ((lw_gt _ _).mp hb206))))) (fun hb225 => ?_)
          refine g_aload X7 hx (hb hby at_228) (v := (.ref a)) rfl rfl (q := 230) rfl ?_
          refine g_aload X7 hx (hb hby at_230) (v := (.ref a)) rfl rfl (q := 232) rfl ?_
          refine g_callV X7 hx hZ hown (hw _ (List.mem_of_getElem? (i := 12) rfl)) (hw _ (List.mem_of_getElem? (i := 13) rfl)) (hw _ (List.mem_of_getElem? (i := 15) rfl)) (hw _ (List.mem_of_getElem? (i := 14) rfl)) (hw _ (List.mem_of_getElem? (i := 16) rfl)) (hw _ (List.mem_of_getElem? (i := 2) rfl)) (notFace_of_selects (args := #[]) (mvT hZ (hw _ (List.mem_of_getElem? (i := 15) rfl)))) (by decide) e7 EA (rmD l Z a0 hw a dd h0 FD) (by exact hml.symm) (argsL := []) (rest := [(.ref a)]) rfl rfl pd_1 rfl (Nat.le_of_ble_eq_true rfl) (Nat.le_of_ble_eq_true rfl) (Nat.le_of_ble_eq_true rfl) (Nat.le_of_ble_eq_true rfl) (hb hby at_232) (q := 235) rfl (g_pure rfl rfl fun T8 X8 e8 => ?_)
          show Go p e below _ (T8.setTop (mkF m 235 #[.val (.int k), .val (.long v), .second, .val (.int mode), .val (.int off), .val (.int c0), .val (.ref a), .val (.long lo), .second, .val (.long hi), .second, .val (.int (mode &&& (3 : Int32))), .val (.long (((off &&& (3 : Int32)) - (2 : Int32)).toInt64)), .second, .val (.long x), .second, .val (.int (0 : Int32))] [(.long dd), (.ref a)]))
          refine g_callV X8 hx hZ hown (hw _ (List.mem_of_getElem? (i := 5) rfl)) (hw _ (List.mem_of_getElem? (i := 6) rfl)) (hw _ (List.mem_of_getElem? (i := 8) rfl)) (hw _ (List.mem_of_getElem? (i := 7) rfl)) (hw _ (List.mem_of_getElem? (i := 9) rfl)) (hw _ (List.mem_of_getElem? (i := 2) rfl)) (notFace_of_selects (args := #[]) (mvT hZ (hw _ (List.mem_of_getElem? (i := 8) rfl)))) (by decide) e8 EA (rmA l Z a0 hw a dd lo hi h0 FL FH) (by exact hml.symm) (argsL := [(.long dd)]) (rest := []) rfl rfl pd_0 rfl (Nat.le_of_ble_eq_true rfl) (Nat.le_of_ble_eq_true rfl) (Nat.le_of_ble_eq_true rfl) (Nat.le_of_ble_eq_true rfl) (hb hby at_235) (q := 238) rfl (g_pure rfl rfl fun T9 X9 e9 => ?_)
          show Go p e below _ (T9.setTop (mkF m 238 #[.val (.int k), .val (.long v), .second, .val (.int mode), .val (.int off), .val (.int c0), .val (.ref a), .val (.long lo), .second, .val (.long hi), .second, .val (.int (mode &&& (3 : Int32))), .val (.long (((off &&& (3 : Int32)) - (2 : Int32)).toInt64)), .second, .val (.long x), .second, .val (.int (0 : Int32))] [(.int (if dd < lo then (0 : Int32) else if hi < dd then 0 else 1))]))
          refine g_if_eq X9 hx (hb hby at_238) (by decide) (q := 245) (by decide) (q2 := 241) rfl (fun hb238 => absurd hb238 (by rw [if_neg hd1, if_neg hd2]; decide)) (fun hb238 => ?_)
          refine g_iconst X9 hx (hb hby at_241) (n := (1 : Int32)) (by decide) (q := 242) rfl ?_
          refine g_goto X9 hx (hb hby at_242) (by decide) (q := 246) (by decide) ?_
          exact g_retB X9 hx hret hlk (hb hby at_246) (by simp) ⟨rfl, Fr.nil n0⟩ (Nat.le_of_ble_eq_true rfl) (Nat.le_of_ble_eq_true rfl)
        · refine g_iconst Xb hx (hb hby at_209) (n := (1 : Int32)) (by decide) (q := 210) rfl ?_
          refine g_goto Xb hx (hb hby at_210) (by decide) (q := 214) (by decide) ?_
          refine g_istore Xb hx (hb hby at_214) (L' := #[.val (.int k), .val (.long v), .second, .val (.int mode), .val (.int off), .val (.int c0), .val (.ref a), .val (.long lo), .second, .val (.long hi), .second, .val (.int (mode &&& (3 : Int32))), .val (.long (((off &&& (3 : Int32)) - (2 : Int32)).toInt64)), .second, .val (.long x), .second, .val (.int (1 : Int32))]) rfl (q := 216) rfl ?_
          refine g_aload Xb hx (hb hby at_216) (v := (.ref a)) rfl rfl (q := 218) rfl ?_
          refine g_lload Xb hx (hb hby at_218) (v := x) rfl (q := 220) rfl ?_
          refine g_callV Xb hx hZ hown (hw _ (List.mem_of_getElem? (i := 5) rfl)) (hw _ (List.mem_of_getElem? (i := 6) rfl)) (hw _ (List.mem_of_getElem? (i := 8) rfl)) (hw _ (List.mem_of_getElem? (i := 7) rfl)) (hw _ (List.mem_of_getElem? (i := 9) rfl)) (hw _ (List.mem_of_getElem? (i := 2) rfl)) (notFace_of_selects (args := #[]) (mvT hZ (hw _ (List.mem_of_getElem? (i := 8) rfl)))) (by decide) eb EA (rmA l Z a0 hw a x lo hi h0 FL FH) (by exact hml.symm) (argsL := [(.long x)]) (rest := []) rfl rfl pd_0 rfl (Nat.le_of_ble_eq_true rfl) (Nat.le_of_ble_eq_true rfl) (Nat.le_of_ble_eq_true rfl) (Nat.le_of_ble_eq_true rfl) (hb hby at_220) (q := 223) rfl (g_pure rfl rfl fun T10 X10 e10 => ?_)
          show Go p e below _ (T10.setTop (mkF m 223 #[.val (.int k), .val (.long v), .second, .val (.int mode), .val (.int off), .val (.int c0), .val (.ref a), .val (.long lo), .second, .val (.long hi), .second, .val (.int (mode &&& (3 : Int32))), .val (.long (((off &&& (3 : Int32)) - (2 : Int32)).toInt64)), .second, .val (.long x), .second, .val (.int (1 : Int32))] [(.int (if x < lo then (0 : Int32) else if hi < x then 0 else 1))]))
          refine g_iload X10 hx (hb hby at_223) (v := (1 : Int32)) rfl (q := 225) rfl ?_
          refine g_icmp_ne X10 hx (hb hby at_225) (by decide) (q := 245) (by decide) (q2 := 228) rfl (fun hb225 => absurd hb225 (not_not_intro ((if_neg (fun q => hb198 ((lw_lt _ _).mpr q))).trans (if_neg (fun q => hb206 ((lw_gt _ _).mpr q)))))) (fun hb225 => ?_)
          refine g_aload X10 hx (hb hby at_228) (v := (.ref a)) rfl rfl (q := 230) rfl ?_
          refine g_aload X10 hx (hb hby at_230) (v := (.ref a)) rfl rfl (q := 232) rfl ?_
          refine g_callV X10 hx hZ hown (hw _ (List.mem_of_getElem? (i := 12) rfl)) (hw _ (List.mem_of_getElem? (i := 13) rfl)) (hw _ (List.mem_of_getElem? (i := 15) rfl)) (hw _ (List.mem_of_getElem? (i := 14) rfl)) (hw _ (List.mem_of_getElem? (i := 16) rfl)) (hw _ (List.mem_of_getElem? (i := 2) rfl)) (notFace_of_selects (args := #[]) (mvT hZ (hw _ (List.mem_of_getElem? (i := 15) rfl)))) (by decide) e10 EA (rmD l Z a0 hw a dd h0 FD) (by exact hml.symm) (argsL := []) (rest := [(.ref a)]) rfl rfl pd_1 rfl (Nat.le_of_ble_eq_true rfl) (Nat.le_of_ble_eq_true rfl) (Nat.le_of_ble_eq_true rfl) (Nat.le_of_ble_eq_true rfl) (hb hby at_232) (q := 235) rfl (g_pure rfl rfl fun T11 X11 e11 => ?_)
          show Go p e below _ (T11.setTop (mkF m 235 #[.val (.int k), .val (.long v), .second, .val (.int mode), .val (.int off), .val (.int c0), .val (.ref a), .val (.long lo), .second, .val (.long hi), .second, .val (.int (mode &&& (3 : Int32))), .val (.long (((off &&& (3 : Int32)) - (2 : Int32)).toInt64)), .second, .val (.long x), .second, .val (.int (1 : Int32))] [(.long dd), (.ref a)]))
          refine g_callV X11 hx hZ hown (hw _ (List.mem_of_getElem? (i := 5) rfl)) (hw _ (List.mem_of_getElem? (i := 6) rfl)) (hw _ (List.mem_of_getElem? (i := 8) rfl)) (hw _ (List.mem_of_getElem? (i := 7) rfl)) (hw _ (List.mem_of_getElem? (i := 9) rfl)) (hw _ (List.mem_of_getElem? (i := 2) rfl)) (notFace_of_selects (args := #[]) (mvT hZ (hw _ (List.mem_of_getElem? (i := 8) rfl)))) (by decide) e11 EA (rmA l Z a0 hw a dd lo hi h0 FL FH) (by exact hml.symm) (argsL := [(.long dd)]) (rest := []) rfl rfl pd_0 rfl (Nat.le_of_ble_eq_true rfl) (Nat.le_of_ble_eq_true rfl) (Nat.le_of_ble_eq_true rfl) (Nat.le_of_ble_eq_true rfl) (hb hby at_235) (q := 238) rfl (g_pure rfl rfl fun T12 X12 e12 => ?_)
          show Go p e below _ (T12.setTop (mkF m 238 #[.val (.int k), .val (.long v), .second, .val (.int mode), .val (.int off), .val (.int c0), .val (.ref a), .val (.long lo), .second, .val (.long hi), .second, .val (.int (mode &&& (3 : Int32))), .val (.long (((off &&& (3 : Int32)) - (2 : Int32)).toInt64)), .second, .val (.long x), .second, .val (.int (1 : Int32))] [(.int (if dd < lo then (0 : Int32) else if hi < dd then 0 else 1))]))
          refine g_if_eq X12 hx (hb hby at_238) (by decide) (q := 245) (by decide) (q2 := 241) rfl (fun hb238 => absurd hb238 (by rw [if_neg hd1, if_neg hd2]; decide)) (fun hb238 => ?_)
          refine g_iconst X12 hx (hb hby at_241) (n := (1 : Int32)) (by decide) (q := 242) rfl ?_
          refine g_goto X12 hx (hb hby at_242) (by decide) (q := 246) (by decide) ?_
          exact g_retB X12 hx hret hlk (hb hby at_246) (by simp) ⟨rfl, Fr.nil n0⟩ (Nat.le_of_ble_eq_true rfl) (Nat.le_of_ble_eq_true rfl)
    refine g_iloadN Xa hx (hb hby at_131) (v := mode) rfl (q := 132) rfl ?_
    refine g_iconst Xa hx (hb hby at_132) (n := (3 : Int32)) (by decide) (q := 133) rfl ?_
    refine g_iand Xa hx (hb hby at_133) (z := (mode &&& (3 : Int32))) rfl (q := 134) rfl ?_
    refine g_istore Xa hx (hb hby at_134) (L' := #[.val (.int k), .val (.long v), .second, .val (.int mode), .val (.int off), .val (.int c0), .val (.ref a), .val (.long lo), .second, .val (.long hi), .second, .val (.int (mode &&& (3 : Int32))), .unset, .unset, .unset, .unset, .unset]) rfl (q := 136) rfl ?_
    refine g_iload Xa hx (hb hby at_136) (v := off) rfl (q := 138) rfl ?_
    refine g_iconst Xa hx (hb hby at_138) (n := (3 : Int32)) (by decide) (q := 139) rfl ?_
    refine g_iand Xa hx (hb hby at_139) (z := (off &&& (3 : Int32))) rfl (q := 140) rfl ?_
    refine g_iconst Xa hx (hb hby at_140) (n := (2 : Int32)) (by decide) (q := 141) rfl ?_
    refine g_isub Xa hx (hb hby at_141) (z := ((off &&& (3 : Int32)) - (2 : Int32))) rfl (q := 142) rfl ?_
    refine g_i2l Xa hx (hb hby at_142) (z := (((off &&& (3 : Int32)) - (2 : Int32)).toInt64)) rfl (q := 143) rfl ?_
    refine g_lstore Xa hx (hb hby at_143) (L' := #[.val (.int k), .val (.long v), .second, .val (.int mode), .val (.int off), .val (.int c0), .val (.ref a), .val (.long lo), .second, .val (.long hi), .second, .val (.int (mode &&& (3 : Int32))), .val (.long (((off &&& (3 : Int32)) - (2 : Int32)).toInt64)), .second, .unset, .unset, .unset]) rfl (q := 145) rfl ?_
    refine g_iload Xa hx (hb hby at_145) (v := (mode &&& (3 : Int32))) rfl (q := 147) rfl ?_
    refine g_if_ne Xa hx (hb hby at_147) (by decide) (q := 156) (by decide) (q2 := 150) rfl (fun hb147 => ?_) (fun hb147 => ?_)
    · refine g_iload Xa hx (hb hby at_156) (v := (mode &&& (3 : Int32))) rfl (q := 158) rfl ?_
      refine g_iconst Xa hx (hb hby at_158) (n := (1 : Int32)) (by decide) (q := 159) rfl ?_
      refine g_icmp_ne Xa hx (hb hby at_159) (by decide) (q := 172) (by decide) (q2 := 162) rfl (fun hb159 => ?_) (fun hb159 => ?_)
      · refine g_iload Xa hx (hb hby at_172) (v := (mode &&& (3 : Int32))) rfl (q := 174) rfl ?_
        refine g_iconst Xa hx (hb hby at_174) (n := (2 : Int32)) (by decide) (q := 175) rfl ?_
        refine g_icmp_ne Xa hx (hb hby at_175) (by decide) (q := 188) (by decide) (q2 := 178) rfl (fun hb175 => ?_) (fun hb175 => ?_)
        · refine g_lloadN Xa hx (hb hby at_188) (v := v) rfl (q := 189) rfl ?_
          refine g_l2i Xa hx (hb hby at_189) (z := (v.toInt32)) rfl (q := 190) rfl ?_
          refine g_i2l Xa hx (hb hby at_190) (z := ((v.toInt32).toInt64)) rfl (q := 191) rfl ?_
          refine g_lstore Xa hx (hb hby at_191) (L' := #[.val (.int k), .val (.long v), .second, .val (.int mode), .val (.int off), .val (.int c0), .val (.ref a), .val (.long lo), .second, .val (.long hi), .second, .val (.int (mode &&& (3 : Int32))), .val (.long (((off &&& (3 : Int32)) - (2 : Int32)).toInt64)), .second, .val (.long ((v.toInt32).toInt64)), .second, .unset]) rfl (q := 193) rfl ?_
          exact J193 _ _ Xa ea
        · refine g_lload Xa hx (hb hby at_178) (v := hi) rfl (q := 180) rfl ?_
          refine g_lload Xa hx (hb hby at_180) (v := (((off &&& (3 : Int32)) - (2 : Int32)).toInt64)) rfl (q := 182) rfl ?_
          refine g_ladd Xa hx (hb hby at_182) (z := (hi + (((off &&& (3 : Int32)) - (2 : Int32)).toInt64))) rfl (q := 183) rfl ?_
          refine g_lstore Xa hx (hb hby at_183) (L' := #[.val (.int k), .val (.long v), .second, .val (.int mode), .val (.int off), .val (.int c0), .val (.ref a), .val (.long lo), .second, .val (.long hi), .second, .val (.int (mode &&& (3 : Int32))), .val (.long (((off &&& (3 : Int32)) - (2 : Int32)).toInt64)), .second, .val (.long (hi + (((off &&& (3 : Int32)) - (2 : Int32)).toInt64))), .second, .unset]) rfl (q := 185) rfl ?_
          refine g_goto Xa hx (hb hby at_185) (by decide) (q := 193) (by decide) ?_
          exact J193 _ _ Xa ea
      · refine g_lload Xa hx (hb hby at_162) (v := lo) rfl (q := 164) rfl ?_
        refine g_lload Xa hx (hb hby at_164) (v := (((off &&& (3 : Int32)) - (2 : Int32)).toInt64)) rfl (q := 166) rfl ?_
        refine g_ladd Xa hx (hb hby at_166) (z := (lo + (((off &&& (3 : Int32)) - (2 : Int32)).toInt64))) rfl (q := 167) rfl ?_
        refine g_lstore Xa hx (hb hby at_167) (L' := #[.val (.int k), .val (.long v), .second, .val (.int mode), .val (.int off), .val (.int c0), .val (.ref a), .val (.long lo), .second, .val (.long hi), .second, .val (.int (mode &&& (3 : Int32))), .val (.long (((off &&& (3 : Int32)) - (2 : Int32)).toInt64)), .second, .val (.long (lo + (((off &&& (3 : Int32)) - (2 : Int32)).toInt64))), .second, .unset]) rfl (q := 169) rfl ?_
        refine g_goto Xa hx (hb hby at_169) (by decide) (q := 193) (by decide) ?_
        exact J193 _ _ Xa ea
    · refine g_lloadN Xa hx (hb hby at_150) (v := v) rfl (q := 151) rfl ?_
      refine g_lstore Xa hx (hb hby at_151) (L' := #[.val (.int k), .val (.long v), .second, .val (.int mode), .val (.int off), .val (.int c0), .val (.ref a), .val (.long lo), .second, .val (.long hi), .second, .val (.int (mode &&& (3 : Int32))), .val (.long (((off &&& (3 : Int32)) - (2 : Int32)).toInt64)), .second, .val (.long v), .second, .unset]) rfl (q := 153) rfl ?_
      refine g_goto Xa hx (hb hby at_153) (by decide) (q := 193) (by decide) ?_
      exact J193 _ _ Xa ea
  refine g_iloadN X0 hx (hb hby at_0) (v := k) rfl (q := 1) rfl ?_
  refine g_ldcI X0 hx hZ hown (hw _ (List.mem_of_getElem? (i := 0) rfl)) (hb hby at_1) (q := 3) rfl ?_
  refine g_iand X0 hx (hb hby at_3) (z := (k &&& (2147483647 : Int32))) rfl (q := 4) rfl ?_
  refine g_bipush X0 hx (hb hby at_4) (n := (6 : Int32)) (by decide) (q := 6) rfl ?_
  refine g_irem X0 hx (hb hby at_6) (by decide) (z := ((k &&& (2147483647 : Int32)) % (6 : Int32))) rfl (q := 7) rfl ?_
  refine g_istore X0 hx (hb hby at_7) (L' := #[.val (.int k), .val (.long v), .second, .val (.int mode), .val (.int off), .val (.int ((k &&& (2147483647 : Int32)) % (6 : Int32))), .unset, .unset, .unset, .unset, .unset, .unset, .unset, .unset, .unset, .unset, .unset]) rfl (q := 9) rfl ?_
  refine g_iload X0 hx (hb hby at_9) (v := ((k &&& (2147483647 : Int32)) % (6 : Int32))) rfl (q := 11) rfl ?_
  refine g_if_ne X0 hx (hb hby at_11) (by decide) (q := 30) (by decide) (q2 := 14) rfl (fun hb11 => ?_) (fun hb11 => ?_)
  · refine g_iload X0 hx (hb hby at_30) (v := ((k &&& (2147483647 : Int32)) % (6 : Int32))) rfl (q := 32) rfl ?_
    refine g_iconst X0 hx (hb hby at_32) (n := (1 : Int32)) (by decide) (q := 33) rfl ?_
    refine g_icmp_ne X0 hx (hb hby at_33) (by decide) (q := 52) (by decide) (q2 := 36) rfl (fun hb33 => ?_) (fun hb33 => ?_)
    · refine g_iload X0 hx (hb hby at_52) (v := ((k &&& (2147483647 : Int32)) % (6 : Int32))) rfl (q := 54) rfl ?_
      refine g_iconst X0 hx (hb hby at_54) (n := (2 : Int32)) (by decide) (q := 55) rfl ?_
      refine g_icmp_ne X0 hx (hb hby at_55) (by decide) (q := 74) (by decide) (q2 := 58) rfl (fun hb55 => ?_) (fun hb55 => ?_)
      · refine g_iload X0 hx (hb hby at_74) (v := ((k &&& (2147483647 : Int32)) % (6 : Int32))) rfl (q := 76) rfl ?_
        refine g_iconst X0 hx (hb hby at_76) (n := (3 : Int32)) (by decide) (q := 77) rfl ?_
        refine g_icmp_ne X0 hx (hb hby at_77) (by decide) (q := 96) (by decide) (q2 := 80) rfl (fun hb77 => ?_) (fun hb77 => ?_)
        · refine g_iload X0 hx (hb hby at_96) (v := ((k &&& (2147483647 : Int32)) % (6 : Int32))) rfl (q := 98) rfl ?_
          refine g_iconst X0 hx (hb hby at_98) (n := (4 : Int32)) (by decide) (q := 99) rfl ?_
          refine g_icmp_ne X0 hx (hb hby at_99) (by decide) (q := 118) (by decide) (q2 := 102) rfl (fun hb99 => ?_) (fun hb99 => ?_)
          · refine g_getS X0 hx hZ hown (hw _ (List.mem_of_getElem? (i := 30) rfl)) Via.refl e0 S5 (hb hby at_118) (q := 121) rfl fun T13 X13 e13 => ?_
            refine g_astore X13 hx (hb hby at_121) rfl (L' := #[.val (.int k), .val (.long v), .second, .val (.int mode), .val (.int off), .val (.int ((k &&& (2147483647 : Int32)) % (6 : Int32))), .val (.ref w5), .unset, .unset, .unset, .unset, .unset, .unset, .unset, .unset, .unset, .unset]) rfl (q := 123) rfl ?_
            refine g_lconst X13 hx (hb hby at_123) (n := (1 : Int64)) (by decide) (q := 124) rfl ?_
            refine g_lstore X13 hx (hb hby at_124) (L' := #[.val (.int k), .val (.long v), .second, .val (.int mode), .val (.int off), .val (.int ((k &&& (2147483647 : Int32)) % (6 : Int32))), .val (.ref w5), .val (.long (1 : Int64)), .second, .unset, .unset, .unset, .unset, .unset, .unset, .unset, .unset]) rfl (q := 126) rfl ?_
            refine g_ldcJ X13 hx hZ hown (hw _ (List.mem_of_getElem? (i := 4) rfl)) (hb hby at_126) (q := 129) rfl ?_
            refine g_lstore X13 hx (hb hby at_129) (L' := #[.val (.int k), .val (.long v), .second, .val (.int mode), .val (.int off), .val (.int ((k &&& (2147483647 : Int32)) % (6 : Int32))), .val (.ref w5), .val (.long (1 : Int64)), .second, .val (.long (2147483647 : Int64)), .second, .unset, .unset, .unset, .unset, .unset, .unset]) rfl (q := 131) rfl ?_
            exact J131 _ _ _ _ _ _ X13 e13 E5 L5 H5 D5 (by decide) (by decide)
          · refine g_getS X0 hx hZ hown (hw _ (List.mem_of_getElem? (i := 28) rfl)) Via.refl e0 S4 (hb hby at_102) (q := 105) rfl fun T14 X14 e14 => ?_
            refine g_astore X14 hx (hb hby at_105) rfl (L' := #[.val (.int k), .val (.long v), .second, .val (.int mode), .val (.int off), .val (.int ((k &&& (2147483647 : Int32)) % (6 : Int32))), .val (.ref w4), .unset, .unset, .unset, .unset, .unset, .unset, .unset, .unset, .unset, .unset]) rfl (q := 107) rfl ?_
            refine g_lconst X14 hx (hb hby at_107) (n := (1 : Int64)) (by decide) (q := 108) rfl ?_
            refine g_lstore X14 hx (hb hby at_108) (L' := #[.val (.int k), .val (.long v), .second, .val (.int mode), .val (.int off), .val (.int ((k &&& (2147483647 : Int32)) % (6 : Int32))), .val (.ref w4), .val (.long (1 : Int64)), .second, .unset, .unset, .unset, .unset, .unset, .unset, .unset, .unset]) rfl (q := 110) rfl ?_
            refine g_ldcJ X14 hx hZ hown (hw _ (List.mem_of_getElem? (i := 4) rfl)) (hb hby at_110) (q := 113) rfl ?_
            refine g_lstore X14 hx (hb hby at_113) (L' := #[.val (.int k), .val (.long v), .second, .val (.int mode), .val (.int off), .val (.int ((k &&& (2147483647 : Int32)) % (6 : Int32))), .val (.ref w4), .val (.long (1 : Int64)), .second, .val (.long (2147483647 : Int64)), .second, .unset, .unset, .unset, .unset, .unset, .unset]) rfl (q := 115) rfl ?_
            refine g_goto X14 hx (hb hby at_115) (by decide) (q := 131) (by decide) ?_
            exact J131 _ _ _ _ _ _ X14 e14 E4 L4 H4 D4 (by decide) (by decide)
        · refine g_getS X0 hx hZ hown (hw _ (List.mem_of_getElem? (i := 21) rfl)) Via.refl e0 S3 (hb hby at_80) (q := 83) rfl fun T15 X15 e15 => ?_
          refine g_astore X15 hx (hb hby at_83) rfl (L' := #[.val (.int k), .val (.long v), .second, .val (.int mode), .val (.int off), .val (.int ((k &&& (2147483647 : Int32)) % (6 : Int32))), .val (.ref w3), .unset, .unset, .unset, .unset, .unset, .unset, .unset, .unset, .unset, .unset]) rfl (q := 85) rfl ?_
          refine g_lconst X15 hx (hb hby at_85) (n := (1 : Int64)) (by decide) (q := 86) rfl ?_
          refine g_lstore X15 hx (hb hby at_86) (L' := #[.val (.int k), .val (.long v), .second, .val (.int mode), .val (.int off), .val (.int ((k &&& (2147483647 : Int32)) % (6 : Int32))), .val (.ref w3), .val (.long (1 : Int64)), .second, .unset, .unset, .unset, .unset, .unset, .unset, .unset, .unset]) rfl (q := 88) rfl ?_
          refine g_ldcJ X15 hx hZ hown (hw _ (List.mem_of_getElem? (i := 23) rfl)) (hb hby at_88) (q := 91) rfl ?_
          refine g_lstore X15 hx (hb hby at_91) (L' := #[.val (.int k), .val (.long v), .second, .val (.int mode), .val (.int off), .val (.int ((k &&& (2147483647 : Int32)) % (6 : Int32))), .val (.ref w3), .val (.long (1 : Int64)), .second, .val (.long (1000000000 : Int64)), .second, .unset, .unset, .unset, .unset, .unset, .unset]) rfl (q := 93) rfl ?_
          refine g_goto X15 hx (hb hby at_93) (by decide) (q := 131) (by decide) ?_
          exact J131 _ _ _ _ _ _ X15 e15 E3 L3 H3 D3 (by decide) (by decide)
      · refine g_getS X0 hx hZ hown (hw _ (List.mem_of_getElem? (i := 24) rfl)) Via.refl e0 S2 (hb hby at_58) (q := 61) rfl fun T16 X16 e16 => ?_
        refine g_astore X16 hx (hb hby at_61) rfl (L' := #[.val (.int k), .val (.long v), .second, .val (.int mode), .val (.int off), .val (.int ((k &&& (2147483647 : Int32)) % (6 : Int32))), .val (.ref w2), .unset, .unset, .unset, .unset, .unset, .unset, .unset, .unset, .unset, .unset]) rfl (q := 63) rfl ?_
        refine g_lconst X16 hx (hb hby at_63) (n := (1 : Int64)) (by decide) (q := 64) rfl ?_
        refine g_lstore X16 hx (hb hby at_64) (L' := #[.val (.int k), .val (.long v), .second, .val (.int mode), .val (.int off), .val (.int ((k &&& (2147483647 : Int32)) % (6 : Int32))), .val (.ref w2), .val (.long (1 : Int64)), .second, .unset, .unset, .unset, .unset, .unset, .unset, .unset, .unset]) rfl (q := 66) rfl ?_
        refine g_ldcJ X16 hx hZ hown (hw _ (List.mem_of_getElem? (i := 4) rfl)) (hb hby at_66) (q := 69) rfl ?_
        refine g_lstore X16 hx (hb hby at_69) (L' := #[.val (.int k), .val (.long v), .second, .val (.int mode), .val (.int off), .val (.int ((k &&& (2147483647 : Int32)) % (6 : Int32))), .val (.ref w2), .val (.long (1 : Int64)), .second, .val (.long (2147483647 : Int64)), .second, .unset, .unset, .unset, .unset, .unset, .unset]) rfl (q := 71) rfl ?_
        refine g_goto X16 hx (hb hby at_71) (by decide) (q := 131) (by decide) ?_
        exact J131 _ _ _ _ _ _ X16 e16 E2 L2 H2 D2 (by decide) (by decide)
    · refine g_getS X0 hx hZ hown (hw _ (List.mem_of_getElem? (i := 26) rfl)) Via.refl e0 S1 (hb hby at_36) (q := 39) rfl fun T17 X17 e17 => ?_
      refine g_astore X17 hx (hb hby at_39) rfl (L' := #[.val (.int k), .val (.long v), .second, .val (.int mode), .val (.int off), .val (.int ((k &&& (2147483647 : Int32)) % (6 : Int32))), .val (.ref w1), .unset, .unset, .unset, .unset, .unset, .unset, .unset, .unset, .unset, .unset]) rfl (q := 41) rfl ?_
      refine g_lconst X17 hx (hb hby at_41) (n := (0 : Int64)) (by decide) (q := 42) rfl ?_
      refine g_lstore X17 hx (hb hby at_42) (L' := #[.val (.int k), .val (.long v), .second, .val (.int mode), .val (.int off), .val (.int ((k &&& (2147483647 : Int32)) % (6 : Int32))), .val (.ref w1), .val (.long (0 : Int64)), .second, .unset, .unset, .unset, .unset, .unset, .unset, .unset, .unset]) rfl (q := 44) rfl ?_
      refine g_ldcJ X17 hx hZ hown (hw _ (List.mem_of_getElem? (i := 4) rfl)) (hb hby at_44) (q := 47) rfl ?_
      refine g_lstore X17 hx (hb hby at_47) (L' := #[.val (.int k), .val (.long v), .second, .val (.int mode), .val (.int off), .val (.int ((k &&& (2147483647 : Int32)) % (6 : Int32))), .val (.ref w1), .val (.long (0 : Int64)), .second, .val (.long (2147483647 : Int64)), .second, .unset, .unset, .unset, .unset, .unset, .unset]) rfl (q := 49) rfl ?_
      refine g_goto X17 hx (hb hby at_49) (by decide) (q := 131) (by decide) ?_
      exact J131 _ _ _ _ _ _ X17 e17 E1 L1 H1 D1 (by decide) (by decide)
  · refine g_getS X0 hx hZ hown (hw _ (List.mem_of_getElem? (i := 1) rfl)) Via.refl e0 S0 (hb hby at_14) (q := 17) rfl fun T18 X18 e18 => ?_
    refine g_astore X18 hx (hb hby at_17) rfl (L' := #[.val (.int k), .val (.long v), .second, .val (.int mode), .val (.int off), .val (.int ((k &&& (2147483647 : Int32)) % (6 : Int32))), .val (.ref w0), .unset, .unset, .unset, .unset, .unset, .unset, .unset, .unset, .unset, .unset]) rfl (q := 19) rfl ?_
    refine g_lconst X18 hx (hb hby at_19) (n := (1 : Int64)) (by decide) (q := 20) rfl ?_
    refine g_lstore X18 hx (hb hby at_20) (L' := #[.val (.int k), .val (.long v), .second, .val (.int mode), .val (.int off), .val (.int ((k &&& (2147483647 : Int32)) % (6 : Int32))), .val (.ref w0), .val (.long (1 : Int64)), .second, .unset, .unset, .unset, .unset, .unset, .unset, .unset, .unset]) rfl (q := 22) rfl ?_
    refine g_ldcJ X18 hx hZ hown (hw _ (List.mem_of_getElem? (i := 4) rfl)) (hb hby at_22) (q := 25) rfl ?_
    refine g_lstore X18 hx (hb hby at_25) (L' := #[.val (.int k), .val (.long v), .second, .val (.int mode), .val (.int off), .val (.int ((k &&& (2147483647 : Int32)) % (6 : Int32))), .val (.ref w0), .val (.long (1 : Int64)), .second, .val (.long (2147483647 : Int64)), .second, .unset, .unset, .unset, .unset, .unset, .unset]) rfl (q := 27) rfl ?_
    refine g_goto X18 hx (hb hby at_27) (by decide) (q := 131) (by decide) ?_
    exact J131 _ _ _ _ _ _ X18 e18 E0 L0 H0 D0 (by decide) (by decide)
set_option maxRecDepth 65536 in
set_option maxHeartbeats 40000000 in
theorem comes_1 {Post : Tables → Env → Array Value → State → Outcome → State → Prop} (hpost : ∀ tb e args s v u, (limb_1_1.after args s (.returned v) u = true ∧ limb_1_2.after args s (.returned v) u = true ∧ True) → FrameEnd s (.returned v) u (Jvm.fieldLocs frame_1_writes args s ++ Jvm.arrayLocs frame_1_arrays args s ++ Jvm.staticLocs frame_1_statics s) 0 0 → Post tb e args s (.returned v) u) :
    ArmFor flags0 classFile x code maxLocals ret World_1 tables_1 room_1 Calls_1 rest_1 Pre_1 Post := by
  intro l hfl _ _ p e ha hc hk s m args below hf hA hF happ hP
  obtain ⟨hcalls, hrest, hpre⟩ := hP
  obtain ⟨-, -, -, hnamed, -, -, -, hat⟩ := (Spec.applies_iff hf).mp happ
  obtain ⟨hg, hn⟩ := and_e (Cond.before_iff.mp (show (Jvm.Cond.and given_1 narrow_1).before args s = true from hpre))
  obtain ⟨gc, gr0⟩ := and_e hg
  obtain ⟨ga0, gr1⟩ := and_e gr0
  obtain ⟨ga1, gr2⟩ := and_e gr1
  obtain ⟨ga2, gr3⟩ := and_e gr2
  have ga3 := gr3
  obtain ⟨w0, w1, w2, w3, rfl⟩ : ∃ w0 w1 w2 w3 : Value, args = #[w0, w1, w2, w3] := by
    have hs : args.size = 4 := by simpa [Cond.value, given_1] using gc
    obtain ⟨L⟩ := args
    match L, hs with
    | [w0, w1, w2, w3], _ => exact ⟨w0, w1, w2, w3, rfl⟩
  have hw := fun d (hd : d ∈ tables_1) => atoms_spec (ws := Jvm.Cond.code x code maxLocals ret :: tables_1) hat d (List.mem_cons_of_mem _ hd)
  have hfit : Fit s := fun {y c} hc i hi => by
    obtain ⟨ha, rfl⟩ := Array.getElem?_eq_some_iff.mp hc
    have q := List.all_eq_true.mp ((Array.all_eq_true_iff_forall_mem.mp hF) _ (Array.getElem_mem ha)) i (List.mem_range.mpr hi)
    simpa [Array.getElem?_eq_getElem hi] using q
  obtain ⟨i0, ei0⟩ := is_v ga0
  obtain rfl : w0 = (.int i0) := Option.some.inj ei0
  obtain ⟨i1, ei1⟩ := isL_v ga1
  obtain rfl : w1 = (.long i1) := Option.some.inj ei1
  obtain ⟨i2, ei2⟩ := is_v ga2
  obtain rfl : w2 = (.int i2) := Option.some.inj ei2
  obtain ⟨i3, ei3⟩ := is_v ga3
  obtain rfl : w3 = (.int i3) := Option.some.inj ei3
  obtain ⟨n1, nr1⟩ := and_e hn
  obtain ⟨n2, nr2⟩ := and_e nr1
  obtain ⟨n3, nr3⟩ := and_e nr2
  obtain ⟨n4, nr4⟩ := and_e nr3
  obtain ⟨n5, nr5⟩ := and_e nr4
  obtain ⟨n6, nr6⟩ := and_e nr5
  obtain ⟨n7, nr7⟩ := and_e nr6
  obtain ⟨n8, nr8⟩ := and_e nr7
  obtain ⟨n9, nr9⟩ := and_e nr8
  obtain ⟨n10, nr10⟩ := and_e nr9
  obtain ⟨n11, nr11⟩ := and_e nr10
  obtain ⟨n12, nr12⟩ := and_e nr11
  obtain ⟨n13, nr13⟩ := and_e nr12
  obtain ⟨n14, nr14⟩ := and_e nr13
  obtain ⟨n15, nr15⟩ := and_e nr14
  obtain ⟨n16, nr16⟩ := and_e nr15
  obtain ⟨n17, nr17⟩ := and_e nr16
  obtain ⟨n18, nr18⟩ := and_e nr17
  obtain ⟨n19, nr19⟩ := and_e nr18
  obtain ⟨n20, nr20⟩ := and_e nr19
  obtain ⟨n21, nr21⟩ := and_e nr20
  obtain ⟨n22, nr22⟩ := and_e nr21
  obtain ⟨n23, nr23⟩ := and_e nr22
  have n24 := nr23
  obtain ⟨a0, ev0⟩ := exa_v n1
  have S0 := Sta.start ev0 (Or.inr ⟨(hw _ (List.mem_of_getElem? (i := 2) rfl)), (hw _ (List.mem_of_getElem? (i := 3) rfl))⟩)
  have E0 := Exa.start ev0 n1
  have L0 := own_fldJ ev0 n2
  have D0 := own_fldJ ev0 n3
  have H0 := own_fldJ ev0 n4
  obtain ⟨a3, ev3⟩ := exa_v n5
  have S3 := Sta.start ev3 (Or.inr ⟨(hw _ (List.mem_of_getElem? (i := 2) rfl)), (hw _ (List.mem_of_getElem? (i := 22) rfl))⟩)
  have E3 := Exa.start ev3 n5
  have L3 := own_fldJ ev3 n6
  have H3 := own_fldJ ev3 n7
  have D3 := own_fldJ ev3 n8
  obtain ⟨a2, ev2⟩ := exa_v n9
  have S2 := Sta.start ev2 (Or.inr ⟨(hw _ (List.mem_of_getElem? (i := 2) rfl)), (hw _ (List.mem_of_getElem? (i := 25) rfl))⟩)
  have E2 := Exa.start ev2 n9
  have L2 := own_fldJ ev2 n10
  have D2 := own_fldJ ev2 n11
  have H2 := own_fldJ ev2 n12
  obtain ⟨a1, ev1⟩ := exa_v n13
  have S1 := Sta.start ev1 (Or.inr ⟨(hw _ (List.mem_of_getElem? (i := 2) rfl)), (hw _ (List.mem_of_getElem? (i := 27) rfl))⟩)
  have E1 := Exa.start ev1 n13
  have L1 := own_fldJ ev1 n14
  have D1 := own_fldJ ev1 n15
  have H1 := own_fldJ ev1 n16
  obtain ⟨a4, ev4⟩ := exa_v n17
  have S4 := Sta.start ev4 (Or.inr ⟨(hw _ (List.mem_of_getElem? (i := 2) rfl)), (hw _ (List.mem_of_getElem? (i := 29) rfl))⟩)
  have E4 := Exa.start ev4 n17
  have L4 := own_fldJ ev4 n18
  have H4 := own_fldJ ev4 n19
  have D4 := own_fldJ ev4 n20
  obtain ⟨a5, ev5⟩ := exa_v n21
  have S5 := Sta.start ev5 (Or.inr ⟨(hw _ (List.mem_of_getElem? (i := 2) rfl)), (hw _ (List.mem_of_getElem? (i := 31) rfl))⟩)
  have E5 := Exa.start ev5 n21
  have L5 := own_fldJ ev5 n22
  have H5 := own_fldJ ev5 n23
  have D5 := own_fldJ ev5 n24
  obtain ⟨n, o, h1, h2, h3, _, L, rfl, ⟨rfl, N⟩, hq⟩ := rm0 l s _ hw i0 i1 i2 i3 a0 a1 a2 a3 a4 a5 s.heap s.heap.size S0 E0 L0 H0 D0 S1 E1 L1 H1 D1 S2 E2 L2 H2 D2 S3 E3 L3 H3 D3 S4 E4 L4 H4 D4 S5 E5 L5 H5 D5 tables_1 p e ha hc hk s m _ below hf ((Spec.applies_iff_loose hf).mp happ).1 ⟨rfl, State.Warmed39.refl s, rfl⟩ trivial
  refine ⟨n, _, h1, h2, h3, hpost _ _ _ _ _ _ ⟨Cond.after_iff.mpr rfl, Cond.after_iff.mpr (eq_i res_at (Term.int_eval (1)) rfl), trivial⟩ ⟨hq.1, hq.2.1, (hq.2.2.sift fun y hy => Or.inr (N y hy)).mono (by decide) (by decide)⟩⟩
theorem main_1_1 : Claimed_1_1 := comes_1 fun _ _ _ _ _ _ h hF => ⟨h.1, hF⟩
theorem main_1_2 : Claimed_1_2 := comes_1 fun _ _ _ _ _ _ h hF => ⟨h.2.1, hF⟩
end Jvm.Pilot.@@N@@
namespace Jvm.Pilot.@@N@@
open Jvm Jvm.ClassFile Sem Op Lib Jvm.Free Jvm.Stand Jvm.Pilot.@@N@@.Jvm.D
/-! MADE BY PROGRAM (witnessworld.py) out of the Statement's table words and the real class files: 13 classes; the members and pool entries that the words name. The judged class is class 1, her method 1. -/
namespace start1
open Jvm.ClassFile
def u (s : String) : CpInfo := .utf8 (stringToUtf16 s)
/-- a pool by its gaps: so many unusable entries, then the entry; so many at the end -/
def gap : Nat → List CpInfo → List CpInfo
  | 0, r => r
  | n + 1, r => .unusable :: gap n r
def poolList (es : List (Nat × CpInfo)) (last : Nat) : List CpInfo := es.foldr (fun e r => gap e.1 (e.2 :: r)) (gap last [])
def pool (es : List (Nat × CpInfo)) (last : Nat) : Array CpInfo := ⟨poolList es last⟩
def fileOf (pool : Array CpInfo) (this : Nat) (attrs : Array Attribute := #[]) (ms : Array MethodInfo := #[]) (fl : Nat := 33) (sup : Nat := 0) (ifs : Array Nat := #[]) (fds : Array FieldInfo := #[]) : ClassFile where
  minorVersion := 0
  majorVersion := 65
  constantPool := pool
  accessFlags := fl
  thisClass := this
  superClass := sup
  interfaces := ifs
  fields := fds
  methods := ms
  attributes := attrs
def plain (name : String) (sup : Option ClassId) : Class where
  name := name
  kind := .ordinary
  loader := none
  accessFlags := 33
  super := sup
  interfaces := #[]
  cf := none
  fields := #[]
  methods := #[]
  instanceTypes := #[]
  staticTypes := #[]
  resolved := #[]
  callSites := []
  init := .initialized
  statics := none
  mirror := none

def pool0 : Array CpInfo := pool [(5, u "<init>"), (0, u "()V"), (1, .class_ 10), (1, u "java/lang/Object")] 113

def k0m0 : Method := { name := "<init>", desc := "()V", sig := { parameters := [], returnType := none }, accessFlags := 1, code := none }
/-- java/lang/Object -/
def k0 : Class := { plain "java/lang/Object" none with
  accessFlags := 33
  interfaces := #[]
  cf := some (fileOf pool0 8 #[] #[{ accessFlags := 1, nameIndex := 5, descriptorIndex := 6, attributes := #[] }] 33 0 #[] #[])
  fields := #[]
  methods := #[k0m0]
  instanceTypes := #[]
  staticTypes := #[]
  resolved := Array.replicate 124 none
  statics := none }

def pool1 : Array CpInfo := pool [(2, .class_ 4), (1, u "java/lang/Object"), (0, u "<init>"), (0, u "()V"), (0, .integer 2147483647), (0, .fieldref 9 10), (0, .class_ 11), (0, .nameAndType 12 13), (0, u "com/example/pipe_to_people/pipetopeople/config/ESetting"), (0, u "TOKEN_LIFETIME_SECONDS"), (0, u "Lcom/example/pipe_to_people/pipetopeople/config/ESetting;"), (0, .long 2147483647), (1, .fieldref 9 17), (0, .nameAndType 18 13), (0, u "LINK_WAIT_SECONDS"), (0, .fieldref 9 20), (0, .nameAndType 21 13), (0, u "LINK_RETRY_SECONDS"), (0, .fieldref 9 23), (0, .nameAndType 24 13), (0, u "REQUESTS_PER_SECOND_PER_CLIENT"), (0, .long 1000000000), (1, .fieldref 9 28), (0, .nameAndType 29 13), (0, u "OBJECTS_PER_DAY_PER_SUBSCRIPTION"), (0, .fieldref 9 31), (0, .nameAndType 32 13), (0, u "MAX_PENDING_REQUESTS"), (0, .methodref 9 34), (0, .nameAndType 35 36), (0, u "allows"), (0, u "(J)Z"), (0, .methodref 9 38), (0, .nameAndType 39 40), (0, u "getDefault"), (0, u "()J"), (0, .class_ 42), (0, u "com/example/pipe_to_people/pipetopeople/config/ESettingAllowsPinLaw"), (2, u "law"), (0, u "(IJII)Z")] 3

def k1m0 : Method := { name := "<init>", desc := "()V", sig := { parameters := [], returnType := none }, accessFlags := 1, code := none }
def k1c1 : Code := { maxStack := 4, maxLocals := 17, code := code, exceptionTable := #[], attributes := #[] }
def k1m1 : Method := { name := "law", desc := "(IJII)Z", sig := { parameters := [.int, .long, .int, .int], returnType := some .boolean }, accessFlags := 9, code := some k1c1 }
/-- com/example/pipe_to_people/pipetopeople/config/ESettingAllowsPinLaw -/
def k1 : Class := { plain "com/example/pipe_to_people/pipetopeople/config/ESettingAllowsPinLaw" (some 0) with
  accessFlags := 49
  interfaces := #[]
  cf := some (fileOf pool1 41 #[] #[{ accessFlags := 1, nameIndex := 5, descriptorIndex := 6, attributes := #[] }, { accessFlags := 9, nameIndex := 45, descriptorIndex := 46, attributes := #[] }] 49 2 #[] #[])
  fields := #[]
  methods := #[k1m0, k1m1]
  instanceTypes := #[]
  staticTypes := #[]
  resolved := Array.replicate 50 none
  statics := none }

def pool2 : Array CpInfo := pool [(1, .class_ 2), (0, u "java/lang/constant/Constable"), (0, .class_ 4), (0, u "java/lang/Object")] 6

/-- java/lang/constant/Constable -/
def k2 : Class := { plain "java/lang/constant/Constable" (some 0) with
  accessFlags := 1537
  interfaces := #[]
  cf := some (fileOf pool2 1 #[] #[] 1537 3 #[] #[])
  fields := #[]
  methods := #[]
  instanceTypes := #[]
  staticTypes := #[]
  resolved := Array.replicate 11 none
  statics := none }

def pool3 : Array CpInfo := pool [(1, .class_ 2), (0, u "java/lang/Comparable"), (0, .class_ 4), (0, u "java/lang/Object")] 7

/-- java/lang/Comparable -/
def k3 : Class := { plain "java/lang/Comparable" (some 0) with
  accessFlags := 1537
  interfaces := #[]
  cf := some (fileOf pool3 1 #[] #[] 1537 3 #[] #[])
  fields := #[]
  methods := #[]
  instanceTypes := #[]
  staticTypes := #[]
  resolved := Array.replicate 12 none
  statics := none }

def pool4 : Array CpInfo := pool [(1, .class_ 2), (0, u "java/io/Serializable"), (0, .class_ 4), (0, u "java/lang/Object")] 2

/-- java/io/Serializable -/
def k4 : Class := { plain "java/io/Serializable" (some 0) with
  accessFlags := 1537
  interfaces := #[]
  cf := some (fileOf pool4 1 #[] #[] 1537 3 #[] #[])
  fields := #[]
  methods := #[]
  instanceTypes := #[]
  staticTypes := #[]
  resolved := Array.replicate 7 none
  statics := none }

def pool5 : Array CpInfo := pool [(2, .class_ 4), (1, u "java/lang/Enum"), (0, u "name"), (0, u "Ljava/lang/String;"), (2, u "ordinal"), (0, u "I"), (1, .class_ 14), (1, u "java/lang/Object"), (4, u "hash"), (86, .class_ 108), (1, u "java/lang/Enum$EnumDesc"), (2, .class_ 112), (0, u "java/lang/constant/Constable"), (0, .class_ 114), (0, u "java/lang/Comparable"), (0, .class_ 116), (0, u "java/io/Serializable")] 87

/-- java/lang/Enum -/
def k5 : Class := { plain "java/lang/Enum" (some 0) with
  accessFlags := 1057
  interfaces := #[2, 3, 4]
  cf := some (fileOf pool5 2 #[.nestMembers #[106]] #[] 1057 12 #[111, 113, 115] #[{ accessFlags := 18, nameIndex := 5, descriptorIndex := 6, attributes := #[] }, { accessFlags := 18, nameIndex := 9, descriptorIndex := 10, attributes := #[] }, { accessFlags := 2, nameIndex := 19, descriptorIndex := 10, attributes := #[] }])
  fields := #[{ name := "name", type := (.object "java/lang/String"), accessFlags := 18, slot := 0, constantValue := 0 }, { name := "ordinal", type := .int, accessFlags := 18, slot := 1, constantValue := 0 }, { name := "hash", type := .int, accessFlags := 2, slot := 2, constantValue := 0 }]
  methods := #[]
  instanceTypes := #[(.object "java/lang/String"), .int, .int]
  staticTypes := #[]
  resolved := Array.replicate 204 none
  statics := none }

def pool6 : Array CpInfo := pool [(2, .class_ 4), (1, u "com/example/pipe_to_people/pipetopeople/protocol/INamed"), (8, .class_ 14), (0, u "java/lang/Object")] 11

/-- com/example/pipe_to_people/pipetopeople/protocol/INamed -/
def k6 : Class := { plain "com/example/pipe_to_people/pipetopeople/protocol/INamed" (some 0) with
  accessFlags := 1537
  interfaces := #[]
  cf := some (fileOf pool6 2 #[] #[] 1537 13 #[] #[])
  fields := #[]
  methods := #[]
  instanceTypes := #[]
  staticTypes := #[]
  resolved := Array.replicate 26 none
  statics := none }

def pool7 : Array CpInfo := pool [(1, .class_ 2), (0, u "com/example/pipe_to_people/pipetopeople/config/ESetting"), (2, u "TOKEN_LIFETIME_SECONDS"), (0, u "Lcom/example/pipe_to_people/pipetopeople/config/ESetting;"), (2, u "LINK_WAIT_SECONDS"), (2, u "LINK_RETRY_SECONDS"), (2, u "REQUESTS_PER_SECOND_PER_CLIENT"), (2, u "OBJECTS_PER_DAY_PER_SUBSCRIPTION"), (2, u "MAX_PENDING_REQUESTS"), (2, u "$VALUES"), (0, u "[Lcom/example/pipe_to_people/pipetopeople/config/ESetting;"), (6, .class_ 34), (1, u "java/lang/Enum"), (8, u "m_sName"), (0, u "Ljava/lang/String;"), (0, .fieldref 1 46), (0, .nameAndType 47 48), (0, u "m_nDefault"), (0, u "J"), (0, .fieldref 1 50), (0, .nameAndType 51 48), (0, u "m_nLowest"), (0, .fieldref 1 53), (0, .nameAndType 54 48), (0, u "m_nHighest"), (9, .class_ 66), (1, u "com/example/pipe_to_people/pipetopeople/protocol/INamed"), (52, u "getDefault"), (0, u "()J"), (0, u "allows"), (0, u "(J)Z")] 23

def k7c0 : Code := { maxStack := 2, maxLocals := 1, code := prog_3_method_5_code, exceptionTable := #[], attributes := #[] }
def k7m0 : Method := { name := "getDefault", desc := "()J", sig := { parameters := [], returnType := some .long }, accessFlags := 1, code := some k7c0 }
def k7c1 : Code := { maxStack := 4, maxLocals := 3, code := prog_3_method_6_code, exceptionTable := #[], attributes := #[] }
def k7m1 : Method := { name := "allows", desc := "(J)Z", sig := { parameters := [.long], returnType := some .boolean }, accessFlags := 1, code := some k7c1 }
/-- com/example/pipe_to_people/pipetopeople/config/ESetting -/
def k7 : Class := { plain "com/example/pipe_to_people/pipetopeople/config/ESetting" (some 5) with
  accessFlags := 16433
  interfaces := #[6]
  cf := some (fileOf pool7 1 #[] #[{ accessFlags := 1, nameIndex := 119, descriptorIndex := 120, attributes := #[] }, { accessFlags := 1, nameIndex := 121, descriptorIndex := 122, attributes := #[] }] 16433 32 #[64] #[{ accessFlags := 16409, nameIndex := 5, descriptorIndex := 6, attributes := #[] }, { accessFlags := 16409, nameIndex := 9, descriptorIndex := 6, attributes := #[] }, { accessFlags := 16409, nameIndex := 12, descriptorIndex := 6, attributes := #[] }, { accessFlags := 16409, nameIndex := 15, descriptorIndex := 6, attributes := #[] }, { accessFlags := 16409, nameIndex := 18, descriptorIndex := 6, attributes := #[] }, { accessFlags := 16409, nameIndex := 21, descriptorIndex := 6, attributes := #[] }, { accessFlags := 18, nameIndex := 43, descriptorIndex := 44, attributes := #[] }, { accessFlags := 18, nameIndex := 47, descriptorIndex := 48, attributes := #[] }, { accessFlags := 18, nameIndex := 51, descriptorIndex := 48, attributes := #[] }, { accessFlags := 18, nameIndex := 54, descriptorIndex := 48, attributes := #[] }, { accessFlags := 4122, nameIndex := 24, descriptorIndex := 25, attributes := #[] }])
  fields := #[{ name := "TOKEN_LIFETIME_SECONDS", type := (.object "com/example/pipe_to_people/pipetopeople/config/ESetting"), accessFlags := 16409, slot := 0, constantValue := 0 }, { name := "LINK_WAIT_SECONDS", type := (.object "com/example/pipe_to_people/pipetopeople/config/ESetting"), accessFlags := 16409, slot := 1, constantValue := 0 }, { name := "LINK_RETRY_SECONDS", type := (.object "com/example/pipe_to_people/pipetopeople/config/ESetting"), accessFlags := 16409, slot := 2, constantValue := 0 }, { name := "REQUESTS_PER_SECOND_PER_CLIENT", type := (.object "com/example/pipe_to_people/pipetopeople/config/ESetting"), accessFlags := 16409, slot := 3, constantValue := 0 }, { name := "OBJECTS_PER_DAY_PER_SUBSCRIPTION", type := (.object "com/example/pipe_to_people/pipetopeople/config/ESetting"), accessFlags := 16409, slot := 4, constantValue := 0 }, { name := "MAX_PENDING_REQUESTS", type := (.object "com/example/pipe_to_people/pipetopeople/config/ESetting"), accessFlags := 16409, slot := 5, constantValue := 0 }, { name := "m_sName", type := (.object "java/lang/String"), accessFlags := 18, slot := 3, constantValue := 0 }, { name := "m_nDefault", type := .long, accessFlags := 18, slot := 4, constantValue := 0 }, { name := "m_nLowest", type := .long, accessFlags := 18, slot := 5, constantValue := 0 }, { name := "m_nHighest", type := .long, accessFlags := 18, slot := 6, constantValue := 0 }, { name := "$VALUES", type := (.array (.object "com/example/pipe_to_people/pipetopeople/config/ESetting")), accessFlags := 4122, slot := 6, constantValue := 0 }]
  methods := #[k7m0, k7m1]
  instanceTypes := #[(.object "java/lang/String"), .int, .int, (.object "java/lang/String"), .long, .long, .long]
  staticTypes := #[(.object "com/example/pipe_to_people/pipetopeople/config/ESetting"), (.object "com/example/pipe_to_people/pipetopeople/config/ESetting"), (.object "com/example/pipe_to_people/pipetopeople/config/ESetting"), (.object "com/example/pipe_to_people/pipetopeople/config/ESetting"), (.object "com/example/pipe_to_people/pipetopeople/config/ESetting"), (.object "com/example/pipe_to_people/pipetopeople/config/ESetting"), (.array (.object "com/example/pipe_to_people/pipetopeople/config/ESetting"))]
  resolved := Array.replicate 146 none
  statics := some 0 }

def pool8 : Array CpInfo := pool [(1, u "java/lang/Cloneable"), (0, .class_ 1), (0, u "java/lang/Object"), (0, .class_ 3)] 3

/-- java/lang/Cloneable -/
def k8 : Class := { plain "java/lang/Cloneable" (some 0) with
  accessFlags := 1537
  interfaces := #[]
  cf := some (fileOf pool8 2 #[] #[] 1537 4 #[] #[])
  fields := #[]
  methods := #[]
  instanceTypes := #[]
  staticTypes := #[]
  resolved := Array.replicate 8 none
  statics := none }

/-- the primitive byte -/
def k9 : Class := { plain "byte" none with kind := .primitive 'B', accessFlags := 0x411 }
/-- [B -/
def k10 : Class := { plain "[B" (some 0) with kind := .array 9 .byte, interfaces := #[8, 4], accessFlags := 1041 }

/-- the primitive int -/
def k11 : Class := { plain "int" none with kind := .primitive 'I', accessFlags := 0x411 }
/-- [I -/
def k12 : Class := { plain "[I" (some 0) with kind := .array 11 .int, interfaces := #[8, 4], accessFlags := 1041 }

def heap : Heap := #[{ cls := 7, slots := #[.ref 1, .ref 2, .ref 3, .ref 4, .ref 5, .ref 6, .null], vm := .statics 7 },
  { cls := 7, slots := #[.null, .int 0, .int 0, .null, .long 3600, .long 1, .long 2147483647], vm := .none },
  { cls := 7, slots := #[.null, .int 1, .int 0, .null, .long 3900, .long 0, .long 2147483647], vm := .none },
  { cls := 7, slots := #[.null, .int 2, .int 0, .null, .long 300, .long 1, .long 2147483647], vm := .none },
  { cls := 7, slots := #[.null, .int 3, .int 0, .null, .long 5000, .long 1, .long 1000000000], vm := .none },
  { cls := 7, slots := #[.null, .int 4, .int 0, .null, .long 10000000, .long 1, .long 2147483647], vm := .none },
  { cls := 7, slots := #[.null, .int 5, .int 0, .null, .long 10000, .long 1, .long 2147483647], vm := .none }]
def classes : Array Class := #[k0, k1, k2, k3, k4, k5, k6, k7, k8, k9, k10, k11, k12]
def interned : List (Array UInt16 × Addr) := []
def slotsUsed : Nat := 49
def theMethod : MethodId := ⟨1, 1⟩
def args0 : Array Value := #[.int 5, .long 1, .int 7, .int 2]
def aboutOver (below : List Frame) : State where
  vm := { classes := classes, interned := interned.toArray }
  heap := heap
  slotsUsed := slotsUsed
  threads := #[{ frames := .invoking theMethod args0 :: below }]
def below0 : List Frame := [.native { method := ⟨0, 0⟩, args := #[] }]
def about1 : State := aboutOver below0
def p0 : Program := .bare "" "" ""
def e0 : Env := launch0.env 0 0 0
theorem w_frames : about1.frames = Frame.invoking theMethod args0 :: below0 := rfl
set_option maxRecDepth 65536 in
theorem w_args : argsFit about1.vm theMethod args0 = true := by decide +kernel
set_option maxRecDepth 65536 in
theorem w_heap : heapFits about1 = true := by decide +kernel
set_option maxRecDepth 65536 in
theorem w_runnable : about1.curStatus? = some .runnable := by decide +kernel
set_option maxRecDepth 65536 in
theorem w_alone : about1.alone = true := by decide +kernel
set_option maxRecDepth 65536 in
theorem w_named : about1.methodNamed? x = some theMethod := by decide +kernel
set_option maxRecDepth 65536 in
theorem w_hears : about1.hears theMethod below0 = true := by decide +kernel
set_option maxRecDepth 65536 in
theorem w_ripe : about1.ripe theMethod args0 below0 = true := by decide +kernel
theorem w_running : about1.status = .running := rfl
set_option maxRecDepth 65536 in
theorem w_room : about1.hasRoom e0.platform room_1 = true :=
  launch0.hasRoom_least _ room_1 (by decide +kernel) (by decide +kernel) (by decide +kernel) (by decide +kernel) (by decide +kernel) (by decide +kernel)
theorem allAtoms_all (ts : List Jvm.Cond) (a : Array Jvm.Value) (st : Jvm.State) : (allAtoms ts).before a st = ts.all (fun c => c.before a st) := by
  induction ts with
  | nil => rfl
  | cons c t ih =>
    show (Jvm.Cond.and c (allAtoms t)).before a st = _
    rw [Jvm.Cond.before_and, ih, List.all_cons]
def words1 : List Jvm.Cond := Jvm.Cond.code x code maxLocals ret :: tables_1
/-- a 'code' word, met by the world's own term for the bytes: nothing is compared byte by byte -/
theorem code_word {y : MethodName} {bytes : ByteArray} {mx : Nat} {rt : Option FieldType} {a : Array Value} {s : State} {m : MethodId} {meth : Method} {c : Code} (h1 : s.methodNamed? y = some m) (h2 : s.vm.method? m = some meth) (h3 : meth.code = some c) (h4 : c.code = bytes)
    (h5 : (c.maxLocals == mx && c.exceptionTable.isEmpty && decide (c.maxStack ≤ mostOperands) && decide (meth.sig.returnType = rt) && !meth.locks && decide (parseMethodDescriptor y.desc = some meth.sig)) = true) : (Jvm.Cond.code y bytes mx rt).before a s = true := by
  simp only [Bool.and_eq_true, beq_iff_eq, Bool.not_eq_true', decide_eq_true_eq] at h5
  obtain ⟨⟨⟨⟨⟨g1, g2⟩, g3⟩, g4⟩, g5⟩, g6⟩ := h5
  simp [Cond.before, Cond.holds, Cond.value, h1, h2, h3, h4, g1, g2, g3, g4, g5, g6]
def isCode : Jvm.Cond → Bool
  | .code _ _ _ _ => true
  | _ => false
theorem all_split {L : List Jvm.Cond} {P : Jvm.Cond → Bool} (h1 : L.all (fun c => isCode c || P c) = true) (h2 : ∀ c ∈ L.filter isCode, P c = true) : L.all P = true := by
  refine List.all_eq_true.mpr fun c hc => ?_
  have h := List.all_eq_true.mp h1 c hc
  rcases Bool.eq_false_or_eq_true (isCode c) with hi | hi
  · exact h2 c (List.mem_filter.mpr ⟨hc, hi⟩)
  · simpa [hi] using h
set_option maxRecDepth 65536 in
theorem w_c0 : (Jvm.Cond.code x code maxLocals ret).before args0 about1 = true := code_word (m := ⟨1, 1⟩) (meth := k1m1) (c := k1c1) (by decide +kernel) rfl rfl rfl (by decide +kernel)
set_option maxRecDepth 65536 in
theorem w_c1 : (Jvm.Cond.code ({ cls := "com/example/pipe_to_people/pipetopeople/config/ESetting", name := "allows", desc := "(J)Z" } : Jvm.MethodName) prog_3_method_6_code (3 : Nat) (Option.some Jvm.ClassFile.FieldType.boolean)).before args0 about1 = true := code_word (m := ⟨7, 1⟩) (meth := k7m1) (c := k7c1) (by decide +kernel) rfl rfl rfl (by decide +kernel)
set_option maxRecDepth 65536 in
theorem w_c2 : (Jvm.Cond.code ({ cls := "com/example/pipe_to_people/pipetopeople/config/ESetting", name := "getDefault", desc := "()J" } : Jvm.MethodName) prog_3_method_5_code (1 : Nat) (Option.some Jvm.ClassFile.FieldType.long)).before args0 about1 = true := code_word (m := ⟨7, 0⟩) (meth := k7m0) (c := k7c0) (by decide +kernel) rfl rfl rfl (by decide +kernel)
def codes1 : List Jvm.Cond := [Jvm.Cond.code x code maxLocals ret, Jvm.Cond.code ({ cls := "com/example/pipe_to_people/pipetopeople/config/ESetting", name := "allows", desc := "(J)Z" } : Jvm.MethodName) prog_3_method_6_code (3 : Nat) (Option.some Jvm.ClassFile.FieldType.boolean), Jvm.Cond.code ({ cls := "com/example/pipe_to_people/pipetopeople/config/ESetting", name := "getDefault", desc := "()J" } : Jvm.MethodName) prog_3_method_5_code (1 : Nat) (Option.some Jvm.ClassFile.FieldType.long)]
set_option maxRecDepth 65536 in
theorem codes_eq : words1.filter isCode = codes1 := rfl
theorem w_codes : ∀ c ∈ words1.filter isCode, c.before args0 about1 = true := by
  rw [codes_eq]
  intro c hc
  simp only [codes1, List.mem_cons, List.not_mem_nil, or_false] at hc
  rcases hc with rfl | rfl | rfl
  · exact w_c0
  · exact w_c1
  · exact w_c2
set_option maxRecDepth 65536 in
theorem w_t1 : (words1.take 24).all (fun c => isCode c || c.before args0 about1) = true := by decide +kernel
set_option maxRecDepth 65536 in
theorem w_t2 : (words1.drop 24).all (fun c => isCode c || c.before args0 about1) = true := by decide +kernel
theorem w_tables : (allAtoms (Jvm.Cond.code x code maxLocals ret :: tables_1)).before args0 about1 = true := by
  rw [allAtoms_all]
  show words1.all (fun c => c.before args0 about1) = true
  refine all_split ?_ w_codes
  rw [← List.take_append_drop 24 words1, List.all_append, w_t1, w_t2]
  rfl
set_option maxRecDepth 65536 in
theorem w_case : (Jvm.Cond.and given_1 narrow_1).before args0 about1 = true := by decide +kernel
theorem w_applies : (headSpec (Jvm.Cond.code x code maxLocals ret :: tables_1) room_1).applies x e0.platform about1 = true :=
  (Spec.applies_iff w_frames).mpr ⟨w_running, w_runnable, w_alone, w_named, w_hears, w_ripe, w_room, w_tables⟩
theorem atStart : AtStart classFile x code maxLocals ret World_1 tables_1 room_1 Calls_1 rest_1 Pre_1 launch0 p0 e0 about1 theMethod args0 below0 :=
  ⟨lists_1, trivial, launch0.admits_env _ _ _, launch0.least_env, fairChoices_fair.cas, fairChoices_fair.clock, w_frames, w_args, w_heap, w_applies, trivial, trivial, w_case⟩
end start1
theorem witness_1 : WitnessClaimed_1 := ⟨start1.p0, start1.e0, start1.about1, start1.theMethod, start1.args0, start1.below0, start1.atStart⟩
end Jvm.Pilot.@@N@@
