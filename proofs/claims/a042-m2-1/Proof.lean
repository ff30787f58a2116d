import JvmDerived
import JvmDerived.Pilot.@@N@@Statement
import JvmDerived.Pilot.@@N@@Code
set_option linter.unusedVariables false
set_option linter.unusedSimpArgs false
namespace Jvm.Pilot.@@N@@
open Jvm Jvm.ClassFile Sem Op Lib Jvm.Free Jvm.Stand Jvm.LawKit Jvm.RoadKit Bundle Jvm.Pilot.@@N@@.Jvm.D
section Own
variable {p : Program} {l : Launch} {e : Env} {R : Room} {s : State} {m : MethodId} {args : Array Value} {below : List Frame} {meth : Method} {c : Code} {T : State} {locs : List Loc} {cells slots : Nat}
/-- from S0 the run ends, and the end is as EE says -/
def own_GoE (p : Program) (e : Env) (below : List Frame) (EE : Outcome → Option Value → State → List Loc → Prop) (S0 : State) : Prop :=
  ∃ U o, Steps p.tables e below S0 U ∧ U.status = .running ∧ Ended U below o ∧ ∃ v L, o = .returned v ∧ EE o v U L
/-- .. within the frame of k cells and n slots -/
abbrev own_Go (p : Program) (e : Env) (below : List Frame) (s : State) (Q : Option Value → Heap → List Loc → Prop) (k n : Nat) (S0 : State) : Prop :=
  own_GoE p e below (fun o v U L => Q v U.heap L ∧ FrameEnd s o U L k n) S0
variable {Q : Option Value → Heap → List Loc → Prop} {K N : Nat} {S0 S1 : State} {EE : Outcome → Option Value → State → List Loc → Prop}
theorem own_step (h : ∀ t, Steps p.tables e below S1 t → Steps p.tables e below S0 t) (G : own_GoE p e below EE S1) : own_GoE p e below EE S0 := by
  obtain ⟨U, o, h1, r⟩ := G
  exact ⟨U, o, h _ h1, r⟩
theorem own_start {g g' : JFrame} (q : g = g') (G : own_GoE p e below EE (T.setTop g')) : own_GoE p e below EE (T.setTop g) := q ▸ G
theorem own_end (X : Stand p l e R s m args below meth c T locs cells slots) {v : Option Value} (hv : meth.sig.returnType = none → v = none) (hlk : meth.locks = false) (hq : Q v T.heap locs) (hk : cells ≤ K) (hn : slots ≤ N)
    (go : ∀ fs, (∀ (f : JFrame) (acts : List Action), f.method = m → f.locked = none → f.entered = [] → (doReturn e (T.setTop f) acts v).1 = T.setFrames fs) → Steps p.tables e below S0 (T.setFrames fs)) : own_Go p e below s Q K N S0 := by
  obtain ⟨fs, hr, hrun, hended, hW, hsame⟩ := X.leave (v := v) hv hlk
  exact ⟨_, _, go fs hr, hrun, hended, _, _, rfl, hq, ⟨_, rfl⟩, hW, hsame.mono hk hn⟩
theorem own_retN (X : Stand p l e R s m args below meth c T locs cells slots) (hx : p.tables.exec = Jvm.exec) (hlk : meth.locks = false) {pc : Nat} {Ls : Array Slot} {z : Int32} {t : FieldType} {rest : List Value} (hret : meth.sig.returnType = some t) (ht : t = .boolean ∨ t = .byte ∨ t = .char ∨ t = .short)
    (hd : decode c.code pc = .ok (.ireturn, 1)) (hq : Q (some (.int (nar t z))) T.heap locs) (hk : cells ≤ K) (hn : slots ≤ N) : own_Go p e below s Q K N (T.setTop (mkF m pc Ls (.int z :: rest))) :=
  own_end X (fun h => by rw [hret] at h; cases h) hlk hq hk hn fun fs hr => retN X hx hret ht hd hr
theorem own_retI (X : Stand p l e R s m args below meth c T locs cells slots) (hx : p.tables.exec = Jvm.exec) (hlk : meth.locks = false) {pc : Nat} {Ls : Array Slot} {z : Int32} {rest : List Value} (hret : meth.sig.returnType = some .int)
    (hd : decode c.code pc = .ok (.ireturn, 1)) (hq : Q (some (.int z)) T.heap locs) (hk : cells ≤ K) (hn : slots ≤ N) : own_Go p e below s Q K N (T.setTop (mkF m pc Ls (.int z :: rest))) :=
  own_end X (fun h => by rw [hret] at h; cases h) hlk hq hk hn fun fs hr => retOut X hx hret rfl (Or.inl ⟨rfl, Or.inl rfl, _, rfl⟩) hd hr
theorem own_retJ (X : Stand p l e R s m args below meth c T locs cells slots) (hx : p.tables.exec = Jvm.exec) (hlk : meth.locks = false) {pc : Nat} {Ls : Array Slot} {z : Int64} {rest : List Value} (hret : meth.sig.returnType = some .long)
    (hd : decode c.code pc = .ok (.lreturn, 1)) (hq : Q (some (.long z)) T.heap locs) (hk : cells ≤ K) (hn : slots ≤ N) : own_Go p e below s Q K N (T.setTop (mkF m pc Ls (.long z :: rest))) :=
  own_end X (fun h => by rw [hret] at h; cases h) hlk hq hk hn fun fs hr => retOut X hx hret rfl (Or.inr (Or.inl ⟨rfl, rfl, _, rfl⟩)) hd hr
theorem own_retA (X : Stand p l e R s m args below meth c T locs cells slots) (hx : p.tables.exec = Jvm.exec) (hlk : meth.locks = false) {pc : Nat} {Ls : Array Slot} {w : Value} {t : FieldType} {rest : List Value} (hret : meth.sig.returnType = some t) (ht : t.isReference = true) (hw : w.isRef = true)
    (hd : decode c.code pc = .ok (.areturn, 1)) (hq : Q (some w) T.heap locs) (hk : cells ≤ K) (hn : slots ≤ N) : own_Go p e below s Q K N (T.setTop (mkF m pc Ls (w :: rest))) :=
  own_end X (fun h => by rw [hret] at h; cases h) hlk hq hk hn fun fs hr => retOut X hx hret (by cases t <;> first | (cases ht; done) | (cases w <;> rfl)) (Or.inr (Or.inr (Or.inr (Or.inr ⟨rfl, ht, hw⟩)))) hd hr
theorem own_retV (X : Stand p l e R s m args below meth c T locs cells slots) (hx : p.tables.exec = Jvm.exec) (hlk : meth.locks = false) {pc : Nat} {Ls : Array Slot} (hret : meth.sig.returnType = none)
    (hd : decode c.code pc = .ok (.return_, 1)) (hq : Q none T.heap locs) (hk : cells ≤ K) (hn : slots ≤ N) : own_Go p e below s Q K N (T.setTop (mkF m pc Ls [])) :=
  own_end X (fun _ => rfl) hlk hq hk hn fun fs hr => X.returnOut hx hret hd hr
theorem own_Sta_keep {Z : State} {h h' : Heap} {ws : List Addr} {C n d : String} {w : Value} (Kp : Keep h h' ws) (F : Sta Z h C n d w) (q : ∀ a ∈ ws, ∀ cell : Cell, h[a]? = some cell → cell.vm.isStatics = false) : Sta Z h' C n d w := by
  obtain ⟨cf, i, k, f, st, cell, h1, h2, h3, h4, h5, h6, h7⟩ := F
  exact ⟨cf, i, k, f, st, cell, h1, h2, h3, h4, Kp.2.1 _ _ h5 (fun hm => by rw [q _ hm _ h5] at h6; cases h6), h6, h7⟩
theorem g_iload_n (X : Stand p l e R s m args below meth c T locs cells slots) (hx : p.tables.exec = Jvm.exec) {pc : Nat} (pc' : Nat) {Ls : Array Slot} {k : Fin 4} {v : Int32} {st : List Value} (hd : decode c.code pc = .ok (.iload_n k, 1)) (hl : Ls[k.val]? = some (.val (.int v))) (hp : pc + 1 = pc') (G : own_GoE p e below EE (T.setTop (mkF m pc' Ls (.int v :: st)))) : own_GoE p e below EE (T.setTop (mkF m pc Ls (st))) := by
  subst hp; exact own_step (fun _ k => XS.iloadN X.here hx rfl hd hl k) G
theorem g_iload (X : Stand p l e R s m args below meth c T locs cells slots) (hx : p.tables.exec = Jvm.exec) {pc : Nat} (pc' : Nat) {Ls : Array Slot} {k : Nat} {v : Int32} {st : List Value} (hd : decode c.code pc = .ok (.iload k, 2)) (hl : Ls[k]? = some (.val (.int v))) (hp : pc + 2 = pc') (G : own_GoE p e below EE (T.setTop (mkF m pc' Ls (.int v :: st)))) : own_GoE p e below EE (T.setTop (mkF m pc Ls (st))) := by
  subst hp; exact own_step (fun _ k => XS.iload X.here hx rfl hd hl k) G
theorem g_istore_n (X : Stand p l e R s m args below meth c T locs cells slots) (hx : p.tables.exec = Jvm.exec) {pc : Nat} (pc' : Nat) {Ls : Array Slot} {k : Fin 4} {v : Int32} {st : List Value} {l' : Array Slot} (hd : decode c.code pc = .ok (.istore_n k, 1)) (hl : storeLocals Ls k.val (.int v) = some l') (hp : pc + 1 = pc') (G : own_GoE p e below EE (T.setTop (mkF m pc' l' (st)))) : own_GoE p e below EE (T.setTop (mkF m pc Ls (.int v :: st))) := by
  subst hp; exact own_step (fun _ k => XS.istoreN X.here hx rfl hd rfl hl k) G
theorem g_istore (X : Stand p l e R s m args below meth c T locs cells slots) (hx : p.tables.exec = Jvm.exec) {pc : Nat} (pc' : Nat) {Ls : Array Slot} {k : Nat} {v : Int32} {st : List Value} {l' : Array Slot} (hd : decode c.code pc = .ok (.istore k, 2)) (hl : storeLocals Ls k (.int v) = some l') (hp : pc + 2 = pc') (G : own_GoE p e below EE (T.setTop (mkF m pc' l' (st)))) : own_GoE p e below EE (T.setTop (mkF m pc Ls (.int v :: st))) := by
  subst hp; exact own_step (fun _ k => XS.istore X.here hx rfl hd rfl hl k) G
theorem g_lload_n (X : Stand p l e R s m args below meth c T locs cells slots) (hx : p.tables.exec = Jvm.exec) {pc : Nat} (pc' : Nat) {Ls : Array Slot} {k : Fin 4} {v : Int64} {st : List Value} (hd : decode c.code pc = .ok (.lload_n k, 1)) (hl : Ls[k.val]? = some (.val (.long v))) (hp : pc + 1 = pc') (G : own_GoE p e below EE (T.setTop (mkF m pc' Ls (.long v :: st)))) : own_GoE p e below EE (T.setTop (mkF m pc Ls (st))) := by
  subst hp; exact own_step (fun _ k => XS.lloadN X.here hx rfl hd hl k) G
theorem g_lload (X : Stand p l e R s m args below meth c T locs cells slots) (hx : p.tables.exec = Jvm.exec) {pc : Nat} (pc' : Nat) {Ls : Array Slot} {k : Nat} {v : Int64} {st : List Value} (hd : decode c.code pc = .ok (.lload k, 2)) (hl : Ls[k]? = some (.val (.long v))) (hp : pc + 2 = pc') (G : own_GoE p e below EE (T.setTop (mkF m pc' Ls (.long v :: st)))) : own_GoE p e below EE (T.setTop (mkF m pc Ls (st))) := by
  subst hp; exact own_step (fun _ k => XS.lload X.here hx rfl hd hl k) G
theorem g_lstore_n (X : Stand p l e R s m args below meth c T locs cells slots) (hx : p.tables.exec = Jvm.exec) {pc : Nat} (pc' : Nat) {Ls : Array Slot} {k : Fin 4} {v : Int64} {st : List Value} {l' : Array Slot} (hd : decode c.code pc = .ok (.lstore_n k, 1)) (hl : storeLocals Ls k.val (.long v) = some l') (hp : pc + 1 = pc') (G : own_GoE p e below EE (T.setTop (mkF m pc' l' (st)))) : own_GoE p e below EE (T.setTop (mkF m pc Ls (.long v :: st))) := by
  subst hp; exact own_step (fun _ k => XS.lstoreN X.here hx rfl hd rfl hl k) G
theorem g_lstore (X : Stand p l e R s m args below meth c T locs cells slots) (hx : p.tables.exec = Jvm.exec) {pc : Nat} (pc' : Nat) {Ls : Array Slot} {k : Nat} {v : Int64} {st : List Value} {l' : Array Slot} (hd : decode c.code pc = .ok (.lstore k, 2)) (hl : storeLocals Ls k (.long v) = some l') (hp : pc + 2 = pc') (G : own_GoE p e below EE (T.setTop (mkF m pc' l' (st)))) : own_GoE p e below EE (T.setTop (mkF m pc Ls (.long v :: st))) := by
  subst hp; exact own_step (fun _ k => XS.lstore X.here hx rfl hd rfl hl k) G
theorem g_aload_n (X : Stand p l e R s m args below meth c T locs cells slots) (hx : p.tables.exec = Jvm.exec) {pc : Nat} (pc' : Nat) {Ls : Array Slot} {k : Fin 4} {v : Value} {st : List Value} (hd : decode c.code pc = .ok (.aload_n k, 1)) (hl : Ls[k.val]? = some (.val v)) (hv : v.isRef = true) (hp : pc + 1 = pc') (G : own_GoE p e below EE (T.setTop (mkF m pc' Ls (v :: st)))) : own_GoE p e below EE (T.setTop (mkF m pc Ls (st))) := by
  subst hp; exact own_step (fun _ k => XS.aloadN X.here hx rfl hd hl hv k) G
theorem g_aload (X : Stand p l e R s m args below meth c T locs cells slots) (hx : p.tables.exec = Jvm.exec) {pc : Nat} (pc' : Nat) {Ls : Array Slot} {k : Nat} {v : Value} {st : List Value} (hd : decode c.code pc = .ok (.aload k, 2)) (hl : Ls[k]? = some (.val v)) (hv : v.isRef = true) (hp : pc + 2 = pc') (G : own_GoE p e below EE (T.setTop (mkF m pc' Ls (v :: st)))) : own_GoE p e below EE (T.setTop (mkF m pc Ls (st))) := by
  subst hp; exact own_step (fun _ k => XS.aload X.here hx rfl hd hl hv k) G
theorem g_astore_n (X : Stand p l e R s m args below meth c T locs cells slots) (hx : p.tables.exec = Jvm.exec) {pc : Nat} (pc' : Nat) {Ls : Array Slot} {k : Fin 4} {v : Value} {st : List Value} {l' : Array Slot} (hd : decode c.code pc = .ok (.astore_n k, 1)) (hv : v.isRef = true) (hl : storeLocals Ls k.val v = some l') (hp : pc + 1 = pc') (G : own_GoE p e below EE (T.setTop (mkF m pc' l' (st)))) : own_GoE p e below EE (T.setTop (mkF m pc Ls (v :: st))) := by
  subst hp; exact own_step (fun _ k => XS.astoreN X.here hx rfl hd rfl hv hl k) G
theorem g_astore (X : Stand p l e R s m args below meth c T locs cells slots) (hx : p.tables.exec = Jvm.exec) {pc : Nat} (pc' : Nat) {Ls : Array Slot} {k : Nat} {v : Value} {st : List Value} {l' : Array Slot} (hd : decode c.code pc = .ok (.astore k, 2)) (hv : v.isRef = true) (hl : storeLocals Ls k v = some l') (hp : pc + 2 = pc') (G : own_GoE p e below EE (T.setTop (mkF m pc' l' (st)))) : own_GoE p e below EE (T.setTop (mkF m pc Ls (v :: st))) := by
  subst hp; exact own_step (fun _ k => XS.astore X.here hx rfl hd rfl hv hl k) G
theorem g_iconst (X : Stand p l e R s m args below meth c T locs cells slots) (hx : p.tables.exec = Jvm.exec) {pc : Nat} (pc' : Nat) {Ls : Array Slot} {i : Int} {st : List Value} (hd : decode c.code pc = .ok (.iconst i, 1)) (z : Int32) (hz : Int32.ofInt i = z) (hp : pc + 1 = pc') (G : own_GoE p e below EE (T.setTop (mkF m pc' Ls (.int z :: st)))) : own_GoE p e below EE (T.setTop (mkF m pc Ls st)) := by
  subst hp hz; exact own_step (fun _ k => XS.iconst X.here hx rfl hd k) G
theorem g_bipush (X : Stand p l e R s m args below meth c T locs cells slots) (hx : p.tables.exec = Jvm.exec) {pc : Nat} (pc' : Nat) {Ls : Array Slot} {i : Int} {st : List Value} (hd : decode c.code pc = .ok (.bipush i, 2)) (z : Int32) (hz : (Int8.ofInt i).toInt32 = z) (hp : pc + 2 = pc') (G : own_GoE p e below EE (T.setTop (mkF m pc' Ls (.int z :: st)))) : own_GoE p e below EE (T.setTop (mkF m pc Ls st)) := by
  subst hp hz; exact own_step (fun _ k => XS.bipush X.here hx rfl hd k) G
theorem g_sipush (X : Stand p l e R s m args below meth c T locs cells slots) (hx : p.tables.exec = Jvm.exec) {pc : Nat} (pc' : Nat) {Ls : Array Slot} {i : Int} {st : List Value} (hd : decode c.code pc = .ok (.sipush i, 3)) (z : Int32) (hz : (Int16.ofInt i).toInt32 = z) (hp : pc + 3 = pc') (G : own_GoE p e below EE (T.setTop (mkF m pc' Ls (.int z :: st)))) : own_GoE p e below EE (T.setTop (mkF m pc Ls st)) := by
  subst hp hz; exact own_step (fun _ k => XS.sipush X.here hx rfl hd k) G
theorem g_lconst (X : Stand p l e R s m args below meth c T locs cells slots) (hx : p.tables.exec = Jvm.exec) {pc : Nat} (pc' : Nat) {Ls : Array Slot} {i : Fin 2} {st : List Value} (hd : decode c.code pc = .ok (.lconst i, 1)) (z : Int64) (hz : Int64.ofNat i.val = z) (hp : pc + 1 = pc') (G : own_GoE p e below EE (T.setTop (mkF m pc' Ls (.long z :: st)))) : own_GoE p e below EE (T.setTop (mkF m pc Ls st)) := by
  subst hp hz; exact own_step (fun _ k => XS.lconst X.here hx rfl hd k) G
theorem g_aconst_null (X : Stand p l e R s m args below meth c T locs cells slots) (hx : p.tables.exec = Jvm.exec) {pc : Nat} (pc' : Nat) {Ls : Array Slot} {st : List Value} (hd : decode c.code pc = .ok (.aconst_null, 1))  (hp : pc + 1 = pc') (G : own_GoE p e below EE (T.setTop (mkF m pc' Ls (.null :: st)))) : own_GoE p e below EE (T.setTop (mkF m pc Ls (st))) := by
  subst hp; exact own_step (fun _ k => XS.aconstNull X.here hx rfl hd k) G
theorem g_iadd (X : Stand p l e R s m args below meth c T locs cells slots) (hx : p.tables.exec = Jvm.exec) {pc : Nat} (pc' : Nat) {Ls : Array Slot} {x y : Int32} {st : List Value} (hd : decode c.code pc = .ok (.iadd, 1))  (hp : pc + 1 = pc') (G : own_GoE p e below EE (T.setTop (mkF m pc' Ls (.int (x + y) :: st)))) : own_GoE p e below EE (T.setTop (mkF m pc Ls (.int y :: .int x :: st))) := by
  subst hp; exact own_step (fun _ k => XS.iadd X.here hx rfl hd rfl k) G
theorem g_ladd (X : Stand p l e R s m args below meth c T locs cells slots) (hx : p.tables.exec = Jvm.exec) {pc : Nat} (pc' : Nat) {Ls : Array Slot} {x y : Int64} {st : List Value} (hd : decode c.code pc = .ok (.ladd, 1))  (hp : pc + 1 = pc') (G : own_GoE p e below EE (T.setTop (mkF m pc' Ls (.long (x + y) :: st)))) : own_GoE p e below EE (T.setTop (mkF m pc Ls (.long y :: .long x :: st))) := by
  subst hp; exact own_step (fun _ k => XS.ladd X.here hx rfl hd rfl k) G
theorem g_isub (X : Stand p l e R s m args below meth c T locs cells slots) (hx : p.tables.exec = Jvm.exec) {pc : Nat} (pc' : Nat) {Ls : Array Slot} {x y : Int32} {st : List Value} (hd : decode c.code pc = .ok (.isub, 1))  (hp : pc + 1 = pc') (G : own_GoE p e below EE (T.setTop (mkF m pc' Ls (.int (x - y) :: st)))) : own_GoE p e below EE (T.setTop (mkF m pc Ls (.int y :: .int x :: st))) := by
  subst hp; exact own_step (fun _ k => XS.isub X.here hx rfl hd rfl k) G
theorem g_lsub (X : Stand p l e R s m args below meth c T locs cells slots) (hx : p.tables.exec = Jvm.exec) {pc : Nat} (pc' : Nat) {Ls : Array Slot} {x y : Int64} {st : List Value} (hd : decode c.code pc = .ok (.lsub, 1))  (hp : pc + 1 = pc') (G : own_GoE p e below EE (T.setTop (mkF m pc' Ls (.long (x - y) :: st)))) : own_GoE p e below EE (T.setTop (mkF m pc Ls (.long y :: .long x :: st))) := by
  subst hp; exact own_step (fun _ k => XS.lsub X.here hx rfl hd rfl k) G
theorem g_imul (X : Stand p l e R s m args below meth c T locs cells slots) (hx : p.tables.exec = Jvm.exec) {pc : Nat} (pc' : Nat) {Ls : Array Slot} {x y : Int32} {st : List Value} (hd : decode c.code pc = .ok (.imul, 1))  (hp : pc + 1 = pc') (G : own_GoE p e below EE (T.setTop (mkF m pc' Ls (.int (x * y) :: st)))) : own_GoE p e below EE (T.setTop (mkF m pc Ls (.int y :: .int x :: st))) := by
  subst hp; exact own_step (fun _ k => XS.imul X.here hx rfl hd rfl k) G
theorem g_lmul (X : Stand p l e R s m args below meth c T locs cells slots) (hx : p.tables.exec = Jvm.exec) {pc : Nat} (pc' : Nat) {Ls : Array Slot} {x y : Int64} {st : List Value} (hd : decode c.code pc = .ok (.lmul, 1))  (hp : pc + 1 = pc') (G : own_GoE p e below EE (T.setTop (mkF m pc' Ls (.long (x * y) :: st)))) : own_GoE p e below EE (T.setTop (mkF m pc Ls (.long y :: .long x :: st))) := by
  subst hp; exact own_step (fun _ k => XS.lmul X.here hx rfl hd rfl k) G
theorem g_iand (X : Stand p l e R s m args below meth c T locs cells slots) (hx : p.tables.exec = Jvm.exec) {pc : Nat} (pc' : Nat) {Ls : Array Slot} {x y : Int32} {st : List Value} (hd : decode c.code pc = .ok (.iand, 1))  (hp : pc + 1 = pc') (G : own_GoE p e below EE (T.setTop (mkF m pc' Ls (.int (x &&& y) :: st)))) : own_GoE p e below EE (T.setTop (mkF m pc Ls (.int y :: .int x :: st))) := by
  subst hp; exact own_step (fun _ k => XS.iand X.here hx rfl hd rfl k) G
theorem g_land (X : Stand p l e R s m args below meth c T locs cells slots) (hx : p.tables.exec = Jvm.exec) {pc : Nat} (pc' : Nat) {Ls : Array Slot} {x y : Int64} {st : List Value} (hd : decode c.code pc = .ok (.land, 1))  (hp : pc + 1 = pc') (G : own_GoE p e below EE (T.setTop (mkF m pc' Ls (.long (x &&& y) :: st)))) : own_GoE p e below EE (T.setTop (mkF m pc Ls (.long y :: .long x :: st))) := by
  subst hp; exact own_step (fun _ k => XS.land X.here hx rfl hd rfl k) G
theorem g_ior (X : Stand p l e R s m args below meth c T locs cells slots) (hx : p.tables.exec = Jvm.exec) {pc : Nat} (pc' : Nat) {Ls : Array Slot} {x y : Int32} {st : List Value} (hd : decode c.code pc = .ok (.ior, 1))  (hp : pc + 1 = pc') (G : own_GoE p e below EE (T.setTop (mkF m pc' Ls (.int (x ||| y) :: st)))) : own_GoE p e below EE (T.setTop (mkF m pc Ls (.int y :: .int x :: st))) := by
  subst hp; exact own_step (fun _ k => XS.ior X.here hx rfl hd rfl k) G
theorem g_lor (X : Stand p l e R s m args below meth c T locs cells slots) (hx : p.tables.exec = Jvm.exec) {pc : Nat} (pc' : Nat) {Ls : Array Slot} {x y : Int64} {st : List Value} (hd : decode c.code pc = .ok (.lor, 1))  (hp : pc + 1 = pc') (G : own_GoE p e below EE (T.setTop (mkF m pc' Ls (.long (x ||| y) :: st)))) : own_GoE p e below EE (T.setTop (mkF m pc Ls (.long y :: .long x :: st))) := by
  subst hp; exact own_step (fun _ k => XS.lor X.here hx rfl hd rfl k) G
theorem g_ixor (X : Stand p l e R s m args below meth c T locs cells slots) (hx : p.tables.exec = Jvm.exec) {pc : Nat} (pc' : Nat) {Ls : Array Slot} {x y : Int32} {st : List Value} (hd : decode c.code pc = .ok (.ixor, 1))  (hp : pc + 1 = pc') (G : own_GoE p e below EE (T.setTop (mkF m pc' Ls (.int (x ^^^ y) :: st)))) : own_GoE p e below EE (T.setTop (mkF m pc Ls (.int y :: .int x :: st))) := by
  subst hp; exact own_step (fun _ k => XS.ixor X.here hx rfl hd rfl k) G
theorem g_lxor (X : Stand p l e R s m args below meth c T locs cells slots) (hx : p.tables.exec = Jvm.exec) {pc : Nat} (pc' : Nat) {Ls : Array Slot} {x y : Int64} {st : List Value} (hd : decode c.code pc = .ok (.lxor, 1))  (hp : pc + 1 = pc') (G : own_GoE p e below EE (T.setTop (mkF m pc' Ls (.long (x ^^^ y) :: st)))) : own_GoE p e below EE (T.setTop (mkF m pc Ls (.long y :: .long x :: st))) := by
  subst hp; exact own_step (fun _ k => XS.lxor X.here hx rfl hd rfl k) G
theorem g_ineg (X : Stand p l e R s m args below meth c T locs cells slots) (hx : p.tables.exec = Jvm.exec) {pc : Nat} (pc' : Nat) {Ls : Array Slot} {x : Int32} {st : List Value} (hd : decode c.code pc = .ok (.ineg, 1))  (hp : pc + 1 = pc') (G : own_GoE p e below EE (T.setTop (mkF m pc' Ls (.int (-x) :: st)))) : own_GoE p e below EE (T.setTop (mkF m pc Ls (.int x :: st))) := by
  subst hp; exact own_step (fun _ k => XS.ineg X.here hx rfl hd rfl k) G
theorem g_lneg (X : Stand p l e R s m args below meth c T locs cells slots) (hx : p.tables.exec = Jvm.exec) {pc : Nat} (pc' : Nat) {Ls : Array Slot} {x : Int64} {st : List Value} (hd : decode c.code pc = .ok (.lneg, 1))  (hp : pc + 1 = pc') (G : own_GoE p e below EE (T.setTop (mkF m pc' Ls (.long (-x) :: st)))) : own_GoE p e below EE (T.setTop (mkF m pc Ls (.long x :: st))) := by
  subst hp; exact own_step (fun _ k => XS.lneg X.here hx rfl hd rfl k) G
theorem g_i2l (X : Stand p l e R s m args below meth c T locs cells slots) (hx : p.tables.exec = Jvm.exec) {pc : Nat} (pc' : Nat) {Ls : Array Slot} {x : Int32} {st : List Value} (hd : decode c.code pc = .ok (.i2l, 1))  (hp : pc + 1 = pc') (G : own_GoE p e below EE (T.setTop (mkF m pc' Ls (.long (x.toInt64) :: st)))) : own_GoE p e below EE (T.setTop (mkF m pc Ls (.int x :: st))) := by
  subst hp; exact own_step (fun _ k => XS.i2l X.here hx rfl hd rfl k) G
theorem g_l2i (X : Stand p l e R s m args below meth c T locs cells slots) (hx : p.tables.exec = Jvm.exec) {pc : Nat} (pc' : Nat) {Ls : Array Slot} {x : Int64} {st : List Value} (hd : decode c.code pc = .ok (.l2i, 1))  (hp : pc + 1 = pc') (G : own_GoE p e below EE (T.setTop (mkF m pc' Ls (.int (x.toInt32) :: st)))) : own_GoE p e below EE (T.setTop (mkF m pc Ls (.long x :: st))) := by
  subst hp; exact own_step (fun _ k => XS.l2i X.here hx rfl hd rfl k) G
theorem g_i2b (X : Stand p l e R s m args below meth c T locs cells slots) (hx : p.tables.exec = Jvm.exec) {pc : Nat} (pc' : Nat) {Ls : Array Slot} {x : Int32} {st : List Value} (hd : decode c.code pc = .ok (.i2b, 1))  (hp : pc + 1 = pc') (G : own_GoE p e below EE (T.setTop (mkF m pc' Ls (.int (x.toInt8.toInt32) :: st)))) : own_GoE p e below EE (T.setTop (mkF m pc Ls (.int x :: st))) := by
  subst hp; exact own_step (fun _ k => XS.i2b X.here hx rfl hd rfl k) G
theorem g_i2s (X : Stand p l e R s m args below meth c T locs cells slots) (hx : p.tables.exec = Jvm.exec) {pc : Nat} (pc' : Nat) {Ls : Array Slot} {x : Int32} {st : List Value} (hd : decode c.code pc = .ok (.i2s, 1))  (hp : pc + 1 = pc') (G : own_GoE p e below EE (T.setTop (mkF m pc' Ls (.int (x.toInt16.toInt32) :: st)))) : own_GoE p e below EE (T.setTop (mkF m pc Ls (.int x :: st))) := by
  subst hp; exact own_step (fun _ k => XS.i2s X.here hx rfl hd rfl k) G
theorem g_i2c (X : Stand p l e R s m args below meth c T locs cells slots) (hx : p.tables.exec = Jvm.exec) {pc : Nat} (pc' : Nat) {Ls : Array Slot} {x : Int32} {st : List Value} (hd : decode c.code pc = .ok (.i2c, 1))  (hp : pc + 1 = pc') (G : own_GoE p e below EE (T.setTop (mkF m pc' Ls (.int (x.toUInt32.toUInt16.toUInt32.toInt32) :: st)))) : own_GoE p e below EE (T.setTop (mkF m pc Ls (.int x :: st))) := by
  subst hp; exact own_step (fun _ k => XS.i2c X.here hx rfl hd rfl k) G
theorem g_ishl (X : Stand p l e R s m args below meth c T locs cells slots) (hx : p.tables.exec = Jvm.exec) {pc : Nat} (pc' : Nat) {Ls : Array Slot} {x : Int32} {y : Int32} {st : List Value} (hd : decode c.code pc = .ok (.ishl, 1))  (hp : pc + 1 = pc') (G : own_GoE p e below EE (T.setTop (mkF m pc' Ls (.int (x <<< (y &&& 31)) :: st)))) : own_GoE p e below EE (T.setTop (mkF m pc Ls (.int y :: .int x :: st))) := by
  subst hp; exact own_step (fun _ k => XS.ishl X.here hx rfl hd rfl k) G
theorem g_ishr (X : Stand p l e R s m args below meth c T locs cells slots) (hx : p.tables.exec = Jvm.exec) {pc : Nat} (pc' : Nat) {Ls : Array Slot} {x : Int32} {y : Int32} {st : List Value} (hd : decode c.code pc = .ok (.ishr, 1))  (hp : pc + 1 = pc') (G : own_GoE p e below EE (T.setTop (mkF m pc' Ls (.int (x >>> (y &&& 31)) :: st)))) : own_GoE p e below EE (T.setTop (mkF m pc Ls (.int y :: .int x :: st))) := by
  subst hp; exact own_step (fun _ k => XS.ishr X.here hx rfl hd rfl k) G
theorem g_iushr (X : Stand p l e R s m args below meth c T locs cells slots) (hx : p.tables.exec = Jvm.exec) {pc : Nat} (pc' : Nat) {Ls : Array Slot} {x : Int32} {y : Int32} {st : List Value} (hd : decode c.code pc = .ok (.iushr, 1))  (hp : pc + 1 = pc') (G : own_GoE p e below EE (T.setTop (mkF m pc' Ls (.int ((x.toUInt32 >>> (y &&& 31).toUInt32).toInt32) :: st)))) : own_GoE p e below EE (T.setTop (mkF m pc Ls (.int y :: .int x :: st))) := by
  subst hp; exact own_step (fun _ k => XS.iushr X.here hx rfl hd rfl k) G
theorem g_lshl (X : Stand p l e R s m args below meth c T locs cells slots) (hx : p.tables.exec = Jvm.exec) {pc : Nat} (pc' : Nat) {Ls : Array Slot} {x : Int64} {y : Int32} {st : List Value} (hd : decode c.code pc = .ok (.lshl, 1))  (hp : pc + 1 = pc') (G : own_GoE p e below EE (T.setTop (mkF m pc' Ls (.long (x <<< (y &&& 0x3f).toInt64) :: st)))) : own_GoE p e below EE (T.setTop (mkF m pc Ls (.int y :: .long x :: st))) := by
  subst hp; exact own_step (fun _ k => XS.lshl X.here hx rfl hd rfl k) G
theorem g_lshr (X : Stand p l e R s m args below meth c T locs cells slots) (hx : p.tables.exec = Jvm.exec) {pc : Nat} (pc' : Nat) {Ls : Array Slot} {x : Int64} {y : Int32} {st : List Value} (hd : decode c.code pc = .ok (.lshr, 1))  (hp : pc + 1 = pc') (G : own_GoE p e below EE (T.setTop (mkF m pc' Ls (.long (x >>> (y &&& 0x3f).toInt64) :: st)))) : own_GoE p e below EE (T.setTop (mkF m pc Ls (.int y :: .long x :: st))) := by
  subst hp; exact own_step (fun _ k => XS.lshr X.here hx rfl hd rfl k) G
theorem g_lushr (X : Stand p l e R s m args below meth c T locs cells slots) (hx : p.tables.exec = Jvm.exec) {pc : Nat} (pc' : Nat) {Ls : Array Slot} {x : Int64} {y : Int32} {st : List Value} (hd : decode c.code pc = .ok (.lushr, 1))  (hp : pc + 1 = pc') (G : own_GoE p e below EE (T.setTop (mkF m pc' Ls (.long ((x.toUInt64 >>> (y &&& 0x3f).toInt64.toUInt64).toInt64) :: st)))) : own_GoE p e below EE (T.setTop (mkF m pc Ls (.int y :: .long x :: st))) := by
  subst hp; exact own_step (fun _ k => XS.lushr X.here hx rfl hd rfl k) G
theorem g_lcmp (X : Stand p l e R s m args below meth c T locs cells slots) (hx : p.tables.exec = Jvm.exec) {pc : Nat} (pc' : Nat) {Ls : Array Slot} {x y : Int64} {st : List Value} (hd : decode c.code pc = .ok (.lcmp, 1))  (hp : pc + 1 = pc') (G : own_GoE p e below EE (T.setTop (mkF m pc' Ls (.int (lcmpW x y) :: st)))) : own_GoE p e below EE (T.setTop (mkF m pc Ls (.long y :: .long x :: st))) := by
  subst hp; exact own_step (fun _ k => XS.lcmp X.here hx rfl hd rfl k) G
theorem g_idiv (X : Stand p l e R s m args below meth c T locs cells slots) (hx : p.tables.exec = Jvm.exec) {pc : Nat} (pc' : Nat) {Ls : Array Slot} {x y : Int32} {st : List Value} (hd : decode c.code pc = .ok (.idiv, 1)) (hp : pc + 1 = pc') (hy : y ≠ 0) (G : own_GoE p e below EE (T.setTop (mkF m pc' Ls (.int (x / y) :: st)))) : own_GoE p e below EE (T.setTop (mkF m pc Ls (.int y :: .int x :: st))) := by
  subst hp; exact own_step (fun _ k => XS.idiv X.here hx rfl hd rfl hy k) G
theorem g_ldiv (X : Stand p l e R s m args below meth c T locs cells slots) (hx : p.tables.exec = Jvm.exec) {pc : Nat} (pc' : Nat) {Ls : Array Slot} {x y : Int64} {st : List Value} (hd : decode c.code pc = .ok (.ldiv, 1)) (hp : pc + 1 = pc') (hy : y ≠ 0) (G : own_GoE p e below EE (T.setTop (mkF m pc' Ls (.long (x / y) :: st)))) : own_GoE p e below EE (T.setTop (mkF m pc Ls (.long y :: .long x :: st))) := by
  subst hp; exact own_step (fun _ k => XS.ldiv X.here hx rfl hd rfl hy k) G
theorem g_irem (X : Stand p l e R s m args below meth c T locs cells slots) (hx : p.tables.exec = Jvm.exec) {pc : Nat} (pc' : Nat) {Ls : Array Slot} {x y : Int32} {st : List Value} (hd : decode c.code pc = .ok (.irem, 1)) (hp : pc + 1 = pc') (hy : y ≠ 0) (G : own_GoE p e below EE (T.setTop (mkF m pc' Ls (.int (x % y) :: st)))) : own_GoE p e below EE (T.setTop (mkF m pc Ls (.int y :: .int x :: st))) := by
  subst hp; exact own_step (fun _ k => iremM X hx rfl hd rfl hy k) G
theorem g_lrem (X : Stand p l e R s m args below meth c T locs cells slots) (hx : p.tables.exec = Jvm.exec) {pc : Nat} (pc' : Nat) {Ls : Array Slot} {x y : Int64} {st : List Value} (hd : decode c.code pc = .ok (.lrem, 1)) (hp : pc + 1 = pc') (hy : y ≠ 0) (G : own_GoE p e below EE (T.setTop (mkF m pc' Ls (.long (x % y) :: st)))) : own_GoE p e below EE (T.setTop (mkF m pc Ls (.long y :: .long x :: st))) := by
  subst hp; rw [← lrem_mod] at G; exact own_step (fun _ k => XS.lrem X.here hx rfl hd rfl hy k) G
theorem g_iinc (X : Stand p l e R s m args below meth c T locs cells slots) (hx : p.tables.exec = Jvm.exec) {pc : Nat} (pc' : Nat) {Ls : Array Slot} {k : Nat} {cst : Int} {x z : Int32} {l' : Array Slot} {st : List Value} (hd : decode c.code pc = .ok (.iinc k cst, 3)) (hl : Ls[k]? = some (.val (.int x))) (hz : x + Int32.ofInt cst = z) (hl' : storeLocals Ls k (.int z) = some l') (hp : pc + 3 = pc') (G : own_GoE p e below EE (T.setTop (mkF m pc' l' st))) : own_GoE p e below EE (T.setTop (mkF m pc Ls st)) := by
  subst hp hz; exact own_step (fun _ k => XS.iinc X.here hx rfl hd hl hl' k) G
theorem g_dup (X : Stand p l e R s m args below meth c T locs cells slots) (hx : p.tables.exec = Jvm.exec) {pc : Nat} (pc' : Nat) {Ls : Array Slot} {x : Value} {st : List Value} (hd : decode c.code pc = .ok (.dup, 1)) (hc : x.category = 1) (hp : pc + 1 = pc') (G : own_GoE p e below EE (T.setTop (mkF m pc' Ls (x :: x :: st)))) : own_GoE p e below EE (T.setTop (mkF m pc Ls (x :: st))) := by
  subst hp; exact own_step (fun _ k => XS.dup X.here hx rfl hd rfl hc k) G
theorem g_pop (X : Stand p l e R s m args below meth c T locs cells slots) (hx : p.tables.exec = Jvm.exec) {pc : Nat} (pc' : Nat) {Ls : Array Slot} {x : Value} {st : List Value} (hd : decode c.code pc = .ok (.pop, 1)) (hc : x.category = 1) (hp : pc + 1 = pc') (G : own_GoE p e below EE (T.setTop (mkF m pc' Ls (st)))) : own_GoE p e below EE (T.setTop (mkF m pc Ls (x :: st))) := by
  subst hp; exact own_step (fun _ k => XS.pop X.here hx rfl hd rfl hc k) G
theorem g_dup_x1 (X : Stand p l e R s m args below meth c T locs cells slots) (hx : p.tables.exec = Jvm.exec) {pc : Nat} (pc' : Nat) {Ls : Array Slot} {x y : Value} {st : List Value} (hd : decode c.code pc = .ok (.dup_x1, 1)) (hc : x.category = 1) (hc' : y.category = 1) (hp : pc + 1 = pc') (G : own_GoE p e below EE (T.setTop (mkF m pc' Ls (x :: y :: x :: st)))) : own_GoE p e below EE (T.setTop (mkF m pc Ls (x :: y :: st))) := by
  subst hp; exact own_step (fun _ k => XS.dupX1 X.here hx rfl hd rfl hc hc' k) G
theorem g_dup2 (X : Stand p l e R s m args below meth c T locs cells slots) (hx : p.tables.exec = Jvm.exec) {pc : Nat} (pc' : Nat) {Ls : Array Slot} {x y : Value} {st : List Value} (hd : decode c.code pc = .ok (.dup2, 1)) (hc : x.category = 1) (hc' : y.category = 1) (hp : pc + 1 = pc') (G : own_GoE p e below EE (T.setTop (mkF m pc' Ls (x :: y :: x :: y :: st)))) : own_GoE p e below EE (T.setTop (mkF m pc Ls (x :: y :: st))) := by
  subst hp; exact own_step (fun _ k => XT.dup2 X.here hx rfl hd rfl hc hc' k) G
theorem g_dup2L (X : Stand p l e R s m args below meth c T locs cells slots) (hx : p.tables.exec = Jvm.exec) {pc : Nat} (pc' : Nat) {Ls : Array Slot} {x : Int64} {st : List Value} (hd : decode c.code pc = .ok (.dup2, 1))  (hp : pc + 1 = pc') (G : own_GoE p e below EE (T.setTop (mkF m pc' Ls (.long x :: .long x :: st)))) : own_GoE p e below EE (T.setTop (mkF m pc Ls (.long x :: st))) := by
  subst hp; exact own_step (fun _ k => XT.dup2L X.here hx rfl hd rfl k) G
theorem g_goto (X : Stand p l e R s m args below meth c T locs cells slots) (hx : p.tables.exec = Jvm.exec) {pc : Nat} (pc' : Nat) {Ls : Array Slot} {o : Int} {st : List Value} (hd : decode c.code pc = .ok (.goto o, 3)) (ho : 0 ≤ (pc : Int) + o) (hp : ((pc : Int) + o).toNat = pc') (G : own_GoE p e below EE (T.setTop (mkF m pc' Ls st))) : own_GoE p e below EE (T.setTop (mkF m pc Ls st)) :=
  own_step (fun _ k => XS.goto X.here hx rfl rfl hd ho hp k) G
theorem g_ifYes (X : Stand p l e R s m args below meth c T locs cells slots) (hx : p.tables.exec = Jvm.exec) {pc : Nat} (pc' : Nat) {Ls : Array Slot} {cd : ClassFile.Cond} {x : Int32} {o : Int} {st : List Value} (hd : decode c.code pc = .ok (.ifCond cd o, 3)) (hc : ifCond.holds cd x = true) (ho : 0 ≤ (pc : Int) + o) (hp : ((pc : Int) + o).toNat = pc') (G : own_GoE p e below EE (T.setTop (mkF m pc' Ls st))) : own_GoE p e below EE (T.setTop (mkF m pc Ls (.int x :: st))) :=
  own_step (fun _ k => XS.ifYes X.here hx rfl rfl hd rfl hc ho hp k) G
theorem g_ifNo (X : Stand p l e R s m args below meth c T locs cells slots) (hx : p.tables.exec = Jvm.exec) {pc : Nat} (pc' : Nat) {Ls : Array Slot} {cd : ClassFile.Cond} {x : Int32} {o : Int} {st : List Value} (hd : decode c.code pc = .ok (.ifCond cd o, 3)) (hc : ifCond.holds cd x = false) (hp : pc + 3 = pc') (G : own_GoE p e below EE (T.setTop (mkF m pc' Ls st))) : own_GoE p e below EE (T.setTop (mkF m pc Ls (.int x :: st))) := by
  subst hp; exact own_step (fun _ k => XS.ifNo X.here hx rfl hd rfl hc k) G
theorem g_icmpYes (X : Stand p l e R s m args below meth c T locs cells slots) (hx : p.tables.exec = Jvm.exec) {pc : Nat} (pc' : Nat) {Ls : Array Slot} {cd : ClassFile.Cond} {x y : Int32} {o : Int} {st : List Value} (hd : decode c.code pc = .ok (.if_icmp cd o, 3)) (hc : if_icmp.holds cd x y = true) (ho : 0 ≤ (pc : Int) + o) (hp : ((pc : Int) + o).toNat = pc') (G : own_GoE p e below EE (T.setTop (mkF m pc' Ls st))) : own_GoE p e below EE (T.setTop (mkF m pc Ls (.int y :: .int x :: st))) :=
  own_step (fun _ k => XS.icmpYes X.here hx rfl rfl hd rfl hc ho hp k) G
theorem g_icmpNo (X : Stand p l e R s m args below meth c T locs cells slots) (hx : p.tables.exec = Jvm.exec) {pc : Nat} (pc' : Nat) {Ls : Array Slot} {cd : ClassFile.Cond} {x y : Int32} {o : Int} {st : List Value} (hd : decode c.code pc = .ok (.if_icmp cd o, 3)) (hc : if_icmp.holds cd x y = false) (hp : pc + 3 = pc') (G : own_GoE p e below EE (T.setTop (mkF m pc' Ls st))) : own_GoE p e below EE (T.setTop (mkF m pc Ls (.int y :: .int x :: st))) := by
  subst hp; exact own_step (fun _ k => XS.icmpNo X.here hx rfl hd rfl hc k) G
theorem g_ifnullYes (X : Stand p l e R s m args below meth c T locs cells slots) (hx : p.tables.exec = Jvm.exec) {pc : Nat} (pc' : Nat) {Ls : Array Slot} {o : Int} {st : List Value} (hd : decode c.code pc = .ok (.ifnull o, 3)) (ho : 0 ≤ (pc : Int) + o) (hp : ((pc : Int) + o).toNat = pc') (G : own_GoE p e below EE (T.setTop (mkF m pc' Ls st))) : own_GoE p e below EE (T.setTop (mkF m pc Ls (.null :: st))) :=
  own_step (fun _ k => XS.ifnullYes X.here hx rfl rfl hd rfl ho hp k) G
theorem g_ifnullNo (X : Stand p l e R s m args below meth c T locs cells slots) (hx : p.tables.exec = Jvm.exec) {pc : Nat} (pc' : Nat) {Ls : Array Slot} {b : Addr} {o : Int} {st : List Value} (hd : decode c.code pc = .ok (.ifnull o, 3)) (hp : pc + 3 = pc') (G : own_GoE p e below EE (T.setTop (mkF m pc' Ls st))) : own_GoE p e below EE (T.setTop (mkF m pc Ls (.ref b :: st))) := by
  subst hp; exact own_step (fun _ k => XS.ifnullNo X.here hx rfl hd rfl k) G
theorem g_ifnonnullYes (X : Stand p l e R s m args below meth c T locs cells slots) (hx : p.tables.exec = Jvm.exec) {pc : Nat} (pc' : Nat) {Ls : Array Slot} {b : Addr} {o : Int} {st : List Value} (hd : decode c.code pc = .ok (.ifnonnull o, 3)) (ho : 0 ≤ (pc : Int) + o) (hp : ((pc : Int) + o).toNat = pc') (G : own_GoE p e below EE (T.setTop (mkF m pc' Ls st))) : own_GoE p e below EE (T.setTop (mkF m pc Ls (.ref b :: st))) :=
  own_step (fun _ k => XS.ifnonnullYes X.here hx rfl rfl hd rfl ho hp k) G
theorem g_ifnonnullNo (X : Stand p l e R s m args below meth c T locs cells slots) (hx : p.tables.exec = Jvm.exec) {pc : Nat} (pc' : Nat) {Ls : Array Slot} {o : Int} {st : List Value} (hd : decode c.code pc = .ok (.ifnonnull o, 3)) (hp : pc + 3 = pc') (G : own_GoE p e below EE (T.setTop (mkF m pc' Ls st))) : own_GoE p e below EE (T.setTop (mkF m pc Ls (.null :: st))) := by
  subst hp; exact own_step (fun _ k => XS.ifnonnullNo X.here hx rfl hd rfl k) G
theorem g_acmp (X : Stand p l e R s m args below meth c T locs cells slots) (hx : p.tables.exec = Jvm.exec) {pc : Nat} {Ls : Array Slot} {cd : ACond} {x y : Value} {o : Int} {st : List Value} {same : Bool} (pc' : Nat) (hd : decode c.code pc = .ok (.if_acmp cd o, 3)) (h1 : x.isRef = true) (h2 : y.isRef = true) (hq : decide (x = y) = same) (ho : 0 ≤ (pc : Int) + o) (hp : pc' = if acV cd same = true then ((pc : Int) + o).toNat else pc + 3) (G : own_GoE p e below EE (T.setTop (mkF m pc' Ls st))) : own_GoE p e below EE (T.setTop (mkF m pc Ls (y :: x :: st))) :=
  own_step (fun _ k => Jvm.RoadKit.acmp X hx rfl h1 h2 rfl hd rfl hq ho hp k) G
theorem g_ldc (X : Stand p l e R s m args below meth c T locs cells slots) (hx : p.tables.exec = Jvm.exec) {own : String} (hown : s.vm.findClass own = some m.cls) {pc : Nat} (pc' : Nat) {Ls : Array Slot} {i : Nat} {z : Int32} {st : List Value} (hw : (Jvm.Cond.constant own i z).before args s = true) (hd : decode c.code pc = .ok (.ldc i, 2)) (hp : pc + 2 = pc') (G : own_GoE p e below EE (T.setTop (mkF m pc' Ls (.int z :: st)))) : own_GoE p e below EE (T.setTop (mkF m pc Ls st)) := by
  subst hp; exact own_step (fun _ k => X.ldcInt hx hown hw (g := mkF m pc Ls st) rfl hd _ k) G
theorem g_ldc_w (X : Stand p l e R s m args below meth c T locs cells slots) (hx : p.tables.exec = Jvm.exec) {own : String} (hown : s.vm.findClass own = some m.cls) {pc : Nat} (pc' : Nat) {Ls : Array Slot} {i : Nat} {z : Int32} {st : List Value} (hw : (Jvm.Cond.constant own i z).before args s = true) (hd : decode c.code pc = .ok (.ldc_w i, 3)) (hp : pc + 3 = pc') (G : own_GoE p e below EE (T.setTop (mkF m pc' Ls (.int z :: st)))) : own_GoE p e below EE (T.setTop (mkF m pc Ls st)) := by
  subst hp; exact own_step (fun _ k => X.ldcwInt hx hown hw (g := mkF m pc Ls st) rfl hd _ k) G
theorem g_ldc2_w (X : Stand p l e R s m args below meth c T locs cells slots) (hx : p.tables.exec = Jvm.exec) {own : String} (hown : s.vm.findClass own = some m.cls) {pc : Nat} (pc' : Nat) {Ls : Array Slot} {i : Nat} {z : Int64} {st : List Value} (hw : (Jvm.Cond.constantLong own i z).before args s = true) (hd : decode c.code pc = .ok (.ldc2_w i, 3)) (hp : pc + 3 = pc') (G : own_GoE p e below EE (T.setTop (mkF m pc' Ls (.long z :: st)))) : own_GoE p e below EE (T.setTop (mkF m pc Ls st)) := by
  subst hp; exact own_step (fun _ k => X.ldc2Long hx hown hw (g := mkF m pc Ls st) rfl hd _ k) G
theorem g_tswIn (X : Stand p l e R s m args below meth c T locs cells slots) (hx : p.tables.exec = Jvm.exec) {pc : Nat} (pc' : Nat) {Ls : Array Slot} {dflt low high : Int} {offs : Array Int} {len : Nat} {o : Int} {i : Int32} {st : List Value} (hd : decode c.code pc = .ok (.tableswitch dflt low high offs, len)) (hin : ¬ (i.toInt < low ∨ i.toInt > high)) (hoff : offs[(i.toInt - low).toNat]? = some o) (ho : 0 ≤ (pc : Int) + o) (hp : ((pc : Int) + o).toNat = pc') (G : own_GoE p e below EE (T.setTop (mkF m pc' Ls st))) : own_GoE p e below EE (T.setTop (mkF m pc Ls (.int i :: st))) :=
  own_step (fun _ k => XS.tswIn X.here hx rfl rfl hd rfl hin hoff ho hp k) G
theorem g_tswOut (X : Stand p l e R s m args below meth c T locs cells slots) (hx : p.tables.exec = Jvm.exec) {pc : Nat} (pc' : Nat) {Ls : Array Slot} {dflt low high : Int} {offs : Array Int} {len : Nat} {i : Int32} {st : List Value} (hd : decode c.code pc = .ok (.tableswitch dflt low high offs, len)) (hout : i.toInt < low ∨ i.toInt > high) (ho : 0 ≤ (pc : Int) + dflt) (hp : ((pc : Int) + dflt).toNat = pc') (G : own_GoE p e below EE (T.setTop (mkF m pc' Ls st))) : own_GoE p e below EE (T.setTop (mkF m pc Ls (.int i :: st))) :=
  own_step (fun _ k => XS.tswOut X.here hx rfl rfl hd rfl hout ho hp k) G
theorem own_ii_eq_t {x y : Int32} (h : x = y) : if_icmp.holds .eq x y = true := XT.ii_eq_t h
theorem own_i0_eq_t {x : Int32} (h : x = 0) : ifCond.holds .eq x = true := XT.i0_eq_t h
theorem own_ll_eq_t {x y : Int64} (h : x = y) : ifCond.holds .eq (lcmpW x y) = true := XT.ll_eq_t h
theorem own_ii_eq_f {x y : Int32} (h : ¬ (x = y)) : if_icmp.holds .eq x y = false := XT.ii_eq_f h
theorem own_i0_eq_f {x : Int32} (h : ¬ (x = 0)) : ifCond.holds .eq x = false := XT.i0_eq_f h
theorem own_ll_eq_f {x y : Int64} (h : ¬ (x = y)) : ifCond.holds .eq (lcmpW x y) = false := XT.ll_eq_f h
theorem own_ii_ne_t {x y : Int32} (h : ¬ (x = y)) : if_icmp.holds .ne x y = true := XT.ii_ne_t h
theorem own_i0_ne_t {x : Int32} (h : ¬ (x = 0)) : ifCond.holds .ne x = true := XT.i0_ne_t h
theorem own_ll_ne_t {x y : Int64} (h : ¬ (x = y)) : ifCond.holds .ne (lcmpW x y) = true := XT.ll_ne_t h
theorem own_ii_ne_f {x y : Int32} (h : x = y) : if_icmp.holds .ne x y = false := XT.ii_ne_f h
theorem own_i0_ne_f {x : Int32} (h : x = 0) : ifCond.holds .ne x = false := XT.i0_ne_f h
theorem own_ll_ne_f {x y : Int64} (h : x = y) : ifCond.holds .ne (lcmpW x y) = false := XT.ll_ne_f h
theorem own_ii_lt_t {x y : Int32} (h : x < y) : if_icmp.holds .lt x y = true := XT.ii_lt_t h
theorem own_i0_lt_t {x : Int32} (h : x < 0) : ifCond.holds .lt x = true := XT.i0_lt_t h
theorem own_ll_lt_t {x y : Int64} (h : x < y) : ifCond.holds .lt (lcmpW x y) = true := XT.ll_lt_t h
theorem own_ii_lt_f {x y : Int32} (h : ¬ (x < y)) : if_icmp.holds .lt x y = false := XT.ii_lt_f h
theorem own_i0_lt_f {x : Int32} (h : ¬ (x < 0)) : ifCond.holds .lt x = false := XT.i0_lt_f h
theorem own_ll_lt_f {x y : Int64} (h : ¬ (x < y)) : ifCond.holds .lt (lcmpW x y) = false := XT.ll_lt_f h
theorem own_ii_ge_t {x y : Int32} (h : ¬ (x < y)) : if_icmp.holds .ge x y = true := XT.ii_ge_t h
theorem own_i0_ge_t {x : Int32} (h : ¬ (x < 0)) : ifCond.holds .ge x = true := XT.i0_ge_t h
theorem own_ll_ge_t {x y : Int64} (h : ¬ (x < y)) : ifCond.holds .ge (lcmpW x y) = true := XT.ll_ge_t h
theorem own_ii_ge_f {x y : Int32} (h : x < y) : if_icmp.holds .ge x y = false := XT.ii_ge_f h
theorem own_i0_ge_f {x : Int32} (h : x < 0) : ifCond.holds .ge x = false := XT.i0_ge_f h
theorem own_ll_ge_f {x y : Int64} (h : x < y) : ifCond.holds .ge (lcmpW x y) = false := XT.ll_ge_f h
theorem own_ii_gt_t {x y : Int32} (h : y < x) : if_icmp.holds .gt x y = true := XT.ii_gt_t h
theorem own_i0_gt_t {x : Int32} (h : 0 < x) : ifCond.holds .gt x = true := XT.i0_gt_t h
theorem own_ll_gt_t {x y : Int64} (h : y < x) : ifCond.holds .gt (lcmpW x y) = true := XT.ll_gt_t h
theorem own_ii_gt_f {x y : Int32} (h : ¬ (y < x)) : if_icmp.holds .gt x y = false := XT.ii_gt_f h
theorem own_i0_gt_f {x : Int32} (h : ¬ (0 < x)) : ifCond.holds .gt x = false := XT.i0_gt_f h
theorem own_ll_gt_f {x y : Int64} (h : ¬ (y < x)) : ifCond.holds .gt (lcmpW x y) = false := XT.ll_gt_f h
theorem own_ii_le_t {x y : Int32} (h : ¬ (y < x)) : if_icmp.holds .le x y = true := XT.ii_le_t h
theorem own_i0_le_t {x : Int32} (h : ¬ (0 < x)) : ifCond.holds .le x = true := XT.i0_le_t h
theorem own_ll_le_t {x y : Int64} (h : ¬ (y < x)) : ifCond.holds .le (lcmpW x y) = true := XT.ll_le_t h
theorem own_ii_le_f {x y : Int32} (h : y < x) : if_icmp.holds .le x y = false := XT.ii_le_f h
theorem own_i0_le_f {x : Int32} (h : 0 < x) : ifCond.holds .le x = false := XT.i0_le_f h
theorem own_ll_le_f {x y : Int64} (h : y < x) : ifCond.holds .le (lcmpW x y) = false := XT.ll_le_f h
theorem own_getF (X : Stand p l e R s m args below meth c T locs cells slots) (hx : p.tables.exec = Jvm.exec) {Z : State} {a0 : Array Value} {h : Heap} (hZ : Z.Warmed39 s.vm) {own : String} (hown : s.vm.findClass own = some m.cls) {R0 O n d host : String} {index : Nat} (w : (Jvm.Cond.fieldLink own index R0 n d).before a0 Z = true ∨ (Jvm.Cond.fieldLinkNest own index R0 n d host).before a0 Z = true) (via : Via Z R0 O n d) (eT : T.heap = h) {a : Addr} {v : Value} (F : Fld Z h a O n d v) {pc : Nat} (pc' : Nat) {Ls : Array Slot} {rest : List Value} (hd : decode c.code pc = .ok (.getfield index, 3)) (hp : pc + 3 = pc') (k : ∀ T', Stand p l e R s m args below meth c T' locs cells slots → T'.heap = h → own_GoE p e below EE (T'.setTop (mkF m pc' Ls (v :: rest)))) : own_GoE p e below EE (T.setTop (mkF m pc Ls (.ref a :: rest))) := by
  subst hp
  obtain ⟨T', X', e', st⟩ := getF X hx hZ hown w via eT F (g := mkF m pc Ls (.ref a :: rest)) rfl rfl hd
  exact own_step st (k T' X' e')
theorem own_getS (X : Stand p l e R s m args below meth c T locs cells slots) (hx : p.tables.exec = Jvm.exec) {Z : State} {a0 : Array Value} {h : Heap} (hZ : Z.Warmed39 s.vm) {own : String} (hown : s.vm.findClass own = some m.cls) {R0 O n d host : String} {index : Nat} (w : (Jvm.Cond.fieldLink own index R0 n d).before a0 Z = true ∨ (Jvm.Cond.fieldLinkNest own index R0 n d host).before a0 Z = true) (via : Via Z R0 O n d) (eT : T.heap = h) {v : Value} (F : Sta Z h O n d v) {pc : Nat} (pc' : Nat) {Ls : Array Slot} {rest : List Value} (hd : decode c.code pc = .ok (.getstatic index, 3)) (hp : pc + 3 = pc') (k : ∀ T', Stand p l e R s m args below meth c T' locs cells slots → T'.heap = h → own_GoE p e below EE (T'.setTop (mkF m pc' Ls (v :: rest)))) : own_GoE p e below EE (T.setTop (mkF m pc Ls rest)) := by
  subst hp
  obtain ⟨T', X', e', st⟩ := getS2 X hx hZ hown w via eT F (g := mkF m pc Ls rest) rfl hd
  exact own_step st (k T' X' e')
theorem own_putF (X : Stand p l e R s m args below meth c T locs cells slots) (hx : p.tables.exec = Jvm.exec) {Z : State} {a0 : Array Value} {h : Heap} (hZ : Z.Warmed39 s.vm) {own : String} (hown : s.vm.findClass own = some m.cls) {R0 O n d host : String} {index : Nat} (w : (Jvm.Cond.fieldLink own index R0 n d).before a0 Z = true ∨ (Jvm.Cond.fieldLinkNest own index R0 n d host).before a0 Z = true) (via : Via Z R0 O n d) (eT : T.heap = h) {a : Addr} {v old : Value} (F : Fld Z h a O n d old) {C : String} {kk : Nat} {ty : FieldType} (E : Exa Z h a C) (L : (Jvm.Cond.lays C O n d).before a0 Z = true ∨ ((Jvm.Cond.laysFinal C O n d).before a0 Z = true ∧ own = O ∧ meth.name = "<init>")) (wi : (Jvm.Cond.instantiable C kk).before a0 Z = true) (hty : parseFieldDescriptor d = some ty) (hn : narrow ty v = v) (hf : fits ty v = true) {pc : Nat} (pc' : Nat) {Ls : Array Slot} {rest : List Value} (hd : decode c.code pc = .ok (.putfield index, 3)) (hp : pc + 3 = pc') (k : ∀ T' h', Stand p l e R s m args below meth c T' (locs ++ [⟨a, Jvm.RoadKit.slotOf Z O n d⟩]) cells slots → T'.heap = h' → Wr h h' a (Jvm.RoadKit.slotOf Z O n d) v → own_GoE p e below EE (T'.setTop (mkF m pc' Ls rest))) : own_GoE p e below EE (T.setTop (mkF m pc Ls (v :: .ref a :: rest))) := by
  subst hp
  obtain ⟨T', h', X', e', W', st⟩ := putF X hx hZ hown w via eT F E L wi hty hn hf (g := mkF m pc Ls (v :: .ref a :: rest)) rfl rfl hd
  exact own_step st (k T' h' X' e' W')
theorem own_putFN (X : Stand p l e R s m args below meth c T locs cells slots) (hx : p.tables.exec = Jvm.exec) {Z : State} {a0 : Array Value} {h : Heap} (hZ : Z.Warmed39 s.vm) {own : String} (hown : s.vm.findClass own = some m.cls) {R0 O n d : String} {index : Nat} (w : (Jvm.Cond.fieldLink own index R0 n d).before a0 Z = true) (via : Via Z R0 O n d) (eT : T.heap = h) {a : Addr} {v old : Value} (v' : Value) (F : Fld Z h a O n d old) {C : String} {kk : Nat} {ty : FieldType} (E : Exa Z h a C) (L : (Jvm.Cond.lays C O n d).before a0 Z = true ∨ ((Jvm.Cond.laysFinal C O n d).before a0 Z = true ∧ own = O ∧ meth.name = "<init>")) (wi : (Jvm.Cond.instantiable C kk).before a0 Z = true) (hty : parseFieldDescriptor d = some ty) (hn : narrow ty v = v') (hf : fits ty v' = true) {pc : Nat} (pc' : Nat) {Ls : Array Slot} {rest : List Value} (hd : decode c.code pc = .ok (.putfield index, 3)) (hp : pc + 3 = pc') (k : ∀ T' h', Stand p l e R s m args below meth c T' (locs ++ [⟨a, Jvm.RoadKit.slotOf Z O n d⟩]) cells slots → T'.heap = h' → Wr h h' a (Jvm.RoadKit.slotOf Z O n d) v' → own_GoE p e below EE (T'.setTop (mkF m pc' Ls rest))) : own_GoE p e below EE (T.setTop (mkF m pc Ls (v :: .ref a :: rest))) := by
  subst hp
  obtain ⟨T', h', X', e', W', st⟩ := putFN X hx hZ hown w via eT F E L wi hty hn hf (g := mkF m pc Ls (v :: .ref a :: rest)) rfl rfl hd
  exact own_step st (k T' h' X' e' W')
theorem own_newO (X : Stand p l e R s m args below meth c T locs cells slots) (hx : p.tables.exec = Jvm.exec) {Z : State} {a0 : Array Value} {h : Heap} (hZ : Z.Warmed39 s.vm) {own : String} (hown : s.vm.findClass own = some m.cls) {C : String} {index n : Nat} (w : (Jvm.Cond.classLink own index C).before a0 Z = true) (wi : (Jvm.Cond.instantiable C n).before a0 Z = true) (wz : (Jvm.Cond.initialized C).before a0 Z = true) (eT : T.heap = h) {pc : Nat} (pc' : Nat) {Ls : Array Slot} {rest : List Value} (hd : decode c.code pc = .ok (.new index, 3)) (hp : pc + 3 = pc') (hc : cells + 1 ≤ R.cells) (hl : slots + n ≤ R.slots)
    (k : ∀ T' h' b, Stand p l e R s m args below meth c T' locs (cells + 1) (slots + n) → T'.heap = h' → b = h.size → Ext h h' → Exa Z h' b C → (∀ {O nm d : String} {ty : FieldType}, Laid Z a0 C O nm d → parseFieldDescriptor d = some ty → Fld Z h' b O nm d (defaultValue ty)) → own_GoE p e below EE (T'.setTop (mkF m pc' Ls (.ref b :: rest)))) : own_GoE p e below EE (T.setTop (mkF m pc Ls rest)) := by
  subst hp
  obtain ⟨T', h', X', e', E', A', D', -, st⟩ := newO X hx hZ hown w wi wz eT (g := mkF m pc Ls rest) rfl hd hc hl
  exact own_step st (k T' h' _ X' e' rfl E' A' D')
theorem own_newP (X : Stand p l e R s m args below meth c T locs cells slots) (hx : p.tables.exec = Jvm.exec) {Z : State} {a0 : Array Value} {h : Heap} (hZ : Z.Warmed39 s.vm) {aty : ArrayType} (w : (Jvm.Cond.arrayClass (newarray.typeOf aty)).before a0 Z = true) (eT : T.heap = h) {n : Int32} {pc : Nat} (pc' : Nat) {Ls : Array Slot} {rest : List Value} (hd : decode c.code pc = .ok (.newarray aty, 2)) (hp : pc + 2 = pc') (hn : ¬ n < 0) (cap : Nat) (hcap : n.toNatClampNeg ≤ cap) (hb : cap * 8 ≤ 536870912) (hc : cells + 1 ≤ R.cells) (hl : slots + cap ≤ R.slots)
    (k : ∀ T' h' cA b, Stand p l e R s m args below meth c T' locs (cells + 1) (slots + cap) → T'.heap = h' → b = h.size → Ext h h' → Arr Z h' b (newA cA (newarray.typeOf aty) n) (newarray.typeOf aty) → own_GoE p e below EE (T'.setTop (mkF m pc' Ls (.ref b :: rest)))) : own_GoE p e below EE (T.setTop (mkF m pc Ls (.int n :: rest))) := by
  subst hp
  obtain ⟨T', h', cA, X', e', E', A', st⟩ := newP X hx hZ w eT (g := mkF m pc Ls (.int n :: rest)) rfl hd rfl hn hcap hb hc hl
  exact own_step st (k T' h' cA _ X' e' rfl E' A')
theorem own_newR (X : Stand p l e R s m args below meth c T locs cells slots) (hx : p.tables.exec = Jvm.exec) {Z : State} {a0 : Array Value} {h : Heap} (hZ : Z.Warmed39 s.vm) {own : String} (hown : s.vm.findClass own = some m.cls) {C : String} {index : Nat} (w1 : (Jvm.Cond.classLink own index C).before a0 Z = true) (w2 : (Jvm.Cond.arrayOver (.object C)).before a0 Z = true) (eT : T.heap = h) {n : Int32} {pc : Nat} (pc' : Nat) {Ls : Array Slot} {rest : List Value} (hd : decode c.code pc = .ok (.anewarray index, 3)) (hp : pc + 3 = pc') (hn : ¬ n < 0) (cap : Nat) (hcap : n.toNatClampNeg ≤ cap) (hb : cap * 8 ≤ 536870912) (hc : cells + 1 ≤ R.cells) (hl : slots + cap ≤ R.slots)
    (k : ∀ T' h' cA b, Stand p l e R s m args below meth c T' locs (cells + 1) (slots + cap) → T'.heap = h' → b = h.size → Ext h h' → Arr Z h' b (newA cA (.object C) n) (.object C) → Ovr Z cA C → own_GoE p e below EE (T'.setTop (mkF m pc' Ls (.ref b :: rest)))) : own_GoE p e below EE (T.setTop (mkF m pc Ls (.int n :: rest))) := by
  subst hp
  obtain ⟨T', h', cA, X', e', E', A', O', st⟩ := newR X hx hZ hown w1 w2 eT (g := mkF m pc Ls (.int n :: rest)) rfl hd rfl hn hcap hb hc hl
  exact own_step st (k T' h' cA _ X' e' rfl E' A' O')
theorem own_stI (X : Stand p l e R s m args below meth c T locs cells slots) (hx : p.tables.exec = Jvm.exec) {Z : State} {h : Heap} (hZ : Z.Warmed39 s.vm) (eT : T.heap = h) {a : Addr} {cl : Cell} (A : Arr Z h a cl .int) {j : Int32} {x : Int32} (hj : ¬ (j < 0 ∨ cl.slots.size ≤ j.toNatClampNeg)) {pc : Nat} (pc' : Nat) {Ls : Array Slot} {rest : List Value} (hd : decode c.code pc = .ok (.iastore, 1)) (hp : pc + 1 = pc') (k : ∀ T' h', Stand p l e R s m args below meth c T' (locs ++ [⟨a, j.toNatClampNeg⟩]) cells slots → T'.heap = h' → Wr h h' a j.toNatClampNeg (.int x) → own_GoE p e below EE (T'.setTop (mkF m pc' Ls rest))) : own_GoE p e below EE (T.setTop (mkF m pc Ls (.int x :: .int j :: .ref a :: rest))) := by
  subst hp
  obtain ⟨T', h', X', e', W', st⟩ := stI X hx hZ eT A hj (g := mkF m pc Ls (.int x :: .int j :: .ref a :: rest)) rfl rfl hd
  exact own_step st (k T' h' X' e' W')
theorem own_stC (X : Stand p l e R s m args below meth c T locs cells slots) (hx : p.tables.exec = Jvm.exec) {Z : State} {h : Heap} (hZ : Z.Warmed39 s.vm) (eT : T.heap = h) {a : Addr} {cl : Cell} (A : Arr Z h a cl .char) {j : Int32} {x : Int32} (hj : ¬ (j < 0 ∨ cl.slots.size ≤ j.toNatClampNeg)) {pc : Nat} (pc' : Nat) {Ls : Array Slot} {rest : List Value} (hd : decode c.code pc = .ok (.castore, 1)) (hp : pc + 1 = pc') (k : ∀ T' h', Stand p l e R s m args below meth c T' (locs ++ [⟨a, j.toNatClampNeg⟩]) cells slots → T'.heap = h' → Wr h h' a j.toNatClampNeg (.int (nar .char x)) → own_GoE p e below EE (T'.setTop (mkF m pc' Ls rest))) : own_GoE p e below EE (T.setTop (mkF m pc Ls (.int x :: .int j :: .ref a :: rest))) := by
  subst hp
  obtain ⟨T', h', X', e', W', st⟩ := stC X hx hZ eT A hj (g := mkF m pc Ls (.int x :: .int j :: .ref a :: rest)) rfl rfl hd
  exact own_step st (k T' h' X' e' W')
theorem own_stZ (X : Stand p l e R s m args below meth c T locs cells slots) (hx : p.tables.exec = Jvm.exec) {Z : State} {h : Heap} (hZ : Z.Warmed39 s.vm) (eT : T.heap = h) {a : Addr} {cl : Cell} (A : Arr Z h a cl .boolean) {j : Int32} {x : Int32} (hj : ¬ (j < 0 ∨ cl.slots.size ≤ j.toNatClampNeg)) {pc : Nat} (pc' : Nat) {Ls : Array Slot} {rest : List Value} (hd : decode c.code pc = .ok (.bastore, 1)) (hp : pc + 1 = pc') (k : ∀ T' h', Stand p l e R s m args below meth c T' (locs ++ [⟨a, j.toNatClampNeg⟩]) cells slots → T'.heap = h' → Wr h h' a j.toNatClampNeg (.int (nar .boolean x)) → own_GoE p e below EE (T'.setTop (mkF m pc' Ls rest))) : own_GoE p e below EE (T.setTop (mkF m pc Ls (.int x :: .int j :: .ref a :: rest))) := by
  subst hp
  obtain ⟨T', h', X', e', W', st⟩ := stZ X hx hZ eT A hj (g := mkF m pc Ls (.int x :: .int j :: .ref a :: rest)) rfl rfl hd
  exact own_step st (k T' h' X' e' W')
theorem own_stB (X : Stand p l e R s m args below meth c T locs cells slots) (hx : p.tables.exec = Jvm.exec) {Z : State} {h : Heap} (hZ : Z.Warmed39 s.vm) (eT : T.heap = h) {a : Addr} {cl : Cell} (A : Arr Z h a cl .byte) {j : Int32} {x : Int32} (hj : ¬ (j < 0 ∨ cl.slots.size ≤ j.toNatClampNeg)) {pc : Nat} (pc' : Nat) {Ls : Array Slot} {rest : List Value} (hd : decode c.code pc = .ok (.bastore, 1)) (hp : pc + 1 = pc') (k : ∀ T' h', Stand p l e R s m args below meth c T' (locs ++ [⟨a, j.toNatClampNeg⟩]) cells slots → T'.heap = h' → Wr h h' a j.toNatClampNeg (.int (nar .byte x)) → own_GoE p e below EE (T'.setTop (mkF m pc' Ls rest))) : own_GoE p e below EE (T.setTop (mkF m pc Ls (.int x :: .int j :: .ref a :: rest))) := by
  subst hp
  obtain ⟨T', h', X', e', W', st⟩ := stB X hx hZ eT A hj (g := mkF m pc Ls (.int x :: .int j :: .ref a :: rest)) rfl rfl hd
  exact own_step st (k T' h' X' e' W')
theorem own_stS (X : Stand p l e R s m args below meth c T locs cells slots) (hx : p.tables.exec = Jvm.exec) {Z : State} {h : Heap} (hZ : Z.Warmed39 s.vm) (eT : T.heap = h) {a : Addr} {cl : Cell} (A : Arr Z h a cl .short) {j : Int32} {x : Int32} (hj : ¬ (j < 0 ∨ cl.slots.size ≤ j.toNatClampNeg)) {pc : Nat} (pc' : Nat) {Ls : Array Slot} {rest : List Value} (hd : decode c.code pc = .ok (.sastore, 1)) (hp : pc + 1 = pc') (k : ∀ T' h', Stand p l e R s m args below meth c T' (locs ++ [⟨a, j.toNatClampNeg⟩]) cells slots → T'.heap = h' → Wr h h' a j.toNatClampNeg (.int (nar .short x)) → own_GoE p e below EE (T'.setTop (mkF m pc' Ls rest))) : own_GoE p e below EE (T.setTop (mkF m pc Ls (.int x :: .int j :: .ref a :: rest))) := by
  subst hp
  obtain ⟨T', h', X', e', W', st⟩ := stS X hx hZ eT A hj (g := mkF m pc Ls (.int x :: .int j :: .ref a :: rest)) rfl rfl hd
  exact own_step st (k T' h' X' e' W')
theorem own_stJ (X : Stand p l e R s m args below meth c T locs cells slots) (hx : p.tables.exec = Jvm.exec) {Z : State} {h : Heap} (hZ : Z.Warmed39 s.vm) (eT : T.heap = h) {a : Addr} {cl : Cell} (A : Arr Z h a cl .long) {j : Int32} {x : Int64} (hj : ¬ (j < 0 ∨ cl.slots.size ≤ j.toNatClampNeg)) {pc : Nat} (pc' : Nat) {Ls : Array Slot} {rest : List Value} (hd : decode c.code pc = .ok (.lastore, 1)) (hp : pc + 1 = pc') (k : ∀ T' h', Stand p l e R s m args below meth c T' (locs ++ [⟨a, j.toNatClampNeg⟩]) cells slots → T'.heap = h' → Wr h h' a j.toNatClampNeg (.long x) → own_GoE p e below EE (T'.setTop (mkF m pc' Ls rest))) : own_GoE p e below EE (T.setTop (mkF m pc Ls (.long x :: .int j :: .ref a :: rest))) := by
  subst hp
  obtain ⟨T', h', X', e', W', st⟩ := stJ X hx hZ eT A hj (g := mkF m pc Ls (.long x :: .int j :: .ref a :: rest)) rfl rfl hd
  exact own_step st (k T' h' X' e' W')
theorem own_stR (X : Stand p l e R s m args below meth c T locs cells slots) (hx : p.tables.exec = Jvm.exec) {Z : State} {h : Heap} (hZ : Z.Warmed39 s.vm) (eT : T.heap = h) {a : Addr} {cl : Cell} {ty : FieldType} (A : Arr Z h a cl ty) {j : Int32} {v : Value} (hj : ¬ (j < 0 ∨ cl.slots.size ≤ j.toNatClampNeg)) (hty : ty.isReference = true) (F : Sto Z h a v) {pc : Nat} (pc' : Nat) {Ls : Array Slot} {rest : List Value} (hd : decode c.code pc = .ok (.aastore, 1)) (hp : pc + 1 = pc') (k : ∀ T' h', Stand p l e R s m args below meth c T' (locs ++ [⟨a, j.toNatClampNeg⟩]) cells slots → T'.heap = h' → Wr h h' a j.toNatClampNeg v → own_GoE p e below EE (T'.setTop (mkF m pc' Ls rest))) : own_GoE p e below EE (T.setTop (mkF m pc Ls (v :: .int j :: .ref a :: rest))) := by
  subst hp
  obtain ⟨T', h', X', e', W', st⟩ := stR X hx hZ eT A hj hty F (g := mkF m pc Ls (v :: .int j :: .ref a :: rest)) rfl rfl hd
  exact own_step st (k T' h' X' e' W')
theorem own_iaload (X : Stand p l e R s m args below meth c T locs cells slots) (hx : p.tables.exec = Jvm.exec) {Z : State} {h : Heap} (hZ : Z.Warmed39 s.vm) (eT : T.heap = h) {a : Addr} {cl : Cell} (A : Arr Z h a cl .int) {j : Int32} {v : Value} (hj : ¬ (j < 0 ∨ cl.slots.size ≤ j.toNatClampNeg)) (hv : cl.slots[j.toNatClampNeg]? = some v) {pc : Nat} (pc' : Nat) {Ls : Array Slot} {rest : List Value} (hd : decode c.code pc = .ok (.iaload, 1)) (hp : pc + 1 = pc') (G : own_GoE p e below EE (T.setTop (mkF m pc' Ls (v :: rest)))) : own_GoE p e below EE (T.setTop (mkF m pc Ls (.int j :: .ref a :: rest))) := by
  subst hp eT
  exact own_step (X.iaload hx (j := j) (v := v) A.1 (State.isArrayOf_alike hZ.alike A.2.1) A.2.2 hj hv (g := mkF m pc Ls (.int j :: .ref a :: rest)) rfl rfl hd) G
theorem own_caload (X : Stand p l e R s m args below meth c T locs cells slots) (hx : p.tables.exec = Jvm.exec) {Z : State} {h : Heap} (hZ : Z.Warmed39 s.vm) (eT : T.heap = h) {a : Addr} {cl : Cell} (A : Arr Z h a cl .char) {j : Int32} {v : Value} (hj : ¬ (j < 0 ∨ cl.slots.size ≤ j.toNatClampNeg)) (hv : cl.slots[j.toNatClampNeg]? = some v) {pc : Nat} (pc' : Nat) {Ls : Array Slot} {rest : List Value} (hd : decode c.code pc = .ok (.caload, 1)) (hp : pc + 1 = pc') (G : own_GoE p e below EE (T.setTop (mkF m pc' Ls (v :: rest)))) : own_GoE p e below EE (T.setTop (mkF m pc Ls (.int j :: .ref a :: rest))) := by
  subst hp eT
  exact own_step (X.caload hx (j := j) (v := v) A.1 (State.isArrayOf_alike hZ.alike A.2.1) A.2.2 hj hv (g := mkF m pc Ls (.int j :: .ref a :: rest)) rfl rfl hd) G
theorem own_laload (X : Stand p l e R s m args below meth c T locs cells slots) (hx : p.tables.exec = Jvm.exec) {Z : State} {h : Heap} (hZ : Z.Warmed39 s.vm) (eT : T.heap = h) {a : Addr} {cl : Cell} (A : Arr Z h a cl .long) {j : Int32} {v : Value} (hj : ¬ (j < 0 ∨ cl.slots.size ≤ j.toNatClampNeg)) (hv : cl.slots[j.toNatClampNeg]? = some v) {pc : Nat} (pc' : Nat) {Ls : Array Slot} {rest : List Value} (hd : decode c.code pc = .ok (.laload, 1)) (hp : pc + 1 = pc') (G : own_GoE p e below EE (T.setTop (mkF m pc' Ls (v :: rest)))) : own_GoE p e below EE (T.setTop (mkF m pc Ls (.int j :: .ref a :: rest))) := by
  subst hp eT
  exact own_step (X.laload hx (j := j) (v := v) A.1 (State.isArrayOf_alike hZ.alike A.2.1) A.2.2 hj hv (g := mkF m pc Ls (.int j :: .ref a :: rest)) rfl rfl hd) G
theorem own_baloadB (X : Stand p l e R s m args below meth c T locs cells slots) (hx : p.tables.exec = Jvm.exec) {Z : State} {h : Heap} (hZ : Z.Warmed39 s.vm) (eT : T.heap = h) {a : Addr} {cl : Cell} (A : Arr Z h a cl .byte) {j : Int32} {v : Value} (hj : ¬ (j < 0 ∨ cl.slots.size ≤ j.toNatClampNeg)) (hv : cl.slots[j.toNatClampNeg]? = some v) {pc : Nat} (pc' : Nat) {Ls : Array Slot} {rest : List Value} (hd : decode c.code pc = .ok (.baload, 1)) (hp : pc + 1 = pc') (G : own_GoE p e below EE (T.setTop (mkF m pc' Ls (v :: rest)))) : own_GoE p e below EE (T.setTop (mkF m pc Ls (.int j :: .ref a :: rest))) := by
  subst hp eT
  exact own_step (X.baloadBytes hx (j := j) (v := v) A.1 (State.isArrayOf_alike hZ.alike A.2.1) A.2.2 hj hv (g := mkF m pc Ls (.int j :: .ref a :: rest)) rfl rfl hd) G
theorem own_baloadZ (X : Stand p l e R s m args below meth c T locs cells slots) (hx : p.tables.exec = Jvm.exec) {Z : State} {h : Heap} (hZ : Z.Warmed39 s.vm) (eT : T.heap = h) {a : Addr} {cl : Cell} (A : Arr Z h a cl .boolean) {j : Int32} {v : Value} (hj : ¬ (j < 0 ∨ cl.slots.size ≤ j.toNatClampNeg)) (hv : cl.slots[j.toNatClampNeg]? = some v) {pc : Nat} (pc' : Nat) {Ls : Array Slot} {rest : List Value} (hd : decode c.code pc = .ok (.baload, 1)) (hp : pc + 1 = pc') (G : own_GoE p e below EE (T.setTop (mkF m pc' Ls (v :: rest)))) : own_GoE p e below EE (T.setTop (mkF m pc Ls (.int j :: .ref a :: rest))) := by
  subst hp eT
  exact own_step (X.baloadBooleans hx (j := j) (v := v) A.1 (State.isArrayOf_alike hZ.alike A.2.1) A.2.2 hj hv (g := mkF m pc Ls (.int j :: .ref a :: rest)) rfl rfl hd) G
theorem own_aaload (X : Stand p l e R s m args below meth c T locs cells slots) (hx : p.tables.exec = Jvm.exec) {Z : State} {h : Heap} (hZ : Z.Warmed39 s.vm) (eT : T.heap = h) {a : Addr} {cl : Cell} {ty : FieldType} (hty : ty.isReference = true) (A : Arr Z h a cl ty) {j : Int32} {v : Value} (hj : ¬ (j < 0 ∨ cl.slots.size ≤ j.toNatClampNeg)) (hv : cl.slots[j.toNatClampNeg]? = some v) {pc : Nat} (pc' : Nat) {Ls : Array Slot} {rest : List Value} (hd : decode c.code pc = .ok (.aaload, 1)) (hp : pc + 1 = pc') (G : own_GoE p e below EE (T.setTop (mkF m pc' Ls (v :: rest)))) : own_GoE p e below EE (T.setTop (mkF m pc Ls (.int j :: .ref a :: rest))) := by
  subst hp eT
  exact own_step (X.aaload hx (j := j) (v := v) A.1 (State.isArrayOf_alike hZ.alike A.2.1) hty A.2.2 hj hv (g := mkF m pc Ls (.int j :: .ref a :: rest)) rfl rfl hd) G
theorem own_arraylength (X : Stand p l e R s m args below meth c T locs cells slots) (hx : p.tables.exec = Jvm.exec) {Z : State} {h : Heap} (hZ : Z.Warmed39 s.vm) (eT : T.heap = h) {a : Addr} {cl : Cell} {ty : FieldType} (A : Arr Z h a cl ty) {z : Int32} (hz : cl.slots.size = z.toNatClampNeg) (h0 : ¬ z < 0) {pc : Nat} (pc' : Nat) {Ls : Array Slot} {rest : List Value} (hd : decode c.code pc = .ok (.arraylength, 1)) (hp : pc + 1 = pc') (G : own_GoE p e below EE (T.setTop (mkF m pc' Ls (.int z :: rest)))) : own_GoE p e below EE (T.setTop (mkF m pc Ls (.ref a :: rest))) := by
  subst hp eT
  refine own_step (X.arraylength hx A.1 (State.isArrayOf_alike hZ.alike A.2.1) (g := mkF m pc Ls (.ref a :: rest)) rfl rfl hd) ?_
  rw [len_of hz h0]
  exact G
theorem own_initO (X : Stand p l e R s m args below meth c T locs cells slots) (hx : p.tables.exec = Jvm.exec) {Z : State} {a0 : Array Value} {h : Heap} (hZ : Z.Warmed39 s.vm) {own : String} (hown : s.vm.findClass own = some m.cls) {idx : Nat} (w1 : (Jvm.Cond.methodLink own idx Lib.objectInit).before a0 Z = true) (w2 : (Jvm.Cond.instanceMethod Lib.objectInit).before a0 Z = true) (w3 : (Jvm.Cond.code Lib.objectInit ⟨#[0xb1]⟩ 1 none).before a0 Z = true) (eT : T.heap = h) {a : Addr} {pc : Nat} (pc' : Nat) {Ls : Array Slot} {rest : List Value} (hsize : Ls.size = c.maxLocals) (hd : decode c.code pc = .ok (.invokespecial idx, 3)) (hp : pc + 3 = pc') (hf : 1 ≤ R.frames) (W : Nat) (hW : (rest.map fun v => v.category).sum = W) (hl : W + 12 ≤ R.locals) (k : ∀ T', Stand p l e R s m args below meth c T' locs cells slots → T'.heap = h → own_GoE p e below EE (T'.setTop (mkF m pc' Ls rest))) : own_GoE p e below EE (T.setTop (mkF m pc Ls (.ref a :: rest))) := by
  subst hp
  obtain ⟨T', X', e', st⟩ := initO X hx hZ hown w1 w2 w3 eT (g := mkF m pc Ls (.ref a :: rest)) rfl hsize rfl hd hf (W := W) (by show 2 * 0 + _ ≤ _; omega) hl
  exact own_step st (k T' X' e')
theorem own_callS (X : Stand p l e R s m args below meth c T locs cells slots) (hx : p.tables.exec = Jvm.exec) {Z : State} {a0 : Array Value} {h : Heap} (hZ : Z.Warmed39 s.vm) {own : String} (hown : s.vm.findClass own = some m.cls) {index : Nat} {y : MethodName} {bytes : ByteArray} {maxL : Nat} {ret : Option FieldType} {rm : Room} {as' : Array Value} {Q' : Option Value → Heap → List Loc → Prop} (w1 : (Jvm.Cond.methodLink own index y).before a0 Z = true) (w2 : (Jvm.Cond.static y).before a0 Z = true) (hy : y.cls ≠ "java/lang/invoke/MethodHandle" ∧ y.cls ≠ "java/lang/invoke/VarHandle") (hM : MetFree l y (head1 [Jvm.Cond.code y bytes maxL ret] rm) (fun a U => a = as' ∧ Z.Warmed39 U.vm ∧ U.heap = h) (fun _ _ _ _ _ => True) (fun _ U o U' => ∃ v L, o = .returned v ∧ Q' v U'.heap L ∧ FrameEnd U o U' L rm.cells rm.slots)) (wc : (Jvm.Cond.code y bytes maxL ret).before a0 Z = true) (wz : (Jvm.Cond.initialized y.cls).before a0 Z = true) (eT : T.heap = h) (W : Nat) (hf : rm.frames + 1 ≤ R.frames) (hl : W + (maxL + 11) + rm.locals ≤ R.locals) (hc : cells + rm.cells ≤ R.cells) (hs : slots + rm.slots ≤ R.slots) (argsL rest : List Value) (has : argsL.toArray = as') {ps : List FieldType} {rr : Option FieldType} (hpd : parseMethodDescriptor y.desc = some ⟨ps, rr⟩) (hlen : argsL.length = ps.length) {pc : Nat} (pc' : Nat) {Ls : Array Slot} {stk : List Value} (hstk : stk = argsL.reverse ++ rest) (hsize : Ls.size = c.maxLocals) (hW : (rest.map fun v => v.category).sum = W) (hd : decode c.code pc = .ok (.invokestatic index, 3)) (hp : pc + 3 = pc') (k : ∀ T' v L, Stand p l e R s m args below meth c T' (locs ++ L) (cells + rm.cells) (slots + rm.slots) → Q' v T'.heap L → own_GoE p e below EE (T'.setTop (mkF m pc' Ls (v.toList ++ rest)))) : own_GoE p e below EE (T.setTop (mkF m pc Ls stk)) := by
  subst hp hstk
  obtain ⟨v', _, ⟨T', L', k', n'⟩, -, X', ⟨Lc', hQ', l', y', z'⟩, st'⟩ := Jvm.LawKit.callS X hx (y := y) hown (mvT hZ w1) (mvT hZ w2) (mvT hZ wz) (mvT hZ wc) hy (backOf (W := W) hM hZ wc wz hf hl) (g := mkF m pc Ls (argsL.reverse ++ rest)) rfl hsize (argsL := argsL) (rest := rest) (lenOf hpd hlen) rfl (by show 2 * 0 + _ ≤ _; omega) hd (fun _ _ => ⟨has, eT, hc, hs⟩)
  dsimp only [Pt.U, Pt.locs, Pt.cells, Pt.slots] at X' l' y' z' st' hQ'
  subst l' y' z'
  exact own_step (fun t kk => st' _ kk) (k T' v' _ X' hQ')
theorem own_callI (X : Stand p l e R s m args below meth c T locs cells slots) (hx : p.tables.exec = Jvm.exec) {Z : State} {a0 : Array Value} {h : Heap} (hZ : Z.Warmed39 s.vm) {own : String} (hown : s.vm.findClass own = some m.cls) {index : Nat} {y : MethodName} {bytes : ByteArray} {maxL : Nat} {rm : Room} {as' : Array Value} {Q' : Option Value → Heap → List Loc → Prop} (hy1 : y.name = "<init>") (w1 : (Jvm.Cond.methodLink own index y).before a0 Z = true) (w2 : (Jvm.Cond.instanceMethod y).before a0 Z = true) (hy : y.cls ≠ "java/lang/invoke/MethodHandle" ∧ y.cls ≠ "java/lang/invoke/VarHandle") (hM : MetFree l y (head1 [Jvm.Cond.code y bytes maxL none] rm) (fun a U => a = as' ∧ Z.Warmed39 U.vm ∧ U.heap = h) (fun _ _ _ _ _ => True) (fun _ U o U' => ∃ v L, o = .returned v ∧ Q' v U'.heap L ∧ FrameEnd U o U' L rm.cells rm.slots)) (wc : (Jvm.Cond.code y bytes maxL none).before a0 Z = true) (wz : (Jvm.Cond.initialized y.cls).before a0 Z = true) (eT : T.heap = h) (W : Nat) (hf : rm.frames + 1 ≤ R.frames) (hl : W + (maxL + 11) + rm.locals ≤ R.locals) (hc : cells + rm.cells ≤ R.cells) (hs : slots + rm.slots ≤ R.slots) (a : Addr) (argsL rest : List Value) (has : (.ref a :: argsL).toArray = as') {ps : List FieldType} {rr : Option FieldType} (hpd : parseMethodDescriptor y.desc = some ⟨ps, rr⟩) (hlen : argsL.length = ps.length) {pc : Nat} (pc' : Nat) {Ls : Array Slot} {stk : List Value} (hstk : stk = argsL.reverse ++ .ref a :: rest) (hsize : Ls.size = c.maxLocals) (hW : (rest.map fun v => v.category).sum = W) (hd : decode c.code pc = .ok (.invokespecial index, 3)) (hp : pc + 3 = pc') (k : ∀ T' v L, Stand p l e R s m args below meth c T' (locs ++ L) (cells + rm.cells) (slots + rm.slots) → Q' v T'.heap L → own_GoE p e below EE (T'.setTop (mkF m pc' Ls (v.toList ++ rest)))) : own_GoE p e below EE (T.setTop (mkF m pc Ls stk)) := by
  subst hp hstk
  obtain ⟨v', _, ⟨T', L', k', n'⟩, -, X', ⟨Lc', hQ', l', y', z'⟩, st'⟩ := X.specialBack hx (y := y) hy1 hown (mvT hZ w1) (mvT hZ w2) (mvT hZ wc) hy (backOf (W := W) hM hZ wc wz hf hl) (g := mkF m pc Ls (argsL.reverse ++ .ref a :: rest)) rfl hsize (Steps.refl _) (a := a) (argsL := argsL) (rest := rest) (lenOf hpd hlen) rfl (by show 2 * 0 + _ ≤ _; omega) hd (fun _ _ => ⟨has, eT, hc, hs⟩)
  dsimp only [Pt.U, Pt.locs, Pt.cells, Pt.slots] at X' l' y' z' st' hQ'
  subst l' y' z'
  exact own_step (fun t kk => st'.trans kk) (k T' v' _ X' hQ')
theorem own_callV (X : Stand p l e R s m args below meth c T locs cells slots) (hx : p.tables.exec = Jvm.exec) {Z : State} {a0 : Array Value} {h : Heap} (hZ : Z.Warmed39 s.vm) {own : String} (hown : s.vm.findClass own = some m.cls) {C : String} {index : Nat} {y z : MethodName} {bytes : ByteArray} {maxL : Nat} {ret : Option FieldType} {rm : Room} {as' : Array Value} {Q' : Option Value → Heap → List Loc → Prop} (w1 : (Jvm.Cond.methodLink own index y).before a0 Z = true) (w2 : (Jvm.Cond.declares y).before a0 Z = true) (hnf : NotFace s y) (w3 : (Jvm.Cond.selects C y z).before a0 Z = true) (w4 : (Jvm.Cond.instanceMethod z).before a0 Z = true) (hy : y.cls ≠ "java/lang/invoke/MethodHandle" ∧ y.cls ≠ "java/lang/invoke/VarHandle") (hM : MetFree l z (head1 [Jvm.Cond.code z bytes maxL ret] rm) (fun a U => a = as' ∧ Z.Warmed39 U.vm ∧ U.heap = h) (fun _ _ _ _ _ => True) (fun _ U o U' => ∃ v L, o = .returned v ∧ Q' v U'.heap L ∧ FrameEnd U o U' L rm.cells rm.slots)) (wc : (Jvm.Cond.code z bytes maxL ret).before a0 Z = true) (wz : (Jvm.Cond.initialized z.cls).before a0 Z = true) (eT : T.heap = h) (W : Nat) (hf : rm.frames + 1 ≤ R.frames) (hl : W + (maxL + 11) + rm.locals ≤ R.locals) (hc : cells + rm.cells ≤ R.cells) (hs : slots + rm.slots ≤ R.slots) {a : Addr} (E : Exa Z h a C) (argsL rest : List Value) (has : (.ref a :: argsL).toArray = as') {ps : List FieldType} {rr : Option FieldType} (hpd : parseMethodDescriptor y.desc = some ⟨ps, rr⟩) (hlen : argsL.length = ps.length) {pc : Nat} (pc' : Nat) {Ls : Array Slot} {stk : List Value} (hstk : stk = argsL.reverse ++ .ref a :: rest) (hsize : Ls.size = c.maxLocals) (hW : (rest.map fun v => v.category).sum = W) (hd : decode c.code pc = .ok (.invokevirtual index, 3)) (hp : pc + 3 = pc') (k : ∀ T' v L, Stand p l e R s m args below meth c T' (locs ++ L) (cells + rm.cells) (slots + rm.slots) → Q' v T'.heap L → own_GoE p e below EE (T'.setTop (mkF m pc' Ls (v.toList ++ rest)))) : own_GoE p e below EE (T.setTop (mkF m pc Ls stk)) := by
  subst hp hstk
  obtain ⟨cq, kq, qa, qb, qc⟩ := isOf hZ eT E
  obtain ⟨v', _, ⟨T', L', k', n'⟩, -, X', ⟨Lc', hQ', l', y', z'⟩, st'⟩ := X.virtualBack hx (y := y) (z := z) hown (mvT hZ w1) (mvT hZ w2) hnf (mvT hZ w3) (mvT hZ w4) hy (backOf (W := W) hM hZ wc wz hf hl) qa qc (g := mkF m pc Ls (argsL.reverse ++ .ref a :: rest)) rfl hsize (Steps.refl _) (argsL := argsL) (rest := rest) (lenOf hpd hlen) rfl (by show 2 * 0 + _ ≤ _; omega) hd (fun _ _ => ⟨has, eT, hc, hs⟩)
  dsimp only [Pt.U, Pt.locs, Pt.cells, Pt.slots] at X' l' y' z' st' hQ'
  subst l' y' z'
  exact own_step (fun t kk => st'.trans kk) (k T' v' _ X' hQ')
theorem own_callU (X : Stand p l e R s m args below meth c T locs cells slots) (hx : p.tables.exec = Jvm.exec) {Z : State} {a0 : Array Value} {h : Heap} (hZ : Z.Warmed39 s.vm) {own : String} (hown : s.vm.findClass own = some m.cls) {C owner : String} {index : Nat} {y z : MethodName} {bytes : ByteArray} {maxL : Nat} {ret : Option FieldType} {rm : Room} {as' : Array Value} {Q' : Option Value → Heap → List Loc → Prop} (w1 : (Jvm.Cond.methodLink own index y).before a0 Z = true) (w5 : (Jvm.Cond.sameMethod y.cls owner y.name y.desc).before a0 Z = true) (w2 : (Jvm.Cond.declares ⟨owner, y.name, y.desc⟩).before a0 Z = true) (ho : owner ≠ "java/lang/invoke/MethodHandle" ∧ owner ≠ "java/lang/invoke/VarHandle") (w3 : (Jvm.Cond.selects C y z).before a0 Z = true) (w4 : (Jvm.Cond.instanceMethod z).before a0 Z = true) (hM : MetFree l z (head1 [Jvm.Cond.code z bytes maxL ret] rm) (fun a U => a = as' ∧ Z.Warmed39 U.vm ∧ U.heap = h) (fun _ _ _ _ _ => True) (fun _ U o U' => ∃ v L, o = .returned v ∧ Q' v U'.heap L ∧ FrameEnd U o U' L rm.cells rm.slots)) (wc : (Jvm.Cond.code z bytes maxL ret).before a0 Z = true) (wz : (Jvm.Cond.initialized z.cls).before a0 Z = true) (eT : T.heap = h) (W : Nat) (hf : rm.frames + 1 ≤ R.frames) (hl : W + (maxL + 11) + rm.locals ≤ R.locals) (hc : cells + rm.cells ≤ R.cells) (hs : slots + rm.slots ≤ R.slots) {a : Addr} (E : Exa Z h a C) (argsL rest : List Value) (has : (.ref a :: argsL).toArray = as') {ps : List FieldType} {rr : Option FieldType} (hpd : parseMethodDescriptor y.desc = some ⟨ps, rr⟩) (hlen : argsL.length = ps.length) {pc : Nat} (pc' : Nat) {Ls : Array Slot} {stk : List Value} (hstk : stk = argsL.reverse ++ .ref a :: rest) (hsize : Ls.size = c.maxLocals) (hW : (rest.map fun v => v.category).sum = W) (hd : decode c.code pc = .ok (.invokevirtual index, 3)) (hp : pc + 3 = pc') (k : ∀ T' v L, Stand p l e R s m args below meth c T' (locs ++ L) (cells + rm.cells) (slots + rm.slots) → Q' v T'.heap L → own_GoE p e below EE (T'.setTop (mkF m pc' Ls (v.toList ++ rest)))) : own_GoE p e below EE (T.setTop (mkF m pc Ls stk)) := by
  subst hp hstk
  obtain ⟨cq, kq, qa, qb, qc⟩ := isOf hZ eT E
  obtain ⟨v', _, ⟨T', L', k', n'⟩, -, X', ⟨Lc', hQ', l', y', z'⟩, st'⟩ := X.virtualBackUp hx (owner := owner) (x := y) (y := z) hown (mvT hZ w1) (mvT hZ w5) (mvT hZ w2) ho (mvT hZ w3) (mvT hZ w4) (backOf (W := W) hM hZ wc wz hf hl) qa qc (g := mkF m pc Ls (argsL.reverse ++ .ref a :: rest)) rfl hsize (Steps.refl _) (argsL := argsL) (rest := rest) (lenOf hpd hlen) rfl (by show 2 * 0 + _ ≤ _; omega) hd (fun _ _ => ⟨has, eT, hc, hs⟩)
  dsimp only [Pt.U, Pt.locs, Pt.cells, Pt.slots] at X' l' y' z' st' hQ'
  subst l' y' z'
  exact own_step (fun t kk => st'.trans kk) (k T' v' _ X' hQ')
theorem own_nf {C : String} {y : MethodName} {Z : State} {a0 : Array Value} (hZ : Z.Warmed39 s.vm) (w : (Jvm.Cond.selects C y y).before a0 Z = true) : NotFace s y := notFace_of_selects (args := #[]) (mvT hZ w)
theorem own_selfsel {K : String} {y y' : MethodName} (w : (Jvm.Cond.selects K y' y').before args s = true) (hK : y'.cls = y.cls) (hp : s.PrivateAt y) (hi : (Jvm.Cond.instanceMethod y).before args s = true) (hy : y.cls ≠ "java/lang/invoke/MethodHandle" ∧ y.cls ≠ "java/lang/invoke/VarHandle") : (Jvm.Cond.selects y.cls y y).before args s = true := by
  obtain ⟨c2, r2, m2, -, -, q3, -, kP, hkP, hkPi⟩ := Cond.selects_spec w
  exact selects_self_of_private (by rw [← hK]; exact findClass_of_methodNamed q3) hkP hkPi hp hi hy
theorem own_callP (X : Stand p l e R s m args below meth c T locs cells slots) (hx : p.tables.exec = Jvm.exec) {Z : State} {a0 : Array Value} {h : Heap} (hZ : Z.Warmed39 s.vm) {own : String} (hown : s.vm.findClass own = some m.cls) {C K' : String} {index : Nat} {y y' : MethodName} {bytes : ByteArray} {maxL : Nat} {ret : Option FieldType} {rm : Room} {as' : Array Value} {Q' : Option Value → Heap → List Loc → Prop} (w1 : (Jvm.Cond.methodLink own index y).before a0 Z = true) (w2 : (Jvm.Cond.instanceMethod y).before a0 Z = true) (w3 : (Jvm.Cond.selects K' y' y').before a0 Z = true) (hK : y'.cls = y.cls) (w4 : (Jvm.Cond.privateMethod y).before a0 Z = true) (hy : y.cls ≠ "java/lang/invoke/MethodHandle" ∧ y.cls ≠ "java/lang/invoke/VarHandle") (hM : MetFree l y (head1 [Jvm.Cond.code y bytes maxL ret] rm) (fun a U => a = as' ∧ Z.Warmed39 U.vm ∧ U.heap = h) (fun _ _ _ _ _ => True) (fun _ U o U' => ∃ v L, o = .returned v ∧ Q' v U'.heap L ∧ FrameEnd U o U' L rm.cells rm.slots)) (wc : (Jvm.Cond.code y bytes maxL ret).before a0 Z = true) (wz : (Jvm.Cond.initialized y.cls).before a0 Z = true) (eT : T.heap = h) (W : Nat) (hf : rm.frames + 1 ≤ R.frames) (hl : W + (maxL + 11) + rm.locals ≤ R.locals) (hc : cells + rm.cells ≤ R.cells) (hs : slots + rm.slots ≤ R.slots) {a : Addr} (E : Exa Z h a C) (argsL rest : List Value) (has : (.ref a :: argsL).toArray = as') {ps : List FieldType} {rr : Option FieldType} (hpd : parseMethodDescriptor y.desc = some ⟨ps, rr⟩) (hlen : argsL.length = ps.length) {pc : Nat} (pc' : Nat) {Ls : Array Slot} {stk : List Value} (hstk : stk = argsL.reverse ++ .ref a :: rest) (hsize : Ls.size = c.maxLocals) (hW : (rest.map fun v => v.category).sum = W) (hd : decode c.code pc = .ok (.invokevirtual index, 3)) (hp : pc + 3 = pc') (k : ∀ T' v L, Stand p l e R s m args below meth c T' (locs ++ L) (cells + rm.cells) (slots + rm.slots) → Q' v T'.heap L → own_GoE p e below EE (T'.setTop (mkF m pc' Ls (v.toList ++ rest)))) : own_GoE p e below EE (T.setTop (mkF m pc Ls stk)) := by
  subst hp hstk
  obtain ⟨cq, qa, qb⟩ := E.cell
  have hpr := Cond.privateMethod_at (mvP hZ w4 (args := args))
  obtain ⟨v', _, ⟨T', L', k', n'⟩, -, X', ⟨Lc', hQ', l', y', z'⟩, st'⟩ := X.privateBack hx (y := y) hown (mvT hZ w1) (mvT hZ w2) (own_selfsel (mvT hZ w3) hK hpr (mvT hZ w2) hy) hpr (mvT hZ wc) hy (backOf (W := W) hM hZ wc wz hf hl) (g := mkF m pc Ls (argsL.reverse ++ .ref a :: rest)) rfl hsize (Steps.refl _) (a := a) (by rw [eT]; exact qa) qb (argsL := argsL) (rest := rest) (lenOf hpd hlen) rfl (by show 2 * 0 + _ ≤ _; omega) hd (fun _ _ => ⟨has, eT, hc, hs⟩)
  dsimp only [Pt.U, Pt.locs, Pt.cells, Pt.slots] at X' l' y' z' st' hQ'
  subst l' y' z'
  exact own_step (fun t kk => st'.trans kk) (k T' v' _ X' hQ')
theorem own_cpA (X : Stand p l e R s m args below meth c T locs cells slots) (hx : p.tables.exec = Jvm.exec) {Z : State} {a0 : Array Value} {h : Heap} (hZ : Z.Warmed39 s.vm) {own : String} (hown : s.vm.findClass own = some m.cls) {index : Nat} (w1 : (Jvm.Cond.methodLink own index Jvm.Stand.acN).before a0 Z = true) (w2 : (Jvm.Cond.native Jvm.Stand.acN).before a0 Z = true) (w3 : (Jvm.Cond.static Jvm.Stand.acN).before a0 Z = true) (w4 : (Jvm.Cond.initialized "java/lang/System").before a0 Z = true) (eT : T.heap = h)
    {a b : Addr} {k k' : ClassId} {ty ty' : FieldType} {z z' sp dp nn : Int32} {vs vd : List Value} {dv dd : Value} (us : List Value) (A : Arv Z h a k ty z vs dv) (B : Arv Z h b k' ty' z' vd dd) (hty : (ty = ty' ∧ refKind ty = false) ∨ (refKind ty = true ∧ refKind ty' = true ∧ StoL Z h b us))
    (h1 : ¬ sp < 0) (h2 : ¬ dp < 0) (h3 : ¬ nn < 0) (h4 : sp.toNatClampNeg + nn.toNatClampNeg ≤ z.toNatClampNeg) (h5 : dp.toNatClampNeg + nn.toNatClampNeg ≤ z'.toNatClampNeg) (hus : us = (List.range nn.toNatClampNeg).map fun i => vs.getD (sp.toNatClampNeg + i) dv) (hl : dp.toNatClampNeg + nn.toNatClampNeg ≤ vd.length) {n0 : Nat} (Nf : Fr n0 locs) (ge : n0 ≤ b)
    {pc : Nat} (pc' : Nat) {Ls : Array Slot} {rest : List Value} (hsize : Ls.size = c.maxLocals) (hd : decode c.code pc = .ok (.invokestatic index, 3)) (hp : pc + 3 = pc') (hf : 1 ≤ R.frames) (W : Nat) (hW : (rest.map fun v => v.category).sum = W) (hlo : W + (nativeFrameWords "java/lang/System" "arraycopy" 5 + 11) ≤ R.locals)
    (kk : ∀ T' h' L, Stand p l e R s m args below meth c T' L cells slots → T'.heap = h' → Fr n0 L → Keep h h' [b] → Arv Z h' b k' ty' z' (vd.take dp.toNatClampNeg ++ us ++ vd.drop (dp.toNatClampNeg + nn.toNatClampNeg)) dd → own_GoE p e below EE (T'.setTop (mkF m pc' Ls rest))) : own_GoE p e below EE (T.setTop (mkF m pc Ls (.int nn :: .int dp :: .ref b :: .int sp :: .ref a :: rest))) := by
  subst hp
  obtain ⟨T', h', L', X', e', N', K', B', st⟩ := cpA X hx hZ hown w1 w2 w3 w4 eT A B hty h1 h2 h3 h4 h5 hus hl Nf ge (g := mkF m pc Ls (.int nn :: .int dp :: .ref b :: .int sp :: .ref a :: rest)) rfl hsize rfl hd hf (W := W) (by show 2 * 0 + _ ≤ _; omega) hlo
  exact own_step st (kk T' h' L' X' e' N' K' B')
theorem own_plainE {Z : State} {h : Heap} {a : Addr} {C : String} (E : Exa Z h a C) : ∀ cell : Cell, h[a]? = some cell → cell.vm.isStatics = false := fun cell hc => by
  obtain ⟨c', k', h1, -, -, h2, -⟩ := E
  cases h1.symm.trans hc; exact h2
theorem own_plainA {Z : State} {h : Heap} {a : Addr} {k : ClassId} {ty : FieldType} {z : Int32} {vs : List Value} {dv : Value} (V : Arv Z h a k ty z vs dv) : ∀ cell : Cell, h[a]? = some cell → cell.vm.isStatics = false := fun cell hc => by
  obtain ⟨c', A, -⟩ := V
  cases A.1.symm.trans hc; exact A.plain
theorem own_castY (X : Stand p l e R s m args below meth c T locs cells slots) (hx : p.tables.exec = Jvm.exec) {Z : State} {a0 : Array Value} {h : Heap} (hZ : Z.Warmed39 s.vm) {own : String} (hown : s.vm.findClass own = some m.cls) {K' : String} {index : Nat} (w : (Jvm.Cond.classLink own index K').before a0 Z = true) (eT : T.heap = h) {a : Addr} (F : Ins Z h a K' true) {pc : Nat} (pc' : Nat) {Ls : Array Slot} {rest : List Value} (hd : decode c.code pc = .ok (.checkcast index, 3)) (hp : pc + 3 = pc') (k : ∀ T', Stand p l e R s m args below meth c T' locs cells slots → T'.heap = h → own_GoE p e below EE (T'.setTop (mkF m pc' Ls (.ref a :: rest)))) : own_GoE p e below EE (T.setTop (mkF m pc Ls (.ref a :: rest))) := by
  subst hp
  obtain ⟨T', X', e', st⟩ := castY X hx hZ hown w eT F (g := mkF m pc Ls (.ref a :: rest)) rfl rfl hd
  exact own_step st (k T' X' e')
theorem own_instY (X : Stand p l e R s m args below meth c T locs cells slots) (hx : p.tables.exec = Jvm.exec) {Z : State} {a0 : Array Value} {h : Heap} (hZ : Z.Warmed39 s.vm) {own : String} (hown : s.vm.findClass own = some m.cls) {K' : String} {index : Nat} (w : (Jvm.Cond.classLink own index K').before a0 Z = true) (eT : T.heap = h) {a : Addr} (F : Ins Z h a K' true) {pc : Nat} (pc' : Nat) {Ls : Array Slot} {rest : List Value} (hd : decode c.code pc = .ok (.instanceof index, 3)) (hp : pc + 3 = pc') (k : ∀ T', Stand p l e R s m args below meth c T' locs cells slots → T'.heap = h → own_GoE p e below EE (T'.setTop (mkF m pc' Ls (.int 1 :: rest)))) : own_GoE p e below EE (T.setTop (mkF m pc Ls (.ref a :: rest))) := by
  subst hp
  obtain ⟨T', X', e', st⟩ := instY X hx hZ hown w eT F (g := mkF m pc Ls (.ref a :: rest)) rfl rfl hd
  exact own_step st (k T' X' e')
theorem own_instNo (X : Stand p l e R s m args below meth c T locs cells slots) (hx : p.tables.exec = Jvm.exec) {Z : State} {a0 : Array Value} {h : Heap} (hZ : Z.Warmed39 s.vm) {own : String} (hown : s.vm.findClass own = some m.cls) {K' : String} {index : Nat} (w : (Jvm.Cond.classLink own index K').before a0 Z = true) (eT : T.heap = h) {a : Addr} {C : String} (E : Exa Z h a C) (F : ∃ c t, Z.vm.findClass C = some c ∧ Z.vm.findClass K' = some t ∧ Z.vm.assignable c t = false) {pc : Nat} (pc' : Nat) {Ls : Array Slot} {rest : List Value} (hd : decode c.code pc = .ok (.instanceof index, 3)) (hp : pc + 3 = pc') (k : ∀ T', Stand p l e R s m args below meth c T' locs cells slots → T'.heap = h → own_GoE p e below EE (T'.setTop (mkF m pc' Ls (.int 0 :: rest)))) : own_GoE p e below EE (T.setTop (mkF m pc Ls (.ref a :: rest))) := by
  subst hp
  obtain ⟨T', X', e', st⟩ := instNo X hx hZ hown w eT E F (g := mkF m pc Ls (.ref a :: rest)) rfl rfl hd
  exact own_step st (k T' X' e')
theorem own_instNull (X : Stand p l e R s m args below meth c T locs cells slots) (hx : p.tables.exec = Jvm.exec) {index : Nat} {pc : Nat} (pc' : Nat) {Ls : Array Slot} {rest : List Value} (hd : decode c.code pc = .ok (.instanceof index, 3)) (hp : pc + 3 = pc') (G : own_GoE p e below EE (T.setTop (mkF m pc' Ls (.int 0 :: rest)))) : own_GoE p e below EE (T.setTop (mkF m pc Ls (.null :: rest))) := by
  subst hp
  exact own_step (X.instanceofNull hx (g := mkF m pc Ls (.null :: rest)) rfl rfl hd) G
theorem own_irr (x : Int32) : ¬ x < x := by rw [Int32.lt_iff_toInt_lt]; omega
theorem own_fldV {Z : State} {h : Heap} {a : Addr} {C n d : String} {v w : Value} (F : Fld Z h a C n d v) (q : v = w) : Fld Z h a C n d w := q ▸ F
theorem own_arvL {Z : State} {h : Heap} {a : Addr} {k : ClassId} {ty : FieldType} {z : Int32} {vs ws : List Value} {dv : Value} (F : Arv Z h a k ty z vs dv) (q : ws = vs) : Arv Z h a k ty z ws dv := q ▸ F
/-- the literal "" of String, entry 7: not loaded since the start, or loaded and known -/
def own_LD (Z : State) (vm : Vm) (h : Heap) : Prop := IB Z vm [] ∨ ∃ a b : Addr, Lit (Z.setVm vm) "java/lang/String" 7 a ∧ Exa Z h a "java/lang/String" ∧ Fld Z h a "java/lang/String" "coder" "B" (.int 0) ∧ Fld Z h a "java/lang/String" "value" "[B" (.ref b)
theorem own_LD.keep {Z : State} {vm : Vm} {h h' : Heap} (D : own_LD Z vm h) (Kp : Keep h h' []) : own_LD Z vm h' := by
  rcases D with I | ⟨a, b, L, E, F, G⟩
  · exact Or.inl I
  · exact Or.inr ⟨a, b, L, E.keep Kp, F.keep Kp nin0, G.keep Kp nin0⟩
theorem own_LD.warm {Z s : State} {vm vm1 : Vm} {h : Heap} (D : own_LD Z vm h) (hW : (s.setVm vm).WarmedH vm1) : own_LD Z vm1 h := by
  rcases D with I | ⟨a, b, L, r⟩
  · refine Or.inl ?_
    have q : vm1.interned = vm.interned := hW.interned_eq
    unfold IB at I ⊢
    rw [q]
    exact I
  · have L1 : Lit (s.setVm vm) "java/lang/String" 7 a := L
    have L2 : Lit (s.setVm vm1) "java/lang/String" 7 a := Lit.stays L1 hW.wide
    exact Or.inr ⟨a, b, L2, r⟩
theorem own_backS {y : MethodName} {bytes : ByteArray} {maxL : Nat} {ret : Option FieldType} {rm : Room} {len W : Nat} {as' : Array Value} {Q' : Option Value → Heap → List Loc → Prop} {Z : State} {a0 : Array Value} {h : Heap} {vm0 : Vm}
    (hM : MetFree l y (head1 [Jvm.Cond.code y bytes maxL ret] rm) (fun a U => a = as' ∧ Z.Warmed39 U.vm ∧ U.heap = h ∧ own_LD Z U.vm h) (fun _ _ _ _ _ => True) (fun _ U o U' => ∃ v L, o = .returned v ∧ (Q' v U'.heap L ∧ own_LD Z U'.vm U'.heap) ∧ ReturnedEndW U o U' L rm.cells rm.slots))
    (hZ : Z.Warmed39 (s.setVm vm0).vm) (wc : (Jvm.Cond.code y bytes maxL ret).before a0 Z = true) (wz : (Jvm.Cond.initialized y.cls).before a0 Z = true) (D : own_LD Z vm0 h) (hf : rm.frames + 1 ≤ R.frames) (hl : W + (maxL + 11) + rm.locals ≤ R.locals) :
    BackS l R p e below (s.setVm vm0) args y len W (fun A a => a = as' ∧ A.U.heap = h ∧ A.cells + rm.cells ≤ R.cells ∧ A.slots + rm.slots ≤ R.slots)
      (fun A _ v B => ∃ L, (Q' v B.U.heap L ∧ own_LD Z B.U.vm B.U.heap) ∧ B.locs = A.locs ++ L ∧ B.cells = A.cells + rm.cells ∧ B.slots = A.slots + rm.slots) :=
  BackS.of_freeW (bytes := bytes) (maxL := maxL) (ret := ret) (E := fun _ _ o t L k n => k = rm.cells ∧ n = rm.slots ∧ ∃ v, o = .returned v ∧ Q' v t.heap L ∧ own_LD Z t.vm t.heap) hM hf hl
    (fun m meth c A a Y hp => have hU : Z.Warmed39 A.U.vm := wtrans hZ Y.warmed
      ⟨by show (Jvm.Cond.and _ .tt).before a A.U = true; rw [Cond.before_and, mv hU wc]; rfl, mv hU wc, mv hU wz, hp.2.2.1, hp.2.2.2⟩)
    (fun m meth c A a g mk Y hp => ⟨hp.1, wtrans hZ Y.warmed, hp.2.1, D.warm Y.warmed⟩) (fun _ _ _ _ _ _ _ _ _ => trivial)
    (fun _ _ _ _ ⟨v, L, h1, h2, h3⟩ => ⟨L, _, _, h3, rfl, rfl, v, h1, h2⟩)
    (fun m meth c A a g mk v t L k n Y hp _ _ ⟨e1, e2, v', e3, e4⟩ => by cases e3; subst e1 e2; exact ⟨L, e4, rfl, rfl, rfl⟩)
theorem own_callSW {vm0 : Vm} (X : Stand p l e R (s.setVm vm0) m args below meth c T locs cells slots) (hx : p.tables.exec = Jvm.exec) {Z : State} {a0 : Array Value} {h : Heap} (hZ : Z.Warmed39 (s.setVm vm0).vm) {own : String} (hown : (s.setVm vm0).vm.findClass own = some m.cls) {index : Nat} {y : MethodName} {bytes : ByteArray} {maxL : Nat} {ret : Option FieldType} {rm : Room} {as' : Array Value} {Q' : Option Value → Heap → List Loc → Prop} (w1 : (Jvm.Cond.methodLink own index y).before a0 Z = true) (w2 : (Jvm.Cond.static y).before a0 Z = true) (hy : y.cls ≠ "java/lang/invoke/MethodHandle" ∧ y.cls ≠ "java/lang/invoke/VarHandle") (hM : MetFree l y (head1 [Jvm.Cond.code y bytes maxL ret] rm) (fun a U => a = as' ∧ Z.Warmed39 U.vm ∧ U.heap = h ∧ own_LD Z U.vm h) (fun _ _ _ _ _ => True) (fun _ U o U' => ∃ v L, o = .returned v ∧ (Q' v U'.heap L ∧ own_LD Z U'.vm U'.heap) ∧ ReturnedEndW U o U' L rm.cells rm.slots)) (wc : (Jvm.Cond.code y bytes maxL ret).before a0 Z = true) (wz : (Jvm.Cond.initialized y.cls).before a0 Z = true) (eT : T.heap = h) (D : own_LD Z vm0 h) {k0 : Nat} (hS : s.Since vm0 k0) (hSk : k0 ≤ h.size) (W : Nat) (hf : rm.frames + 1 ≤ R.frames) (hl : W + (maxL + 11) + rm.locals ≤ R.locals) (hc : cells + rm.cells ≤ R.cells) (hs : slots + rm.slots ≤ R.slots) (argsL rest : List Value) (has : argsL.toArray = as') {ps : List FieldType} {rr : Option FieldType} (hpd : parseMethodDescriptor y.desc = some ⟨ps, rr⟩) (hlen : argsL.length = ps.length) {pc : Nat} (pc' : Nat) {Ls : Array Slot} {stk : List Value} (hstk : stk = argsL.reverse ++ rest) (hsize : Ls.size = c.maxLocals) (hW : (rest.map fun v => v.category).sum = W) (hd : decode c.code pc = .ok (.invokestatic index, 3)) (hp : pc + 3 = pc') (k : ∀ T' v L, Stand p l e R (s.setVm T'.vm) m args below meth c T' (locs ++ L) (cells + rm.cells) (slots + rm.slots) → s.Since T'.vm T'.heap.size → Z.Warmed39 (s.setVm T'.vm).vm → (s.setVm T'.vm).vm.findClass own = some m.cls → Q' v T'.heap L → own_LD Z T'.vm T'.heap → own_GoE p e below EE (T'.setTop (mkF m pc' Ls (v.toList ++ rest)))) : own_GoE p e below EE (T.setTop (mkF m pc Ls stk)) := by
  subst hp hstk
  obtain ⟨v', _, ⟨T', L', k', n'⟩, -, X', h2', hg', ⟨Lc', ⟨hQ', hD'⟩, l', y', z'⟩, st'⟩ := callSS X hx (y := y) hown (mvT hZ w1) (mvT hZ w2) (mvT hZ wz) (mvT hZ wc) hy (own_backS (W := W) hM hZ wc wz D hf hl) (g := mkF m pc Ls (argsL.reverse ++ rest)) rfl hsize (argsL := argsL) (rest := rest) (lenOf hpd hlen) rfl (by show 2 * 0 + _ ≤ _; omega) hd (fun _ _ => ⟨has, eT, hc, hs⟩)
  dsimp only [Pt.U, Pt.locs, Pt.cells, Pt.slots] at X' l' y' z' st' hQ' hD' h2' hg'
  subst l' y' z'
  obtain ⟨X2, hS2, hZ2, hown2⟩ := rebS hS (show k0 ≤ T.heap.size by rw [eT]; exact hSk) X' h2' hg' hZ hown
  exact own_step (fun t kk => st'.trans kk) (k T' v' _ X2 hS2 hZ2 hown2 hQ' hD')
theorem own_callIW {vm0 : Vm} (X : Stand p l e R (s.setVm vm0) m args below meth c T locs cells slots) (hx : p.tables.exec = Jvm.exec) {Z : State} {a0 : Array Value} {h : Heap} (hZ : Z.Warmed39 (s.setVm vm0).vm) {own : String} (hown : (s.setVm vm0).vm.findClass own = some m.cls) {index : Nat} {y : MethodName} {bytes : ByteArray} {maxL : Nat} {rm : Room} {as' : Array Value} {Q' : Option Value → Heap → List Loc → Prop} (hy1 : y.name = "<init>") (w1 : (Jvm.Cond.methodLink own index y).before a0 Z = true) (w2 : (Jvm.Cond.instanceMethod y).before a0 Z = true) (hy : y.cls ≠ "java/lang/invoke/MethodHandle" ∧ y.cls ≠ "java/lang/invoke/VarHandle") (hM : MetFree l y (head1 [Jvm.Cond.code y bytes maxL none] rm) (fun a U => a = as' ∧ Z.Warmed39 U.vm ∧ U.heap = h ∧ own_LD Z U.vm h) (fun _ _ _ _ _ => True) (fun _ U o U' => ∃ v L, o = .returned v ∧ (Q' v U'.heap L ∧ own_LD Z U'.vm U'.heap) ∧ ReturnedEndW U o U' L rm.cells rm.slots)) (wc : (Jvm.Cond.code y bytes maxL none).before a0 Z = true) (wz : (Jvm.Cond.initialized y.cls).before a0 Z = true) (eT : T.heap = h) (D : own_LD Z vm0 h) {k0 : Nat} (hS : s.Since vm0 k0) (hSk : k0 ≤ h.size) (W : Nat) (hf : rm.frames + 1 ≤ R.frames) (hl : W + (maxL + 11) + rm.locals ≤ R.locals) (hc : cells + rm.cells ≤ R.cells) (hs : slots + rm.slots ≤ R.slots) (a : Addr) (argsL rest : List Value) (has : (.ref a :: argsL).toArray = as') {ps : List FieldType} {rr : Option FieldType} (hpd : parseMethodDescriptor y.desc = some ⟨ps, rr⟩) (hlen : argsL.length = ps.length) {pc : Nat} (pc' : Nat) {Ls : Array Slot} {stk : List Value} (hstk : stk = argsL.reverse ++ .ref a :: rest) (hsize : Ls.size = c.maxLocals) (hW : (rest.map fun v => v.category).sum = W) (hd : decode c.code pc = .ok (.invokespecial index, 3)) (hp : pc + 3 = pc') (k : ∀ T' v L, Stand p l e R (s.setVm T'.vm) m args below meth c T' (locs ++ L) (cells + rm.cells) (slots + rm.slots) → s.Since T'.vm T'.heap.size → Z.Warmed39 (s.setVm T'.vm).vm → (s.setVm T'.vm).vm.findClass own = some m.cls → Q' v T'.heap L → own_LD Z T'.vm T'.heap → own_GoE p e below EE (T'.setTop (mkF m pc' Ls (v.toList ++ rest)))) : own_GoE p e below EE (T.setTop (mkF m pc Ls stk)) := by
  subst hp hstk
  obtain ⟨v', _, ⟨T', L', k', n'⟩, -, X', h2', hg', ⟨Lc', ⟨hQ', hD'⟩, l', y', z'⟩, st'⟩ := X.specialBackS hx (y := y) hy1 hown (mvT hZ w1) (mvT hZ w2) (mvT hZ wc) hy (own_backS (W := W) hM hZ wc wz D hf hl) (g := mkF m pc Ls (argsL.reverse ++ .ref a :: rest)) rfl hsize (Steps.refl _) (a := a) (argsL := argsL) (rest := rest) (lenOf hpd hlen) rfl (by show 2 * 0 + _ ≤ _; omega) hd (fun _ _ => ⟨has, eT, hc, hs⟩)
  dsimp only [Pt.U, Pt.locs, Pt.cells, Pt.slots] at X' l' y' z' st' hQ' hD' h2' hg'
  subst l' y' z'
  obtain ⟨X2, hS2, hZ2, hown2⟩ := rebS hS (show k0 ≤ T.heap.size by rw [eT]; exact hSk) X' h2' hg' hZ hown
  exact own_step (fun t kk => st'.trans kk) (k T' v' _ X2 hS2 hZ2 hown2 hQ' hD')
theorem own_ldcE {vm0 : Vm} (X : Stand p l e R (s.setVm vm0) m args below meth c T locs cells slots) (hx : p.tables.exec = Jvm.exec) {Z : State} {a0 : Array Value} {h : Heap} (hZ : Z.Warmed39 (s.setVm vm0).vm) (hown : (s.setVm vm0).vm.findClass "java/lang/String" = some m.cls) (w : (Jvm.Cond.stringLink "java/lang/String" 7 "").before a0 Z = true) (wS : ∀ a ∈ Bundle.stringAtoms, a.before a0 Z = true) (eT : T.heap = h) {k0 : Nat} (hS : s.Since vm0 k0) (hSk : k0 ≤ h.size) (N0 : Fr s.heap.size locs) (hkeep : ∀ (b : Addr) (cl : Cell), Z.heap[b]? = some cl → s.heap[b]? = some cl)
    (D : own_LD Z vm0 h) (hh : Jvm.Lit.constHeld Z "java/lang/String" 7) (hcw : Jvm.Lit.compactW.before a0 Z = true) {pc : Nat} (pc' : Nat) {Ls : Array Slot} {rest : List Value} (hd : decode c.code pc = .ok (.ldc 7, 2)) (hp : pc + 2 = pc') (hc : cells + 2 ≤ R.cells) (hl : slots + 4 ≤ R.slots)
    (k : ∀ T' h' vm1 k1 a b, Stand p l e R (s.setVm vm1) m args below meth c T' locs (cells + 2) (slots + 4) → T'.heap = h' → Ext h h' → s.Since vm1 k1 → k1 ≤ h'.size → Z.Warmed39 (s.setVm vm1).vm → (s.setVm vm1).vm.findClass "java/lang/String" = some m.cls → Exa Z h' a "java/lang/String" → Fld Z h' a "java/lang/String" "coder" "B" (.int 0) → Fld Z h' a "java/lang/String" "value" "[B" (.ref b) → Lit (s.setVm vm1) "java/lang/String" 7 a → own_GoE p e below EE (T'.setTop (mkF m pc' Ls (.ref a :: rest)))) : own_GoE p e below EE (T.setTop (mkF m pc Ls rest)) := by
  subst hp
  rcases D with I | ⟨a, b, L, E, F, G⟩
  · obtain ⟨a, T', h', k1, b, kc, r1, r2, r3, r4, r5, r6, r7, r8, r9, r10, r11, r12, r13, r14, r15, r16⟩ := ldcSVL (Ts := []) (vs := []) (z := 0) (n := 0) X hx hZ hown w wS eT hS hSk N0 hkeep I (by simp) hh hcw ⟨fun _ q => by simp at q, rfl⟩ (by decide) rfl (g := mkF m pc Ls rest) rfl hd (by simp) (by decide) hc hl
    exact own_step r16 (k T' h' T'.vm k1 a b r1 r2 r3 r4 r5 r6 r7 r8 r9 r10 r15)
  · have L1 : Lit (s.setVm vm0) "java/lang/String" 7 a := L
    exact own_step (ldcAgain X hx hZ hown w L1 (g := mkF m pc Ls rest) rfl hd) (k T h vm0 k0 a b (X.mono (Nat.le_add_right _ _) (Nat.le_add_right _ _)) eT ⟨Nat.le_refl _, fun _ _ q => q⟩ hS hSk hZ hown E F G L1)
theorem own_ldcA {vm0 : Vm} (X : Stand p l e R (s.setVm vm0) m args below meth c T locs cells slots) (hx : p.tables.exec = Jvm.exec) {Z : State} {a0 : Array Value} (hZ : Z.Warmed39 (s.setVm vm0).vm) (hown : (s.setVm vm0).vm.findClass "java/lang/String" = some m.cls) (w : (Jvm.Cond.stringLink "java/lang/String" 7 "").before a0 Z = true) {a : Addr} (L : Lit (s.setVm vm0) "java/lang/String" 7 a) {pc : Nat} (pc' : Nat) {Ls : Array Slot} {rest : List Value} (hd : decode c.code pc = .ok (.ldc 7, 2)) (hp : pc + 2 = pc')
    (G : own_GoE p e below EE (T.setTop (mkF m pc' Ls (.ref a :: rest)))) : own_GoE p e below EE (T.setTop (mkF m pc Ls rest)) := by
  subst hp
  exact own_step (ldcAgain X hx hZ hown w L (g := mkF m pc Ls rest) rfl hd) G
variable {QW : Option Value → Vm → Heap → List Loc → Prop}
theorem own_endW {vm1 : Vm} (X : Stand p l e R (s.setVm vm1) m args below meth c T locs cells slots) {n0 : Nat} (hS : s.Since vm1 n0) (hSk : n0 ≤ T.heap.size) {v : Option Value} (hv : meth.sig.returnType = none → v = none) (hlk : meth.locks = false) (hq : QW v T.vm T.heap locs) (hk : cells ≤ K) (hn : slots ≤ N)
    (go : ∀ fs, (∀ (f : JFrame) (acts : List Action), f.method = m → f.locked = none → f.entered = [] → (doReturn e (T.setTop f) acts v).1 = T.setFrames fs) → Steps p.tables e below S0 (T.setFrames fs)) : own_GoE p e below (fun o v U L => QW v U.vm U.heap L ∧ ReturnedEndW s o U L K N) S0 := by
  obtain ⟨fs, hr, hrun, hended, h1, h2, h3, h4⟩ := X.leaveW hS hSk (v := v) hv hlk
  exact ⟨_, _, go fs hr, hrun, hended, _, _, rfl, hq, h1, h2, h3, h4.mono hk hn⟩
theorem own_retNW {vm1 : Vm} (X : Stand p l e R (s.setVm vm1) m args below meth c T locs cells slots) {n0 : Nat} (hS : s.Since vm1 n0) (hSk : n0 ≤ T.heap.size) (hx : p.tables.exec = Jvm.exec) (hlk : meth.locks = false) {pc : Nat} {Ls : Array Slot} {z : Int32} {t : FieldType} {rest : List Value} (hret : meth.sig.returnType = some t) (ht : t = .boolean ∨ t = .byte ∨ t = .char ∨ t = .short)
    (hd : decode c.code pc = .ok (.ireturn, 1)) (hq : QW (some (.int (nar t z))) T.vm T.heap locs) (hk : cells ≤ K) (hn : slots ≤ N) : own_GoE p e below (fun o v U L => QW v U.vm U.heap L ∧ ReturnedEndW s o U L K N) (T.setTop (mkF m pc Ls (.int z :: rest))) :=
  own_endW X hS hSk (fun h => by rw [hret] at h; cases h) hlk hq hk hn fun fs hr => retN X hx hret ht hd hr
theorem own_retAW {vm1 : Vm} (X : Stand p l e R (s.setVm vm1) m args below meth c T locs cells slots) {n0 : Nat} (hS : s.Since vm1 n0) (hSk : n0 ≤ T.heap.size) (hx : p.tables.exec = Jvm.exec) (hlk : meth.locks = false) {pc : Nat} {Ls : Array Slot} {w : Value} {t : FieldType} {rest : List Value} (hret : meth.sig.returnType = some t) (ht : t.isReference = true) (hw : w.isRef = true)
    (hd : decode c.code pc = .ok (.areturn, 1)) (hq : QW (some w) T.vm T.heap locs) (hk : cells ≤ K) (hn : slots ≤ N) : own_GoE p e below (fun o v U L => QW v U.vm U.heap L ∧ ReturnedEndW s o U L K N) (T.setTop (mkF m pc Ls (w :: rest))) :=
  own_endW X hS hSk (fun h => by rw [hret] at h; cases h) hlk hq hk hn fun fs hr => retOut X hx hret (by cases t <;> first | (cases ht; done) | (cases w <;> rfl)) (Or.inr (Or.inr (Or.inr (Or.inr ⟨rfl, ht, hw⟩)))) hd hr
theorem own_retVW {vm1 : Vm} (X : Stand p l e R (s.setVm vm1) m args below meth c T locs cells slots) {n0 : Nat} (hS : s.Since vm1 n0) (hSk : n0 ≤ T.heap.size) (hx : p.tables.exec = Jvm.exec) (hlk : meth.locks = false) {pc : Nat} {Ls : Array Slot}  (hret : meth.sig.returnType = none)
    (hd : decode c.code pc = .ok (.return_, 1)) (hq : QW (none) T.vm T.heap locs) (hk : cells ≤ K) (hn : slots ≤ N) : own_GoE p e below (fun o v U L => QW v U.vm U.heap L ∧ ReturnedEndW s o U L K N) (T.setTop (mkF m pc Ls ([]))) :=
  own_endW X hS hSk (fun _ => rfl) hlk hq hk hn fun fs hr => X.returnOut hx hret hd hr
end Own
theorem own_rb {z w : Int32} (h : z = w) (hz : nar .boolean z = z := by decide) : (some (Value.int (nar .boolean z)) : Option Value) = some (.int w) := by rw [hz, h]
theorem own_wS {a0 : Array Value} {Z : State} (hw : ∀ d ∈ tables_1, d.before a0 Z = true) : ∀ a ∈ Bundle.stringAtoms, a.before a0 Z = true := by
  intro d hd
  simp only [Bundle.stringAtoms, List.mem_cons, List.not_mem_nil, or_false] at hd
  rcases hd with rfl | rfl | rfl | rfl | rfl | rfl | rfl
  · exact (hw _ (List.mem_of_getElem? (i := 6) rfl))
  · exact (hw _ (List.mem_of_getElem? (i := 5) rfl))
  · exact (hw _ (List.mem_of_getElem? (i := 19) rfl))
  · exact (hw _ (List.mem_of_getElem? (i := 20) rfl))
  · exact (hw _ (List.mem_of_getElem? (i := 21) rfl))
  · exact (hw _ (List.mem_of_getElem? (i := 22) rfl))
  · exact (hw _ (List.mem_of_getElem? (i := 23) rfl))
theorem own_kz {Z : State} {h h' : Heap} (KZ : ∀ (b : Addr) (cl : Cell), Z.heap[b]? = some cl → h[b]? = some cl) (Kp : Keep h h' []) : ∀ (b : Addr) (cl : Cell), Z.heap[b]? = some cl → h'[b]? = some cl :=
  fun b cl q => Kp.2.1 b cl (KZ b cl q) nin0
theorem own_c8 (p : Int32) {i : Int32} (q : i = ((p &&& (255 : Int32)).toUInt32.toUInt16.toUInt32.toInt32)) : ¬ ((255 : Int32) < i) ∧ nar .char i = i := by
  have a := c_mask p 255 8 (by decide) (by decide)
  have b := c_i2c (p &&& (255 : Int32))
  rw [← q] at b
  refine ⟨by rw [Int32.lt_iff_toInt_lt]; have : (255 : Int32).toInt = 255 := rfl; omega, ?_⟩
  apply Int32.toInt_inj.mp
  have c := c_i2c i
  show i.toUInt32.toUInt16.toUInt32.toInt32.toInt = i.toInt
  omega
theorem d_jdk_30_method_1_0 : decode jdk_30_method_1_code 0 = .ok (.aload_n 0, 1) := by decide +kernel
theorem d_jdk_30_method_1_1 : decode jdk_30_method_1_code 1 = .ok (.invokespecial 1, 3) := by decide +kernel
theorem d_jdk_30_method_1_4 : decode jdk_30_method_1_code 4 = .ok (.return_, 1) := by decide +kernel
theorem ef_0 (m : MethodId) (x0 : Addr) : entryFrame m #[(.ref x0)] 1 = mkF m 0 #[.val (.ref x0)] [] := by first | (simp [entryFrame, mkF, argsToLocals, Value.category]; done) | rfl
theorem pn_0 : plainName "java/lang/Record" = true := by first | (simp [plainName, overriddenIn]; done) | decide +kernel
def Q_rec (Z : State) (o : Addr) (h0 : Heap) (n0 : Nat) (v : Option Value) (h : Heap) (L : List Loc) : Prop := v = none ∧ Fr n0 L ∧ h = h0
set_option maxRecDepth 65536 in
set_option maxHeartbeats 40000000 in
theorem rm_rec (l : Launch) (Z : State) (a0 : Array Value) (hw : ∀ d ∈ tables_1, d.before a0 Z = true) (ws : List Jvm.Cond) (o : Addr) (h0 : Heap) (n0 : Nat) (Z0 : n0 ≤ h0.size) :
    MetFree l (⟨"java/lang/Record", "<init>", "()V"⟩ : MethodName) (head1 (Jvm.Cond.code (⟨"java/lang/Record", "<init>", "()V"⟩ : MethodName) jdk_30_method_1_code 1 none :: ws) ({ frames := 1, cells := 0, slots := 0, locals := 12 } : Room)) (fun aA U => aA = #[(.ref o)] ∧ Z.Warmed39 U.vm ∧ U.heap = h0) (fun _ _ _ _ _ => True) (fun _ U oO U' => ∃ vV LL, oO = .returned vV ∧ Q_rec Z o h0 n0 vV U'.heap LL ∧ FrameEnd U oO U' LL ({ frames := 1, cells := 0, slots := 0, locals := 12 } : Room).cells ({ frames := 1, cells := 0, slots := 0, locals := 12 } : Room).slots) := by
  refine MetFree.of_bodySF (plainFor_of_name pn_0) hisR ?_
  intro p e s m args below meth c s₁ Bd hml0 hP hK
  obtain ⟨rfl, hZ, hh⟩ := hP
  have hx := Bd.exec
  have hby := Bd.bytes
  have hml : c.maxLocals = 1 := hml0
  have hown : s.vm.findClass "java/lang/Record" = some m.cls := findClass_of_methodNamed Bd.named
  have hnm := (name_of_methodNamed Bd.named Bd.method).1
  have X0 : Stand p l e ({ frames := 1, cells := 0, slots := 0, locals := 12 } : Room) s m #[(.ref o)] below meth c s₁ [] 0 0 := Stand.of_body Bd
  have e0 : s₁.heap = h0 := by rw [← hh, Bd.state]; rfl
  have N0 := Fr.nil n0
  have hret := Bd.returns
  have hlk : meth.locks = false := Bd.notSynchronized
  refine own_start (ef_0 m o) ?_
  show own_Go p e below s (Q_rec Z o h0 n0) ({ frames := 1, cells := 0, slots := 0, locals := 12 } : Room).cells ({ frames := 1, cells := 0, slots := 0, locals := 12 } : Room).slots (s₁.setTop (mkF m 0 #[.val (.ref o)] []))
  refine g_aload_n X0 hx 1 (hb hby d_jdk_30_method_1_0) rfl rfl rfl ?_
  refine own_initO X0 hx hZ hown (hw _ (List.mem_of_getElem? (i := 37) rfl)) (hw _ (List.mem_of_getElem? (i := 16) rfl)) (hw _ (List.mem_of_getElem? (i := 17) rfl)) e0 4 (by rw [hml]; rfl) (hb hby d_jdk_30_method_1_1) rfl (by decide) 0 rfl (by decide) fun T1 X1 e1 => ?_
  refine own_retV X1 hx hlk hret (hb hby d_jdk_30_method_1_4) ?_ (by decide) (by decide)
  rw [e1]
  exact ⟨rfl, N0, rfl⟩
theorem d_jdk_52_method_21_0 : decode jdk_52_method_21_code 0 = .ok (.iconst 0, 1) := by decide +kernel
theorem d_jdk_52_method_21_1 : decode jdk_52_method_21_code 1 = .ok (.istore 5, 2) := by decide +kernel
theorem d_jdk_52_method_21_3 : decode jdk_52_method_21_code 3 = .ok (.iload 5, 2) := by decide +kernel
theorem d_jdk_52_method_21_5 : decode jdk_52_method_21_code 5 = .ok (.iload 4, 2) := by decide +kernel
theorem d_jdk_52_method_21_7 : decode jdk_52_method_21_code 7 = .ok (.if_icmp .ge 37, 3) := by decide +kernel
theorem d_jdk_52_method_21_10 : decode jdk_52_method_21_code 10 = .ok (.aload_n 0, 1) := by decide +kernel
theorem d_jdk_52_method_21_11 : decode jdk_52_method_21_code 11 = .ok (.iload_n 1, 1) := by decide +kernel
theorem d_jdk_52_method_21_12 : decode jdk_52_method_21_code 12 = .ok (.caload, 1) := by decide +kernel
theorem d_jdk_52_method_21_13 : decode jdk_52_method_21_code 13 = .ok (.istore 6, 2) := by decide +kernel
theorem d_jdk_52_method_21_15 : decode jdk_52_method_21_code 15 = .ok (.iload 6, 2) := by decide +kernel
theorem d_jdk_52_method_21_17 : decode jdk_52_method_21_code 17 = .ok (.sipush 255, 3) := by decide +kernel
theorem d_jdk_52_method_21_20 : decode jdk_52_method_21_code 20 = .ok (.if_icmp .le 6, 3) := by decide +kernel
theorem d_jdk_52_method_21_26 : decode jdk_52_method_21_code 26 = .ok (.aload_n 2, 1) := by decide +kernel
theorem d_jdk_52_method_21_27 : decode jdk_52_method_21_code 27 = .ok (.iload_n 3, 1) := by decide +kernel
theorem d_jdk_52_method_21_28 : decode jdk_52_method_21_code 28 = .ok (.iload 6, 2) := by decide +kernel
theorem d_jdk_52_method_21_30 : decode jdk_52_method_21_code 30 = .ok (.i2b, 1) := by decide +kernel
theorem d_jdk_52_method_21_31 : decode jdk_52_method_21_code 31 = .ok (.bastore, 1) := by decide +kernel
theorem d_jdk_52_method_21_32 : decode jdk_52_method_21_code 32 = .ok (.iinc 1 1, 3) := by decide +kernel
theorem d_jdk_52_method_21_35 : decode jdk_52_method_21_code 35 = .ok (.iinc 3 1, 3) := by decide +kernel
theorem d_jdk_52_method_21_38 : decode jdk_52_method_21_code 38 = .ok (.iinc 5 1, 3) := by decide +kernel
theorem d_jdk_52_method_21_41 : decode jdk_52_method_21_code 41 = .ok (.goto (-38), 3) := by decide +kernel
theorem d_jdk_52_method_21_44 : decode jdk_52_method_21_code 44 = .ok (.iload 4, 2) := by decide +kernel
theorem d_jdk_52_method_21_46 : decode jdk_52_method_21_code 46 = .ok (.ireturn, 1) := by decide +kernel
theorem ef_1 (m : MethodId) (x0 : Addr) (x1 : Int32) (x2 : Addr) (x3 : Int32) (x4 : Int32) : entryFrame m #[(.ref x0), (.int x1), (.ref x2), (.int x3), (.int x4)] 7 = mkF m 0 #[.val (.ref x0), .val (.int x1), .val (.ref x2), .val (.int x3), .val (.int x4), .unset, .unset] [] := by first | (simp [entryFrame, mkF, argsToLocals, Value.category]; done) | rfl
theorem pn_1 : plainName "java/lang/StringUTF16" = true := by first | (simp [plainName, overriddenIn]; done) | decide +kernel
def Q_cp1 (Z : State) (ca : Addr) (bb : Addr) (kc : ClassId) (kb : ClassId) (xc : Int32) (h0 : Heap) (n0 : Nat) (v : Option Value) (h : Heap) (L : List Loc) : Prop := v = some (.int (1 : Int32)) ∧ Fr n0 L ∧ Keep h0 h [bb] ∧ Arv Z h bb kb .byte (1 : Int32) [(.int (nar .byte (xc.toInt8.toInt32)))] (.int (0 : Int32))
set_option maxRecDepth 65536 in
set_option maxHeartbeats 40000000 in
theorem rm_cp1 (l : Launch) (Z : State) (a0 : Array Value) (hw : ∀ d ∈ tables_1, d.before a0 Z = true) (ws : List Jvm.Cond) (ca : Addr) (bb : Addr) (kc : ClassId) (kb : ClassId) (xc : Int32) (h0 : Heap) (n0 : Nat) (Z0 : n0 ≤ h0.size) (V_ca : Arv Z h0 ca kc .char (1 : Int32) [(.int xc)] (.int (0 : Int32))) (V_bb : Arv Z h0 bb kb .byte (1 : Int32) [(.int (0 : Int32))] (.int (0 : Int32))) (ne_ca_bb : ca ≠ bb) (g_bb : n0 ≤ bb) (hx8 : ¬ ((255 : Int32) < xc)) :
    MetFree l (⟨"java/lang/StringUTF16", "compress", "([CI[BII)I"⟩ : MethodName) (head1 (Jvm.Cond.code (⟨"java/lang/StringUTF16", "compress", "([CI[BII)I"⟩ : MethodName) jdk_52_method_21_code 7 (some .int) :: ws) ({ frames := 0, cells := 0, slots := 0, locals := 0 } : Room)) (fun aA U => aA = #[(.ref ca), (.int (0 : Int32)), (.ref bb), (.int (0 : Int32)), (.int (1 : Int32))] ∧ Z.Warmed39 U.vm ∧ U.heap = h0) (fun _ _ _ _ _ => True) (fun _ U oO U' => ∃ vV LL, oO = .returned vV ∧ Q_cp1 Z ca bb kc kb xc h0 n0 vV U'.heap LL ∧ FrameEnd U oO U' LL ({ frames := 0, cells := 0, slots := 0, locals := 0 } : Room).cells ({ frames := 0, cells := 0, slots := 0, locals := 0 } : Room).slots) := by
  refine MetFree.of_bodySF (plainFor_of_name pn_1) hisR ?_
  intro p e s m args below meth c s₁ Bd hml0 hP hK
  obtain ⟨rfl, hZ, hh⟩ := hP
  have hx := Bd.exec
  have hby := Bd.bytes
  have hml : c.maxLocals = 7 := hml0
  have hown : s.vm.findClass "java/lang/StringUTF16" = some m.cls := findClass_of_methodNamed Bd.named
  have hnm := (name_of_methodNamed Bd.named Bd.method).1
  have X0 : Stand p l e ({ frames := 0, cells := 0, slots := 0, locals := 0 } : Room) s m #[(.ref ca), (.int (0 : Int32)), (.ref bb), (.int (0 : Int32)), (.int (1 : Int32))] below meth c s₁ [] 0 0 := Stand.of_body Bd
  have e0 : s₁.heap = h0 := by rw [← hh, Bd.state]; rfl
  have N0 := Fr.nil n0
  have hret := Bd.returns
  have hlk : meth.locks = false := Bd.notSynchronized
  refine own_start (ef_1 m ca (0 : Int32) bb (0 : Int32) (1 : Int32)) ?_
  show own_Go p e below s (Q_cp1 Z ca bb kc kb xc h0 n0) ({ frames := 0, cells := 0, slots := 0, locals := 0 } : Room).cells ({ frames := 0, cells := 0, slots := 0, locals := 0 } : Room).slots (s₁.setTop (mkF m 0 #[.val (.ref ca), .val (.int (0 : Int32)), .val (.ref bb), .val (.int (0 : Int32)), .val (.int (1 : Int32)), .unset, .unset] []))
  refine g_iconst X0 hx 1 (hb hby d_jdk_52_method_21_0) (0 : Int32) rfl rfl ?_
  refine g_istore X0 hx 3 (hb hby d_jdk_52_method_21_1) (l' := #[.val (.ref ca), .val (.int (0 : Int32)), .val (.ref bb), .val (.int (0 : Int32)), .val (.int (1 : Int32)), .val (.int (0 : Int32)), .unset]) rfl rfl ?_
  refine g_iload X0 hx 5 (hb hby d_jdk_52_method_21_3) rfl rfl ?_
  refine g_iload X0 hx 7 (hb hby d_jdk_52_method_21_5) rfl rfl ?_
  refine g_icmpNo X0 hx 10 (hb hby d_jdk_52_method_21_7) (own_ii_ge_f (by decide)) rfl ?_
  refine g_aload_n X0 hx 11 (hb hby d_jdk_52_method_21_10) rfl rfl rfl ?_
  refine g_iload_n X0 hx 12 (hb hby d_jdk_52_method_21_11) rfl rfl ?_
  obtain ⟨cl2, Ar2, q2, S2, P2, H2, G2⟩ := id V_ca
  have hin2 := inb_of (j := (0 : Int32)) S2 ⟨by decide, by decide⟩
  refine own_caload X0 hx hZ e0 Ar2 (v := (.int xc)) hin2 (Has.at H2 hin2 rfl) 13 (hb hby d_jdk_52_method_21_12) rfl ?_
  refine g_istore X0 hx 15 (hb hby d_jdk_52_method_21_13) (l' := #[.val (.ref ca), .val (.int (0 : Int32)), .val (.ref bb), .val (.int (0 : Int32)), .val (.int (1 : Int32)), .val (.int (0 : Int32)), .val (.int xc)]) rfl rfl ?_
  refine g_iload X0 hx 17 (hb hby d_jdk_52_method_21_15) rfl rfl ?_
  refine g_sipush X0 hx 20 (hb hby d_jdk_52_method_21_17) (255 : Int32) rfl rfl ?_
  refine g_icmpYes X0 hx 26 (hb hby d_jdk_52_method_21_20) (own_ii_le_t hx8) (by decide) (by decide) ?_
  refine g_aload_n X0 hx 27 (hb hby d_jdk_52_method_21_26) rfl rfl rfl ?_
  refine g_iload_n X0 hx 28 (hb hby d_jdk_52_method_21_27) rfl rfl ?_
  refine g_iload X0 hx 30 (hb hby d_jdk_52_method_21_28) rfl rfl ?_
  refine g_i2b X0 hx 31 (hb hby d_jdk_52_method_21_30) rfl ?_
  obtain ⟨cl4, Ar4, q4, S4, P4, H4, G4⟩ := id V_bb
  have hin4 := inb_of (j := (0 : Int32)) S4 ⟨by decide, by decide⟩
  refine own_stB X0 hx hZ e0 Ar4 hin4 32 (hb hby d_jdk_52_method_21_31) rfl fun T4 h4 X4 e4 W4 => ?_
  have V4 : Arv Z h4 bb kb .byte (1 : Int32) [(.int (nar .byte (xc.toInt8.toInt32)))] (.int (0 : Int32)) := Arv.set Ar4 q4 S4 P4 H4 G4 (v := (.int (nar .byte (xc.toInt8.toInt32)))) (fits_nar_byte _) W4 0 rfl (Nat.le_of_ble_eq_true rfl)
  have N4 := Fr.snoc X4 N0 g_bb
  have z5 : n0 ≤ h4.size := (Nat.le_trans Z0 (Keep.of_wr W4).1)
  have K6 : Keep h0 h4 [bb] := (Keep.refl h0 [bb]).wr W4 (Or.inl (List.mem_of_getElem? (i := 0) rfl))
  refine g_iinc X4 hx 35 (hb hby d_jdk_52_method_21_32) (z := (1 : Int32)) rfl rfl (l' := #[.val (.ref ca), .val (.int (1 : Int32)), .val (.ref bb), .val (.int (0 : Int32)), .val (.int (1 : Int32)), .val (.int (0 : Int32)), .val (.int xc)]) rfl rfl ?_
  refine g_iinc X4 hx 38 (hb hby d_jdk_52_method_21_35) (z := (1 : Int32)) rfl rfl (l' := #[.val (.ref ca), .val (.int (1 : Int32)), .val (.ref bb), .val (.int (1 : Int32)), .val (.int (1 : Int32)), .val (.int (0 : Int32)), .val (.int xc)]) rfl rfl ?_
  refine g_iinc X4 hx 41 (hb hby d_jdk_52_method_21_38) (z := (1 : Int32)) rfl rfl (l' := #[.val (.ref ca), .val (.int (1 : Int32)), .val (.ref bb), .val (.int (1 : Int32)), .val (.int (1 : Int32)), .val (.int (1 : Int32)), .val (.int xc)]) rfl rfl ?_
  refine g_goto X4 hx 3 (hb hby d_jdk_52_method_21_41) (by decide) (by decide) ?_
  refine g_iload X4 hx 5 (hb hby d_jdk_52_method_21_3) rfl rfl ?_
  refine g_iload X4 hx 7 (hb hby d_jdk_52_method_21_5) rfl rfl ?_
  refine g_icmpYes X4 hx 44 (hb hby d_jdk_52_method_21_7) (own_ii_ge_t (by decide)) (by decide) (by decide) ?_
  refine g_iload X4 hx 46 (hb hby d_jdk_52_method_21_44) rfl rfl ?_
  refine own_retI X4 hx hlk hret (hb hby d_jdk_52_method_21_46) ?_ (by decide) (by decide)
  rw [e4]
  exact ⟨rfl, N4, K6, V4⟩
theorem d_jdk_52_method_16_0 : decode jdk_52_method_16_code 0 = .ok (.iload_n 2, 1) := by decide +kernel
theorem d_jdk_52_method_16_1 : decode jdk_52_method_16_code 1 = .ok (.newarray .byte, 2) := by decide +kernel
theorem d_jdk_52_method_16_3 : decode jdk_52_method_16_code 3 = .ok (.astore_n 3, 1) := by decide +kernel
theorem d_jdk_52_method_16_4 : decode jdk_52_method_16_code 4 = .ok (.aload_n 0, 1) := by decide +kernel
theorem d_jdk_52_method_16_5 : decode jdk_52_method_16_code 5 = .ok (.iload_n 1, 1) := by decide +kernel
theorem d_jdk_52_method_16_6 : decode jdk_52_method_16_code 6 = .ok (.aload_n 3, 1) := by decide +kernel
theorem d_jdk_52_method_16_7 : decode jdk_52_method_16_code 7 = .ok (.iconst 0, 1) := by decide +kernel
theorem d_jdk_52_method_16_8 : decode jdk_52_method_16_code 8 = .ok (.iload_n 2, 1) := by decide +kernel
theorem d_jdk_52_method_16_9 : decode jdk_52_method_16_code 9 = .ok (.invokestatic 115, 3) := by decide +kernel
theorem pd_0 : parseMethodDescriptor "([CI[BII)I" = some ⟨[(.array .char), .int, (.array .byte), .int, .int], some .int⟩ := by decide +kernel
theorem d_jdk_52_method_16_12 : decode jdk_52_method_16_code 12 = .ok (.istore 4, 2) := by decide +kernel
theorem d_jdk_52_method_16_14 : decode jdk_52_method_16_code 14 = .ok (.iload 4, 2) := by decide +kernel
theorem d_jdk_52_method_16_16 : decode jdk_52_method_16_code 16 = .ok (.iload_n 2, 1) := by decide +kernel
theorem d_jdk_52_method_16_17 : decode jdk_52_method_16_code 17 = .ok (.if_icmp .eq 40, 3) := by decide +kernel
theorem d_jdk_52_method_16_57 : decode jdk_52_method_16_code 57 = .ok (.aload_n 3, 1) := by decide +kernel
theorem d_jdk_52_method_16_58 : decode jdk_52_method_16_code 58 = .ok (.areturn, 1) := by decide +kernel
theorem ef_2 (m : MethodId) (x0 : Addr) (x1 : Int32) (x2 : Int32) : entryFrame m #[(.ref x0), (.int x1), (.int x2)] 6 = mkF m 0 #[.val (.ref x0), .val (.int x1), .val (.int x2), .unset, .unset, .unset] [] := by first | (simp [entryFrame, mkF, argsToLocals, Value.category]; done) | rfl
def Q_cp2 (Z : State) (ca : Addr) (kc : ClassId) (xc : Int32) (h0 : Heap) (n0 : Nat) (v : Option Value) (h : Heap) (L : List Loc) : Prop := ∃ bb : Addr, ∃ kb : ClassId, v = some (.ref bb) ∧ Fr n0 L ∧ Keep h0 h [] ∧ n0 ≤ bb ∧ h0.size ≤ bb ∧ Arv Z h bb kb .byte (1 : Int32) [(.int (nar .byte (xc.toInt8.toInt32)))] (.int (0 : Int32))
set_option maxRecDepth 65536 in
set_option maxHeartbeats 40000000 in
theorem rm_cp2 (l : Launch) (Z : State) (a0 : Array Value) (hw : ∀ d ∈ tables_1, d.before a0 Z = true) (ws : List Jvm.Cond) (ca : Addr) (kc : ClassId) (xc : Int32) (h0 : Heap) (n0 : Nat) (Z0 : n0 ≤ h0.size) (V_ca : Arv Z h0 ca kc .char (1 : Int32) [(.int xc)] (.int (0 : Int32))) (hx8 : ¬ ((255 : Int32) < xc)) :
    MetFree l (⟨"java/lang/StringUTF16", "compress", "([CII)[B"⟩ : MethodName) (head1 (Jvm.Cond.code (⟨"java/lang/StringUTF16", "compress", "([CII)[B"⟩ : MethodName) jdk_52_method_16_code 6 (some (.array .byte)) :: ws) ({ frames := 1, cells := 1, slots := 1, locals := 18 } : Room)) (fun aA U => aA = #[(.ref ca), (.int (0 : Int32)), (.int (1 : Int32))] ∧ Z.Warmed39 U.vm ∧ U.heap = h0) (fun _ _ _ _ _ => True) (fun _ U oO U' => ∃ vV LL, oO = .returned vV ∧ Q_cp2 Z ca kc xc h0 n0 vV U'.heap LL ∧ FrameEnd U oO U' LL ({ frames := 1, cells := 1, slots := 1, locals := 18 } : Room).cells ({ frames := 1, cells := 1, slots := 1, locals := 18 } : Room).slots) := by
  refine MetFree.of_bodySF (plainFor_of_name pn_1) hisR ?_
  intro p e s m args below meth c s₁ Bd hml0 hP hK
  obtain ⟨rfl, hZ, hh⟩ := hP
  have hx := Bd.exec
  have hby := Bd.bytes
  have hml : c.maxLocals = 6 := hml0
  have hown : s.vm.findClass "java/lang/StringUTF16" = some m.cls := findClass_of_methodNamed Bd.named
  have hnm := (name_of_methodNamed Bd.named Bd.method).1
  have X0 : Stand p l e ({ frames := 1, cells := 1, slots := 1, locals := 18 } : Room) s m #[(.ref ca), (.int (0 : Int32)), (.int (1 : Int32))] below meth c s₁ [] 0 0 := Stand.of_body Bd
  have e0 : s₁.heap = h0 := by rw [← hh, Bd.state]; rfl
  have N0 := Fr.nil n0
  have hret := Bd.returns
  have hlk : meth.locks = false := Bd.notSynchronized
  refine own_start (ef_2 m ca (0 : Int32) (1 : Int32)) ?_
  show own_Go p e below s (Q_cp2 Z ca kc xc h0 n0) ({ frames := 1, cells := 1, slots := 1, locals := 18 } : Room).cells ({ frames := 1, cells := 1, slots := 1, locals := 18 } : Room).slots (s₁.setTop (mkF m 0 #[.val (.ref ca), .val (.int (0 : Int32)), .val (.int (1 : Int32)), .unset, .unset, .unset] []))
  refine g_iload_n X0 hx 1 (hb hby d_jdk_52_method_16_0) rfl rfl ?_
  refine own_newP X0 hx hZ (hw _ (List.mem_of_getElem? (i := 19) rfl)) e0 3 (hb hby d_jdk_52_method_16_1) rfl (by decide) 1 (by decide) (by decide) (by decide) (by decide) fun T7 h7 k7 b7 X7 e7 g7 E7 A7 => ?_
  have ne8 : ca ≠ b7 := Nat.ne_of_lt (Nat.lt_of_lt_of_le V_ca.lt (Nat.le_of_eq g7.symm))
  have g_b7 : n0 ≤ b7 := Nat.le_trans Z0 (Nat.le_of_eq g7.symm)
  have sz_b7 : h0.size ≤ b7 := Nat.le_trans (Keep.refl h0 []).1 (Nat.le_of_eq g7.symm)
  have K9 : Keep h0 h7 [] := (Keep.refl h0 []).ext E7
  have z10 : n0 ≤ h7.size := (Nat.le_trans Z0 E7.1)
  have V7 : Arv Z h7 b7 k7 .byte (1 : Int32) [(.int (0 : Int32))] (.int (0 : Int32)) := (Arv.new A7 (by decide)).pad (pad_rep [] (.int (0 : Int32)) 1)
  refine g_astore_n X7 hx 4 (hb hby d_jdk_52_method_16_3) rfl (l' := #[.val (.ref ca), .val (.int (0 : Int32)), .val (.int (1 : Int32)), .val (.ref b7), .unset, .unset]) rfl rfl ?_
  refine g_aload_n X7 hx 5 (hb hby d_jdk_52_method_16_4) rfl rfl rfl ?_
  refine g_iload_n X7 hx 6 (hb hby d_jdk_52_method_16_5) rfl rfl ?_
  refine g_aload_n X7 hx 7 (hb hby d_jdk_52_method_16_6) rfl rfl rfl ?_
  refine g_iconst X7 hx 8 (hb hby d_jdk_52_method_16_7) (0 : Int32) rfl rfl ?_
  refine g_iload_n X7 hx 9 (hb hby d_jdk_52_method_16_8) rfl rfl ?_
  have f12 : Arv Z h7 ca kc .char (1 : Int32) [(.int xc)] (.int (0 : Int32)) := (V_ca.keep K9 nin0)
  refine own_callS X7 hx hZ hown (hw _ (List.mem_of_getElem? (i := 82) rfl)) (hw _ (List.mem_of_getElem? (i := 83) rfl)) (by decide) (rm_cp1 l Z a0 hw [] ca b7 kc k7 xc h7 n0 z10 f12 V7 ne8 g_b7 hx8) (hw _ (List.mem_of_getElem? (i := 84) rfl)) (hw _ (List.mem_of_getElem? (i := 80) rfl)) e7 0 (by decide) (by decide) (by decide) (by decide) [(.ref ca), (.int (0 : Int32)), (.ref b7), (.int (0 : Int32)), (.int (1 : Int32))] [] rfl pd_0 rfl 12 rfl (by rw [hml]; rfl) rfl (hb hby d_jdk_52_method_16_9) rfl fun T11 v11 L11 X11 hQ11 => ?_
  obtain ⟨rfl, Nq11, Kq11, v11_0⟩ := hQ11
  have N11 := Fr.app N0 Nq11
  have K13 : Keep h0 T11.heap [] := K9.trans Kq11 (allS (Or.inr sz_b7) all0)
  have z14 : n0 ≤ T11.heap.size := (Nat.le_trans z10 Kq11.1)
  show own_GoE p e below _ (T11.setTop (mkF m 12 _ [(.int (1 : Int32))]))
  refine g_istore X11 hx 14 (hb hby d_jdk_52_method_16_12) (l' := #[.val (.ref ca), .val (.int (0 : Int32)), .val (.int (1 : Int32)), .val (.ref b7), .val (.int (1 : Int32)), .unset]) rfl rfl ?_
  refine g_iload X11 hx 16 (hb hby d_jdk_52_method_16_14) rfl rfl ?_
  refine g_iload_n X11 hx 17 (hb hby d_jdk_52_method_16_16) rfl rfl ?_
  refine g_icmpYes X11 hx 57 (hb hby d_jdk_52_method_16_17) (own_ii_eq_t (by decide)) (by decide) (by decide) ?_
  refine g_aload_n X11 hx 58 (hb hby d_jdk_52_method_16_57) rfl rfl rfl ?_
  refine own_retA X11 hx hlk hret rfl rfl (hb hby d_jdk_52_method_16_58) ?_ (by decide) (by decide)
  exact ⟨b7, k7, rfl, N11, K13, g_b7, sz_b7, v11_0⟩
theorem d_jdk_52_method_15_0 : decode jdk_52_method_15_code 0 = .ok (.iload_n 1, 1) := by decide +kernel
theorem d_jdk_52_method_15_1 : decode jdk_52_method_15_code 1 = .ok (.aload_n 0, 1) := by decide +kernel
theorem d_jdk_52_method_15_2 : decode jdk_52_method_15_code 2 = .ok (.arraylength, 1) := by decide +kernel
theorem d_jdk_52_method_15_3 : decode jdk_52_method_15_code 3 = .ok (.isub, 1) := by decide +kernel
theorem d_jdk_52_method_15_4 : decode jdk_52_method_15_code 4 = .ok (.bipush 31, 2) := by decide +kernel
theorem d_jdk_52_method_15_6 : decode jdk_52_method_15_code 6 = .ok (.iushr, 1) := by decide +kernel
theorem d_jdk_52_method_15_7 : decode jdk_52_method_15_code 7 = .ok (.i2b, 1) := by decide +kernel
theorem d_jdk_52_method_15_8 : decode jdk_52_method_15_code 8 = .ok (.ireturn, 1) := by decide +kernel
theorem ef_3 (m : MethodId) (x0 : Addr) (x1 : Int32) : entryFrame m #[(.ref x0), (.int x1)] 2 = mkF m 0 #[.val (.ref x0), .val (.int x1)] [] := by first | (simp [entryFrame, mkF, argsToLocals, Value.category]; done) | rfl
def Q_cfa (Z : State) (bb : Addr) (kb : ClassId) (bx : Int32) (h0 : Heap) (n0 : Nat) (v : Option Value) (h : Heap) (L : List Loc) : Prop := v = some (.int (0 : Int32)) ∧ Fr n0 L ∧ h = h0
set_option maxRecDepth 65536 in
set_option maxHeartbeats 40000000 in
theorem rm_cfa (l : Launch) (Z : State) (a0 : Array Value) (hw : ∀ d ∈ tables_1, d.before a0 Z = true) (ws : List Jvm.Cond) (bb : Addr) (kb : ClassId) (bx : Int32) (h0 : Heap) (n0 : Nat) (Z0 : n0 ≤ h0.size) (V_bb : Arv Z h0 bb kb .byte (1 : Int32) [(.int bx)] (.int (0 : Int32))) :
    MetFree l (⟨"java/lang/StringUTF16", "coderFromArrayLen", "([BI)B"⟩ : MethodName) (head1 (Jvm.Cond.code (⟨"java/lang/StringUTF16", "coderFromArrayLen", "([BI)B"⟩ : MethodName) jdk_52_method_15_code 2 (some .byte) :: ws) ({ frames := 0, cells := 0, slots := 0, locals := 0 } : Room)) (fun aA U => aA = #[(.ref bb), (.int (1 : Int32))] ∧ Z.Warmed39 U.vm ∧ U.heap = h0) (fun _ _ _ _ _ => True) (fun _ U oO U' => ∃ vV LL, oO = .returned vV ∧ Q_cfa Z bb kb bx h0 n0 vV U'.heap LL ∧ FrameEnd U oO U' LL ({ frames := 0, cells := 0, slots := 0, locals := 0 } : Room).cells ({ frames := 0, cells := 0, slots := 0, locals := 0 } : Room).slots) := by
  refine MetFree.of_bodySF (plainFor_of_name pn_1) hisR ?_
  intro p e s m args below meth c s₁ Bd hml0 hP hK
  obtain ⟨rfl, hZ, hh⟩ := hP
  have hx := Bd.exec
  have hby := Bd.bytes
  have hml : c.maxLocals = 2 := hml0
  have hown : s.vm.findClass "java/lang/StringUTF16" = some m.cls := findClass_of_methodNamed Bd.named
  have hnm := (name_of_methodNamed Bd.named Bd.method).1
  have X0 : Stand p l e ({ frames := 0, cells := 0, slots := 0, locals := 0 } : Room) s m #[(.ref bb), (.int (1 : Int32))] below meth c s₁ [] 0 0 := Stand.of_body Bd
  have e0 : s₁.heap = h0 := by rw [← hh, Bd.state]; rfl
  have N0 := Fr.nil n0
  have hret := Bd.returns
  have hlk : meth.locks = false := Bd.notSynchronized
  refine own_start (ef_3 m bb (1 : Int32)) ?_
  show own_Go p e below s (Q_cfa Z bb kb bx h0 n0) ({ frames := 0, cells := 0, slots := 0, locals := 0 } : Room).cells ({ frames := 0, cells := 0, slots := 0, locals := 0 } : Room).slots (s₁.setTop (mkF m 0 #[.val (.ref bb), .val (.int (1 : Int32))] []))
  refine g_iload_n X0 hx 1 (hb hby d_jdk_52_method_15_0) rfl rfl ?_
  refine g_aload_n X0 hx 2 (hb hby d_jdk_52_method_15_1) rfl rfl rfl ?_
  obtain ⟨cl15, Ar15, q15, S15, P15, H15, G15⟩ := id V_bb
  refine own_arraylength X0 hx hZ e0 Ar15 S15 P15 3 (hb hby d_jdk_52_method_15_2) rfl ?_
  refine g_isub X0 hx 4 (hb hby d_jdk_52_method_15_3) rfl ?_
  show own_GoE p e below _ (s₁.setTop (mkF m 4 _ [(.int (0 : Int32))]))
  refine g_bipush X0 hx 6 (hb hby d_jdk_52_method_15_4) (31 : Int32) rfl rfl ?_
  refine g_iushr X0 hx 7 (hb hby d_jdk_52_method_15_6) rfl ?_
  refine g_i2b X0 hx 8 (hb hby d_jdk_52_method_15_7) rfl ?_
  refine own_retN X0 hx hlk (t := .byte) hret (by simp) (hb hby d_jdk_52_method_15_8) ?_ (by decide) (by decide)
  rw [e0]
  exact ⟨(by first | rfl | decide +kernel), N0, rfl⟩
theorem d_jdk_42_method_149_0 : decode jdk_42_method_149_code 0 = .ok (.aload_n 0, 1) := by decide +kernel
theorem d_jdk_42_method_149_1 : decode jdk_42_method_149_code 1 = .ok (.invokespecial 1, 3) := by decide +kernel
theorem d_jdk_42_method_149_4 : decode jdk_42_method_149_code 4 = .ok (.iload_n 3, 1) := by decide +kernel
theorem d_jdk_42_method_149_5 : decode jdk_42_method_149_code 5 = .ok (.ifCond .ne 22, 3) := by decide +kernel
theorem d_jdk_42_method_149_27 : decode jdk_42_method_149_code 27 = .ok (.getstatic 38, 3) := by decide +kernel
theorem d_jdk_42_method_149_30 : decode jdk_42_method_149_code 30 = .ok (.ifCond .eq 28, 3) := by decide +kernel
theorem d_jdk_42_method_149_33 : decode jdk_42_method_149_code 33 = .ok (.aload_n 1, 1) := by decide +kernel
theorem d_jdk_42_method_149_34 : decode jdk_42_method_149_code 34 = .ok (.iload_n 2, 1) := by decide +kernel
theorem d_jdk_42_method_149_35 : decode jdk_42_method_149_code 35 = .ok (.iload_n 3, 1) := by decide +kernel
theorem d_jdk_42_method_149_36 : decode jdk_42_method_149_code 36 = .ok (.invokestatic 177, 3) := by decide +kernel
theorem pd_1 : parseMethodDescriptor "([CII)[B" = some ⟨[(.array .char), .int, .int], some (.array .byte)⟩ := by decide +kernel
theorem d_jdk_42_method_149_39 : decode jdk_42_method_149_code 39 = .ok (.astore 5, 2) := by decide +kernel
theorem d_jdk_42_method_149_41 : decode jdk_42_method_149_code 41 = .ok (.aload_n 0, 1) := by decide +kernel
theorem d_jdk_42_method_149_42 : decode jdk_42_method_149_code 42 = .ok (.aload 5, 2) := by decide +kernel
theorem d_jdk_42_method_149_44 : decode jdk_42_method_149_code 44 = .ok (.iload_n 3, 1) := by decide +kernel
theorem d_jdk_42_method_149_45 : decode jdk_42_method_149_code 45 = .ok (.invokestatic 47, 3) := by decide +kernel
theorem pd_2 : parseMethodDescriptor "([BI)B" = some ⟨[(.array .byte), .int], some .byte⟩ := by decide +kernel
theorem d_jdk_42_method_149_48 : decode jdk_42_method_149_code 48 = .ok (.putfield 15, 3) := by decide +kernel
theorem d_jdk_42_method_149_51 : decode jdk_42_method_149_code 51 = .ok (.aload_n 0, 1) := by decide +kernel
theorem d_jdk_42_method_149_52 : decode jdk_42_method_149_code 52 = .ok (.aload 5, 2) := by decide +kernel
theorem d_jdk_42_method_149_54 : decode jdk_42_method_149_code 54 = .ok (.putfield 9, 3) := by decide +kernel
theorem d_jdk_42_method_149_57 : decode jdk_42_method_149_code 57 = .ok (.return_, 1) := by decide +kernel
theorem ef_4 (m : MethodId) (x0 : Addr) (x1 : Addr) (x2 : Int32) (x3 : Int32) : entryFrame m #[(.ref x0), (.ref x1), (.int x2), (.int x3), .null] 6 = mkF m 0 #[.val (.ref x0), .val (.ref x1), .val (.int x2), .val (.int x3), .val .null, .unset] [] := by first | (simp [entryFrame, mkF, argsToLocals, Value.category]; done) | rfl
theorem pn_2 : plainName "java/lang/String" = true := by first | (simp [plainName, overriddenIn]; done) | decide +kernel
def Q_i4N (Z : State) (o : Addr) (ca : Addr) (kc : ClassId) (xc : Int32) (zc : Int32) (h0 : Heap) (n0 : Nat) (v : Option Value) (h : Heap) (L : List Loc) : Prop := v = none ∧ Fr n0 L ∧ Keep h0 h [o]
set_option maxRecDepth 65536 in
set_option maxHeartbeats 40000000 in
theorem rm_i4N (l : Launch) (Z : State) (a0 : Array Value) (hw : ∀ d ∈ tables_1, d.before a0 Z = true) (ws : List Jvm.Cond) (o : Addr) (ca : Addr) (kc : ClassId) (xc : Int32) (zc : Int32) (h0 : Heap) (n0 : Nat) (Z0 : n0 ≤ h0.size) (E_o : Exa Z h0 o "java/lang/String") (F_o_value : Fld Z h0 o "java/lang/String" "value" "[B" .null) (F_o_coder : Fld Z h0 o "java/lang/String" "coder" "B" (.int (0 : Int32))) (V_ca : Arv Z h0 ca kc .char (1 : Int32) [(.int xc)] (.int (0 : Int32))) (S_COMPACT_STRINGS : Sta Z h0 "java/lang/String" "COMPACT_STRINGS" "Z" (.int zc)) (g_o : n0 ≤ o) (hx8 : ¬ ((255 : Int32) < xc)) (hz : ¬ (zc = (0 : Int32))) :
    MetFree l (⟨"java/lang/String", "<init>", "([CIILjava/lang/Void;)V"⟩ : MethodName) (head1 (Jvm.Cond.code (⟨"java/lang/String", "<init>", "([CIILjava/lang/Void;)V"⟩ : MethodName) jdk_42_method_149_code 6 none :: ws) ({ frames := 2, cells := 1, slots := 1, locals := 35 } : Room)) (fun aA U => aA = #[(.ref o), (.ref ca), (.int (0 : Int32)), (.int (1 : Int32)), .null] ∧ Z.Warmed39 U.vm ∧ U.heap = h0) (fun _ _ _ _ _ => True) (fun _ U oO U' => ∃ vV LL, oO = .returned vV ∧ Q_i4N Z o ca kc xc zc h0 n0 vV U'.heap LL ∧ FrameEnd U oO U' LL ({ frames := 2, cells := 1, slots := 1, locals := 35 } : Room).cells ({ frames := 2, cells := 1, slots := 1, locals := 35 } : Room).slots) := by
  refine MetFree.of_bodySF (plainFor_of_name pn_2) hisR ?_
  intro p e s m args below meth c s₁ Bd hml0 hP hK
  obtain ⟨rfl, hZ, hh⟩ := hP
  have hx := Bd.exec
  have hby := Bd.bytes
  have hml : c.maxLocals = 6 := hml0
  have hown : s.vm.findClass "java/lang/String" = some m.cls := findClass_of_methodNamed Bd.named
  have hnm := (name_of_methodNamed Bd.named Bd.method).1
  have X0 : Stand p l e ({ frames := 2, cells := 1, slots := 1, locals := 35 } : Room) s m #[(.ref o), (.ref ca), (.int (0 : Int32)), (.int (1 : Int32)), .null] below meth c s₁ [] 0 0 := Stand.of_body Bd
  have e0 : s₁.heap = h0 := by rw [← hh, Bd.state]; rfl
  have N0 := Fr.nil n0
  have hret := Bd.returns
  have hlk : meth.locks = false := Bd.notSynchronized
  refine own_start (ef_4 m o ca (0 : Int32) (1 : Int32)) ?_
  show own_Go p e below s (Q_i4N Z o ca kc xc zc h0 n0) ({ frames := 2, cells := 1, slots := 1, locals := 35 } : Room).cells ({ frames := 2, cells := 1, slots := 1, locals := 35 } : Room).slots (s₁.setTop (mkF m 0 #[.val (.ref o), .val (.ref ca), .val (.int (0 : Int32)), .val (.int (1 : Int32)), .val .null, .unset] []))
  refine g_aload_n X0 hx 1 (hb hby d_jdk_42_method_149_0) rfl rfl rfl ?_
  refine own_initO X0 hx hZ hown (hw _ (List.mem_of_getElem? (i := 15) rfl)) (hw _ (List.mem_of_getElem? (i := 16) rfl)) (hw _ (List.mem_of_getElem? (i := 17) rfl)) e0 4 (by rw [hml]; rfl) (hb hby d_jdk_42_method_149_1) rfl (by decide) 0 rfl (by decide) fun T16 X16 e16 => ?_
  refine g_iload_n X16 hx 5 (hb hby d_jdk_42_method_149_4) rfl rfl ?_
  refine g_ifYes X16 hx 27 (hb hby d_jdk_42_method_149_5) (own_i0_ne_t (by decide)) (by decide) (by decide) ?_
  refine own_getS X16 hx hZ hown (host := "") (Or.inl (hw _ (List.mem_of_getElem? (i := 60) rfl))) Via.refl e16 S_COMPACT_STRINGS 30 (hb hby d_jdk_42_method_149_27) rfl fun T17 X17 e17 => ?_
  refine g_ifNo X17 hx 33 (hb hby d_jdk_42_method_149_30) (own_i0_eq_f hz) rfl ?_
  refine g_aload_n X17 hx 34 (hb hby d_jdk_42_method_149_33) rfl rfl rfl ?_
  refine g_iload_n X17 hx 35 (hb hby d_jdk_42_method_149_34) rfl rfl ?_
  refine g_iload_n X17 hx 36 (hb hby d_jdk_42_method_149_35) rfl rfl ?_
  refine own_callS X17 hx hZ hown (hw _ (List.mem_of_getElem? (i := 78) rfl)) (hw _ (List.mem_of_getElem? (i := 79) rfl)) (by decide) (rm_cp2 l Z a0 hw [] ca kc xc h0 n0 Z0 V_ca hx8) (hw _ (List.mem_of_getElem? (i := 81) rfl)) (hw _ (List.mem_of_getElem? (i := 80) rfl)) e17 0 (by decide) (by decide) (by decide) (by decide) [(.ref ca), (.int (0 : Int32)), (.int (1 : Int32))] [] rfl pd_1 rfl 39 rfl (by rw [hml]; rfl) rfl (hb hby d_jdk_42_method_149_36) rfl fun T19 v19 L19 X19 hQ19 => ?_
  obtain ⟨bb_19, kb_19, rfl, Nq19, Kq19, g_bb_19, sz_bb_19, v19_0⟩ := hQ19
  have ne20 : o ≠ bb_19 := Nat.ne_of_lt (Nat.lt_of_lt_of_le E_o.lt sz_bb_19)
  have ne21 : ca ≠ bb_19 := Nat.ne_of_lt (Nat.lt_of_lt_of_le V_ca.lt sz_bb_19)
  have N19 := Fr.app N0 Nq19
  have sq_bb_19 : h0.size ≤ bb_19 := Nat.le_trans (Keep.refl h0 [o]).1 sz_bb_19
  have K22 : Keep h0 T19.heap [o] := (Keep.refl h0 [o]).trans Kq19 all0
  have z23 : n0 ≤ T19.heap.size := (Nat.le_trans Z0 Kq19.1)
  show own_GoE p e below _ (T19.setTop (mkF m 39 _ [(.ref bb_19)]))
  refine g_astore X19 hx 41 (hb hby d_jdk_42_method_149_39) rfl (l' := #[.val (.ref o), .val (.ref ca), .val (.int (0 : Int32)), .val (.int (1 : Int32)), .val .null, .val (.ref bb_19)]) rfl rfl ?_
  refine g_aload_n X19 hx 42 (hb hby d_jdk_42_method_149_41) rfl rfl rfl ?_
  refine g_aload X19 hx 44 (hb hby d_jdk_42_method_149_42) rfl rfl rfl ?_
  refine g_iload_n X19 hx 45 (hb hby d_jdk_42_method_149_44) rfl rfl ?_
  refine own_callS X19 hx hZ hown (hw _ (List.mem_of_getElem? (i := 85) rfl)) (hw _ (List.mem_of_getElem? (i := 86) rfl)) (by decide) (rm_cfa l Z a0 hw [] bb_19 kb_19 (nar .byte (xc.toInt8.toInt32)) T19.heap n0 z23 v19_0) (hw _ (List.mem_of_getElem? (i := 87) rfl)) (hw _ (List.mem_of_getElem? (i := 80) rfl)) rfl 1 (by decide) (by decide) (by decide) (by decide) [(.ref bb_19), (.int (1 : Int32))] [(.ref o)] rfl pd_2 rfl 48 rfl (by rw [hml]; rfl) rfl (hb hby d_jdk_42_method_149_45) rfl fun T24 v24 L24 X24 hQ24 => ?_
  obtain ⟨rfl, Nq24, e24⟩ := hQ24
  have N24 := Fr.app N19 Nq24
  show own_GoE p e below _ (T24.setTop (mkF m 48 _ [(.int (0 : Int32)), (.ref o)]))
  have f25 : Exa Z T19.heap o "java/lang/String" := (E_o.keep Kq19)
  have f26 : Fld Z T19.heap o "java/lang/String" "coder" "B" (.int (0 : Int32)) := (F_o_coder.keep Kq19 nin0)
  refine own_putFN X24 hx hZ hown (hw _ (List.mem_of_getElem? (i := 25) rfl)) Via.refl e24 (.int (0 : Int32)) f26 f25 (Or.inr ⟨(hw _ (List.mem_of_getElem? (i := 21) rfl)), rfl, hnm⟩) (hw _ (List.mem_of_getElem? (i := 5) rfl)) (ty := .byte) (by decide) rfl rfl 51 (hb hby d_jdk_42_method_149_48) rfl fun T27 h27 X27 e27 W27 => ?_
  have f27 : Fld Z h27 o "java/lang/String" "coder" "B" (.int (0 : Int32)) := Fld.same W27 f26
  have N27 := Fr.snoc X27 N24 g_o
  have z28 : n0 ≤ h27.size := (Nat.le_trans z23 (Keep.of_wr W27).1)
  have K29 : Keep h0 h27 [o] := K22.wr W27 (Or.inl (List.mem_of_getElem? (i := 0) rfl))
  refine g_aload_n X27 hx 52 (hb hby d_jdk_42_method_149_51) rfl rfl rfl ?_
  refine g_aload X27 hx 54 (hb hby d_jdk_42_method_149_52) rfl rfl rfl ?_
  have f30 : Exa Z h27 o "java/lang/String" := (Exa.wr W27 f25)
  have f31 : Fld Z h27 o "java/lang/String" "value" "[B" .null := (Fld.other W27 (F_o_value.keep Kq19 nin0) (Or.inr (slot_ne (Or.inr (hw _ (List.mem_of_getElem? (i := 20) rfl))) (Or.inr (hw _ (List.mem_of_getElem? (i := 21) rfl))) (by decide) (t := (.array .byte)) (t' := .byte) (by decide) (by decide))))
  refine own_putF X27 hx hZ hown (host := "") (Or.inl (hw _ (List.mem_of_getElem? (i := 24) rfl))) Via.refl e27 f31 f30 (Or.inr ⟨(hw _ (List.mem_of_getElem? (i := 20) rfl)), rfl, hnm⟩) (hw _ (List.mem_of_getElem? (i := 5) rfl)) (ty := (.array .byte)) (by decide) rfl rfl 57 (hb hby d_jdk_42_method_149_54) rfl fun T32 h32 X32 e32 W32 => ?_
  have f32 : Fld Z h32 o "java/lang/String" "value" "[B" (.ref bb_19) := Fld.same W32 f31
  have N32 := Fr.snoc X32 N27 g_o
  have z33 : n0 ≤ h32.size := (Nat.le_trans z28 (Keep.of_wr W32).1)
  have K34 : Keep h0 h32 [o] := K29.wr W32 (Or.inl (List.mem_of_getElem? (i := 0) rfl))
  refine own_retV X32 hx hlk hret (hb hby d_jdk_42_method_149_57) ?_ (by decide) (by decide)
  rw [e32]
  exact ⟨rfl, N32, K34⟩
theorem d_jdk_42_method_149_8 : decode jdk_42_method_149_code 8 = .ok (.aload_n 0, 1) := by decide +kernel
theorem d_jdk_42_method_149_9 : decode jdk_42_method_149_code 9 = .ok (.ldc 7, 2) := by decide +kernel
theorem d_jdk_42_method_149_11 : decode jdk_42_method_149_code 11 = .ok (.getfield 9, 3) := by decide +kernel
theorem d_jdk_42_method_149_14 : decode jdk_42_method_149_code 14 = .ok (.putfield 9, 3) := by decide +kernel
theorem d_jdk_42_method_149_17 : decode jdk_42_method_149_code 17 = .ok (.aload_n 0, 1) := by decide +kernel
theorem d_jdk_42_method_149_18 : decode jdk_42_method_149_code 18 = .ok (.ldc 7, 2) := by decide +kernel
theorem d_jdk_42_method_149_20 : decode jdk_42_method_149_code 20 = .ok (.getfield 15, 3) := by decide +kernel
theorem d_jdk_42_method_149_23 : decode jdk_42_method_149_code 23 = .ok (.putfield 15, 3) := by decide +kernel
theorem d_jdk_42_method_149_26 : decode jdk_42_method_149_code 26 = .ok (.return_, 1) := by decide +kernel
def Q_i4E (Z : State) (o : Addr) (ca : Addr) (h0 : Heap) (n0 : Nat) (v : Option Value) (h : Heap) (L : List Loc) : Prop := v = none ∧ Fr n0 L ∧ Keep h0 h [o]
def QW_i4E (Z : State) (o : Addr) (ca : Addr) (h0 : Heap) (n0 : Nat) (v : Option Value) (vm : Vm) (h : Heap) (L : List Loc) : Prop := Q_i4E Z o ca h0 n0 v h L ∧ own_LD Z vm h
set_option maxRecDepth 65536 in
set_option maxHeartbeats 40000000 in
theorem rm_i4E (l : Launch) (Z : State) (a0 : Array Value) (hw : ∀ d ∈ tables_1, d.before a0 Z = true) (ws : List Jvm.Cond) (o : Addr) (ca : Addr) (h0 : Heap) (n0 : Nat) (Z0 : n0 ≤ h0.size) (E_o : Exa Z h0 o "java/lang/String") (F_o_value : Fld Z h0 o "java/lang/String" "value" "[B" .null) (F_o_coder : Fld Z h0 o "java/lang/String" "coder" "B" (.int (0 : Int32))) (g_o : n0 ≤ o) (KZ : ∀ (b : Addr) (cl : Cell), Z.heap[b]? = some cl → h0[b]? = some cl) (hH : Jvm.Lit.constHeld Z "java/lang/String" 7) (hcw : Jvm.Lit.compactW.before a0 Z = true) :
    MetFree l (⟨"java/lang/String", "<init>", "([CIILjava/lang/Void;)V"⟩ : MethodName) (head1 (Jvm.Cond.code (⟨"java/lang/String", "<init>", "([CIILjava/lang/Void;)V"⟩ : MethodName) jdk_42_method_149_code 6 none :: ws) ({ frames := 1, cells := 2, slots := 4, locals := 12 } : Room)) (fun aA U => aA = #[(.ref o), (.ref ca), (.int (0 : Int32)), (.int (0 : Int32)), .null] ∧ Z.Warmed39 U.vm ∧ U.heap = h0 ∧ own_LD Z U.vm h0) (fun _ _ _ _ _ => True) (fun _ U oO U' => ∃ vV LL, oO = .returned vV ∧ (Q_i4E Z o ca h0 n0 vV U'.heap LL ∧ own_LD Z U'.vm U'.heap) ∧ ReturnedEndW U oO U' LL ({ frames := 1, cells := 2, slots := 4, locals := 12 } : Room).cells ({ frames := 1, cells := 2, slots := 4, locals := 12 } : Room).slots) := by
  refine MetFree.of_bodySF (plainFor_of_name pn_2) hisR ?_
  intro p e s m args below meth c s₁ Bd hml0 hP hK
  obtain ⟨rfl, hZ0, hh, D0⟩ := hP
  have hx := Bd.exec
  have hby := Bd.bytes
  have hml : c.maxLocals = 6 := hml0
  have hZ : Z.Warmed39 (s.setVm s.vm).vm := hZ0
  have hown : (s.setVm s.vm).vm.findClass "java/lang/String" = some m.cls := findClass_of_methodNamed Bd.named
  have hnm := (name_of_methodNamed Bd.named Bd.method).1
  have X0 : Stand p l e ({ frames := 1, cells := 2, slots := 4, locals := 12 } : Room) (s.setVm s.vm) m #[(.ref o), (.ref ca), (.int (0 : Int32)), (.int (0 : Int32)), .null] below meth c s₁ [] 0 0 := Stand.of_body Bd
  have hS : s.Since s.vm 0 := (State.WarmedH.refl s).since 0
  have hSk : 0 ≤ h0.size := Nat.zero_le _
  have e0 : s₁.heap = h0 := by rw [← hh, Bd.state]; rfl
  have N0 := Fr.nil n0
  have hret := Bd.returns
  have hlk : meth.locks = false := Bd.notSynchronized
  refine own_start (ef_4 m o ca (0 : Int32) (0 : Int32)) ?_
  show own_GoE p e below (fun oO vV UU LL => QW_i4E Z o ca h0 n0 vV UU.vm UU.heap LL ∧ ReturnedEndW s oO UU LL ({ frames := 1, cells := 2, slots := 4, locals := 12 } : Room).cells ({ frames := 1, cells := 2, slots := 4, locals := 12 } : Room).slots) (s₁.setTop (mkF m 0 #[.val (.ref o), .val (.ref ca), .val (.int (0 : Int32)), .val (.int (0 : Int32)), .val .null, .unset] []))
  refine g_aload_n X0 hx 1 (hb hby d_jdk_42_method_149_0) rfl rfl rfl ?_
  refine own_initO X0 hx hZ hown (hw _ (List.mem_of_getElem? (i := 15) rfl)) (hw _ (List.mem_of_getElem? (i := 16) rfl)) (hw _ (List.mem_of_getElem? (i := 17) rfl)) e0 4 (by rw [hml]; rfl) (hb hby d_jdk_42_method_149_1) rfl (by decide) 0 rfl (by decide) fun T35 X35 e35 => ?_
  refine g_iload_n X35 hx 5 (hb hby d_jdk_42_method_149_4) rfl rfl ?_
  refine g_ifNo X35 hx 8 (hb hby d_jdk_42_method_149_5) (own_i0_ne_f (by decide)) rfl ?_
  refine g_aload_n X35 hx 9 (hb hby d_jdk_42_method_149_8) rfl rfl rfl ?_
  refine own_ldcE X35 hx hZ hown (hw _ (List.mem_of_getElem? (i := 18) rfl)) (own_wS hw) e35 hS hSk (Fr.nil _) (fun b cl q => by rw [hh]; exact KZ b cl q) D0 hH hcw 11 (hb hby d_jdk_42_method_149_9) rfl (by decide) (by decide) fun T36 h36 vm36 kk36 a36 v36 X36 e36 E36 hS hSk hZ hown A36 C36 V36 L36 => ?_
  have K37 : Keep h0 h36 [o] := (Keep.refl h0 [o]).ext E36
  have z38 : n0 ≤ h36.size := (Nat.le_trans Z0 E36.1)
  have f40 : Fld Z h36 o "java/lang/String" "value" "[B" .null := (Fld.ext E36 F_o_value)
  have ne39 : a36 ≠ o := V36.ne f40 (by simp)
  refine own_getF X36 hx hZ hown (host := "") (Or.inl (hw _ (List.mem_of_getElem? (i := 24) rfl))) Via.refl e36 V36 14 (hb hby d_jdk_42_method_149_11) rfl fun T41 X41 e41 => ?_
  have f42 : Exa Z h36 o "java/lang/String" := (Exa.ext E36 E_o)
  refine own_putF X41 hx hZ hown (host := "") (Or.inl (hw _ (List.mem_of_getElem? (i := 24) rfl))) Via.refl e41 f40 f42 (Or.inr ⟨(hw _ (List.mem_of_getElem? (i := 20) rfl)), rfl, hnm⟩) (hw _ (List.mem_of_getElem? (i := 5) rfl)) (ty := (.array .byte)) (by decide) rfl rfl 17 (hb hby d_jdk_42_method_149_14) rfl fun T43 h43 X43 e43 W43 => ?_
  have f43 : Fld Z h43 o "java/lang/String" "value" "[B" (.ref v36) := Fld.same W43 f40
  have N43 := Fr.snoc X43 N0 g_o
  have z44 : n0 ≤ h43.size := (Nat.le_trans z38 (Keep.of_wr W43).1)
  have z45 : _ ≤ h43.size := (Nat.le_trans hSk (Keep.of_wr W43).1)
  have K46 : Keep h0 h43 [o] := K37.wr W43 (Or.inl (List.mem_of_getElem? (i := 0) rfl))
  refine g_aload_n X43 hx 18 (hb hby d_jdk_42_method_149_17) rfl rfl rfl ?_
  refine own_ldcA X43 hx hZ hown (hw _ (List.mem_of_getElem? (i := 18) rfl)) L36 20 (hb hby d_jdk_42_method_149_18) rfl ?_
  have f48 : Fld Z h43 a36 "java/lang/String" "coder" "B" (.int (0 : Int32)) := (Fld.other W43 C36 (Or.inl ne39))
  refine own_getF X43 hx hZ hown (host := "") (Or.inl (hw _ (List.mem_of_getElem? (i := 25) rfl))) Via.refl e43 f48 23 (hb hby d_jdk_42_method_149_20) rfl fun T49 X49 e49 => ?_
  have f50 : Exa Z h43 o "java/lang/String" := (Exa.wr W43 f42)
  have f51 : Fld Z h43 o "java/lang/String" "coder" "B" (.int (0 : Int32)) := (Fld.other W43 (Fld.ext E36 F_o_coder) (Or.inr (slot_ne (Or.inr (hw _ (List.mem_of_getElem? (i := 21) rfl))) (Or.inr (hw _ (List.mem_of_getElem? (i := 20) rfl))) (by decide) (t := .byte) (t' := (.array .byte)) (by decide) (by decide))))
  refine own_putFN X49 hx hZ hown (hw _ (List.mem_of_getElem? (i := 25) rfl)) Via.refl e49 (.int (0 : Int32)) f51 f50 (Or.inr ⟨(hw _ (List.mem_of_getElem? (i := 21) rfl)), rfl, hnm⟩) (hw _ (List.mem_of_getElem? (i := 5) rfl)) (ty := .byte) (by decide) rfl rfl 26 (hb hby d_jdk_42_method_149_23) rfl fun T52 h52 X52 e52 W52 => ?_
  have f52 : Fld Z h52 o "java/lang/String" "coder" "B" (.int (0 : Int32)) := Fld.same W52 f51
  have N52 := Fr.snoc X52 N43 g_o
  have z53 : n0 ≤ h52.size := (Nat.le_trans z44 (Keep.of_wr W52).1)
  have z54 : _ ≤ h52.size := (Nat.le_trans z45 (Keep.of_wr W52).1)
  have K55 : Keep h0 h52 [o] := K46.wr W52 (Or.inl (List.mem_of_getElem? (i := 0) rfl))
  have f56 : Exa Z h52 a36 "java/lang/String" := (Exa.wr W52 (Exa.wr W43 A36))
  have f57 : Fld Z h52 a36 "java/lang/String" "coder" "B" (.int (0 : Int32)) := (Fld.other W52 f48 (Or.inl ne39))
  have f58 : Fld Z h52 a36 "java/lang/String" "value" "[B" (.ref v36) := (Fld.other W52 (Fld.other W43 V36 (Or.inl ne39)) (Or.inl ne39))
  refine own_retVW X52 hS (by rw [e52]; exact z54) hx hlk hret (hb hby d_jdk_42_method_149_26) ?_ (by decide) (by decide)
  rw [e52]
  refine ⟨?_, ((show own_LD Z vm36 h52 from Or.inr ⟨a36, v36, L36, f56, f57, f58⟩).warm X52.warmed)⟩
  exact ⟨rfl, N52, K55⟩
theorem d_jdk_42_method_3_0 : decode jdk_42_method_3_code 0 = .ok (.aload_n 0, 1) := by decide +kernel
theorem d_jdk_42_method_3_1 : decode jdk_42_method_3_code 1 = .ok (.aload_n 1, 1) := by decide +kernel
theorem d_jdk_42_method_3_2 : decode jdk_42_method_3_code 2 = .ok (.iconst 0, 1) := by decide +kernel
theorem d_jdk_42_method_3_3 : decode jdk_42_method_3_code 3 = .ok (.aload_n 1, 1) := by decide +kernel
theorem d_jdk_42_method_3_4 : decode jdk_42_method_3_code 4 = .ok (.arraylength, 1) := by decide +kernel
theorem d_jdk_42_method_3_5 : decode jdk_42_method_3_code 5 = .ok (.aconst_null, 1) := by decide +kernel
theorem d_jdk_42_method_3_6 : decode jdk_42_method_3_code 6 = .ok (.invokespecial 27, 3) := by decide +kernel
theorem pd_3 : parseMethodDescriptor "([CIILjava/lang/Void;)V" = some ⟨[(.array .char), .int, .int, (.object "java/lang/Void")], none⟩ := by decide +kernel
theorem d_jdk_42_method_3_9 : decode jdk_42_method_3_code 9 = .ok (.return_, 1) := by decide +kernel
theorem ef_5 (m : MethodId) (x0 : Addr) (x1 : Addr) : entryFrame m #[(.ref x0), (.ref x1)] 2 = mkF m 0 #[.val (.ref x0), .val (.ref x1)] [] := by first | (simp [entryFrame, mkF, argsToLocals, Value.category]; done) | rfl
def Q_i1N (Z : State) (o : Addr) (ca : Addr) (kc : ClassId) (xc : Int32) (zc : Int32) (h0 : Heap) (n0 : Nat) (v : Option Value) (h : Heap) (L : List Loc) : Prop := v = none ∧ Fr n0 L ∧ Keep h0 h [o]
set_option maxRecDepth 65536 in
set_option maxHeartbeats 40000000 in
theorem rm_i1N (l : Launch) (Z : State) (a0 : Array Value) (hw : ∀ d ∈ tables_1, d.before a0 Z = true) (ws : List Jvm.Cond) (o : Addr) (ca : Addr) (kc : ClassId) (xc : Int32) (zc : Int32) (h0 : Heap) (n0 : Nat) (Z0 : n0 ≤ h0.size) (E_o : Exa Z h0 o "java/lang/String") (F_o_value : Fld Z h0 o "java/lang/String" "value" "[B" .null) (F_o_coder : Fld Z h0 o "java/lang/String" "coder" "B" (.int (0 : Int32))) (V_ca : Arv Z h0 ca kc .char (1 : Int32) [(.int xc)] (.int (0 : Int32))) (S_COMPACT_STRINGS : Sta Z h0 "java/lang/String" "COMPACT_STRINGS" "Z" (.int zc)) (g_o : n0 ≤ o) (hx8 : ¬ ((255 : Int32) < xc)) (hz : ¬ (zc = (0 : Int32))) :
    MetFree l (⟨"java/lang/String", "<init>", "([C)V"⟩ : MethodName) (head1 (Jvm.Cond.code (⟨"java/lang/String", "<init>", "([C)V"⟩ : MethodName) jdk_42_method_3_code 2 none :: ws) ({ frames := 3, cells := 1, slots := 1, locals := 52 } : Room)) (fun aA U => aA = #[(.ref o), (.ref ca)] ∧ Z.Warmed39 U.vm ∧ U.heap = h0) (fun _ _ _ _ _ => True) (fun _ U oO U' => ∃ vV LL, oO = .returned vV ∧ Q_i1N Z o ca kc xc zc h0 n0 vV U'.heap LL ∧ FrameEnd U oO U' LL ({ frames := 3, cells := 1, slots := 1, locals := 52 } : Room).cells ({ frames := 3, cells := 1, slots := 1, locals := 52 } : Room).slots) := by
  refine MetFree.of_bodySF (plainFor_of_name pn_2) hisR ?_
  intro p e s m args below meth c s₁ Bd hml0 hP hK
  obtain ⟨rfl, hZ, hh⟩ := hP
  have hx := Bd.exec
  have hby := Bd.bytes
  have hml : c.maxLocals = 2 := hml0
  have hown : s.vm.findClass "java/lang/String" = some m.cls := findClass_of_methodNamed Bd.named
  have hnm := (name_of_methodNamed Bd.named Bd.method).1
  have X0 : Stand p l e ({ frames := 3, cells := 1, slots := 1, locals := 52 } : Room) s m #[(.ref o), (.ref ca)] below meth c s₁ [] 0 0 := Stand.of_body Bd
  have e0 : s₁.heap = h0 := by rw [← hh, Bd.state]; rfl
  have N0 := Fr.nil n0
  have hret := Bd.returns
  have hlk : meth.locks = false := Bd.notSynchronized
  refine own_start (ef_5 m o ca) ?_
  show own_Go p e below s (Q_i1N Z o ca kc xc zc h0 n0) ({ frames := 3, cells := 1, slots := 1, locals := 52 } : Room).cells ({ frames := 3, cells := 1, slots := 1, locals := 52 } : Room).slots (s₁.setTop (mkF m 0 #[.val (.ref o), .val (.ref ca)] []))
  refine g_aload_n X0 hx 1 (hb hby d_jdk_42_method_3_0) rfl rfl rfl ?_
  refine g_aload_n X0 hx 2 (hb hby d_jdk_42_method_3_1) rfl rfl rfl ?_
  refine g_iconst X0 hx 3 (hb hby d_jdk_42_method_3_2) (0 : Int32) rfl rfl ?_
  refine g_aload_n X0 hx 4 (hb hby d_jdk_42_method_3_3) rfl rfl rfl ?_
  obtain ⟨cl59, Ar59, q59, S59, P59, H59, G59⟩ := id V_ca
  refine own_arraylength X0 hx hZ e0 Ar59 S59 P59 5 (hb hby d_jdk_42_method_3_4) rfl ?_
  refine g_aconst_null X0 hx 6 (hb hby d_jdk_42_method_3_5) rfl ?_
  refine own_callI X0 hx hZ hown rfl (hw _ (List.mem_of_getElem? (i := 11) rfl)) (hw _ (List.mem_of_getElem? (i := 12) rfl)) (by decide) (rm_i4N l Z a0 hw [] o ca kc xc zc h0 n0 Z0 E_o F_o_value F_o_coder V_ca S_COMPACT_STRINGS g_o hx8 hz) (hw _ (List.mem_of_getElem? (i := 14) rfl)) (hw _ (List.mem_of_getElem? (i := 6) rfl)) e0 0 (by decide) (by decide) (by decide) (by decide) o [(.ref ca), (.int (0 : Int32)), (.int (1 : Int32)), .null] [] rfl pd_3 rfl 9 rfl (by rw [hml]; rfl) rfl (hb hby d_jdk_42_method_3_6) rfl fun T60 v60 L60 X60 hQ60 => ?_
  obtain ⟨rfl, Nq60, Kq60⟩ := hQ60
  have N60 := Fr.app N0 Nq60
  have K61 : Keep h0 T60.heap [o] := (Keep.refl h0 [o]).trans Kq60 (allS (Or.inl (List.mem_of_getElem? (i := 0) rfl)) all0)
  have z62 : n0 ≤ T60.heap.size := (Nat.le_trans Z0 Kq60.1)
  show own_GoE p e below _ (T60.setTop (mkF m 9 _ []))
  refine own_retV X60 hx hlk hret (hb hby d_jdk_42_method_3_9) ?_ (by decide) (by decide)
  exact ⟨rfl, N60, K61⟩
def Q_i1E (Z : State) (o : Addr) (ca : Addr) (kc : ClassId) (h0 : Heap) (n0 : Nat) (v : Option Value) (h : Heap) (L : List Loc) : Prop := v = none ∧ Fr n0 L ∧ Keep h0 h [o]
def QW_i1E (Z : State) (o : Addr) (ca : Addr) (kc : ClassId) (h0 : Heap) (n0 : Nat) (v : Option Value) (vm : Vm) (h : Heap) (L : List Loc) : Prop := Q_i1E Z o ca kc h0 n0 v h L ∧ own_LD Z vm h
set_option maxRecDepth 65536 in
set_option maxHeartbeats 40000000 in
theorem rm_i1E (l : Launch) (Z : State) (a0 : Array Value) (hw : ∀ d ∈ tables_1, d.before a0 Z = true) (ws : List Jvm.Cond) (o : Addr) (ca : Addr) (kc : ClassId) (h0 : Heap) (n0 : Nat) (Z0 : n0 ≤ h0.size) (E_o : Exa Z h0 o "java/lang/String") (F_o_value : Fld Z h0 o "java/lang/String" "value" "[B" .null) (F_o_coder : Fld Z h0 o "java/lang/String" "coder" "B" (.int (0 : Int32))) (V_ca : Arv Z h0 ca kc .char (0 : Int32) [] (.int (0 : Int32))) (g_o : n0 ≤ o) (KZ : ∀ (b : Addr) (cl : Cell), Z.heap[b]? = some cl → h0[b]? = some cl) (hH : Jvm.Lit.constHeld Z "java/lang/String" 7) (hcw : Jvm.Lit.compactW.before a0 Z = true) :
    MetFree l (⟨"java/lang/String", "<init>", "([C)V"⟩ : MethodName) (head1 (Jvm.Cond.code (⟨"java/lang/String", "<init>", "([C)V"⟩ : MethodName) jdk_42_method_3_code 2 none :: ws) ({ frames := 2, cells := 2, slots := 4, locals := 29 } : Room)) (fun aA U => aA = #[(.ref o), (.ref ca)] ∧ Z.Warmed39 U.vm ∧ U.heap = h0 ∧ own_LD Z U.vm h0) (fun _ _ _ _ _ => True) (fun _ U oO U' => ∃ vV LL, oO = .returned vV ∧ (Q_i1E Z o ca kc h0 n0 vV U'.heap LL ∧ own_LD Z U'.vm U'.heap) ∧ ReturnedEndW U oO U' LL ({ frames := 2, cells := 2, slots := 4, locals := 29 } : Room).cells ({ frames := 2, cells := 2, slots := 4, locals := 29 } : Room).slots) := by
  refine MetFree.of_bodySF (plainFor_of_name pn_2) hisR ?_
  intro p e s m args below meth c s₁ Bd hml0 hP hK
  obtain ⟨rfl, hZ0, hh, D0⟩ := hP
  have hx := Bd.exec
  have hby := Bd.bytes
  have hml : c.maxLocals = 2 := hml0
  have hZ : Z.Warmed39 (s.setVm s.vm).vm := hZ0
  have hown : (s.setVm s.vm).vm.findClass "java/lang/String" = some m.cls := findClass_of_methodNamed Bd.named
  have hnm := (name_of_methodNamed Bd.named Bd.method).1
  have X0 : Stand p l e ({ frames := 2, cells := 2, slots := 4, locals := 29 } : Room) (s.setVm s.vm) m #[(.ref o), (.ref ca)] below meth c s₁ [] 0 0 := Stand.of_body Bd
  have hS : s.Since s.vm 0 := (State.WarmedH.refl s).since 0
  have hSk : 0 ≤ h0.size := Nat.zero_le _
  have e0 : s₁.heap = h0 := by rw [← hh, Bd.state]; rfl
  have N0 := Fr.nil n0
  have hret := Bd.returns
  have hlk : meth.locks = false := Bd.notSynchronized
  refine own_start (ef_5 m o ca) ?_
  show own_GoE p e below (fun oO vV UU LL => QW_i1E Z o ca kc h0 n0 vV UU.vm UU.heap LL ∧ ReturnedEndW s oO UU LL ({ frames := 2, cells := 2, slots := 4, locals := 29 } : Room).cells ({ frames := 2, cells := 2, slots := 4, locals := 29 } : Room).slots) (s₁.setTop (mkF m 0 #[.val (.ref o), .val (.ref ca)] []))
  refine g_aload_n X0 hx 1 (hb hby d_jdk_42_method_3_0) rfl rfl rfl ?_
  refine g_aload_n X0 hx 2 (hb hby d_jdk_42_method_3_1) rfl rfl rfl ?_
  refine g_iconst X0 hx 3 (hb hby d_jdk_42_method_3_2) (0 : Int32) rfl rfl ?_
  refine g_aload_n X0 hx 4 (hb hby d_jdk_42_method_3_3) rfl rfl rfl ?_
  obtain ⟨cl63, Ar63, q63, S63, P63, H63, G63⟩ := id V_ca
  refine own_arraylength X0 hx hZ e0 Ar63 S63 P63 5 (hb hby d_jdk_42_method_3_4) rfl ?_
  refine g_aconst_null X0 hx 6 (hb hby d_jdk_42_method_3_5) rfl ?_
  refine own_callIW X0 hx hZ hown rfl (hw _ (List.mem_of_getElem? (i := 11) rfl)) (hw _ (List.mem_of_getElem? (i := 12) rfl)) (by decide) (rm_i4E l Z a0 hw [] o ca h0 n0 Z0 E_o F_o_value F_o_coder g_o KZ hH hcw) (hw _ (List.mem_of_getElem? (i := 14) rfl)) (hw _ (List.mem_of_getElem? (i := 6) rfl)) e0 D0 hS hSk 0 (by decide) (by decide) (by decide) (by decide) o [(.ref ca), (.int (0 : Int32)), (.int (0 : Int32)), .null] [] rfl pd_3 rfl 9 rfl (by rw [hml]; rfl) rfl (hb hby d_jdk_42_method_3_6) rfl fun T64 v64 L64 X64 hS hZ hown hQ64 D64 => ?_
  obtain ⟨rfl, Nq64, Kq64⟩ := hQ64
  have N64 := Fr.app N0 Nq64
  have K65 : Keep h0 T64.heap [o] := (Keep.refl h0 [o]).trans Kq64 (allS (Or.inl (List.mem_of_getElem? (i := 0) rfl)) all0)
  have z66 : n0 ≤ T64.heap.size := (Nat.le_trans Z0 Kq64.1)
  show own_GoE p e below _ (T64.setTop (mkF m 9 _ []))
  refine own_retVW X64 hS (Nat.le_refl _) hx hlk hret (hb hby d_jdk_42_method_3_9) ?_ (by decide) (by decide)
  refine ⟨?_, (D64.warm X64.warmed)⟩
  exact ⟨rfl, N64, K65⟩
theorem d_method_2_0 : decode method_2_code 0 = .ok (.iload_n 1, 1) := by decide +kernel
theorem d_method_2_1 : decode method_2_code 1 = .ok (.iconst 1, 1) := by decide +kernel
theorem d_method_2_2 : decode method_2_code 2 = .ok (.iand, 1) := by decide +kernel
theorem d_method_2_3 : decode method_2_code 3 = .ok (.ifCond .ne 14, 3) := by decide +kernel
theorem d_method_2_6 : decode method_2_code 6 = .ok (.new 7, 3) := by decide +kernel
theorem d_method_2_9 : decode method_2_code 9 = .ok (.dup, 1) := by decide +kernel
theorem d_method_2_10 : decode method_2_code 10 = .ok (.iconst 0, 1) := by decide +kernel
theorem d_method_2_11 : decode method_2_code 11 = .ok (.newarray .char, 2) := by decide +kernel
theorem d_method_2_13 : decode method_2_code 13 = .ok (.invokespecial 9, 3) := by decide +kernel
theorem pd_4 : parseMethodDescriptor "([C)V" = some ⟨[(.array .char)], none⟩ := by decide +kernel
theorem d_method_2_16 : decode method_2_code 16 = .ok (.areturn, 1) := by decide +kernel
theorem d_method_2_17 : decode method_2_code 17 = .ok (.new 7, 3) := by decide +kernel
theorem d_method_2_20 : decode method_2_code 20 = .ok (.dup, 1) := by decide +kernel
theorem d_method_2_21 : decode method_2_code 21 = .ok (.iconst 1, 1) := by decide +kernel
theorem d_method_2_22 : decode method_2_code 22 = .ok (.newarray .char, 2) := by decide +kernel
theorem d_method_2_24 : decode method_2_code 24 = .ok (.dup, 1) := by decide +kernel
theorem d_method_2_25 : decode method_2_code 25 = .ok (.iconst 0, 1) := by decide +kernel
theorem d_method_2_26 : decode method_2_code 26 = .ok (.iload_n 0, 1) := by decide +kernel
theorem d_method_2_27 : decode method_2_code 27 = .ok (.sipush 255, 3) := by decide +kernel
theorem d_method_2_30 : decode method_2_code 30 = .ok (.iand, 1) := by decide +kernel
theorem d_method_2_31 : decode method_2_code 31 = .ok (.i2c, 1) := by decide +kernel
theorem d_method_2_32 : decode method_2_code 32 = .ok (.castore, 1) := by decide +kernel
theorem d_method_2_33 : decode method_2_code 33 = .ok (.invokespecial 9, 3) := by decide +kernel
theorem d_method_2_36 : decode method_2_code 36 = .ok (.areturn, 1) := by decide +kernel
theorem ef_6 (m : MethodId) (x0 : Int32) (x1 : Int32) : entryFrame m #[(.int x0), (.int x1)] 2 = mkF m 0 #[.val (.int x0), .val (.int x1)] [] := by first | (simp [entryFrame, mkF, argsToLocals, Value.category]; done) | rfl
theorem pn_3 : plainName "com/example/grantbook/grantbook/model/ClientSecretsHasRotatedPinLaw" = true := by first | (simp [plainName, overriddenIn]; done) | decide +kernel
def Q_drawn (Z : State) (p0 : Int32) (p1 : Int32) (zc : Int32) (h0 : Heap) (n0 : Nat) (v : Option Value) (h : Heap) (L : List Loc) : Prop := ∃ sr : Addr, v = some (.ref sr) ∧ Fr n0 L ∧ Keep h0 h [] ∧ n0 ≤ sr ∧ h0.size ≤ sr
def QW_drawn (Z : State) (p0 : Int32) (p1 : Int32) (zc : Int32) (h0 : Heap) (n0 : Nat) (v : Option Value) (vm : Vm) (h : Heap) (L : List Loc) : Prop := Q_drawn Z p0 p1 zc h0 n0 v h L ∧ own_LD Z vm h
set_option maxRecDepth 65536 in
set_option maxHeartbeats 40000000 in
theorem rm_drawn (l : Launch) (Z : State) (a0 : Array Value) (hw : ∀ d ∈ tables_1, d.before a0 Z = true) (ws : List Jvm.Cond) (p0 : Int32) (p1 : Int32) (zc : Int32) (h0 : Heap) (n0 : Nat) (Z0 : n0 ≤ h0.size) (S_COMPACT_STRINGS : Sta Z h0 "java/lang/String" "COMPACT_STRINGS" "Z" (.int zc)) (hz : ¬ (zc = (0 : Int32))) (KZ : ∀ (b : Addr) (cl : Cell), Z.heap[b]? = some cl → h0[b]? = some cl) (hH : Jvm.Lit.constHeld Z "java/lang/String" 7) (hcw : Jvm.Lit.compactW.before a0 Z = true) :
    MetFree l (⟨"com/example/grantbook/grantbook/model/ClientSecretsHasRotatedPinLaw", "drawn", "(II)Ljava/lang/String;"⟩ : MethodName) (head1 (Jvm.Cond.code (⟨"com/example/grantbook/grantbook/model/ClientSecretsHasRotatedPinLaw", "drawn", "(II)Ljava/lang/String;"⟩ : MethodName) method_2_code 2 (some (.object "java/lang/String")) :: ws) ({ frames := 4, cells := 4, slots := 8, locals := 66 } : Room)) (fun aA U => aA = #[(.int p0), (.int p1)] ∧ Z.Warmed39 U.vm ∧ U.heap = h0 ∧ own_LD Z U.vm h0) (fun _ _ _ _ _ => True) (fun _ U oO U' => ∃ vV LL, oO = .returned vV ∧ (Q_drawn Z p0 p1 zc h0 n0 vV U'.heap LL ∧ own_LD Z U'.vm U'.heap) ∧ ReturnedEndW U oO U' LL ({ frames := 4, cells := 4, slots := 8, locals := 66 } : Room).cells ({ frames := 4, cells := 4, slots := 8, locals := 66 } : Room).slots) := by
  refine MetFree.of_bodySF (plainFor_of_name pn_3) hisR ?_
  intro p e s m args below meth c s₁ Bd hml0 hP hK
  obtain ⟨rfl, hZ0, hh, D0⟩ := hP
  have hx := Bd.exec
  have hby := Bd.bytes
  have hml : c.maxLocals = 2 := hml0
  have hZ : Z.Warmed39 (s.setVm s.vm).vm := hZ0
  have hown : (s.setVm s.vm).vm.findClass "com/example/grantbook/grantbook/model/ClientSecretsHasRotatedPinLaw" = some m.cls := findClass_of_methodNamed Bd.named
  have hnm := (name_of_methodNamed Bd.named Bd.method).1
  have X0 : Stand p l e ({ frames := 4, cells := 4, slots := 8, locals := 66 } : Room) (s.setVm s.vm) m #[(.int p0), (.int p1)] below meth c s₁ [] 0 0 := Stand.of_body Bd
  have hS : s.Since s.vm 0 := (State.WarmedH.refl s).since 0
  have hSk : 0 ≤ h0.size := Nat.zero_le _
  have e0 : s₁.heap = h0 := by rw [← hh, Bd.state]; rfl
  have N0 := Fr.nil n0
  have hret := Bd.returns
  have hlk : meth.locks = false := Bd.notSynchronized
  refine own_start (ef_6 m p0 p1) ?_
  show own_GoE p e below (fun oO vV UU LL => QW_drawn Z p0 p1 zc h0 n0 vV UU.vm UU.heap LL ∧ ReturnedEndW s oO UU LL ({ frames := 4, cells := 4, slots := 8, locals := 66 } : Room).cells ({ frames := 4, cells := 4, slots := 8, locals := 66 } : Room).slots) (s₁.setTop (mkF m 0 #[.val (.int p0), .val (.int p1)] []))
  refine g_iload_n X0 hx 1 (hb hby d_method_2_0) rfl rfl ?_
  refine g_iconst X0 hx 2 (hb hby d_method_2_1) (1 : Int32) rfl rfl ?_
  refine g_iand X0 hx 3 (hb hby d_method_2_2) rfl ?_
  by_cases c67 : (p1 &&& (1 : Int32)) = (0 : Int32)
  · refine g_ifNo X0 hx 6 (hb hby d_method_2_3) (own_i0_ne_f c67) rfl ?_
    refine own_newO X0 hx hZ hown (hw _ (List.mem_of_getElem? (i := 4) rfl)) (hw _ (List.mem_of_getElem? (i := 5) rfl)) (hw _ (List.mem_of_getElem? (i := 6) rfl)) e0 9 (hb hby d_method_2_6) rfl (by decide) (by decide) fun T68 h68 b68 X68 e68 g68 E68 A68 D68 => ?_
    have g_b68 : n0 ≤ b68 := Nat.le_trans Z0 (Nat.le_of_eq g68.symm)
    have sz_b68 : h0.size ≤ b68 := Nat.le_trans (Keep.refl h0 []).1 (Nat.le_of_eq g68.symm)
    have K69 : Keep h0 h68 [] := (Keep.refl h0 []).ext E68
    have z70 : n0 ≤ h68.size := (Nat.le_trans Z0 E68.1)
    have z71 : _ ≤ h68.size := (Nat.le_trans hSk E68.1)
    have f72 : Fld Z h68 b68 "java/lang/String" "value" "[B" .null := D68 (Or.inr (hw _ (List.mem_of_getElem? (i := 20) rfl))) (ty := (.array .byte)) (by decide)
    have f73 : Fld Z h68 b68 "java/lang/String" "coder" "B" (.int (0 : Int32)) := D68 (Or.inr (hw _ (List.mem_of_getElem? (i := 21) rfl))) (ty := .byte) (by decide)
    refine g_dup X68 hx 10 (hb hby d_method_2_9) rfl rfl ?_
    refine g_iconst X68 hx 11 (hb hby d_method_2_10) (0 : Int32) rfl rfl ?_
    refine own_newP X68 hx hZ (hw _ (List.mem_of_getElem? (i := 7) rfl)) e68 13 (hb hby d_method_2_11) rfl (by decide) 0 (by decide) (by decide) (by decide) (by decide) fun T74 h74 k74 b74 X74 e74 g74 E74 A74 => ?_
    have ne75 : b68 ≠ b74 := Nat.ne_of_lt (Nat.lt_of_lt_of_le A68.lt (Nat.le_of_eq g74.symm))
    have g_b74 : n0 ≤ b74 := Nat.le_trans z70 (Nat.le_of_eq g74.symm)
    have sz_b74 : h0.size ≤ b74 := Nat.le_trans K69.1 (Nat.le_of_eq g74.symm)
    have K76 : Keep h0 h74 [] := K69.ext E74
    have z77 : n0 ≤ h74.size := (Nat.le_trans z70 E74.1)
    have z78 : _ ≤ h74.size := (Nat.le_trans z71 E74.1)
    have V74 : Arv Z h74 b74 k74 .char (0 : Int32) [] (.int (0 : Int32)) := (Arv.new A74 (by decide)).pad (pad_rep [] (.int (0 : Int32)) 0)
    have f80 : Exa Z h74 b68 "java/lang/String" := (Exa.ext E74 A68)
    have f81 : Fld Z h74 b68 "java/lang/String" "value" "[B" .null := (Fld.ext E74 f72)
    have f82 : Fld Z h74 b68 "java/lang/String" "coder" "B" (.int (0 : Int32)) := (Fld.ext E74 f73)
    refine own_callIW X74 hx hZ hown rfl (hw _ (List.mem_of_getElem? (i := 8) rfl)) (hw _ (List.mem_of_getElem? (i := 9) rfl)) (by decide) (rm_i1E l Z a0 hw [] b68 b74 k74 h74 n0 z77 f80 f81 f82 V74 g_b68 (own_kz KZ K76) hH hcw) (hw _ (List.mem_of_getElem? (i := 10) rfl)) (hw _ (List.mem_of_getElem? (i := 6) rfl)) e74 (D0.keep K76) hS z78 1 (by decide) (by decide) (by decide) (by decide) b68 [(.ref b74)] [(.ref b68)] rfl pd_4 rfl 16 rfl (by rw [hml]; rfl) rfl (hb hby d_method_2_13) rfl fun T79 v79 L79 X79 hS hZ hown hQ79 D79 => ?_
    obtain ⟨rfl, Nq79, Kq79⟩ := hQ79
    have N79 := Fr.app N0 Nq79
    have K83 : Keep h0 T79.heap [] := K76.trans Kq79 (allS (Or.inr sz_b68) all0)
    have z84 : n0 ≤ T79.heap.size := (Nat.le_trans z77 Kq79.1)
    show own_GoE p e below _ (T79.setTop (mkF m 16 _ [(.ref b68)]))
    refine own_retAW X79 hS (Nat.le_refl _) hx hlk hret rfl rfl (hb hby d_method_2_16) ?_ (by decide) (by decide)
    refine ⟨?_, (D79.warm X79.warmed)⟩
    exact ⟨b68, rfl, N79, K83, g_b68, sz_b68⟩
  · refine g_ifYes X0 hx 17 (hb hby d_method_2_3) (own_i0_ne_t c67) (by decide) (by decide) ?_
    refine own_newO X0 hx hZ hown (hw _ (List.mem_of_getElem? (i := 4) rfl)) (hw _ (List.mem_of_getElem? (i := 5) rfl)) (hw _ (List.mem_of_getElem? (i := 6) rfl)) e0 20 (hb hby d_method_2_17) rfl (by decide) (by decide) fun T85 h85 b85 X85 e85 g85 E85 A85 D85 => ?_
    have g_b85 : n0 ≤ b85 := Nat.le_trans Z0 (Nat.le_of_eq g85.symm)
    have sz_b85 : h0.size ≤ b85 := Nat.le_trans (Keep.refl h0 []).1 (Nat.le_of_eq g85.symm)
    have K86 : Keep h0 h85 [] := (Keep.refl h0 []).ext E85
    have z87 : n0 ≤ h85.size := (Nat.le_trans Z0 E85.1)
    have z88 : _ ≤ h85.size := (Nat.le_trans hSk E85.1)
    have f89 : Fld Z h85 b85 "java/lang/String" "value" "[B" .null := D85 (Or.inr (hw _ (List.mem_of_getElem? (i := 20) rfl))) (ty := (.array .byte)) (by decide)
    have f90 : Fld Z h85 b85 "java/lang/String" "coder" "B" (.int (0 : Int32)) := D85 (Or.inr (hw _ (List.mem_of_getElem? (i := 21) rfl))) (ty := .byte) (by decide)
    refine g_dup X85 hx 21 (hb hby d_method_2_20) rfl rfl ?_
    refine g_iconst X85 hx 22 (hb hby d_method_2_21) (1 : Int32) rfl rfl ?_
    refine own_newP X85 hx hZ (hw _ (List.mem_of_getElem? (i := 7) rfl)) e85 24 (hb hby d_method_2_22) rfl (by decide) 1 (by decide) (by decide) (by decide) (by decide) fun T91 h91 k91 b91 X91 e91 g91 E91 A91 => ?_
    have ne92 : b85 ≠ b91 := Nat.ne_of_lt (Nat.lt_of_lt_of_le A85.lt (Nat.le_of_eq g91.symm))
    have g_b91 : n0 ≤ b91 := Nat.le_trans z87 (Nat.le_of_eq g91.symm)
    have sz_b91 : h0.size ≤ b91 := Nat.le_trans K86.1 (Nat.le_of_eq g91.symm)
    have K93 : Keep h0 h91 [] := K86.ext E91
    have z94 : n0 ≤ h91.size := (Nat.le_trans z87 E91.1)
    have z95 : _ ≤ h91.size := (Nat.le_trans z88 E91.1)
    have V91 : Arv Z h91 b91 k91 .char (1 : Int32) [(.int (0 : Int32))] (.int (0 : Int32)) := (Arv.new A91 (by decide)).pad (pad_rep [] (.int (0 : Int32)) 1)
    refine g_dup X91 hx 25 (hb hby d_method_2_24) rfl rfl ?_
    refine g_iconst X91 hx 26 (hb hby d_method_2_25) (0 : Int32) rfl rfl ?_
    refine g_iload_n X91 hx 27 (hb hby d_method_2_26) rfl rfl ?_
    refine g_sipush X91 hx 30 (hb hby d_method_2_27) (255 : Int32) rfl rfl ?_
    refine g_iand X91 hx 31 (hb hby d_method_2_30) rfl ?_
    refine g_i2c X91 hx 32 (hb hby d_method_2_31) rfl ?_
    obtain ⟨xc, q_xc⟩ : ∃ z, z = ((p0 &&& (255 : Int32)).toUInt32.toUInt16.toUInt32.toInt32) := ⟨_, rfl⟩
    have h_xc := own_c8 p0 q_xc
    rw [← q_xc]
    obtain ⟨cl96, Ar96, q96, S96, P96, H96, G96⟩ := id V91
    have hin96 := inb_of (j := (0 : Int32)) S96 ⟨by decide, by decide⟩
    refine own_stC X91 hx hZ e91 Ar96 hin96 33 (hb hby d_method_2_32) rfl fun T96 h96 X96 e96 W96 => ?_
    rw [show nar .char xc = xc from h_xc.2] at W96
    have V96 : Arv Z h96 b91 k91 .char (1 : Int32) [(.int xc)] (.int (0 : Int32)) := Arv.set Ar96 q96 S96 P96 H96 G96 (v := (.int xc)) (by rw [← (h_xc.2 : nar .char xc = xc)]; exact fits_nar_char _) W96 0 rfl (Nat.le_of_ble_eq_true rfl)
    have N96 := Fr.snoc X96 N0 g_b91
    have z97 : n0 ≤ h96.size := (Nat.le_trans z94 (Keep.of_wr W96).1)
    have z98 : _ ≤ h96.size := (Nat.le_trans z95 (Keep.of_wr W96).1)
    have K99 : Keep h0 h96 [] := K93.wr W96 (Or.inr sz_b91)
    have f101 : Exa Z h96 b85 "java/lang/String" := (Exa.wr W96 (Exa.ext E91 A85))
    have f102 : Fld Z h96 b85 "java/lang/String" "value" "[B" .null := (Fld.other W96 (Fld.ext E91 f89) (Or.inl ne92))
    have f103 : Fld Z h96 b85 "java/lang/String" "coder" "B" (.int (0 : Int32)) := (Fld.other W96 (Fld.ext E91 f90) (Or.inl ne92))
    have f104 : Sta Z h96 "java/lang/String" "COMPACT_STRINGS" "Z" (.int zc) := (own_Sta_keep K99 S_COMPACT_STRINGS all0)
    refine own_callI X96 hx hZ hown rfl (hw _ (List.mem_of_getElem? (i := 8) rfl)) (hw _ (List.mem_of_getElem? (i := 9) rfl)) (by decide) (rm_i1N l Z a0 hw [] b85 b91 k91 xc zc h96 n0 z97 f101 f102 f103 V96 f104 g_b85 h_xc.1 hz) (hw _ (List.mem_of_getElem? (i := 10) rfl)) (hw _ (List.mem_of_getElem? (i := 6) rfl)) e96 1 (by decide) (by decide) (by decide) (by decide) b85 [(.ref b91)] [(.ref b85)] rfl pd_4 rfl 36 rfl (by rw [hml]; rfl) rfl (hb hby d_method_2_33) rfl fun T100 v100 L100 X100 hQ100 => ?_
    obtain ⟨rfl, Nq100, Kq100⟩ := hQ100
    have N100 := Fr.app N96 Nq100
    have K105 : Keep h0 T100.heap [] := K99.trans Kq100 (allS (Or.inr sz_b85) all0)
    have z106 : n0 ≤ T100.heap.size := (Nat.le_trans z97 Kq100.1)
    have z107 : _ ≤ T100.heap.size := (Nat.le_trans z98 Kq100.1)
    show own_GoE p e below _ (T100.setTop (mkF m 36 _ [(.ref b85)]))
    refine own_retAW X100 hS z107 hx hlk hret rfl rfl (hb hby d_method_2_36) ?_ (by decide) (by decide)
    refine ⟨?_, ((D0.keep K105).warm X100.warmed)⟩
    exact ⟨b85, rfl, N100, K105, g_b85, sz_b85⟩
theorem d_jdk_43_method_3_0 : decode jdk_43_method_3_code 0 = .ok (.iload_n 0, 1) := by decide +kernel
theorem d_jdk_43_method_3_1 : decode jdk_43_method_3_code 1 = .ok (.sipush 255, 3) := by decide +kernel
theorem d_jdk_43_method_3_4 : decode jdk_43_method_3_code 4 = .ok (.if_icmp .gt 7, 3) := by decide +kernel
theorem d_jdk_43_method_3_7 : decode jdk_43_method_3_code 7 = .ok (.iconst 1, 1) := by decide +kernel
theorem d_jdk_43_method_3_8 : decode jdk_43_method_3_code 8 = .ok (.goto 4, 3) := by decide +kernel
theorem d_jdk_43_method_3_12 : decode jdk_43_method_3_code 12 = .ok (.ireturn, 1) := by decide +kernel
theorem ef_7 (m : MethodId) (x0 : Int32) : entryFrame m #[(.int x0)] 1 = mkF m 0 #[.val (.int x0)] [] := by first | (simp [entryFrame, mkF, argsToLocals, Value.category]; done) | rfl
theorem pn_4 : plainName "java/lang/StringLatin1" = true := by first | (simp [plainName, overriddenIn]; done) | decide +kernel
def Q_ce (Z : State) (xc : Int32) (h0 : Heap) (n0 : Nat) (v : Option Value) (h : Heap) (L : List Loc) : Prop := v = some (.int (1 : Int32)) ∧ Fr n0 L ∧ h = h0
set_option maxRecDepth 65536 in
set_option maxHeartbeats 40000000 in
theorem rm_ce (l : Launch) (Z : State) (a0 : Array Value) (hw : ∀ d ∈ tables_1, d.before a0 Z = true) (ws : List Jvm.Cond) (xc : Int32) (h0 : Heap) (n0 : Nat) (Z0 : n0 ≤ h0.size) (hx8 : ¬ ((255 : Int32) < xc)) :
    MetFree l (⟨"java/lang/StringLatin1", "canEncode", "(C)Z"⟩ : MethodName) (head1 (Jvm.Cond.code (⟨"java/lang/StringLatin1", "canEncode", "(C)Z"⟩ : MethodName) jdk_43_method_3_code 1 (some .boolean) :: ws) ({ frames := 0, cells := 0, slots := 0, locals := 0 } : Room)) (fun aA U => aA = #[(.int xc)] ∧ Z.Warmed39 U.vm ∧ U.heap = h0) (fun _ _ _ _ _ => True) (fun _ U oO U' => ∃ vV LL, oO = .returned vV ∧ Q_ce Z xc h0 n0 vV U'.heap LL ∧ FrameEnd U oO U' LL ({ frames := 0, cells := 0, slots := 0, locals := 0 } : Room).cells ({ frames := 0, cells := 0, slots := 0, locals := 0 } : Room).slots) := by
  refine MetFree.of_bodySF (plainFor_of_name pn_4) hisR ?_
  intro p e s m args below meth c s₁ Bd hml0 hP hK
  obtain ⟨rfl, hZ, hh⟩ := hP
  have hx := Bd.exec
  have hby := Bd.bytes
  have hml : c.maxLocals = 1 := hml0
  have hown : s.vm.findClass "java/lang/StringLatin1" = some m.cls := findClass_of_methodNamed Bd.named
  have hnm := (name_of_methodNamed Bd.named Bd.method).1
  have X0 : Stand p l e ({ frames := 0, cells := 0, slots := 0, locals := 0 } : Room) s m #[(.int xc)] below meth c s₁ [] 0 0 := Stand.of_body Bd
  have e0 : s₁.heap = h0 := by rw [← hh, Bd.state]; rfl
  have N0 := Fr.nil n0
  have hret := Bd.returns
  have hlk : meth.locks = false := Bd.notSynchronized
  refine own_start (ef_7 m xc) ?_
  show own_Go p e below s (Q_ce Z xc h0 n0) ({ frames := 0, cells := 0, slots := 0, locals := 0 } : Room).cells ({ frames := 0, cells := 0, slots := 0, locals := 0 } : Room).slots (s₁.setTop (mkF m 0 #[.val (.int xc)] []))
  refine g_iload_n X0 hx 1 (hb hby d_jdk_43_method_3_0) rfl rfl ?_
  refine g_sipush X0 hx 4 (hb hby d_jdk_43_method_3_1) (255 : Int32) rfl rfl ?_
  refine g_icmpNo X0 hx 7 (hb hby d_jdk_43_method_3_4) (own_ii_gt_f hx8) rfl ?_
  refine g_iconst X0 hx 8 (hb hby d_jdk_43_method_3_7) (1 : Int32) rfl rfl ?_
  refine g_goto X0 hx 12 (hb hby d_jdk_43_method_3_8) (by decide) (by decide) ?_
  refine own_retN X0 hx hlk (t := .boolean) hret (by simp) (hb hby d_jdk_43_method_3_12) ?_ (by decide) (by decide)
  rw [e0]
  exact ⟨(own_rb rfl), N0, rfl⟩
theorem d_jdk_43_method_46_0 : decode jdk_43_method_46_code 0 = .ok (.iconst 1, 1) := by decide +kernel
theorem d_jdk_43_method_46_1 : decode jdk_43_method_46_code 1 = .ok (.newarray .byte, 2) := by decide +kernel
theorem d_jdk_43_method_46_3 : decode jdk_43_method_46_code 3 = .ok (.dup, 1) := by decide +kernel
theorem d_jdk_43_method_46_4 : decode jdk_43_method_46_code 4 = .ok (.iconst 0, 1) := by decide +kernel
theorem d_jdk_43_method_46_5 : decode jdk_43_method_46_code 5 = .ok (.iload_n 0, 1) := by decide +kernel
theorem d_jdk_43_method_46_6 : decode jdk_43_method_46_code 6 = .ok (.i2b, 1) := by decide +kernel
theorem d_jdk_43_method_46_7 : decode jdk_43_method_46_code 7 = .ok (.bastore, 1) := by decide +kernel
theorem d_jdk_43_method_46_8 : decode jdk_43_method_46_code 8 = .ok (.areturn, 1) := by decide +kernel
def Q_tb (Z : State) (xc : Int32) (h0 : Heap) (n0 : Nat) (v : Option Value) (h : Heap) (L : List Loc) : Prop := ∃ bb : Addr, v = some (.ref bb) ∧ Fr n0 L ∧ Keep h0 h [] ∧ n0 ≤ bb ∧ h0.size ≤ bb
set_option maxRecDepth 65536 in
set_option maxHeartbeats 40000000 in
theorem rm_tb (l : Launch) (Z : State) (a0 : Array Value) (hw : ∀ d ∈ tables_1, d.before a0 Z = true) (ws : List Jvm.Cond) (xc : Int32) (h0 : Heap) (n0 : Nat) (Z0 : n0 ≤ h0.size) :
    MetFree l (⟨"java/lang/StringLatin1", "toBytes", "(C)[B"⟩ : MethodName) (head1 (Jvm.Cond.code (⟨"java/lang/StringLatin1", "toBytes", "(C)[B"⟩ : MethodName) jdk_43_method_46_code 1 (some (.array .byte)) :: ws) ({ frames := 0, cells := 1, slots := 1, locals := 0 } : Room)) (fun aA U => aA = #[(.int xc)] ∧ Z.Warmed39 U.vm ∧ U.heap = h0) (fun _ _ _ _ _ => True) (fun _ U oO U' => ∃ vV LL, oO = .returned vV ∧ Q_tb Z xc h0 n0 vV U'.heap LL ∧ FrameEnd U oO U' LL ({ frames := 0, cells := 1, slots := 1, locals := 0 } : Room).cells ({ frames := 0, cells := 1, slots := 1, locals := 0 } : Room).slots) := by
  refine MetFree.of_bodySF (plainFor_of_name pn_4) hisR ?_
  intro p e s m args below meth c s₁ Bd hml0 hP hK
  obtain ⟨rfl, hZ, hh⟩ := hP
  have hx := Bd.exec
  have hby := Bd.bytes
  have hml : c.maxLocals = 1 := hml0
  have hown : s.vm.findClass "java/lang/StringLatin1" = some m.cls := findClass_of_methodNamed Bd.named
  have hnm := (name_of_methodNamed Bd.named Bd.method).1
  have X0 : Stand p l e ({ frames := 0, cells := 1, slots := 1, locals := 0 } : Room) s m #[(.int xc)] below meth c s₁ [] 0 0 := Stand.of_body Bd
  have e0 : s₁.heap = h0 := by rw [← hh, Bd.state]; rfl
  have N0 := Fr.nil n0
  have hret := Bd.returns
  have hlk : meth.locks = false := Bd.notSynchronized
  refine own_start (ef_7 m xc) ?_
  show own_Go p e below s (Q_tb Z xc h0 n0) ({ frames := 0, cells := 1, slots := 1, locals := 0 } : Room).cells ({ frames := 0, cells := 1, slots := 1, locals := 0 } : Room).slots (s₁.setTop (mkF m 0 #[.val (.int xc)] []))
  refine g_iconst X0 hx 1 (hb hby d_jdk_43_method_46_0) (1 : Int32) rfl rfl ?_
  refine own_newP X0 hx hZ (hw _ (List.mem_of_getElem? (i := 19) rfl)) e0 3 (hb hby d_jdk_43_method_46_1) rfl (by decide) 1 (by decide) (by decide) (by decide) (by decide) fun T109 h109 k109 b109 X109 e109 g109 E109 A109 => ?_
  have g_b109 : n0 ≤ b109 := Nat.le_trans Z0 (Nat.le_of_eq g109.symm)
  have sz_b109 : h0.size ≤ b109 := Nat.le_trans (Keep.refl h0 []).1 (Nat.le_of_eq g109.symm)
  have K110 : Keep h0 h109 [] := (Keep.refl h0 []).ext E109
  have z111 : n0 ≤ h109.size := (Nat.le_trans Z0 E109.1)
  have V109 : Arv Z h109 b109 k109 .byte (1 : Int32) [(.int (0 : Int32))] (.int (0 : Int32)) := (Arv.new A109 (by decide)).pad (pad_rep [] (.int (0 : Int32)) 1)
  refine g_dup X109 hx 4 (hb hby d_jdk_43_method_46_3) rfl rfl ?_
  refine g_iconst X109 hx 5 (hb hby d_jdk_43_method_46_4) (0 : Int32) rfl rfl ?_
  refine g_iload_n X109 hx 6 (hb hby d_jdk_43_method_46_5) rfl rfl ?_
  refine g_i2b X109 hx 7 (hb hby d_jdk_43_method_46_6) rfl ?_
  obtain ⟨cl112, Ar112, q112, S112, P112, H112, G112⟩ := id V109
  have hin112 := inb_of (j := (0 : Int32)) S112 ⟨by decide, by decide⟩
  refine own_stB X109 hx hZ e109 Ar112 hin112 8 (hb hby d_jdk_43_method_46_7) rfl fun T112 h112 X112 e112 W112 => ?_
  have V112 : Arv Z h112 b109 k109 .byte (1 : Int32) [(.int (nar .byte (xc.toInt8.toInt32)))] (.int (0 : Int32)) := Arv.set Ar112 q112 S112 P112 H112 G112 (v := (.int (nar .byte (xc.toInt8.toInt32)))) (fits_nar_byte _) W112 0 rfl (Nat.le_of_ble_eq_true rfl)
  have N112 := Fr.snoc X112 N0 g_b109
  have z113 : n0 ≤ h112.size := (Nat.le_trans z111 (Keep.of_wr W112).1)
  have K114 : Keep h0 h112 [] := K110.wr W112 (Or.inr sz_b109)
  refine own_retA X112 hx hlk hret rfl rfl (hb hby d_jdk_43_method_46_8) ?_ (by decide) (by decide)
  rw [e112]
  exact ⟨b109, rfl, N112, K114, g_b109, sz_b109⟩
theorem d_jdk_42_method_151_0 : decode jdk_42_method_151_code 0 = .ok (.aload_n 0, 1) := by decide +kernel
theorem d_jdk_42_method_151_1 : decode jdk_42_method_151_code 1 = .ok (.invokespecial 1, 3) := by decide +kernel
theorem d_jdk_42_method_151_4 : decode jdk_42_method_151_code 4 = .ok (.aload_n 0, 1) := by decide +kernel
theorem d_jdk_42_method_151_5 : decode jdk_42_method_151_code 5 = .ok (.aload_n 1, 1) := by decide +kernel
theorem d_jdk_42_method_151_6 : decode jdk_42_method_151_code 6 = .ok (.putfield 9, 3) := by decide +kernel
theorem d_jdk_42_method_151_9 : decode jdk_42_method_151_code 9 = .ok (.aload_n 0, 1) := by decide +kernel
theorem d_jdk_42_method_151_10 : decode jdk_42_method_151_code 10 = .ok (.iload_n 2, 1) := by decide +kernel
theorem d_jdk_42_method_151_11 : decode jdk_42_method_151_code 11 = .ok (.putfield 15, 3) := by decide +kernel
theorem d_jdk_42_method_151_14 : decode jdk_42_method_151_code 14 = .ok (.return_, 1) := by decide +kernel
theorem ef_8 (m : MethodId) (x0 : Addr) (x1 : Addr) (x2 : Int32) : entryFrame m #[(.ref x0), (.ref x1), (.int x2)] 3 = mkF m 0 #[.val (.ref x0), .val (.ref x1), .val (.int x2)] [] := by first | (simp [entryFrame, mkF, argsToLocals, Value.category]; done) | rfl
def Q_ib (Z : State) (o : Addr) (bb : Addr) (h0 : Heap) (n0 : Nat) (v : Option Value) (h : Heap) (L : List Loc) : Prop := v = none ∧ Fr n0 L ∧ Keep h0 h [o]
set_option maxRecDepth 65536 in
set_option maxHeartbeats 40000000 in
theorem rm_ib (l : Launch) (Z : State) (a0 : Array Value) (hw : ∀ d ∈ tables_1, d.before a0 Z = true) (ws : List Jvm.Cond) (o : Addr) (bb : Addr) (h0 : Heap) (n0 : Nat) (Z0 : n0 ≤ h0.size) (E_o : Exa Z h0 o "java/lang/String") (F_o_value : Fld Z h0 o "java/lang/String" "value" "[B" .null) (F_o_coder : Fld Z h0 o "java/lang/String" "coder" "B" (.int (0 : Int32))) (g_o : n0 ≤ o) :
    MetFree l (⟨"java/lang/String", "<init>", "([BB)V"⟩ : MethodName) (head1 (Jvm.Cond.code (⟨"java/lang/String", "<init>", "([BB)V"⟩ : MethodName) jdk_42_method_151_code 3 none :: ws) ({ frames := 1, cells := 0, slots := 0, locals := 12 } : Room)) (fun aA U => aA = #[(.ref o), (.ref bb), (.int (0 : Int32))] ∧ Z.Warmed39 U.vm ∧ U.heap = h0) (fun _ _ _ _ _ => True) (fun _ U oO U' => ∃ vV LL, oO = .returned vV ∧ Q_ib Z o bb h0 n0 vV U'.heap LL ∧ FrameEnd U oO U' LL ({ frames := 1, cells := 0, slots := 0, locals := 12 } : Room).cells ({ frames := 1, cells := 0, slots := 0, locals := 12 } : Room).slots) := by
  refine MetFree.of_bodySF (plainFor_of_name pn_2) hisR ?_
  intro p e s m args below meth c s₁ Bd hml0 hP hK
  obtain ⟨rfl, hZ, hh⟩ := hP
  have hx := Bd.exec
  have hby := Bd.bytes
  have hml : c.maxLocals = 3 := hml0
  have hown : s.vm.findClass "java/lang/String" = some m.cls := findClass_of_methodNamed Bd.named
  have hnm := (name_of_methodNamed Bd.named Bd.method).1
  have X0 : Stand p l e ({ frames := 1, cells := 0, slots := 0, locals := 12 } : Room) s m #[(.ref o), (.ref bb), (.int (0 : Int32))] below meth c s₁ [] 0 0 := Stand.of_body Bd
  have e0 : s₁.heap = h0 := by rw [← hh, Bd.state]; rfl
  have N0 := Fr.nil n0
  have hret := Bd.returns
  have hlk : meth.locks = false := Bd.notSynchronized
  refine own_start (ef_8 m o bb (0 : Int32)) ?_
  show own_Go p e below s (Q_ib Z o bb h0 n0) ({ frames := 1, cells := 0, slots := 0, locals := 12 } : Room).cells ({ frames := 1, cells := 0, slots := 0, locals := 12 } : Room).slots (s₁.setTop (mkF m 0 #[.val (.ref o), .val (.ref bb), .val (.int (0 : Int32))] []))
  refine g_aload_n X0 hx 1 (hb hby d_jdk_42_method_151_0) rfl rfl rfl ?_
  refine own_initO X0 hx hZ hown (hw _ (List.mem_of_getElem? (i := 15) rfl)) (hw _ (List.mem_of_getElem? (i := 16) rfl)) (hw _ (List.mem_of_getElem? (i := 17) rfl)) e0 4 (by rw [hml]; rfl) (hb hby d_jdk_42_method_151_1) rfl (by decide) 0 rfl (by decide) fun T115 X115 e115 => ?_
  refine g_aload_n X115 hx 5 (hb hby d_jdk_42_method_151_4) rfl rfl rfl ?_
  refine g_aload_n X115 hx 6 (hb hby d_jdk_42_method_151_5) rfl rfl rfl ?_
  refine own_putF X115 hx hZ hown (host := "") (Or.inl (hw _ (List.mem_of_getElem? (i := 24) rfl))) Via.refl e115 F_o_value E_o (Or.inr ⟨(hw _ (List.mem_of_getElem? (i := 20) rfl)), rfl, hnm⟩) (hw _ (List.mem_of_getElem? (i := 5) rfl)) (ty := (.array .byte)) (by decide) rfl rfl 9 (hb hby d_jdk_42_method_151_6) rfl fun T116 h116 X116 e116 W116 => ?_
  have f116 : Fld Z h116 o "java/lang/String" "value" "[B" (.ref bb) := Fld.same W116 F_o_value
  have N116 := Fr.snoc X116 N0 g_o
  have z117 : n0 ≤ h116.size := (Nat.le_trans Z0 (Keep.of_wr W116).1)
  have K118 : Keep h0 h116 [o] := (Keep.refl h0 [o]).wr W116 (Or.inl (List.mem_of_getElem? (i := 0) rfl))
  refine g_aload_n X116 hx 10 (hb hby d_jdk_42_method_151_9) rfl rfl rfl ?_
  refine g_iload_n X116 hx 11 (hb hby d_jdk_42_method_151_10) rfl rfl ?_
  have f119 : Exa Z h116 o "java/lang/String" := (Exa.wr W116 E_o)
  have f120 : Fld Z h116 o "java/lang/String" "coder" "B" (.int (0 : Int32)) := (Fld.other W116 F_o_coder (Or.inr (slot_ne (Or.inr (hw _ (List.mem_of_getElem? (i := 21) rfl))) (Or.inr (hw _ (List.mem_of_getElem? (i := 20) rfl))) (by decide) (t := .byte) (t' := (.array .byte)) (by decide) (by decide))))
  refine own_putFN X116 hx hZ hown (hw _ (List.mem_of_getElem? (i := 25) rfl)) Via.refl e116 (.int (0 : Int32)) f120 f119 (Or.inr ⟨(hw _ (List.mem_of_getElem? (i := 21) rfl)), rfl, hnm⟩) (hw _ (List.mem_of_getElem? (i := 5) rfl)) (ty := .byte) (by decide) rfl rfl 14 (hb hby d_jdk_42_method_151_11) rfl fun T121 h121 X121 e121 W121 => ?_
  have f121 : Fld Z h121 o "java/lang/String" "coder" "B" (.int (0 : Int32)) := Fld.same W121 f120
  have N121 := Fr.snoc X121 N116 g_o
  have z122 : n0 ≤ h121.size := (Nat.le_trans z117 (Keep.of_wr W121).1)
  have K123 : Keep h0 h121 [o] := K118.wr W121 (Or.inl (List.mem_of_getElem? (i := 0) rfl))
  refine own_retV X121 hx hlk hret (hb hby d_jdk_42_method_151_14) ?_ (by decide) (by decide)
  rw [e121]
  exact ⟨rfl, N121, K123⟩
theorem d_jdk_42_method_139_0 : decode jdk_42_method_139_code 0 = .ok (.getstatic 38, 3) := by decide +kernel
theorem d_jdk_42_method_139_3 : decode jdk_42_method_139_code 3 = .ok (.ifCond .eq 23, 3) := by decide +kernel
theorem d_jdk_42_method_139_6 : decode jdk_42_method_139_code 6 = .ok (.iload_n 0, 1) := by decide +kernel
theorem d_jdk_42_method_139_7 : decode jdk_42_method_139_code 7 = .ok (.invokestatic 1015, 3) := by decide +kernel
theorem pd_5 : parseMethodDescriptor "(C)Z" = some ⟨[.char], some .boolean⟩ := by decide +kernel
theorem d_jdk_42_method_139_10 : decode jdk_42_method_139_code 10 = .ok (.ifCond .eq 16, 3) := by decide +kernel
theorem d_jdk_42_method_139_13 : decode jdk_42_method_139_code 13 = .ok (.new 10, 3) := by decide +kernel
theorem d_jdk_42_method_139_16 : decode jdk_42_method_139_code 16 = .ok (.dup, 1) := by decide +kernel
theorem d_jdk_42_method_139_17 : decode jdk_42_method_139_code 17 = .ok (.iload_n 0, 1) := by decide +kernel
theorem d_jdk_42_method_139_18 : decode jdk_42_method_139_code 18 = .ok (.invokestatic 1018, 3) := by decide +kernel
theorem pd_6 : parseMethodDescriptor "(C)[B" = some ⟨[.char], some (.array .byte)⟩ := by decide +kernel
theorem d_jdk_42_method_139_21 : decode jdk_42_method_139_code 21 = .ok (.iconst 0, 1) := by decide +kernel
theorem d_jdk_42_method_139_22 : decode jdk_42_method_139_code 22 = .ok (.invokespecial 209, 3) := by decide +kernel
theorem pd_7 : parseMethodDescriptor "([BB)V" = some ⟨[(.array .byte), .byte], none⟩ := by decide +kernel
theorem d_jdk_42_method_139_25 : decode jdk_42_method_139_code 25 = .ok (.areturn, 1) := by decide +kernel
def Q_vo (Z : State) (xc : Int32) (zc : Int32) (h0 : Heap) (n0 : Nat) (v : Option Value) (h : Heap) (L : List Loc) : Prop := ∃ sr : Addr, v = some (.ref sr) ∧ Fr n0 L ∧ Keep h0 h [] ∧ n0 ≤ sr ∧ h0.size ≤ sr
set_option maxRecDepth 65536 in
set_option maxHeartbeats 40000000 in
theorem rm_vo (l : Launch) (Z : State) (a0 : Array Value) (hw : ∀ d ∈ tables_1, d.before a0 Z = true) (ws : List Jvm.Cond) (xc : Int32) (zc : Int32) (h0 : Heap) (n0 : Nat) (Z0 : n0 ≤ h0.size) (S_COMPACT_STRINGS : Sta Z h0 "java/lang/String" "COMPACT_STRINGS" "Z" (.int zc)) (hx8 : ¬ ((255 : Int32) < xc)) (hz : ¬ (zc = (0 : Int32))) :
    MetFree l (⟨"java/lang/String", "valueOf", "(C)Ljava/lang/String;"⟩ : MethodName) (head1 (Jvm.Cond.code (⟨"java/lang/String", "valueOf", "(C)Ljava/lang/String;"⟩ : MethodName) jdk_42_method_139_code 1 (some (.object "java/lang/String")) :: ws) ({ frames := 2, cells := 2, slots := 5, locals := 27 } : Room)) (fun aA U => aA = #[(.int xc)] ∧ Z.Warmed39 U.vm ∧ U.heap = h0) (fun _ _ _ _ _ => True) (fun _ U oO U' => ∃ vV LL, oO = .returned vV ∧ Q_vo Z xc zc h0 n0 vV U'.heap LL ∧ FrameEnd U oO U' LL ({ frames := 2, cells := 2, slots := 5, locals := 27 } : Room).cells ({ frames := 2, cells := 2, slots := 5, locals := 27 } : Room).slots) := by
  refine MetFree.of_bodySF (plainFor_of_name pn_2) hisR ?_
  intro p e s m args below meth c s₁ Bd hml0 hP hK
  obtain ⟨rfl, hZ, hh⟩ := hP
  have hx := Bd.exec
  have hby := Bd.bytes
  have hml : c.maxLocals = 1 := hml0
  have hown : s.vm.findClass "java/lang/String" = some m.cls := findClass_of_methodNamed Bd.named
  have hnm := (name_of_methodNamed Bd.named Bd.method).1
  have X0 : Stand p l e ({ frames := 2, cells := 2, slots := 5, locals := 27 } : Room) s m #[(.int xc)] below meth c s₁ [] 0 0 := Stand.of_body Bd
  have e0 : s₁.heap = h0 := by rw [← hh, Bd.state]; rfl
  have N0 := Fr.nil n0
  have hret := Bd.returns
  have hlk : meth.locks = false := Bd.notSynchronized
  refine own_start (ef_7 m xc) ?_
  show own_Go p e below s (Q_vo Z xc zc h0 n0) ({ frames := 2, cells := 2, slots := 5, locals := 27 } : Room).cells ({ frames := 2, cells := 2, slots := 5, locals := 27 } : Room).slots (s₁.setTop (mkF m 0 #[.val (.int xc)] []))
  refine own_getS X0 hx hZ hown (host := "") (Or.inl (hw _ (List.mem_of_getElem? (i := 60) rfl))) Via.refl e0 S_COMPACT_STRINGS 3 (hb hby d_jdk_42_method_139_0) rfl fun T124 X124 e124 => ?_
  refine g_ifNo X124 hx 6 (hb hby d_jdk_42_method_139_3) (own_i0_eq_f hz) rfl ?_
  refine g_iload_n X124 hx 7 (hb hby d_jdk_42_method_139_6) rfl rfl ?_
  refine own_callS X124 hx hZ hown (hw _ (List.mem_of_getElem? (i := 61) rfl)) (hw _ (List.mem_of_getElem? (i := 62) rfl)) (by decide) (rm_ce l Z a0 hw [] xc h0 n0 Z0 hx8) (hw _ (List.mem_of_getElem? (i := 64) rfl)) (hw _ (List.mem_of_getElem? (i := 63) rfl)) e124 0 (by decide) (by decide) (by decide) (by decide) [(.int xc)] [] rfl pd_5 rfl 10 rfl (by rw [hml]; rfl) rfl (hb hby d_jdk_42_method_139_7) rfl fun T126 v126 L126 X126 hQ126 => ?_
  obtain ⟨rfl, Nq126, e126⟩ := hQ126
  have N126 := Fr.app N0 Nq126
  show own_GoE p e below _ (T126.setTop (mkF m 10 _ [(.int (1 : Int32))]))
  refine g_ifNo X126 hx 13 (hb hby d_jdk_42_method_139_10) (own_i0_eq_f (by decide)) rfl ?_
  refine own_newO X126 hx hZ hown (hw _ (List.mem_of_getElem? (i := 65) rfl)) (hw _ (List.mem_of_getElem? (i := 5) rfl)) (hw _ (List.mem_of_getElem? (i := 6) rfl)) e126 16 (hb hby d_jdk_42_method_139_13) rfl (by decide) (by decide) fun T127 h127 b127 X127 e127 g127 E127 A127 D127 => ?_
  have g_b127 : n0 ≤ b127 := Nat.le_trans Z0 (Nat.le_of_eq g127.symm)
  have sz_b127 : h0.size ≤ b127 := Nat.le_trans (Keep.refl h0 []).1 (Nat.le_of_eq g127.symm)
  have K128 : Keep h0 h127 [] := (Keep.refl h0 []).ext E127
  have z129 : n0 ≤ h127.size := (Nat.le_trans Z0 E127.1)
  have f130 : Fld Z h127 b127 "java/lang/String" "value" "[B" .null := D127 (Or.inr (hw _ (List.mem_of_getElem? (i := 20) rfl))) (ty := (.array .byte)) (by decide)
  have f131 : Fld Z h127 b127 "java/lang/String" "coder" "B" (.int (0 : Int32)) := D127 (Or.inr (hw _ (List.mem_of_getElem? (i := 21) rfl))) (ty := .byte) (by decide)
  refine g_dup X127 hx 17 (hb hby d_jdk_42_method_139_16) rfl rfl ?_
  refine g_iload_n X127 hx 18 (hb hby d_jdk_42_method_139_17) rfl rfl ?_
  refine own_callS X127 hx hZ hown (hw _ (List.mem_of_getElem? (i := 66) rfl)) (hw _ (List.mem_of_getElem? (i := 67) rfl)) (by decide) (rm_tb l Z a0 hw [] xc h127 n0 z129 ) (hw _ (List.mem_of_getElem? (i := 68) rfl)) (hw _ (List.mem_of_getElem? (i := 63) rfl)) e127 2 (by decide) (by decide) (by decide) (by decide) [(.int xc)] [(.ref b127), (.ref b127)] rfl pd_6 rfl 21 rfl (by rw [hml]; rfl) rfl (hb hby d_jdk_42_method_139_18) rfl fun T132 v132 L132 X132 hQ132 => ?_
  obtain ⟨bb_132, rfl, Nq132, Kq132, g_bb_132, sz_bb_132⟩ := hQ132
  have ne133 : b127 ≠ bb_132 := Nat.ne_of_lt (Nat.lt_of_lt_of_le A127.lt sz_bb_132)
  have N132 := Fr.app N126 Nq132
  have sq_bb_132 : h0.size ≤ bb_132 := Nat.le_trans K128.1 sz_bb_132
  have K134 : Keep h0 T132.heap [] := K128.trans Kq132 all0
  have z135 : n0 ≤ T132.heap.size := (Nat.le_trans z129 Kq132.1)
  show own_GoE p e below _ (T132.setTop (mkF m 21 _ [(.ref bb_132), (.ref b127), (.ref b127)]))
  refine g_iconst X132 hx 22 (hb hby d_jdk_42_method_139_21) (0 : Int32) rfl rfl ?_
  have f137 : Exa Z T132.heap b127 "java/lang/String" := (A127.keep Kq132)
  have f138 : Fld Z T132.heap b127 "java/lang/String" "value" "[B" .null := (f130.keep Kq132 nin0)
  have f139 : Fld Z T132.heap b127 "java/lang/String" "coder" "B" (.int (0 : Int32)) := (f131.keep Kq132 nin0)
  refine own_callI X132 hx hZ hown rfl (hw _ (List.mem_of_getElem? (i := 69) rfl)) (hw _ (List.mem_of_getElem? (i := 70) rfl)) (by decide) (rm_ib l Z a0 hw [] b127 bb_132 T132.heap n0 z135 f137 f138 f139 g_b127) (hw _ (List.mem_of_getElem? (i := 71) rfl)) (hw _ (List.mem_of_getElem? (i := 6) rfl)) rfl 1 (by decide) (by decide) (by decide) (by decide) b127 [(.ref bb_132), (.int (0 : Int32))] [(.ref b127)] rfl pd_7 rfl 25 rfl (by rw [hml]; rfl) rfl (hb hby d_jdk_42_method_139_22) rfl fun T136 v136 L136 X136 hQ136 => ?_
  obtain ⟨rfl, Nq136, Kq136⟩ := hQ136
  have N136 := Fr.app N132 Nq136
  have K140 : Keep h0 T136.heap [] := K134.trans Kq136 (allS (Or.inr sz_b127) all0)
  have z141 : n0 ≤ T136.heap.size := (Nat.le_trans z135 Kq136.1)
  show own_GoE p e below _ (T136.setTop (mkF m 25 _ [(.ref b127)]))
  refine own_retA X136 hx hlk hret rfl rfl (hb hby d_jdk_42_method_139_25) ?_ (by decide) (by decide)
  exact ⟨b127, rfl, N136, K140, g_b127, sz_b127⟩
theorem d_prog_29_method_1_0 : decode prog_29_method_1_code 0 = .ok (.aload_n 0, 1) := by decide +kernel
theorem d_prog_29_method_1_1 : decode prog_29_method_1_code 1 = .ok (.invokespecial 1, 3) := by decide +kernel
theorem pd_8 : parseMethodDescriptor "()V" = some ⟨[], none⟩ := by decide +kernel
theorem d_prog_29_method_1_4 : decode prog_29_method_1_code 4 = .ok (.aload_n 2, 1) := by decide +kernel
theorem d_prog_29_method_1_5 : decode prog_29_method_1_code 5 = .ok (.ifnull 17, 3) := by decide +kernel
theorem d_prog_29_method_1_22 : decode prog_29_method_1_code 22 = .ok (.aload_n 0, 1) := by decide +kernel
theorem d_prog_29_method_1_23 : decode prog_29_method_1_code 23 = .ok (.aload_n 1, 1) := by decide +kernel
theorem d_prog_29_method_1_24 : decode prog_29_method_1_code 24 = .ok (.putfield 14, 3) := by decide +kernel
theorem d_prog_29_method_1_27 : decode prog_29_method_1_code 27 = .ok (.aload_n 0, 1) := by decide +kernel
theorem d_prog_29_method_1_28 : decode prog_29_method_1_code 28 = .ok (.aload_n 2, 1) := by decide +kernel
theorem d_prog_29_method_1_29 : decode prog_29_method_1_code 29 = .ok (.putfield 20, 3) := by decide +kernel
theorem d_prog_29_method_1_32 : decode prog_29_method_1_code 32 = .ok (.return_, 1) := by decide +kernel
theorem ef_9 (m : MethodId) (x0 : Addr) : entryFrame m #[(.ref x0), .null, .null] 3 = mkF m 0 #[.val (.ref x0), .val .null, .val .null] [] := by first | (simp [entryFrame, mkF, argsToLocals, Value.category]; done) | rfl
theorem pn_5 : plainName "com/example/grantbook/grantbook/model/ClientSecrets" = true := by first | (simp [plainName, overriddenIn]; done) | decide +kernel
def Q_icsNN (Z : State) (o : Addr) (h0 : Heap) (n0 : Nat) (v : Option Value) (h : Heap) (L : List Loc) : Prop := v = none ∧ Fr n0 L ∧ Keep h0 h [o] ∧ Fld Z h o "com/example/grantbook/grantbook/model/ClientSecrets" "currentHash" "Ljava/lang/String;" .null ∧ Fld Z h o "com/example/grantbook/grantbook/model/ClientSecrets" "rotatedHash" "Ljava/lang/String;" .null
set_option maxRecDepth 65536 in
set_option maxHeartbeats 40000000 in
theorem rm_icsNN (l : Launch) (Z : State) (a0 : Array Value) (hw : ∀ d ∈ tables_1, d.before a0 Z = true) (ws : List Jvm.Cond) (o : Addr) (h0 : Heap) (n0 : Nat) (Z0 : n0 ≤ h0.size) (E_o : Exa Z h0 o "com/example/grantbook/grantbook/model/ClientSecrets") (F_o_currentHash : Fld Z h0 o "com/example/grantbook/grantbook/model/ClientSecrets" "currentHash" "Ljava/lang/String;" .null) (F_o_rotatedHash : Fld Z h0 o "com/example/grantbook/grantbook/model/ClientSecrets" "rotatedHash" "Ljava/lang/String;" .null) (g_o : n0 ≤ o) :
    MetFree l (⟨"com/example/grantbook/grantbook/model/ClientSecrets", "<init>", "(Ljava/lang/String;Ljava/lang/String;)V"⟩ : MethodName) (head1 (Jvm.Cond.code (⟨"com/example/grantbook/grantbook/model/ClientSecrets", "<init>", "(Ljava/lang/String;Ljava/lang/String;)V"⟩ : MethodName) prog_29_method_1_code 3 none :: ws) ({ frames := 2, cells := 0, slots := 0, locals := 24 } : Room)) (fun aA U => aA = #[(.ref o), .null, .null] ∧ Z.Warmed39 U.vm ∧ U.heap = h0) (fun _ _ _ _ _ => True) (fun _ U oO U' => ∃ vV LL, oO = .returned vV ∧ Q_icsNN Z o h0 n0 vV U'.heap LL ∧ FrameEnd U oO U' LL ({ frames := 2, cells := 0, slots := 0, locals := 24 } : Room).cells ({ frames := 2, cells := 0, slots := 0, locals := 24 } : Room).slots) := by
  refine MetFree.of_bodySF (plainFor_of_name pn_5) hisR ?_
  intro p e s m args below meth c s₁ Bd hml0 hP hK
  obtain ⟨rfl, hZ, hh⟩ := hP
  have hx := Bd.exec
  have hby := Bd.bytes
  have hml : c.maxLocals = 3 := hml0
  have hown : s.vm.findClass "com/example/grantbook/grantbook/model/ClientSecrets" = some m.cls := findClass_of_methodNamed Bd.named
  have hnm := (name_of_methodNamed Bd.named Bd.method).1
  have X0 : Stand p l e ({ frames := 2, cells := 0, slots := 0, locals := 24 } : Room) s m #[(.ref o), .null, .null] below meth c s₁ [] 0 0 := Stand.of_body Bd
  have e0 : s₁.heap = h0 := by rw [← hh, Bd.state]; rfl
  have N0 := Fr.nil n0
  have hret := Bd.returns
  have hlk : meth.locks = false := Bd.notSynchronized
  refine own_start (ef_9 m o) ?_
  show own_Go p e below s (Q_icsNN Z o h0 n0) ({ frames := 2, cells := 0, slots := 0, locals := 24 } : Room).cells ({ frames := 2, cells := 0, slots := 0, locals := 24 } : Room).slots (s₁.setTop (mkF m 0 #[.val (.ref o), .val .null, .val .null] []))
  refine g_aload_n X0 hx 1 (hb hby d_prog_29_method_1_0) rfl rfl rfl ?_
  refine own_callI X0 hx hZ hown rfl (hw _ (List.mem_of_getElem? (i := 32) rfl)) (hw _ (List.mem_of_getElem? (i := 33) rfl)) (by decide) (rm_rec l Z a0 hw [] o h0 n0 Z0 ) (hw _ (List.mem_of_getElem? (i := 36) rfl)) (hw _ (List.mem_of_getElem? (i := 35) rfl)) e0 0 (by decide) (by decide) (by decide) (by decide) o [] [] rfl pd_8 rfl 4 rfl (by rw [hml]; rfl) rfl (hb hby d_prog_29_method_1_1) rfl fun T142 v142 L142 X142 hQ142 => ?_
  obtain ⟨rfl, Nq142, e142⟩ := hQ142
  have N142 := Fr.app N0 Nq142
  show own_GoE p e below _ (T142.setTop (mkF m 4 _ []))
  refine g_aload_n X142 hx 5 (hb hby d_prog_29_method_1_4) rfl rfl rfl ?_
  refine g_ifnullYes X142 hx 22 (hb hby d_prog_29_method_1_5) (by decide) (by decide) ?_
  refine g_aload_n X142 hx 23 (hb hby d_prog_29_method_1_22) rfl rfl rfl ?_
  refine g_aload_n X142 hx 24 (hb hby d_prog_29_method_1_23) rfl rfl rfl ?_
  refine own_putF X142 hx hZ hown (host := "") (Or.inl (hw _ (List.mem_of_getElem? (i := 38) rfl))) Via.refl e142 F_o_currentHash E_o (Or.inr ⟨(hw _ (List.mem_of_getElem? (i := 39) rfl)), rfl, hnm⟩) (hw _ (List.mem_of_getElem? (i := 27) rfl)) (ty := (.object "java/lang/String")) (by decide) rfl rfl 27 (hb hby d_prog_29_method_1_24) rfl fun T143 h143 X143 e143 W143 => ?_
  have f143 : Fld Z h143 o "com/example/grantbook/grantbook/model/ClientSecrets" "currentHash" "Ljava/lang/String;" .null := Fld.same W143 F_o_currentHash
  have N143 := Fr.snoc X143 N142 g_o
  have z144 : n0 ≤ h143.size := (Nat.le_trans Z0 (Keep.of_wr W143).1)
  have K145 : Keep h0 h143 [o] := (Keep.refl h0 [o]).wr W143 (Or.inl (List.mem_of_getElem? (i := 0) rfl))
  refine g_aload_n X143 hx 28 (hb hby d_prog_29_method_1_27) rfl rfl rfl ?_
  refine g_aload_n X143 hx 29 (hb hby d_prog_29_method_1_28) rfl rfl rfl ?_
  have f146 : Exa Z h143 o "com/example/grantbook/grantbook/model/ClientSecrets" := (Exa.wr W143 E_o)
  have f147 : Fld Z h143 o "com/example/grantbook/grantbook/model/ClientSecrets" "rotatedHash" "Ljava/lang/String;" .null := (Fld.other W143 F_o_rotatedHash (Or.inr (slot_ne (Or.inr (hw _ (List.mem_of_getElem? (i := 41) rfl))) (Or.inr (hw _ (List.mem_of_getElem? (i := 39) rfl))) (by decide) (t := (.object "java/lang/String")) (t' := (.object "java/lang/String")) (by decide) (by decide))))
  refine own_putF X143 hx hZ hown (host := "") (Or.inl (hw _ (List.mem_of_getElem? (i := 40) rfl))) Via.refl e143 f147 f146 (Or.inr ⟨(hw _ (List.mem_of_getElem? (i := 41) rfl)), rfl, hnm⟩) (hw _ (List.mem_of_getElem? (i := 27) rfl)) (ty := (.object "java/lang/String")) (by decide) rfl rfl 32 (hb hby d_prog_29_method_1_29) rfl fun T148 h148 X148 e148 W148 => ?_
  have f148 : Fld Z h148 o "com/example/grantbook/grantbook/model/ClientSecrets" "rotatedHash" "Ljava/lang/String;" .null := Fld.same W148 f147
  have N148 := Fr.snoc X148 N143 g_o
  have z149 : n0 ≤ h148.size := (Nat.le_trans z144 (Keep.of_wr W148).1)
  have K150 : Keep h0 h148 [o] := K145.wr W148 (Or.inl (List.mem_of_getElem? (i := 0) rfl))
  have f151 : Fld Z h148 o "com/example/grantbook/grantbook/model/ClientSecrets" "currentHash" "Ljava/lang/String;" .null := (Fld.other W148 f143 (Or.inr (slot_ne (Or.inr (hw _ (List.mem_of_getElem? (i := 39) rfl))) (Or.inr (hw _ (List.mem_of_getElem? (i := 41) rfl))) (by decide) (t := (.object "java/lang/String")) (t' := (.object "java/lang/String")) (by decide) (by decide))))
  refine own_retV X148 hx hlk hret (hb hby d_prog_29_method_1_32) ?_ (by decide) (by decide)
  rw [e148]
  exact ⟨rfl, N148, K150, f151, f148⟩
theorem ef_10 (m : MethodId) (x0 : Addr) (x1 : Addr) : entryFrame m #[(.ref x0), (.ref x1), .null] 3 = mkF m 0 #[.val (.ref x0), .val (.ref x1), .val .null] [] := by first | (simp [entryFrame, mkF, argsToLocals, Value.category]; done) | rfl
def Q_icsRN (Z : State) (o : Addr) (cu : Addr) (h0 : Heap) (n0 : Nat) (v : Option Value) (h : Heap) (L : List Loc) : Prop := v = none ∧ Fr n0 L ∧ Keep h0 h [o] ∧ Fld Z h o "com/example/grantbook/grantbook/model/ClientSecrets" "currentHash" "Ljava/lang/String;" (.ref cu) ∧ Fld Z h o "com/example/grantbook/grantbook/model/ClientSecrets" "rotatedHash" "Ljava/lang/String;" .null
set_option maxRecDepth 65536 in
set_option maxHeartbeats 40000000 in
theorem rm_icsRN (l : Launch) (Z : State) (a0 : Array Value) (hw : ∀ d ∈ tables_1, d.before a0 Z = true) (ws : List Jvm.Cond) (o : Addr) (cu : Addr) (h0 : Heap) (n0 : Nat) (Z0 : n0 ≤ h0.size) (E_o : Exa Z h0 o "com/example/grantbook/grantbook/model/ClientSecrets") (F_o_currentHash : Fld Z h0 o "com/example/grantbook/grantbook/model/ClientSecrets" "currentHash" "Ljava/lang/String;" .null) (F_o_rotatedHash : Fld Z h0 o "com/example/grantbook/grantbook/model/ClientSecrets" "rotatedHash" "Ljava/lang/String;" .null) (g_o : n0 ≤ o) :
    MetFree l (⟨"com/example/grantbook/grantbook/model/ClientSecrets", "<init>", "(Ljava/lang/String;Ljava/lang/String;)V"⟩ : MethodName) (head1 (Jvm.Cond.code (⟨"com/example/grantbook/grantbook/model/ClientSecrets", "<init>", "(Ljava/lang/String;Ljava/lang/String;)V"⟩ : MethodName) prog_29_method_1_code 3 none :: ws) ({ frames := 2, cells := 0, slots := 0, locals := 24 } : Room)) (fun aA U => aA = #[(.ref o), (.ref cu), .null] ∧ Z.Warmed39 U.vm ∧ U.heap = h0) (fun _ _ _ _ _ => True) (fun _ U oO U' => ∃ vV LL, oO = .returned vV ∧ Q_icsRN Z o cu h0 n0 vV U'.heap LL ∧ FrameEnd U oO U' LL ({ frames := 2, cells := 0, slots := 0, locals := 24 } : Room).cells ({ frames := 2, cells := 0, slots := 0, locals := 24 } : Room).slots) := by
  refine MetFree.of_bodySF (plainFor_of_name pn_5) hisR ?_
  intro p e s m args below meth c s₁ Bd hml0 hP hK
  obtain ⟨rfl, hZ, hh⟩ := hP
  have hx := Bd.exec
  have hby := Bd.bytes
  have hml : c.maxLocals = 3 := hml0
  have hown : s.vm.findClass "com/example/grantbook/grantbook/model/ClientSecrets" = some m.cls := findClass_of_methodNamed Bd.named
  have hnm := (name_of_methodNamed Bd.named Bd.method).1
  have X0 : Stand p l e ({ frames := 2, cells := 0, slots := 0, locals := 24 } : Room) s m #[(.ref o), (.ref cu), .null] below meth c s₁ [] 0 0 := Stand.of_body Bd
  have e0 : s₁.heap = h0 := by rw [← hh, Bd.state]; rfl
  have N0 := Fr.nil n0
  have hret := Bd.returns
  have hlk : meth.locks = false := Bd.notSynchronized
  refine own_start (ef_10 m o cu) ?_
  show own_Go p e below s (Q_icsRN Z o cu h0 n0) ({ frames := 2, cells := 0, slots := 0, locals := 24 } : Room).cells ({ frames := 2, cells := 0, slots := 0, locals := 24 } : Room).slots (s₁.setTop (mkF m 0 #[.val (.ref o), .val (.ref cu), .val .null] []))
  refine g_aload_n X0 hx 1 (hb hby d_prog_29_method_1_0) rfl rfl rfl ?_
  refine own_callI X0 hx hZ hown rfl (hw _ (List.mem_of_getElem? (i := 32) rfl)) (hw _ (List.mem_of_getElem? (i := 33) rfl)) (by decide) (rm_rec l Z a0 hw [] o h0 n0 Z0 ) (hw _ (List.mem_of_getElem? (i := 36) rfl)) (hw _ (List.mem_of_getElem? (i := 35) rfl)) e0 0 (by decide) (by decide) (by decide) (by decide) o [] [] rfl pd_8 rfl 4 rfl (by rw [hml]; rfl) rfl (hb hby d_prog_29_method_1_1) rfl fun T152 v152 L152 X152 hQ152 => ?_
  obtain ⟨rfl, Nq152, e152⟩ := hQ152
  have N152 := Fr.app N0 Nq152
  show own_GoE p e below _ (T152.setTop (mkF m 4 _ []))
  refine g_aload_n X152 hx 5 (hb hby d_prog_29_method_1_4) rfl rfl rfl ?_
  refine g_ifnullYes X152 hx 22 (hb hby d_prog_29_method_1_5) (by decide) (by decide) ?_
  refine g_aload_n X152 hx 23 (hb hby d_prog_29_method_1_22) rfl rfl rfl ?_
  refine g_aload_n X152 hx 24 (hb hby d_prog_29_method_1_23) rfl rfl rfl ?_
  refine own_putF X152 hx hZ hown (host := "") (Or.inl (hw _ (List.mem_of_getElem? (i := 38) rfl))) Via.refl e152 F_o_currentHash E_o (Or.inr ⟨(hw _ (List.mem_of_getElem? (i := 39) rfl)), rfl, hnm⟩) (hw _ (List.mem_of_getElem? (i := 27) rfl)) (ty := (.object "java/lang/String")) (by decide) rfl rfl 27 (hb hby d_prog_29_method_1_24) rfl fun T153 h153 X153 e153 W153 => ?_
  have f153 : Fld Z h153 o "com/example/grantbook/grantbook/model/ClientSecrets" "currentHash" "Ljava/lang/String;" (.ref cu) := Fld.same W153 F_o_currentHash
  have N153 := Fr.snoc X153 N152 g_o
  have z154 : n0 ≤ h153.size := (Nat.le_trans Z0 (Keep.of_wr W153).1)
  have K155 : Keep h0 h153 [o] := (Keep.refl h0 [o]).wr W153 (Or.inl (List.mem_of_getElem? (i := 0) rfl))
  refine g_aload_n X153 hx 28 (hb hby d_prog_29_method_1_27) rfl rfl rfl ?_
  refine g_aload_n X153 hx 29 (hb hby d_prog_29_method_1_28) rfl rfl rfl ?_
  have f156 : Exa Z h153 o "com/example/grantbook/grantbook/model/ClientSecrets" := (Exa.wr W153 E_o)
  have f157 : Fld Z h153 o "com/example/grantbook/grantbook/model/ClientSecrets" "rotatedHash" "Ljava/lang/String;" .null := (Fld.other W153 F_o_rotatedHash (Or.inr (slot_ne (Or.inr (hw _ (List.mem_of_getElem? (i := 41) rfl))) (Or.inr (hw _ (List.mem_of_getElem? (i := 39) rfl))) (by decide) (t := (.object "java/lang/String")) (t' := (.object "java/lang/String")) (by decide) (by decide))))
  refine own_putF X153 hx hZ hown (host := "") (Or.inl (hw _ (List.mem_of_getElem? (i := 40) rfl))) Via.refl e153 f157 f156 (Or.inr ⟨(hw _ (List.mem_of_getElem? (i := 41) rfl)), rfl, hnm⟩) (hw _ (List.mem_of_getElem? (i := 27) rfl)) (ty := (.object "java/lang/String")) (by decide) rfl rfl 32 (hb hby d_prog_29_method_1_29) rfl fun T158 h158 X158 e158 W158 => ?_
  have f158 : Fld Z h158 o "com/example/grantbook/grantbook/model/ClientSecrets" "rotatedHash" "Ljava/lang/String;" .null := Fld.same W158 f157
  have N158 := Fr.snoc X158 N153 g_o
  have z159 : n0 ≤ h158.size := (Nat.le_trans z154 (Keep.of_wr W158).1)
  have K160 : Keep h0 h158 [o] := K155.wr W158 (Or.inl (List.mem_of_getElem? (i := 0) rfl))
  have f161 : Fld Z h158 o "com/example/grantbook/grantbook/model/ClientSecrets" "currentHash" "Ljava/lang/String;" (.ref cu) := (Fld.other W158 f153 (Or.inr (slot_ne (Or.inr (hw _ (List.mem_of_getElem? (i := 39) rfl))) (Or.inr (hw _ (List.mem_of_getElem? (i := 41) rfl))) (by decide) (t := (.object "java/lang/String")) (t' := (.object "java/lang/String")) (by decide) (by decide))))
  refine own_retV X158 hx hlk hret (hb hby d_prog_29_method_1_32) ?_ (by decide) (by decide)
  rw [e158]
  exact ⟨rfl, N158, K160, f161, f158⟩
theorem d_prog_29_method_1_8 : decode prog_29_method_1_code 8 = .ok (.aload_n 1, 1) := by decide +kernel
theorem d_prog_29_method_1_9 : decode prog_29_method_1_code 9 = .ok (.ifnonnull 13, 3) := by decide +kernel
theorem ef_11 (m : MethodId) (x0 : Addr) (x1 : Addr) (x2 : Addr) : entryFrame m #[(.ref x0), (.ref x1), (.ref x2)] 3 = mkF m 0 #[.val (.ref x0), .val (.ref x1), .val (.ref x2)] [] := by first | (simp [entryFrame, mkF, argsToLocals, Value.category]; done) | rfl
def Q_icsRR (Z : State) (o : Addr) (cu : Addr) (ro : Addr) (h0 : Heap) (n0 : Nat) (v : Option Value) (h : Heap) (L : List Loc) : Prop := v = none ∧ Fr n0 L ∧ Keep h0 h [o] ∧ Fld Z h o "com/example/grantbook/grantbook/model/ClientSecrets" "currentHash" "Ljava/lang/String;" (.ref cu) ∧ Fld Z h o "com/example/grantbook/grantbook/model/ClientSecrets" "rotatedHash" "Ljava/lang/String;" (.ref ro)
set_option maxRecDepth 65536 in
set_option maxHeartbeats 40000000 in
theorem rm_icsRR (l : Launch) (Z : State) (a0 : Array Value) (hw : ∀ d ∈ tables_1, d.before a0 Z = true) (ws : List Jvm.Cond) (o : Addr) (cu : Addr) (ro : Addr) (h0 : Heap) (n0 : Nat) (Z0 : n0 ≤ h0.size) (E_o : Exa Z h0 o "com/example/grantbook/grantbook/model/ClientSecrets") (F_o_currentHash : Fld Z h0 o "com/example/grantbook/grantbook/model/ClientSecrets" "currentHash" "Ljava/lang/String;" .null) (F_o_rotatedHash : Fld Z h0 o "com/example/grantbook/grantbook/model/ClientSecrets" "rotatedHash" "Ljava/lang/String;" .null) (g_o : n0 ≤ o) :
    MetFree l (⟨"com/example/grantbook/grantbook/model/ClientSecrets", "<init>", "(Ljava/lang/String;Ljava/lang/String;)V"⟩ : MethodName) (head1 (Jvm.Cond.code (⟨"com/example/grantbook/grantbook/model/ClientSecrets", "<init>", "(Ljava/lang/String;Ljava/lang/String;)V"⟩ : MethodName) prog_29_method_1_code 3 none :: ws) ({ frames := 2, cells := 0, slots := 0, locals := 24 } : Room)) (fun aA U => aA = #[(.ref o), (.ref cu), (.ref ro)] ∧ Z.Warmed39 U.vm ∧ U.heap = h0) (fun _ _ _ _ _ => True) (fun _ U oO U' => ∃ vV LL, oO = .returned vV ∧ Q_icsRR Z o cu ro h0 n0 vV U'.heap LL ∧ FrameEnd U oO U' LL ({ frames := 2, cells := 0, slots := 0, locals := 24 } : Room).cells ({ frames := 2, cells := 0, slots := 0, locals := 24 } : Room).slots) := by
  refine MetFree.of_bodySF (plainFor_of_name pn_5) hisR ?_
  intro p e s m args below meth c s₁ Bd hml0 hP hK
  obtain ⟨rfl, hZ, hh⟩ := hP
  have hx := Bd.exec
  have hby := Bd.bytes
  have hml : c.maxLocals = 3 := hml0
  have hown : s.vm.findClass "com/example/grantbook/grantbook/model/ClientSecrets" = some m.cls := findClass_of_methodNamed Bd.named
  have hnm := (name_of_methodNamed Bd.named Bd.method).1
  have X0 : Stand p l e ({ frames := 2, cells := 0, slots := 0, locals := 24 } : Room) s m #[(.ref o), (.ref cu), (.ref ro)] below meth c s₁ [] 0 0 := Stand.of_body Bd
  have e0 : s₁.heap = h0 := by rw [← hh, Bd.state]; rfl
  have N0 := Fr.nil n0
  have hret := Bd.returns
  have hlk : meth.locks = false := Bd.notSynchronized
  refine own_start (ef_11 m o cu ro) ?_
  show own_Go p e below s (Q_icsRR Z o cu ro h0 n0) ({ frames := 2, cells := 0, slots := 0, locals := 24 } : Room).cells ({ frames := 2, cells := 0, slots := 0, locals := 24 } : Room).slots (s₁.setTop (mkF m 0 #[.val (.ref o), .val (.ref cu), .val (.ref ro)] []))
  refine g_aload_n X0 hx 1 (hb hby d_prog_29_method_1_0) rfl rfl rfl ?_
  refine own_callI X0 hx hZ hown rfl (hw _ (List.mem_of_getElem? (i := 32) rfl)) (hw _ (List.mem_of_getElem? (i := 33) rfl)) (by decide) (rm_rec l Z a0 hw [] o h0 n0 Z0 ) (hw _ (List.mem_of_getElem? (i := 36) rfl)) (hw _ (List.mem_of_getElem? (i := 35) rfl)) e0 0 (by decide) (by decide) (by decide) (by decide) o [] [] rfl pd_8 rfl 4 rfl (by rw [hml]; rfl) rfl (hb hby d_prog_29_method_1_1) rfl fun T162 v162 L162 X162 hQ162 => ?_
  obtain ⟨rfl, Nq162, e162⟩ := hQ162
  have N162 := Fr.app N0 Nq162
  show own_GoE p e below _ (T162.setTop (mkF m 4 _ []))
  refine g_aload_n X162 hx 5 (hb hby d_prog_29_method_1_4) rfl rfl rfl ?_
  refine g_ifnullNo X162 hx 8 (hb hby d_prog_29_method_1_5) rfl ?_
  refine g_aload_n X162 hx 9 (hb hby d_prog_29_method_1_8) rfl rfl rfl ?_
  refine g_ifnonnullYes X162 hx 22 (hb hby d_prog_29_method_1_9) (by decide) (by decide) ?_
  refine g_aload_n X162 hx 23 (hb hby d_prog_29_method_1_22) rfl rfl rfl ?_
  refine g_aload_n X162 hx 24 (hb hby d_prog_29_method_1_23) rfl rfl rfl ?_
  refine own_putF X162 hx hZ hown (host := "") (Or.inl (hw _ (List.mem_of_getElem? (i := 38) rfl))) Via.refl e162 F_o_currentHash E_o (Or.inr ⟨(hw _ (List.mem_of_getElem? (i := 39) rfl)), rfl, hnm⟩) (hw _ (List.mem_of_getElem? (i := 27) rfl)) (ty := (.object "java/lang/String")) (by decide) rfl rfl 27 (hb hby d_prog_29_method_1_24) rfl fun T163 h163 X163 e163 W163 => ?_
  have f163 : Fld Z h163 o "com/example/grantbook/grantbook/model/ClientSecrets" "currentHash" "Ljava/lang/String;" (.ref cu) := Fld.same W163 F_o_currentHash
  have N163 := Fr.snoc X163 N162 g_o
  have z164 : n0 ≤ h163.size := (Nat.le_trans Z0 (Keep.of_wr W163).1)
  have K165 : Keep h0 h163 [o] := (Keep.refl h0 [o]).wr W163 (Or.inl (List.mem_of_getElem? (i := 0) rfl))
  refine g_aload_n X163 hx 28 (hb hby d_prog_29_method_1_27) rfl rfl rfl ?_
  refine g_aload_n X163 hx 29 (hb hby d_prog_29_method_1_28) rfl rfl rfl ?_
  have f166 : Exa Z h163 o "com/example/grantbook/grantbook/model/ClientSecrets" := (Exa.wr W163 E_o)
  have f167 : Fld Z h163 o "com/example/grantbook/grantbook/model/ClientSecrets" "rotatedHash" "Ljava/lang/String;" .null := (Fld.other W163 F_o_rotatedHash (Or.inr (slot_ne (Or.inr (hw _ (List.mem_of_getElem? (i := 41) rfl))) (Or.inr (hw _ (List.mem_of_getElem? (i := 39) rfl))) (by decide) (t := (.object "java/lang/String")) (t' := (.object "java/lang/String")) (by decide) (by decide))))
  refine own_putF X163 hx hZ hown (host := "") (Or.inl (hw _ (List.mem_of_getElem? (i := 40) rfl))) Via.refl e163 f167 f166 (Or.inr ⟨(hw _ (List.mem_of_getElem? (i := 41) rfl)), rfl, hnm⟩) (hw _ (List.mem_of_getElem? (i := 27) rfl)) (ty := (.object "java/lang/String")) (by decide) rfl rfl 32 (hb hby d_prog_29_method_1_29) rfl fun T168 h168 X168 e168 W168 => ?_
  have f168 : Fld Z h168 o "com/example/grantbook/grantbook/model/ClientSecrets" "rotatedHash" "Ljava/lang/String;" (.ref ro) := Fld.same W168 f167
  have N168 := Fr.snoc X168 N163 g_o
  have z169 : n0 ≤ h168.size := (Nat.le_trans z164 (Keep.of_wr W168).1)
  have K170 : Keep h0 h168 [o] := K165.wr W168 (Or.inl (List.mem_of_getElem? (i := 0) rfl))
  have f171 : Fld Z h168 o "com/example/grantbook/grantbook/model/ClientSecrets" "currentHash" "Ljava/lang/String;" (.ref cu) := (Fld.other W168 f163 (Or.inr (slot_ne (Or.inr (hw _ (List.mem_of_getElem? (i := 39) rfl))) (Or.inr (hw _ (List.mem_of_getElem? (i := 41) rfl))) (by decide) (t := (.object "java/lang/String")) (t' := (.object "java/lang/String")) (by decide) (by decide))))
  refine own_retV X168 hx hlk hret (hb hby d_prog_29_method_1_32) ?_ (by decide) (by decide)
  rw [e168]
  exact ⟨rfl, N168, K170, f171, f168⟩
theorem d_prog_29_method_4_0 : decode prog_29_method_4_code 0 = .ok (.aload_n 0, 1) := by decide +kernel
theorem d_prog_29_method_4_1 : decode prog_29_method_4_code 1 = .ok (.getfield 20, 3) := by decide +kernel
theorem d_prog_29_method_4_4 : decode prog_29_method_4_code 4 = .ok (.ifnull 7, 3) := by decide +kernel
theorem d_prog_29_method_4_11 : decode prog_29_method_4_code 11 = .ok (.iconst 0, 1) := by decide +kernel
theorem d_prog_29_method_4_12 : decode prog_29_method_4_code 12 = .ok (.ireturn, 1) := by decide +kernel
def Q_hrN (Z : State) (o : Addr) (h0 : Heap) (n0 : Nat) (v : Option Value) (h : Heap) (L : List Loc) : Prop := v = some (.int (0 : Int32)) ∧ Fr n0 L ∧ h = h0
set_option maxRecDepth 65536 in
set_option maxHeartbeats 40000000 in
theorem rm_hrN (l : Launch) (Z : State) (a0 : Array Value) (hw : ∀ d ∈ tables_1, d.before a0 Z = true) (ws : List Jvm.Cond) (o : Addr) (h0 : Heap) (n0 : Nat) (Z0 : n0 ≤ h0.size) (F_o_rotatedHash : Fld Z h0 o "com/example/grantbook/grantbook/model/ClientSecrets" "rotatedHash" "Ljava/lang/String;" .null) :
    MetFree l (⟨"com/example/grantbook/grantbook/model/ClientSecrets", "hasRotated", "()Z"⟩ : MethodName) (head1 (Jvm.Cond.code (⟨"com/example/grantbook/grantbook/model/ClientSecrets", "hasRotated", "()Z"⟩ : MethodName) prog_29_method_4_code 1 (some .boolean) :: ws) ({ frames := 0, cells := 0, slots := 0, locals := 0 } : Room)) (fun aA U => aA = #[(.ref o)] ∧ Z.Warmed39 U.vm ∧ U.heap = h0) (fun _ _ _ _ _ => True) (fun _ U oO U' => ∃ vV LL, oO = .returned vV ∧ Q_hrN Z o h0 n0 vV U'.heap LL ∧ FrameEnd U oO U' LL ({ frames := 0, cells := 0, slots := 0, locals := 0 } : Room).cells ({ frames := 0, cells := 0, slots := 0, locals := 0 } : Room).slots) := by
  refine MetFree.of_bodySF (plainFor_of_name pn_5) hisR ?_
  intro p e s m args below meth c s₁ Bd hml0 hP hK
  obtain ⟨rfl, hZ, hh⟩ := hP
  have hx := Bd.exec
  have hby := Bd.bytes
  have hml : c.maxLocals = 1 := hml0
  have hown : s.vm.findClass "com/example/grantbook/grantbook/model/ClientSecrets" = some m.cls := findClass_of_methodNamed Bd.named
  have hnm := (name_of_methodNamed Bd.named Bd.method).1
  have X0 : Stand p l e ({ frames := 0, cells := 0, slots := 0, locals := 0 } : Room) s m #[(.ref o)] below meth c s₁ [] 0 0 := Stand.of_body Bd
  have e0 : s₁.heap = h0 := by rw [← hh, Bd.state]; rfl
  have N0 := Fr.nil n0
  have hret := Bd.returns
  have hlk : meth.locks = false := Bd.notSynchronized
  refine own_start (ef_0 m o) ?_
  show own_Go p e below s (Q_hrN Z o h0 n0) ({ frames := 0, cells := 0, slots := 0, locals := 0 } : Room).cells ({ frames := 0, cells := 0, slots := 0, locals := 0 } : Room).slots (s₁.setTop (mkF m 0 #[.val (.ref o)] []))
  refine g_aload_n X0 hx 1 (hb hby d_prog_29_method_4_0) rfl rfl rfl ?_
  refine own_getF X0 hx hZ hown (host := "") (Or.inl (hw _ (List.mem_of_getElem? (i := 40) rfl))) Via.refl e0 F_o_rotatedHash 4 (hb hby d_prog_29_method_4_1) rfl fun T172 X172 e172 => ?_
  refine g_ifnullYes X172 hx 11 (hb hby d_prog_29_method_4_4) (by decide) (by decide) ?_
  refine g_iconst X172 hx 12 (hb hby d_prog_29_method_4_11) (0 : Int32) rfl rfl ?_
  refine own_retN X172 hx hlk (t := .boolean) hret (by simp) (hb hby d_prog_29_method_4_12) ?_ (by decide) (by decide)
  rw [e172]
  exact ⟨(own_rb rfl), N0, rfl⟩
theorem d_prog_29_method_4_7 : decode prog_29_method_4_code 7 = .ok (.iconst 1, 1) := by decide +kernel
theorem d_prog_29_method_4_8 : decode prog_29_method_4_code 8 = .ok (.goto 4, 3) := by decide +kernel
def Q_hrR (Z : State) (o : Addr) (ro : Addr) (h0 : Heap) (n0 : Nat) (v : Option Value) (h : Heap) (L : List Loc) : Prop := v = some (.int (1 : Int32)) ∧ Fr n0 L ∧ h = h0
set_option maxRecDepth 65536 in
set_option maxHeartbeats 40000000 in
theorem rm_hrR (l : Launch) (Z : State) (a0 : Array Value) (hw : ∀ d ∈ tables_1, d.before a0 Z = true) (ws : List Jvm.Cond) (o : Addr) (ro : Addr) (h0 : Heap) (n0 : Nat) (Z0 : n0 ≤ h0.size) (F_o_rotatedHash : Fld Z h0 o "com/example/grantbook/grantbook/model/ClientSecrets" "rotatedHash" "Ljava/lang/String;" (.ref ro)) :
    MetFree l (⟨"com/example/grantbook/grantbook/model/ClientSecrets", "hasRotated", "()Z"⟩ : MethodName) (head1 (Jvm.Cond.code (⟨"com/example/grantbook/grantbook/model/ClientSecrets", "hasRotated", "()Z"⟩ : MethodName) prog_29_method_4_code 1 (some .boolean) :: ws) ({ frames := 0, cells := 0, slots := 0, locals := 0 } : Room)) (fun aA U => aA = #[(.ref o)] ∧ Z.Warmed39 U.vm ∧ U.heap = h0) (fun _ _ _ _ _ => True) (fun _ U oO U' => ∃ vV LL, oO = .returned vV ∧ Q_hrR Z o ro h0 n0 vV U'.heap LL ∧ FrameEnd U oO U' LL ({ frames := 0, cells := 0, slots := 0, locals := 0 } : Room).cells ({ frames := 0, cells := 0, slots := 0, locals := 0 } : Room).slots) := by
  refine MetFree.of_bodySF (plainFor_of_name pn_5) hisR ?_
  intro p e s m args below meth c s₁ Bd hml0 hP hK
  obtain ⟨rfl, hZ, hh⟩ := hP
  have hx := Bd.exec
  have hby := Bd.bytes
  have hml : c.maxLocals = 1 := hml0
  have hown : s.vm.findClass "com/example/grantbook/grantbook/model/ClientSecrets" = some m.cls := findClass_of_methodNamed Bd.named
  have hnm := (name_of_methodNamed Bd.named Bd.method).1
  have X0 : Stand p l e ({ frames := 0, cells := 0, slots := 0, locals := 0 } : Room) s m #[(.ref o)] below meth c s₁ [] 0 0 := Stand.of_body Bd
  have e0 : s₁.heap = h0 := by rw [← hh, Bd.state]; rfl
  have N0 := Fr.nil n0
  have hret := Bd.returns
  have hlk : meth.locks = false := Bd.notSynchronized
  refine own_start (ef_0 m o) ?_
  show own_Go p e below s (Q_hrR Z o ro h0 n0) ({ frames := 0, cells := 0, slots := 0, locals := 0 } : Room).cells ({ frames := 0, cells := 0, slots := 0, locals := 0 } : Room).slots (s₁.setTop (mkF m 0 #[.val (.ref o)] []))
  refine g_aload_n X0 hx 1 (hb hby d_prog_29_method_4_0) rfl rfl rfl ?_
  refine own_getF X0 hx hZ hown (host := "") (Or.inl (hw _ (List.mem_of_getElem? (i := 40) rfl))) Via.refl e0 F_o_rotatedHash 4 (hb hby d_prog_29_method_4_1) rfl fun T173 X173 e173 => ?_
  refine g_ifnullNo X173 hx 7 (hb hby d_prog_29_method_4_4) rfl ?_
  refine g_iconst X173 hx 8 (hb hby d_prog_29_method_4_7) (1 : Int32) rfl rfl ?_
  refine g_goto X173 hx 12 (hb hby d_prog_29_method_4_8) (by decide) (by decide) ?_
  refine own_retN X173 hx hlk (t := .boolean) hret (by simp) (hb hby d_prog_29_method_4_12) ?_ (by decide) (by decide)
  rw [e173]
  exact ⟨(own_rb rfl), N0, rfl⟩
theorem d_prog_29_method_2_0 : decode prog_29_method_2_code 0 = .ok (.new 15, 3) := by decide +kernel
theorem d_prog_29_method_2_3 : decode prog_29_method_2_code 3 = .ok (.dup, 1) := by decide +kernel
theorem d_prog_29_method_2_4 : decode prog_29_method_2_code 4 = .ok (.aload_n 0, 1) := by decide +kernel
theorem d_prog_29_method_2_5 : decode prog_29_method_2_code 5 = .ok (.aconst_null, 1) := by decide +kernel
theorem d_prog_29_method_2_6 : decode prog_29_method_2_code 6 = .ok (.invokespecial 23, 3) := by decide +kernel
theorem pd_9 : parseMethodDescriptor "(Ljava/lang/String;Ljava/lang/String;)V" = some ⟨[(.object "java/lang/String"), (.object "java/lang/String")], none⟩ := by decide +kernel
theorem d_prog_29_method_2_9 : decode prog_29_method_2_code 9 = .ok (.areturn, 1) := by decide +kernel
theorem ef_12 (m : MethodId)  : entryFrame m #[.null] 1 = mkF m 0 #[.val .null] [] := by first | (simp [entryFrame, mkF, argsToLocals, Value.category]; done) | rfl
def Q_ofN (Z : State)  (h0 : Heap) (n0 : Nat) (v : Option Value) (h : Heap) (L : List Loc) : Prop := ∃ nb : Addr, v = some (.ref nb) ∧ Fr n0 L ∧ Keep h0 h [] ∧ n0 ≤ nb ∧ h0.size ≤ nb ∧ Exa Z h nb "com/example/grantbook/grantbook/model/ClientSecrets" ∧ Fld Z h nb "com/example/grantbook/grantbook/model/ClientSecrets" "currentHash" "Ljava/lang/String;" .null ∧ Fld Z h nb "com/example/grantbook/grantbook/model/ClientSecrets" "rotatedHash" "Ljava/lang/String;" .null
set_option maxRecDepth 65536 in
set_option maxHeartbeats 40000000 in
theorem rm_ofN (l : Launch) (Z : State) (a0 : Array Value) (hw : ∀ d ∈ tables_1, d.before a0 Z = true) (ws : List Jvm.Cond)  (h0 : Heap) (n0 : Nat) (Z0 : n0 ≤ h0.size) :
    MetFree l (⟨"com/example/grantbook/grantbook/model/ClientSecrets", "of", "(Ljava/lang/String;)Lcom/example/grantbook/grantbook/model/ClientSecrets;"⟩ : MethodName) (head1 (Jvm.Cond.code (⟨"com/example/grantbook/grantbook/model/ClientSecrets", "of", "(Ljava/lang/String;)Lcom/example/grantbook/grantbook/model/ClientSecrets;"⟩ : MethodName) prog_29_method_2_code 1 (some (.object "com/example/grantbook/grantbook/model/ClientSecrets")) :: ws) ({ frames := 3, cells := 1, slots := 2, locals := 39 } : Room)) (fun aA U => aA = #[.null] ∧ Z.Warmed39 U.vm ∧ U.heap = h0) (fun _ _ _ _ _ => True) (fun _ U oO U' => ∃ vV LL, oO = .returned vV ∧ Q_ofN Z  h0 n0 vV U'.heap LL ∧ FrameEnd U oO U' LL ({ frames := 3, cells := 1, slots := 2, locals := 39 } : Room).cells ({ frames := 3, cells := 1, slots := 2, locals := 39 } : Room).slots) := by
  refine MetFree.of_bodySF (plainFor_of_name pn_5) hisR ?_
  intro p e s m args below meth c s₁ Bd hml0 hP hK
  obtain ⟨rfl, hZ, hh⟩ := hP
  have hx := Bd.exec
  have hby := Bd.bytes
  have hml : c.maxLocals = 1 := hml0
  have hown : s.vm.findClass "com/example/grantbook/grantbook/model/ClientSecrets" = some m.cls := findClass_of_methodNamed Bd.named
  have hnm := (name_of_methodNamed Bd.named Bd.method).1
  have X0 : Stand p l e ({ frames := 3, cells := 1, slots := 2, locals := 39 } : Room) s m #[.null] below meth c s₁ [] 0 0 := Stand.of_body Bd
  have e0 : s₁.heap = h0 := by rw [← hh, Bd.state]; rfl
  have N0 := Fr.nil n0
  have hret := Bd.returns
  have hlk : meth.locks = false := Bd.notSynchronized
  refine own_start (ef_12 m ) ?_
  show own_Go p e below s (Q_ofN Z  h0 n0) ({ frames := 3, cells := 1, slots := 2, locals := 39 } : Room).cells ({ frames := 3, cells := 1, slots := 2, locals := 39 } : Room).slots (s₁.setTop (mkF m 0 #[.val .null] []))
  refine own_newO X0 hx hZ hown (hw _ (List.mem_of_getElem? (i := 55) rfl)) (hw _ (List.mem_of_getElem? (i := 27) rfl)) (hw _ (List.mem_of_getElem? (i := 28) rfl)) e0 3 (hb hby d_prog_29_method_2_0) rfl (by decide) (by decide) fun T174 h174 b174 X174 e174 g174 E174 A174 D174 => ?_
  have g_b174 : n0 ≤ b174 := Nat.le_trans Z0 (Nat.le_of_eq g174.symm)
  have sz_b174 : h0.size ≤ b174 := Nat.le_trans (Keep.refl h0 []).1 (Nat.le_of_eq g174.symm)
  have K175 : Keep h0 h174 [] := (Keep.refl h0 []).ext E174
  have z176 : n0 ≤ h174.size := (Nat.le_trans Z0 E174.1)
  have f177 : Fld Z h174 b174 "com/example/grantbook/grantbook/model/ClientSecrets" "currentHash" "Ljava/lang/String;" .null := D174 (Or.inr (hw _ (List.mem_of_getElem? (i := 39) rfl))) (ty := (.object "java/lang/String")) (by decide)
  have f178 : Fld Z h174 b174 "com/example/grantbook/grantbook/model/ClientSecrets" "rotatedHash" "Ljava/lang/String;" .null := D174 (Or.inr (hw _ (List.mem_of_getElem? (i := 41) rfl))) (ty := (.object "java/lang/String")) (by decide)
  refine g_dup X174 hx 4 (hb hby d_prog_29_method_2_3) rfl rfl ?_
  refine g_aload_n X174 hx 5 (hb hby d_prog_29_method_2_4) rfl rfl rfl ?_
  refine g_aconst_null X174 hx 6 (hb hby d_prog_29_method_2_5) rfl ?_
  refine own_callI X174 hx hZ hown rfl (hw _ (List.mem_of_getElem? (i := 56) rfl)) (hw _ (List.mem_of_getElem? (i := 30) rfl)) (by decide) (rm_icsNN l Z a0 hw [] b174 h174 n0 z176 A174 f177 f178 g_b174) (hw _ (List.mem_of_getElem? (i := 31) rfl)) (hw _ (List.mem_of_getElem? (i := 28) rfl)) e174 1 (by decide) (by decide) (by decide) (by decide) b174 [.null, .null] [(.ref b174)] rfl pd_9 rfl 9 rfl (by rw [hml]; rfl) rfl (hb hby d_prog_29_method_2_6) rfl fun T179 v179 L179 X179 hQ179 => ?_
  obtain ⟨rfl, Nq179, Kq179, f179_0, f179_1⟩ := hQ179
  have N179 := Fr.app N0 Nq179
  have K180 : Keep h0 T179.heap [] := K175.trans Kq179 (allS (Or.inr sz_b174) all0)
  have z181 : n0 ≤ T179.heap.size := (Nat.le_trans z176 Kq179.1)
  show own_GoE p e below _ (T179.setTop (mkF m 9 _ [(.ref b174)]))
  have f182 : Exa Z T179.heap b174 "com/example/grantbook/grantbook/model/ClientSecrets" := (A174.keep Kq179)
  refine own_retA X179 hx hlk hret rfl rfl (hb hby d_prog_29_method_2_9) ?_ (by decide) (by decide)
  exact ⟨b174, rfl, N179, K180, g_b174, sz_b174, f182, f179_0, f179_1⟩
theorem d_prog_29_method_6_0 : decode prog_29_method_6_code 0 = .ok (.aload_n 0, 1) := by decide +kernel
theorem d_prog_29_method_6_1 : decode prog_29_method_6_code 1 = .ok (.getfield 14, 3) := by decide +kernel
theorem d_prog_29_method_6_4 : decode prog_29_method_6_code 4 = .ok (.invokestatic 61, 3) := by decide +kernel
theorem pd_10 : parseMethodDescriptor "(Ljava/lang/String;)Lcom/example/grantbook/grantbook/model/ClientSecrets;" = some ⟨[(.object "java/lang/String")], some (.object "com/example/grantbook/grantbook/model/ClientSecrets")⟩ := by decide +kernel
theorem d_prog_29_method_6_7 : decode prog_29_method_6_code 7 = .ok (.areturn, 1) := by decide +kernel
def Q_woN (Z : State) (o : Addr) (h0 : Heap) (n0 : Nat) (v : Option Value) (h : Heap) (L : List Loc) : Prop := ∃ nb : Addr, v = some (.ref nb) ∧ Fr n0 L ∧ Keep h0 h [] ∧ n0 ≤ nb ∧ h0.size ≤ nb ∧ Exa Z h nb "com/example/grantbook/grantbook/model/ClientSecrets" ∧ Fld Z h nb "com/example/grantbook/grantbook/model/ClientSecrets" "currentHash" "Ljava/lang/String;" .null ∧ Fld Z h nb "com/example/grantbook/grantbook/model/ClientSecrets" "rotatedHash" "Ljava/lang/String;" .null
set_option maxRecDepth 65536 in
set_option maxHeartbeats 40000000 in
theorem rm_woN (l : Launch) (Z : State) (a0 : Array Value) (hw : ∀ d ∈ tables_1, d.before a0 Z = true) (ws : List Jvm.Cond) (o : Addr) (h0 : Heap) (n0 : Nat) (Z0 : n0 ≤ h0.size) (F_o_currentHash : Fld Z h0 o "com/example/grantbook/grantbook/model/ClientSecrets" "currentHash" "Ljava/lang/String;" .null) :
    MetFree l (⟨"com/example/grantbook/grantbook/model/ClientSecrets", "withoutRotated", "()Lcom/example/grantbook/grantbook/model/ClientSecrets;"⟩ : MethodName) (head1 (Jvm.Cond.code (⟨"com/example/grantbook/grantbook/model/ClientSecrets", "withoutRotated", "()Lcom/example/grantbook/grantbook/model/ClientSecrets;"⟩ : MethodName) prog_29_method_6_code 1 (some (.object "com/example/grantbook/grantbook/model/ClientSecrets")) :: ws) ({ frames := 4, cells := 1, slots := 2, locals := 51 } : Room)) (fun aA U => aA = #[(.ref o)] ∧ Z.Warmed39 U.vm ∧ U.heap = h0) (fun _ _ _ _ _ => True) (fun _ U oO U' => ∃ vV LL, oO = .returned vV ∧ Q_woN Z o h0 n0 vV U'.heap LL ∧ FrameEnd U oO U' LL ({ frames := 4, cells := 1, slots := 2, locals := 51 } : Room).cells ({ frames := 4, cells := 1, slots := 2, locals := 51 } : Room).slots) := by
  refine MetFree.of_bodySF (plainFor_of_name pn_5) hisR ?_
  intro p e s m args below meth c s₁ Bd hml0 hP hK
  obtain ⟨rfl, hZ, hh⟩ := hP
  have hx := Bd.exec
  have hby := Bd.bytes
  have hml : c.maxLocals = 1 := hml0
  have hown : s.vm.findClass "com/example/grantbook/grantbook/model/ClientSecrets" = some m.cls := findClass_of_methodNamed Bd.named
  have hnm := (name_of_methodNamed Bd.named Bd.method).1
  have X0 : Stand p l e ({ frames := 4, cells := 1, slots := 2, locals := 51 } : Room) s m #[(.ref o)] below meth c s₁ [] 0 0 := Stand.of_body Bd
  have e0 : s₁.heap = h0 := by rw [← hh, Bd.state]; rfl
  have N0 := Fr.nil n0
  have hret := Bd.returns
  have hlk : meth.locks = false := Bd.notSynchronized
  refine own_start (ef_0 m o) ?_
  show own_Go p e below s (Q_woN Z o h0 n0) ({ frames := 4, cells := 1, slots := 2, locals := 51 } : Room).cells ({ frames := 4, cells := 1, slots := 2, locals := 51 } : Room).slots (s₁.setTop (mkF m 0 #[.val (.ref o)] []))
  refine g_aload_n X0 hx 1 (hb hby d_prog_29_method_6_0) rfl rfl rfl ?_
  refine own_getF X0 hx hZ hown (host := "") (Or.inl (hw _ (List.mem_of_getElem? (i := 38) rfl))) Via.refl e0 F_o_currentHash 4 (hb hby d_prog_29_method_6_1) rfl fun T183 X183 e183 => ?_
  refine own_callS X183 hx hZ hown (hw _ (List.mem_of_getElem? (i := 52) rfl)) (hw _ (List.mem_of_getElem? (i := 53) rfl)) (by decide) (rm_ofN l Z a0 hw []  h0 n0 Z0 ) (hw _ (List.mem_of_getElem? (i := 54) rfl)) (hw _ (List.mem_of_getElem? (i := 28) rfl)) e183 0 (by decide) (by decide) (by decide) (by decide) [.null] [] rfl pd_10 rfl 7 rfl (by rw [hml]; rfl) rfl (hb hby d_prog_29_method_6_4) rfl fun T184 v184 L184 X184 hQ184 => ?_
  obtain ⟨nb_184, rfl, Nq184, Kq184, g_nb_184, sz_nb_184, x184_0, f184_0, f184_1⟩ := hQ184
  have ne185 : o ≠ nb_184 := Nat.ne_of_lt (Nat.lt_of_lt_of_le F_o_currentHash.lt sz_nb_184)
  have N184 := Fr.app N0 Nq184
  have sq_nb_184 : h0.size ≤ nb_184 := Nat.le_trans (Keep.refl h0 []).1 sz_nb_184
  have K186 : Keep h0 T184.heap [] := (Keep.refl h0 []).trans Kq184 all0
  have z187 : n0 ≤ T184.heap.size := (Nat.le_trans Z0 Kq184.1)
  show own_GoE p e below _ (T184.setTop (mkF m 7 _ [(.ref nb_184)]))
  refine own_retA X184 hx hlk hret rfl rfl (hb hby d_prog_29_method_6_7) ?_ (by decide) (by decide)
  exact ⟨nb_184, rfl, N184, K186, g_nb_184, sq_nb_184, x184_0, f184_0, f184_1⟩
theorem d_prog_29_method_5_0 : decode prog_29_method_5_code 0 = .ok (.aload_n 0, 1) := by decide +kernel
theorem d_prog_29_method_5_1 : decode prog_29_method_5_code 1 = .ok (.invokevirtual 52, 3) := by decide +kernel
theorem pd_11 : parseMethodDescriptor "()Z" = some ⟨[], some .boolean⟩ := by decide +kernel
theorem d_prog_29_method_5_4 : decode prog_29_method_5_code 4 = .ok (.ifCond .eq 13, 3) := by decide +kernel
theorem d_prog_29_method_5_17 : decode prog_29_method_5_code 17 = .ok (.new 15, 3) := by decide +kernel
theorem d_prog_29_method_5_20 : decode prog_29_method_5_code 20 = .ok (.dup, 1) := by decide +kernel
theorem d_prog_29_method_5_21 : decode prog_29_method_5_code 21 = .ok (.aload_n 1, 1) := by decide +kernel
theorem d_prog_29_method_5_22 : decode prog_29_method_5_code 22 = .ok (.aload_n 0, 1) := by decide +kernel
theorem d_prog_29_method_5_23 : decode prog_29_method_5_code 23 = .ok (.getfield 14, 3) := by decide +kernel
theorem d_prog_29_method_5_26 : decode prog_29_method_5_code 26 = .ok (.invokespecial 23, 3) := by decide +kernel
theorem d_prog_29_method_5_29 : decode prog_29_method_5_code 29 = .ok (.areturn, 1) := by decide +kernel
def Q_rtN (Z : State) (o : Addr) (nh : Addr) (h0 : Heap) (n0 : Nat) (v : Option Value) (h : Heap) (L : List Loc) : Prop := ∃ nb : Addr, v = some (.ref nb) ∧ Fr n0 L ∧ Keep h0 h [] ∧ n0 ≤ nb ∧ h0.size ≤ nb ∧ Exa Z h nb "com/example/grantbook/grantbook/model/ClientSecrets" ∧ Fld Z h nb "com/example/grantbook/grantbook/model/ClientSecrets" "currentHash" "Ljava/lang/String;" (.ref nh) ∧ Fld Z h nb "com/example/grantbook/grantbook/model/ClientSecrets" "rotatedHash" "Ljava/lang/String;" .null
set_option maxRecDepth 65536 in
set_option maxHeartbeats 40000000 in
theorem rm_rtN (l : Launch) (Z : State) (a0 : Array Value) (hw : ∀ d ∈ tables_1, d.before a0 Z = true) (ws : List Jvm.Cond) (o : Addr) (nh : Addr) (h0 : Heap) (n0 : Nat) (Z0 : n0 ≤ h0.size) (E_o : Exa Z h0 o "com/example/grantbook/grantbook/model/ClientSecrets") (F_o_currentHash : Fld Z h0 o "com/example/grantbook/grantbook/model/ClientSecrets" "currentHash" "Ljava/lang/String;" .null) (F_o_rotatedHash : Fld Z h0 o "com/example/grantbook/grantbook/model/ClientSecrets" "rotatedHash" "Ljava/lang/String;" .null) :
    MetFree l (⟨"com/example/grantbook/grantbook/model/ClientSecrets", "rotatedTo", "(Ljava/lang/String;)Lcom/example/grantbook/grantbook/model/ClientSecrets;"⟩ : MethodName) (head1 (Jvm.Cond.code (⟨"com/example/grantbook/grantbook/model/ClientSecrets", "rotatedTo", "(Ljava/lang/String;)Lcom/example/grantbook/grantbook/model/ClientSecrets;"⟩ : MethodName) prog_29_method_5_code 2 (some (.object "com/example/grantbook/grantbook/model/ClientSecrets")) :: ws) ({ frames := 3, cells := 1, slots := 2, locals := 39 } : Room)) (fun aA U => aA = #[(.ref o), (.ref nh)] ∧ Z.Warmed39 U.vm ∧ U.heap = h0) (fun _ _ _ _ _ => True) (fun _ U oO U' => ∃ vV LL, oO = .returned vV ∧ Q_rtN Z o nh h0 n0 vV U'.heap LL ∧ FrameEnd U oO U' LL ({ frames := 3, cells := 1, slots := 2, locals := 39 } : Room).cells ({ frames := 3, cells := 1, slots := 2, locals := 39 } : Room).slots) := by
  refine MetFree.of_bodySF (plainFor_of_name pn_5) hisR ?_
  intro p e s m args below meth c s₁ Bd hml0 hP hK
  obtain ⟨rfl, hZ, hh⟩ := hP
  have hx := Bd.exec
  have hby := Bd.bytes
  have hml : c.maxLocals = 2 := hml0
  have hown : s.vm.findClass "com/example/grantbook/grantbook/model/ClientSecrets" = some m.cls := findClass_of_methodNamed Bd.named
  have hnm := (name_of_methodNamed Bd.named Bd.method).1
  have X0 : Stand p l e ({ frames := 3, cells := 1, slots := 2, locals := 39 } : Room) s m #[(.ref o), (.ref nh)] below meth c s₁ [] 0 0 := Stand.of_body Bd
  have e0 : s₁.heap = h0 := by rw [← hh, Bd.state]; rfl
  have N0 := Fr.nil n0
  have hret := Bd.returns
  have hlk : meth.locks = false := Bd.notSynchronized
  refine own_start (ef_5 m o nh) ?_
  show own_Go p e below s (Q_rtN Z o nh h0 n0) ({ frames := 3, cells := 1, slots := 2, locals := 39 } : Room).cells ({ frames := 3, cells := 1, slots := 2, locals := 39 } : Room).slots (s₁.setTop (mkF m 0 #[.val (.ref o), .val (.ref nh)] []))
  refine g_aload_n X0 hx 1 (hb hby d_prog_29_method_5_0) rfl rfl rfl ?_
  refine own_callV X0 hx hZ hown (hw _ (List.mem_of_getElem? (i := 77) rfl)) (hw _ (List.mem_of_getElem? (i := 43) rfl)) (own_nf hZ (hw _ (List.mem_of_getElem? (i := 45) rfl))) (hw _ (List.mem_of_getElem? (i := 45) rfl)) (hw _ (List.mem_of_getElem? (i := 44) rfl)) (by decide) (rm_hrN l Z a0 hw [] o h0 n0 Z0 F_o_rotatedHash) (hw _ (List.mem_of_getElem? (i := 46) rfl)) (hw _ (List.mem_of_getElem? (i := 28) rfl)) e0 0 (by decide) (by decide) (by decide) (by decide) E_o [] [] rfl pd_11 rfl 4 rfl (by rw [hml]; rfl) rfl (hb hby d_prog_29_method_5_1) rfl fun T188 v188 L188 X188 hQ188 => ?_
  obtain ⟨rfl, Nq188, e188⟩ := hQ188
  have N188 := Fr.app N0 Nq188
  show own_GoE p e below _ (T188.setTop (mkF m 4 _ [(.int (0 : Int32))]))
  refine g_ifYes X188 hx 17 (hb hby d_prog_29_method_5_4) (own_i0_eq_t (by decide)) (by decide) (by decide) ?_
  refine own_newO X188 hx hZ hown (hw _ (List.mem_of_getElem? (i := 55) rfl)) (hw _ (List.mem_of_getElem? (i := 27) rfl)) (hw _ (List.mem_of_getElem? (i := 28) rfl)) e188 20 (hb hby d_prog_29_method_5_17) rfl (by decide) (by decide) fun T189 h189 b189 X189 e189 g189 E189 A189 D189 => ?_
  have ne190 : o ≠ b189 := Nat.ne_of_lt (Nat.lt_of_lt_of_le E_o.lt (Nat.le_of_eq g189.symm))
  have g_b189 : n0 ≤ b189 := Nat.le_trans Z0 (Nat.le_of_eq g189.symm)
  have sz_b189 : h0.size ≤ b189 := Nat.le_trans (Keep.refl h0 []).1 (Nat.le_of_eq g189.symm)
  have K191 : Keep h0 h189 [] := (Keep.refl h0 []).ext E189
  have z192 : n0 ≤ h189.size := (Nat.le_trans Z0 E189.1)
  have f193 : Fld Z h189 b189 "com/example/grantbook/grantbook/model/ClientSecrets" "currentHash" "Ljava/lang/String;" .null := D189 (Or.inr (hw _ (List.mem_of_getElem? (i := 39) rfl))) (ty := (.object "java/lang/String")) (by decide)
  have f194 : Fld Z h189 b189 "com/example/grantbook/grantbook/model/ClientSecrets" "rotatedHash" "Ljava/lang/String;" .null := D189 (Or.inr (hw _ (List.mem_of_getElem? (i := 41) rfl))) (ty := (.object "java/lang/String")) (by decide)
  refine g_dup X189 hx 21 (hb hby d_prog_29_method_5_20) rfl rfl ?_
  refine g_aload_n X189 hx 22 (hb hby d_prog_29_method_5_21) rfl rfl rfl ?_
  refine g_aload_n X189 hx 23 (hb hby d_prog_29_method_5_22) rfl rfl rfl ?_
  have f195 : Fld Z h189 o "com/example/grantbook/grantbook/model/ClientSecrets" "currentHash" "Ljava/lang/String;" .null := (F_o_currentHash.keep K191 nin0)
  refine own_getF X189 hx hZ hown (host := "") (Or.inl (hw _ (List.mem_of_getElem? (i := 38) rfl))) Via.refl e189 f195 26 (hb hby d_prog_29_method_5_23) rfl fun T196 X196 e196 => ?_
  refine own_callI X196 hx hZ hown rfl (hw _ (List.mem_of_getElem? (i := 56) rfl)) (hw _ (List.mem_of_getElem? (i := 30) rfl)) (by decide) (rm_icsRN l Z a0 hw [] b189 nh h189 n0 z192 A189 f193 f194 g_b189) (hw _ (List.mem_of_getElem? (i := 31) rfl)) (hw _ (List.mem_of_getElem? (i := 28) rfl)) e196 1 (by decide) (by decide) (by decide) (by decide) b189 [(.ref nh), .null] [(.ref b189)] rfl pd_9 rfl 29 rfl (by rw [hml]; rfl) rfl (hb hby d_prog_29_method_5_26) rfl fun T197 v197 L197 X197 hQ197 => ?_
  obtain ⟨rfl, Nq197, Kq197, f197_0, f197_1⟩ := hQ197
  have N197 := Fr.app N188 Nq197
  have K198 : Keep h0 T197.heap [] := K191.trans Kq197 (allS (Or.inr sz_b189) all0)
  have z199 : n0 ≤ T197.heap.size := (Nat.le_trans z192 Kq197.1)
  show own_GoE p e below _ (T197.setTop (mkF m 29 _ [(.ref b189)]))
  have f200 : Exa Z T197.heap b189 "com/example/grantbook/grantbook/model/ClientSecrets" := (A189.keep Kq197)
  refine own_retA X197 hx hlk hret rfl rfl (hb hby d_prog_29_method_5_29) ?_ (by decide) (by decide)
  exact ⟨b189, rfl, N197, K198, g_b189, sz_b189, f200, f197_0, f197_1⟩
def Q_ofR (Z : State) (cu : Addr) (h0 : Heap) (n0 : Nat) (v : Option Value) (h : Heap) (L : List Loc) : Prop := ∃ nb : Addr, v = some (.ref nb) ∧ Fr n0 L ∧ Keep h0 h [] ∧ n0 ≤ nb ∧ h0.size ≤ nb ∧ Exa Z h nb "com/example/grantbook/grantbook/model/ClientSecrets" ∧ Fld Z h nb "com/example/grantbook/grantbook/model/ClientSecrets" "currentHash" "Ljava/lang/String;" (.ref cu) ∧ Fld Z h nb "com/example/grantbook/grantbook/model/ClientSecrets" "rotatedHash" "Ljava/lang/String;" .null
set_option maxRecDepth 65536 in
set_option maxHeartbeats 40000000 in
theorem rm_ofR (l : Launch) (Z : State) (a0 : Array Value) (hw : ∀ d ∈ tables_1, d.before a0 Z = true) (ws : List Jvm.Cond) (cu : Addr) (h0 : Heap) (n0 : Nat) (Z0 : n0 ≤ h0.size) :
    MetFree l (⟨"com/example/grantbook/grantbook/model/ClientSecrets", "of", "(Ljava/lang/String;)Lcom/example/grantbook/grantbook/model/ClientSecrets;"⟩ : MethodName) (head1 (Jvm.Cond.code (⟨"com/example/grantbook/grantbook/model/ClientSecrets", "of", "(Ljava/lang/String;)Lcom/example/grantbook/grantbook/model/ClientSecrets;"⟩ : MethodName) prog_29_method_2_code 1 (some (.object "com/example/grantbook/grantbook/model/ClientSecrets")) :: ws) ({ frames := 3, cells := 1, slots := 2, locals := 39 } : Room)) (fun aA U => aA = #[(.ref cu)] ∧ Z.Warmed39 U.vm ∧ U.heap = h0) (fun _ _ _ _ _ => True) (fun _ U oO U' => ∃ vV LL, oO = .returned vV ∧ Q_ofR Z cu h0 n0 vV U'.heap LL ∧ FrameEnd U oO U' LL ({ frames := 3, cells := 1, slots := 2, locals := 39 } : Room).cells ({ frames := 3, cells := 1, slots := 2, locals := 39 } : Room).slots) := by
  refine MetFree.of_bodySF (plainFor_of_name pn_5) hisR ?_
  intro p e s m args below meth c s₁ Bd hml0 hP hK
  obtain ⟨rfl, hZ, hh⟩ := hP
  have hx := Bd.exec
  have hby := Bd.bytes
  have hml : c.maxLocals = 1 := hml0
  have hown : s.vm.findClass "com/example/grantbook/grantbook/model/ClientSecrets" = some m.cls := findClass_of_methodNamed Bd.named
  have hnm := (name_of_methodNamed Bd.named Bd.method).1
  have X0 : Stand p l e ({ frames := 3, cells := 1, slots := 2, locals := 39 } : Room) s m #[(.ref cu)] below meth c s₁ [] 0 0 := Stand.of_body Bd
  have e0 : s₁.heap = h0 := by rw [← hh, Bd.state]; rfl
  have N0 := Fr.nil n0
  have hret := Bd.returns
  have hlk : meth.locks = false := Bd.notSynchronized
  refine own_start (ef_0 m cu) ?_
  show own_Go p e below s (Q_ofR Z cu h0 n0) ({ frames := 3, cells := 1, slots := 2, locals := 39 } : Room).cells ({ frames := 3, cells := 1, slots := 2, locals := 39 } : Room).slots (s₁.setTop (mkF m 0 #[.val (.ref cu)] []))
  refine own_newO X0 hx hZ hown (hw _ (List.mem_of_getElem? (i := 55) rfl)) (hw _ (List.mem_of_getElem? (i := 27) rfl)) (hw _ (List.mem_of_getElem? (i := 28) rfl)) e0 3 (hb hby d_prog_29_method_2_0) rfl (by decide) (by decide) fun T201 h201 b201 X201 e201 g201 E201 A201 D201 => ?_
  have g_b201 : n0 ≤ b201 := Nat.le_trans Z0 (Nat.le_of_eq g201.symm)
  have sz_b201 : h0.size ≤ b201 := Nat.le_trans (Keep.refl h0 []).1 (Nat.le_of_eq g201.symm)
  have K202 : Keep h0 h201 [] := (Keep.refl h0 []).ext E201
  have z203 : n0 ≤ h201.size := (Nat.le_trans Z0 E201.1)
  have f204 : Fld Z h201 b201 "com/example/grantbook/grantbook/model/ClientSecrets" "currentHash" "Ljava/lang/String;" .null := D201 (Or.inr (hw _ (List.mem_of_getElem? (i := 39) rfl))) (ty := (.object "java/lang/String")) (by decide)
  have f205 : Fld Z h201 b201 "com/example/grantbook/grantbook/model/ClientSecrets" "rotatedHash" "Ljava/lang/String;" .null := D201 (Or.inr (hw _ (List.mem_of_getElem? (i := 41) rfl))) (ty := (.object "java/lang/String")) (by decide)
  refine g_dup X201 hx 4 (hb hby d_prog_29_method_2_3) rfl rfl ?_
  refine g_aload_n X201 hx 5 (hb hby d_prog_29_method_2_4) rfl rfl rfl ?_
  refine g_aconst_null X201 hx 6 (hb hby d_prog_29_method_2_5) rfl ?_
  refine own_callI X201 hx hZ hown rfl (hw _ (List.mem_of_getElem? (i := 56) rfl)) (hw _ (List.mem_of_getElem? (i := 30) rfl)) (by decide) (rm_icsRN l Z a0 hw [] b201 cu h201 n0 z203 A201 f204 f205 g_b201) (hw _ (List.mem_of_getElem? (i := 31) rfl)) (hw _ (List.mem_of_getElem? (i := 28) rfl)) e201 1 (by decide) (by decide) (by decide) (by decide) b201 [(.ref cu), .null] [(.ref b201)] rfl pd_9 rfl 9 rfl (by rw [hml]; rfl) rfl (hb hby d_prog_29_method_2_6) rfl fun T206 v206 L206 X206 hQ206 => ?_
  obtain ⟨rfl, Nq206, Kq206, f206_0, f206_1⟩ := hQ206
  have N206 := Fr.app N0 Nq206
  have K207 : Keep h0 T206.heap [] := K202.trans Kq206 (allS (Or.inr sz_b201) all0)
  have z208 : n0 ≤ T206.heap.size := (Nat.le_trans z203 Kq206.1)
  show own_GoE p e below _ (T206.setTop (mkF m 9 _ [(.ref b201)]))
  have f209 : Exa Z T206.heap b201 "com/example/grantbook/grantbook/model/ClientSecrets" := (A201.keep Kq206)
  refine own_retA X206 hx hlk hret rfl rfl (hb hby d_prog_29_method_2_9) ?_ (by decide) (by decide)
  exact ⟨b201, rfl, N206, K207, g_b201, sz_b201, f209, f206_0, f206_1⟩
def Q_woR (Z : State) (o : Addr) (cu : Addr) (h0 : Heap) (n0 : Nat) (v : Option Value) (h : Heap) (L : List Loc) : Prop := ∃ nb : Addr, v = some (.ref nb) ∧ Fr n0 L ∧ Keep h0 h [] ∧ n0 ≤ nb ∧ h0.size ≤ nb ∧ Exa Z h nb "com/example/grantbook/grantbook/model/ClientSecrets" ∧ Fld Z h nb "com/example/grantbook/grantbook/model/ClientSecrets" "currentHash" "Ljava/lang/String;" (.ref cu) ∧ Fld Z h nb "com/example/grantbook/grantbook/model/ClientSecrets" "rotatedHash" "Ljava/lang/String;" .null
set_option maxRecDepth 65536 in
set_option maxHeartbeats 40000000 in
theorem rm_woR (l : Launch) (Z : State) (a0 : Array Value) (hw : ∀ d ∈ tables_1, d.before a0 Z = true) (ws : List Jvm.Cond) (o : Addr) (cu : Addr) (h0 : Heap) (n0 : Nat) (Z0 : n0 ≤ h0.size) (F_o_currentHash : Fld Z h0 o "com/example/grantbook/grantbook/model/ClientSecrets" "currentHash" "Ljava/lang/String;" (.ref cu)) :
    MetFree l (⟨"com/example/grantbook/grantbook/model/ClientSecrets", "withoutRotated", "()Lcom/example/grantbook/grantbook/model/ClientSecrets;"⟩ : MethodName) (head1 (Jvm.Cond.code (⟨"com/example/grantbook/grantbook/model/ClientSecrets", "withoutRotated", "()Lcom/example/grantbook/grantbook/model/ClientSecrets;"⟩ : MethodName) prog_29_method_6_code 1 (some (.object "com/example/grantbook/grantbook/model/ClientSecrets")) :: ws) ({ frames := 4, cells := 1, slots := 2, locals := 51 } : Room)) (fun aA U => aA = #[(.ref o)] ∧ Z.Warmed39 U.vm ∧ U.heap = h0) (fun _ _ _ _ _ => True) (fun _ U oO U' => ∃ vV LL, oO = .returned vV ∧ Q_woR Z o cu h0 n0 vV U'.heap LL ∧ FrameEnd U oO U' LL ({ frames := 4, cells := 1, slots := 2, locals := 51 } : Room).cells ({ frames := 4, cells := 1, slots := 2, locals := 51 } : Room).slots) := by
  refine MetFree.of_bodySF (plainFor_of_name pn_5) hisR ?_
  intro p e s m args below meth c s₁ Bd hml0 hP hK
  obtain ⟨rfl, hZ, hh⟩ := hP
  have hx := Bd.exec
  have hby := Bd.bytes
  have hml : c.maxLocals = 1 := hml0
  have hown : s.vm.findClass "com/example/grantbook/grantbook/model/ClientSecrets" = some m.cls := findClass_of_methodNamed Bd.named
  have hnm := (name_of_methodNamed Bd.named Bd.method).1
  have X0 : Stand p l e ({ frames := 4, cells := 1, slots := 2, locals := 51 } : Room) s m #[(.ref o)] below meth c s₁ [] 0 0 := Stand.of_body Bd
  have e0 : s₁.heap = h0 := by rw [← hh, Bd.state]; rfl
  have N0 := Fr.nil n0
  have hret := Bd.returns
  have hlk : meth.locks = false := Bd.notSynchronized
  refine own_start (ef_0 m o) ?_
  show own_Go p e below s (Q_woR Z o cu h0 n0) ({ frames := 4, cells := 1, slots := 2, locals := 51 } : Room).cells ({ frames := 4, cells := 1, slots := 2, locals := 51 } : Room).slots (s₁.setTop (mkF m 0 #[.val (.ref o)] []))
  refine g_aload_n X0 hx 1 (hb hby d_prog_29_method_6_0) rfl rfl rfl ?_
  refine own_getF X0 hx hZ hown (host := "") (Or.inl (hw _ (List.mem_of_getElem? (i := 38) rfl))) Via.refl e0 F_o_currentHash 4 (hb hby d_prog_29_method_6_1) rfl fun T210 X210 e210 => ?_
  refine own_callS X210 hx hZ hown (hw _ (List.mem_of_getElem? (i := 52) rfl)) (hw _ (List.mem_of_getElem? (i := 53) rfl)) (by decide) (rm_ofR l Z a0 hw [] cu h0 n0 Z0 ) (hw _ (List.mem_of_getElem? (i := 54) rfl)) (hw _ (List.mem_of_getElem? (i := 28) rfl)) e210 0 (by decide) (by decide) (by decide) (by decide) [(.ref cu)] [] rfl pd_10 rfl 7 rfl (by rw [hml]; rfl) rfl (hb hby d_prog_29_method_6_4) rfl fun T211 v211 L211 X211 hQ211 => ?_
  obtain ⟨nb_211, rfl, Nq211, Kq211, g_nb_211, sz_nb_211, x211_0, f211_0, f211_1⟩ := hQ211
  have ne212 : o ≠ nb_211 := Nat.ne_of_lt (Nat.lt_of_lt_of_le F_o_currentHash.lt sz_nb_211)
  have N211 := Fr.app N0 Nq211
  have sq_nb_211 : h0.size ≤ nb_211 := Nat.le_trans (Keep.refl h0 []).1 sz_nb_211
  have K213 : Keep h0 T211.heap [] := (Keep.refl h0 []).trans Kq211 all0
  have z214 : n0 ≤ T211.heap.size := (Nat.le_trans Z0 Kq211.1)
  show own_GoE p e below _ (T211.setTop (mkF m 7 _ [(.ref nb_211)]))
  refine own_retA X211 hx hlk hret rfl rfl (hb hby d_prog_29_method_6_7) ?_ (by decide) (by decide)
  exact ⟨nb_211, rfl, N211, K213, g_nb_211, sq_nb_211, x211_0, f211_0, f211_1⟩
def Q_rtR (Z : State) (o : Addr) (nh : Addr) (cu : Addr) (h0 : Heap) (n0 : Nat) (v : Option Value) (h : Heap) (L : List Loc) : Prop := ∃ nb : Addr, v = some (.ref nb) ∧ Fr n0 L ∧ Keep h0 h [] ∧ n0 ≤ nb ∧ h0.size ≤ nb ∧ Exa Z h nb "com/example/grantbook/grantbook/model/ClientSecrets" ∧ Fld Z h nb "com/example/grantbook/grantbook/model/ClientSecrets" "currentHash" "Ljava/lang/String;" (.ref nh) ∧ Fld Z h nb "com/example/grantbook/grantbook/model/ClientSecrets" "rotatedHash" "Ljava/lang/String;" (.ref cu)
set_option maxRecDepth 65536 in
set_option maxHeartbeats 40000000 in
theorem rm_rtR (l : Launch) (Z : State) (a0 : Array Value) (hw : ∀ d ∈ tables_1, d.before a0 Z = true) (ws : List Jvm.Cond) (o : Addr) (nh : Addr) (cu : Addr) (h0 : Heap) (n0 : Nat) (Z0 : n0 ≤ h0.size) (E_o : Exa Z h0 o "com/example/grantbook/grantbook/model/ClientSecrets") (F_o_currentHash : Fld Z h0 o "com/example/grantbook/grantbook/model/ClientSecrets" "currentHash" "Ljava/lang/String;" (.ref cu)) (F_o_rotatedHash : Fld Z h0 o "com/example/grantbook/grantbook/model/ClientSecrets" "rotatedHash" "Ljava/lang/String;" .null) :
    MetFree l (⟨"com/example/grantbook/grantbook/model/ClientSecrets", "rotatedTo", "(Ljava/lang/String;)Lcom/example/grantbook/grantbook/model/ClientSecrets;"⟩ : MethodName) (head1 (Jvm.Cond.code (⟨"com/example/grantbook/grantbook/model/ClientSecrets", "rotatedTo", "(Ljava/lang/String;)Lcom/example/grantbook/grantbook/model/ClientSecrets;"⟩ : MethodName) prog_29_method_5_code 2 (some (.object "com/example/grantbook/grantbook/model/ClientSecrets")) :: ws) ({ frames := 3, cells := 1, slots := 2, locals := 39 } : Room)) (fun aA U => aA = #[(.ref o), (.ref nh)] ∧ Z.Warmed39 U.vm ∧ U.heap = h0) (fun _ _ _ _ _ => True) (fun _ U oO U' => ∃ vV LL, oO = .returned vV ∧ Q_rtR Z o nh cu h0 n0 vV U'.heap LL ∧ FrameEnd U oO U' LL ({ frames := 3, cells := 1, slots := 2, locals := 39 } : Room).cells ({ frames := 3, cells := 1, slots := 2, locals := 39 } : Room).slots) := by
  refine MetFree.of_bodySF (plainFor_of_name pn_5) hisR ?_
  intro p e s m args below meth c s₁ Bd hml0 hP hK
  obtain ⟨rfl, hZ, hh⟩ := hP
  have hx := Bd.exec
  have hby := Bd.bytes
  have hml : c.maxLocals = 2 := hml0
  have hown : s.vm.findClass "com/example/grantbook/grantbook/model/ClientSecrets" = some m.cls := findClass_of_methodNamed Bd.named
  have hnm := (name_of_methodNamed Bd.named Bd.method).1
  have X0 : Stand p l e ({ frames := 3, cells := 1, slots := 2, locals := 39 } : Room) s m #[(.ref o), (.ref nh)] below meth c s₁ [] 0 0 := Stand.of_body Bd
  have e0 : s₁.heap = h0 := by rw [← hh, Bd.state]; rfl
  have N0 := Fr.nil n0
  have hret := Bd.returns
  have hlk : meth.locks = false := Bd.notSynchronized
  refine own_start (ef_5 m o nh) ?_
  show own_Go p e below s (Q_rtR Z o nh cu h0 n0) ({ frames := 3, cells := 1, slots := 2, locals := 39 } : Room).cells ({ frames := 3, cells := 1, slots := 2, locals := 39 } : Room).slots (s₁.setTop (mkF m 0 #[.val (.ref o), .val (.ref nh)] []))
  refine g_aload_n X0 hx 1 (hb hby d_prog_29_method_5_0) rfl rfl rfl ?_
  refine own_callV X0 hx hZ hown (hw _ (List.mem_of_getElem? (i := 77) rfl)) (hw _ (List.mem_of_getElem? (i := 43) rfl)) (own_nf hZ (hw _ (List.mem_of_getElem? (i := 45) rfl))) (hw _ (List.mem_of_getElem? (i := 45) rfl)) (hw _ (List.mem_of_getElem? (i := 44) rfl)) (by decide) (rm_hrN l Z a0 hw [] o h0 n0 Z0 F_o_rotatedHash) (hw _ (List.mem_of_getElem? (i := 46) rfl)) (hw _ (List.mem_of_getElem? (i := 28) rfl)) e0 0 (by decide) (by decide) (by decide) (by decide) E_o [] [] rfl pd_11 rfl 4 rfl (by rw [hml]; rfl) rfl (hb hby d_prog_29_method_5_1) rfl fun T215 v215 L215 X215 hQ215 => ?_
  obtain ⟨rfl, Nq215, e215⟩ := hQ215
  have N215 := Fr.app N0 Nq215
  show own_GoE p e below _ (T215.setTop (mkF m 4 _ [(.int (0 : Int32))]))
  refine g_ifYes X215 hx 17 (hb hby d_prog_29_method_5_4) (own_i0_eq_t (by decide)) (by decide) (by decide) ?_
  refine own_newO X215 hx hZ hown (hw _ (List.mem_of_getElem? (i := 55) rfl)) (hw _ (List.mem_of_getElem? (i := 27) rfl)) (hw _ (List.mem_of_getElem? (i := 28) rfl)) e215 20 (hb hby d_prog_29_method_5_17) rfl (by decide) (by decide) fun T216 h216 b216 X216 e216 g216 E216 A216 D216 => ?_
  have ne217 : o ≠ b216 := Nat.ne_of_lt (Nat.lt_of_lt_of_le E_o.lt (Nat.le_of_eq g216.symm))
  have g_b216 : n0 ≤ b216 := Nat.le_trans Z0 (Nat.le_of_eq g216.symm)
  have sz_b216 : h0.size ≤ b216 := Nat.le_trans (Keep.refl h0 []).1 (Nat.le_of_eq g216.symm)
  have K218 : Keep h0 h216 [] := (Keep.refl h0 []).ext E216
  have z219 : n0 ≤ h216.size := (Nat.le_trans Z0 E216.1)
  have f220 : Fld Z h216 b216 "com/example/grantbook/grantbook/model/ClientSecrets" "currentHash" "Ljava/lang/String;" .null := D216 (Or.inr (hw _ (List.mem_of_getElem? (i := 39) rfl))) (ty := (.object "java/lang/String")) (by decide)
  have f221 : Fld Z h216 b216 "com/example/grantbook/grantbook/model/ClientSecrets" "rotatedHash" "Ljava/lang/String;" .null := D216 (Or.inr (hw _ (List.mem_of_getElem? (i := 41) rfl))) (ty := (.object "java/lang/String")) (by decide)
  refine g_dup X216 hx 21 (hb hby d_prog_29_method_5_20) rfl rfl ?_
  refine g_aload_n X216 hx 22 (hb hby d_prog_29_method_5_21) rfl rfl rfl ?_
  refine g_aload_n X216 hx 23 (hb hby d_prog_29_method_5_22) rfl rfl rfl ?_
  have f222 : Fld Z h216 o "com/example/grantbook/grantbook/model/ClientSecrets" "currentHash" "Ljava/lang/String;" (.ref cu) := (F_o_currentHash.keep K218 nin0)
  refine own_getF X216 hx hZ hown (host := "") (Or.inl (hw _ (List.mem_of_getElem? (i := 38) rfl))) Via.refl e216 f222 26 (hb hby d_prog_29_method_5_23) rfl fun T223 X223 e223 => ?_
  refine own_callI X223 hx hZ hown rfl (hw _ (List.mem_of_getElem? (i := 56) rfl)) (hw _ (List.mem_of_getElem? (i := 30) rfl)) (by decide) (rm_icsRR l Z a0 hw [] b216 nh cu h216 n0 z219 A216 f220 f221 g_b216) (hw _ (List.mem_of_getElem? (i := 31) rfl)) (hw _ (List.mem_of_getElem? (i := 28) rfl)) e223 1 (by decide) (by decide) (by decide) (by decide) b216 [(.ref nh), (.ref cu)] [(.ref b216)] rfl pd_9 rfl 29 rfl (by rw [hml]; rfl) rfl (hb hby d_prog_29_method_5_26) rfl fun T224 v224 L224 X224 hQ224 => ?_
  obtain ⟨rfl, Nq224, Kq224, f224_0, f224_1⟩ := hQ224
  have N224 := Fr.app N215 Nq224
  have K225 : Keep h0 T224.heap [] := K218.trans Kq224 (allS (Or.inr sz_b216) all0)
  have z226 : n0 ≤ T224.heap.size := (Nat.le_trans z219 Kq224.1)
  show own_GoE p e below _ (T224.setTop (mkF m 29 _ [(.ref b216)]))
  have f227 : Exa Z T224.heap b216 "com/example/grantbook/grantbook/model/ClientSecrets" := (A216.keep Kq224)
  refine own_retA X224 hx hlk hret rfl rfl (hb hby d_prog_29_method_5_29) ?_ (by decide) (by decide)
  exact ⟨b216, rfl, N224, K225, g_b216, sz_b216, f227, f224_0, f224_1⟩
theorem pd_12 : parseMethodDescriptor "()Lcom/example/grantbook/grantbook/model/ClientSecrets;" = some ⟨[], some (.object "com/example/grantbook/grantbook/model/ClientSecrets")⟩ := by decide +kernel
theorem pd_13 : parseMethodDescriptor "(C)Ljava/lang/String;" = some ⟨[.char], some (.object "java/lang/String")⟩ := by decide +kernel
theorem pd_14 : parseMethodDescriptor "(II)Ljava/lang/String;" = some ⟨[.int, .int], some (.object "java/lang/String")⟩ := by decide +kernel
theorem ef_13 (m : MethodId) (x0 : Int32) (x1 : Int32) (x2 : Int32) (x3 : Int32) : entryFrame m #[(.int x0), (.int x1), (.int x2), (.int x3)] maxLocals = mkF m 0 #[.val (.int x0), .val (.int x1), .val (.int x2), .val (.int x3), .unset, .unset, .unset, .unset, .unset, .unset, .unset] [] := by first | (simp [entryFrame, mkF, argsToLocals, Value.category, maxLocals]; done) | rfl
def Q_law (Z : State) (p0 p1 p2 p3 zc : Int32) (h0 : Heap) (n0 : Nat) (v : Option Value) (h : Heap) (L : List Loc) : Prop := v = some (.int 1) ∧ Fr n0 L
def QW_law (Z : State) (p0 p1 p2 p3 zc : Int32) (h0 : Heap) (n0 : Nat) (v : Option Value) (vm : Vm) (h : Heap) (L : List Loc) : Prop := Q_law Z p0 p1 p2 p3 zc h0 n0 v h L
set_option maxRecDepth 65536 in
set_option maxHeartbeats 40000000 in
theorem rm_law (l : Launch) (Z : State) (a0 : Array Value) (hw : ∀ d ∈ tables_1, d.before a0 Z = true) (ws : List Jvm.Cond) (p0 p1 p2 p3 zc : Int32) (h0 : Heap) (n0 : Nat) (Z0 : n0 ≤ h0.size) (S_c : Sta Z h0 "java/lang/String" "COMPACT_STRINGS" "Z" (.int zc)) (hz : ¬ (zc = (0 : Int32))) (KZ : ∀ (b : Addr) (cl : Cell), Z.heap[b]? = some cl → h0[b]? = some cl) (hH : Jvm.Lit.constHeld Z "java/lang/String" 7) (hcw : Jvm.Lit.compactW.before a0 Z = true) :
    MetFree l x (head1 (Jvm.Cond.code x code maxLocals ret :: ws) room_1) (fun aA U => aA = #[(.int p0), (.int p1), (.int p2), (.int p3)] ∧ Z.Warmed39 U.vm ∧ U.heap = h0 ∧ own_LD Z U.vm h0) (fun _ _ _ _ _ => True) (fun _ U oO U' => ∃ vV LL, oO = .returned vV ∧ Q_law Z p0 p1 p2 p3 zc h0 n0 vV U'.heap LL ∧ ReturnedEndW U oO U' LL room_1.cells room_1.slots) := by
  refine MetFree.of_bodySF (plainFor_of_name pn_3) hisR ?_
  intro p e s m args below meth c s₁ Bd hml0 hP hK
  obtain ⟨rfl, hZ0, hh, D0⟩ := hP
  have hx := Bd.exec
  have hby := Bd.bytes
  have hml : c.maxLocals = 11 := hml0
  have hZ : Z.Warmed39 (s.setVm s.vm).vm := hZ0
  have hown : (s.setVm s.vm).vm.findClass "com/example/grantbook/grantbook/model/ClientSecretsHasRotatedPinLaw" = some m.cls := findClass_of_methodNamed Bd.named
  have hnm := (name_of_methodNamed Bd.named Bd.method).1
  have X0 : Stand p l e room_1 (s.setVm s.vm) m #[(.int p0), (.int p1), (.int p2), (.int p3)] below meth c s₁ [] 0 0 := Stand.of_body Bd
  have hS : s.Since s.vm 0 := (State.WarmedH.refl s).since 0
  have hSk : 0 ≤ h0.size := Nat.zero_le _
  have e0 : s₁.heap = h0 := by rw [← hh, Bd.state]; rfl
  have N0 := Fr.nil n0
  have hret := Bd.returns
  have hlk : meth.locks = false := Bd.notSynchronized
  refine own_start (ef_13 m p0 p1 p2 p3) ?_
  show own_GoE p e below (fun oO vV UU LL => QW_law Z p0 p1 p2 p3 zc h0 n0 vV UU.vm UU.heap LL ∧ ReturnedEndW s oO UU LL room_1.cells room_1.slots) (s₁.setTop (mkF m 0 #[.val (.int p0), .val (.int p1), .val (.int p2), .val (.int p3), .unset, .unset, .unset, .unset, .unset, .unset, .unset] []))
  refine g_iload_n X0 hx 1 (hb hby at_0) rfl rfl ?_
  refine g_iconst X0 hx 2 (hb hby at_1) (1 : Int32) rfl rfl ?_
  refine g_iand X0 hx 3 (hb hby at_2) rfl ?_
  by_cases c228 : (p3 &&& (1 : Int32)) = (0 : Int32)
  · refine g_ifYes X0 hx 10 (hb hby at_3) (own_i0_eq_t c228) (by decide) (by decide) ?_
    refine g_iconst X0 hx 11 (hb hby at_10) (0 : Int32) rfl rfl ?_
    refine g_istore X0 hx 13 (hb hby at_11) (l' := #[.val (.int p0), .val (.int p1), .val (.int p2), .val (.int p3), .val (.int (0 : Int32)), .unset, .unset, .unset, .unset, .unset, .unset]) rfl rfl ?_
    refine g_iload_n X0 hx 14 (hb hby at_13) rfl rfl ?_
    refine g_iconst X0 hx 15 (hb hby at_14) (2 : Int32) rfl rfl ?_
    refine g_iand X0 hx 16 (hb hby at_15) rfl ?_
    by_cases c229 : (p3 &&& (2 : Int32)) = (0 : Int32)
    · refine g_ifYes X0 hx 28 (hb hby at_16) (own_i0_eq_t c229) (by decide) (by decide) ?_
      refine g_iconst X0 hx 29 (hb hby at_28) (0 : Int32) rfl rfl ?_
      refine g_istore X0 hx 31 (hb hby at_29) (l' := #[.val (.int p0), .val (.int p1), .val (.int p2), .val (.int p3), .val (.int (0 : Int32)), .val (.int (0 : Int32)), .unset, .unset, .unset, .unset, .unset]) rfl rfl ?_
      refine g_iload X0 hx 33 (hb hby at_31) rfl rfl ?_
      refine g_ifYes X0 hx 46 (hb hby at_33) (own_i0_eq_t (by decide)) (by decide) (by decide) ?_
      refine g_aconst_null X0 hx 47 (hb hby at_46) rfl ?_
      refine g_astore X0 hx 49 (hb hby at_47) rfl (l' := #[.val (.int p0), .val (.int p1), .val (.int p2), .val (.int p3), .val (.int (0 : Int32)), .val (.int (0 : Int32)), .val .null, .unset, .unset, .unset, .unset]) rfl rfl ?_
      refine g_iload X0 hx 51 (hb hby at_49) rfl rfl ?_
      refine g_ifYes X0 hx 64 (hb hby at_51) (own_i0_eq_t (by decide)) (by decide) (by decide) ?_
      refine g_aconst_null X0 hx 65 (hb hby at_64) rfl ?_
      refine g_astore X0 hx 67 (hb hby at_65) rfl (l' := #[.val (.int p0), .val (.int p1), .val (.int p2), .val (.int p3), .val (.int (0 : Int32)), .val (.int (0 : Int32)), .val .null, .val .null, .unset, .unset, .unset]) rfl rfl ?_
      refine own_newO X0 hx hZ hown (hw _ (List.mem_of_getElem? (i := 26) rfl)) (hw _ (List.mem_of_getElem? (i := 27) rfl)) (hw _ (List.mem_of_getElem? (i := 28) rfl)) e0 70 (hb hby at_67) rfl (by decide) (by decide) fun T230 h230 b230 X230 e230 g230 E230 A230 D230 => ?_
      have g_b230 : n0 ≤ b230 := Nat.le_trans Z0 (Nat.le_of_eq g230.symm)
      have sz_b230 : h0.size ≤ b230 := Nat.le_trans (Keep.refl h0 []).1 (Nat.le_of_eq g230.symm)
      have K231 : Keep h0 h230 [] := (Keep.refl h0 []).ext E230
      have z232 : n0 ≤ h230.size := (Nat.le_trans Z0 E230.1)
      have z233 : _ ≤ h230.size := (Nat.le_trans hSk E230.1)
      have f234 : Fld Z h230 b230 "com/example/grantbook/grantbook/model/ClientSecrets" "currentHash" "Ljava/lang/String;" .null := D230 (Or.inr (hw _ (List.mem_of_getElem? (i := 39) rfl))) (ty := (.object "java/lang/String")) (by decide)
      have f235 : Fld Z h230 b230 "com/example/grantbook/grantbook/model/ClientSecrets" "rotatedHash" "Ljava/lang/String;" .null := D230 (Or.inr (hw _ (List.mem_of_getElem? (i := 41) rfl))) (ty := (.object "java/lang/String")) (by decide)
      refine g_dup X230 hx 71 (hb hby at_70) rfl rfl ?_
      refine g_aload X230 hx 73 (hb hby at_71) rfl rfl rfl ?_
      refine g_aload X230 hx 75 (hb hby at_73) rfl rfl rfl ?_
      refine own_callI X230 hx hZ hown rfl (hw _ (List.mem_of_getElem? (i := 29) rfl)) (hw _ (List.mem_of_getElem? (i := 30) rfl)) (by decide) (rm_icsNN l Z a0 hw [] b230 h230 n0 z232 A230 f234 f235 g_b230) (hw _ (List.mem_of_getElem? (i := 31) rfl)) (hw _ (List.mem_of_getElem? (i := 28) rfl)) e230 1 (by decide) (by decide) (by decide) (by decide) b230 [.null, .null] [(.ref b230)] rfl pd_9 rfl 78 rfl (by rw [hml]; rfl) rfl (hb hby at_75) rfl fun T236 v236 L236 X236 hQ236 => ?_
      obtain ⟨rfl, Nq236, Kq236, f236_0, f236_1⟩ := hQ236
      have N236 := Fr.app N0 Nq236
      have K237 : Keep h0 T236.heap [] := K231.trans Kq236 (allS (Or.inr sz_b230) all0)
      have z238 : n0 ≤ T236.heap.size := (Nat.le_trans z232 Kq236.1)
      have z239 : _ ≤ T236.heap.size := (Nat.le_trans z233 Kq236.1)
      show own_GoE p e below _ (T236.setTop (mkF m 78 _ [(.ref b230)]))
      refine g_astore X236 hx 80 (hb hby at_78) rfl (l' := #[.val (.int p0), .val (.int p1), .val (.int p2), .val (.int p3), .val (.int (0 : Int32)), .val (.int (0 : Int32)), .val .null, .val .null, .val (.ref b230), .unset, .unset]) rfl rfl ?_
      refine g_aload X236 hx 82 (hb hby at_80) rfl rfl rfl ?_
      have f241 : Exa Z T236.heap b230 "com/example/grantbook/grantbook/model/ClientSecrets" := (A230.keep Kq236)
      refine own_callV X236 hx hZ hown (hw _ (List.mem_of_getElem? (i := 42) rfl)) (hw _ (List.mem_of_getElem? (i := 43) rfl)) (own_nf hZ (hw _ (List.mem_of_getElem? (i := 45) rfl))) (hw _ (List.mem_of_getElem? (i := 45) rfl)) (hw _ (List.mem_of_getElem? (i := 44) rfl)) (by decide) (rm_hrN l Z a0 hw [] b230 T236.heap n0 z238 f236_1) (hw _ (List.mem_of_getElem? (i := 46) rfl)) (hw _ (List.mem_of_getElem? (i := 28) rfl)) rfl 0 (by decide) (by decide) (by decide) (by decide) f241 [] [] rfl pd_11 rfl 85 rfl (by rw [hml]; rfl) rfl (hb hby at_82) rfl fun T240 v240 L240 X240 hQ240 => ?_
      obtain ⟨rfl, Nq240, e240⟩ := hQ240
      have N240 := Fr.app N236 Nq240
      show own_GoE p e below _ (T240.setTop (mkF m 85 _ [(.int (0 : Int32))]))
      refine g_iload X240 hx 87 (hb hby at_85) rfl rfl ?_
      refine g_icmpNo X240 hx 90 (hb hby at_87) (own_ii_ne_f (by decide)) rfl ?_
      refine g_iconst X240 hx 91 (hb hby at_90) (1 : Int32) rfl rfl ?_
      refine g_goto X240 hx 95 (hb hby at_91) (by decide) (by decide) ?_
      refine g_istore X240 hx 97 (hb hby at_95) (l' := #[.val (.int p0), .val (.int p1), .val (.int p2), .val (.int p3), .val (.int (0 : Int32)), .val (.int (0 : Int32)), .val .null, .val .null, .val (.ref b230), .val (.int (1 : Int32)), .unset]) rfl rfl ?_
      refine g_iload X240 hx 99 (hb hby at_97) rfl rfl ?_
      refine g_ifNo X240 hx 102 (hb hby at_99) (own_i0_eq_f (by decide)) rfl ?_
      refine g_aload X240 hx 104 (hb hby at_102) rfl rfl rfl ?_
      refine own_callV X240 hx hZ hown (hw _ (List.mem_of_getElem? (i := 47) rfl)) (hw _ (List.mem_of_getElem? (i := 48) rfl)) (own_nf hZ (hw _ (List.mem_of_getElem? (i := 50) rfl))) (hw _ (List.mem_of_getElem? (i := 50) rfl)) (hw _ (List.mem_of_getElem? (i := 49) rfl)) (by decide) (rm_woN l Z a0 hw [] b230 T236.heap n0 z238 f236_0) (hw _ (List.mem_of_getElem? (i := 51) rfl)) (hw _ (List.mem_of_getElem? (i := 28) rfl)) e240 0 (by decide) (by decide) (by decide) (by decide) f241 [] [] rfl pd_12 rfl 107 rfl (by rw [hml]; rfl) rfl (hb hby at_104) rfl fun T242 v242 L242 X242 hQ242 => ?_
      obtain ⟨nb_242, rfl, Nq242, Kq242, g_nb_242, sz_nb_242, x242_0, f242_0, f242_1⟩ := hQ242
      have ne243 : b230 ≠ nb_242 := Nat.ne_of_lt (Nat.lt_of_lt_of_le f241.lt sz_nb_242)
      have N242 := Fr.app N240 Nq242
      have sq_nb_242 : h0.size ≤ nb_242 := Nat.le_trans K237.1 sz_nb_242
      have K244 : Keep h0 T242.heap [] := K237.trans Kq242 all0
      have z245 : n0 ≤ T242.heap.size := (Nat.le_trans z238 Kq242.1)
      have z246 : _ ≤ T242.heap.size := (Nat.le_trans z239 Kq242.1)
      show own_GoE p e below _ (T242.setTop (mkF m 107 _ [(.ref nb_242)]))
      refine own_callV X242 hx hZ hown (hw _ (List.mem_of_getElem? (i := 42) rfl)) (hw _ (List.mem_of_getElem? (i := 43) rfl)) (own_nf hZ (hw _ (List.mem_of_getElem? (i := 45) rfl))) (hw _ (List.mem_of_getElem? (i := 45) rfl)) (hw _ (List.mem_of_getElem? (i := 44) rfl)) (by decide) (rm_hrN l Z a0 hw [] nb_242 T242.heap n0 z245 f242_1) (hw _ (List.mem_of_getElem? (i := 46) rfl)) (hw _ (List.mem_of_getElem? (i := 28) rfl)) rfl 0 (by decide) (by decide) (by decide) (by decide) x242_0 [] [] rfl pd_11 rfl 110 rfl (by rw [hml]; rfl) rfl (hb hby at_107) rfl fun T247 v247 L247 X247 hQ247 => ?_
      obtain ⟨rfl, Nq247, e247⟩ := hQ247
      have N247 := Fr.app N242 Nq247
      show own_GoE p e below _ (T247.setTop (mkF m 110 _ [(.int (0 : Int32))]))
      refine g_ifNo X247 hx 113 (hb hby at_110) (own_i0_ne_f (by decide)) rfl ?_
      refine g_iconst X247 hx 114 (hb hby at_113) (1 : Int32) rfl rfl ?_
      refine g_goto X247 hx 118 (hb hby at_114) (by decide) (by decide) ?_
      refine g_istore X247 hx 120 (hb hby at_118) (l' := #[.val (.int p0), .val (.int p1), .val (.int p2), .val (.int p3), .val (.int (0 : Int32)), .val (.int (0 : Int32)), .val .null, .val .null, .val (.ref b230), .val (.int (1 : Int32)), .unset]) rfl rfl ?_
      refine g_iload X247 hx 122 (hb hby at_120) rfl rfl ?_
      refine g_ifNo X247 hx 125 (hb hby at_122) (own_i0_ne_f (by decide)) rfl ?_
      refine g_aload X247 hx 127 (hb hby at_125) rfl rfl rfl ?_
      refine g_iload_n X247 hx 128 (hb hby at_127) rfl rfl ?_
      refine g_sipush X247 hx 131 (hb hby at_128) (255 : Int32) rfl rfl ?_
      refine g_iand X247 hx 132 (hb hby at_131) rfl ?_
      refine g_i2c X247 hx 133 (hb hby at_132) rfl ?_
      obtain ⟨xc, q_xc⟩ : ∃ z, z = ((p2 &&& (255 : Int32)).toUInt32.toUInt16.toUInt32.toInt32) := ⟨_, rfl⟩
      have h_xc := own_c8 p2 q_xc
      rw [← q_xc]
      have f249 : Sta Z T242.heap "java/lang/String" "COMPACT_STRINGS" "Z" (.int zc) := (own_Sta_keep K244 S_c all0)
      refine own_callS X247 hx hZ hown (hw _ (List.mem_of_getElem? (i := 57) rfl)) (hw _ (List.mem_of_getElem? (i := 58) rfl)) (by decide) (rm_vo l Z a0 hw [] xc zc T242.heap n0 z245 f249 h_xc.1 hz) (hw _ (List.mem_of_getElem? (i := 59) rfl)) (hw _ (List.mem_of_getElem? (i := 6) rfl)) e247 1 (by decide) (by decide) (by decide) (by decide) [(.int xc)] [(.ref b230)] rfl pd_13 rfl 136 rfl (by rw [hml]; rfl) rfl (hb hby at_133) rfl fun T248 v248 L248 X248 hQ248 => ?_
      obtain ⟨sr_248, rfl, Nq248, Kq248, g_sr_248, sz_sr_248⟩ := hQ248
      have f250 : Exa Z T242.heap b230 "com/example/grantbook/grantbook/model/ClientSecrets" := (f241.keep Kq242)
      have ne251 : b230 ≠ sr_248 := Nat.ne_of_lt (Nat.lt_of_lt_of_le f250.lt sz_sr_248)
      have ne252 : nb_242 ≠ sr_248 := Nat.ne_of_lt (Nat.lt_of_lt_of_le x242_0.lt sz_sr_248)
      have N248 := Fr.app N247 Nq248
      have sq_sr_248 : h0.size ≤ sr_248 := Nat.le_trans K244.1 sz_sr_248
      have K253 : Keep h0 T248.heap [] := K244.trans Kq248 all0
      have z254 : n0 ≤ T248.heap.size := (Nat.le_trans z245 Kq248.1)
      have z255 : _ ≤ T248.heap.size := (Nat.le_trans z246 Kq248.1)
      show own_GoE p e below _ (T248.setTop (mkF m 136 _ [(.ref sr_248), (.ref b230)]))
      have f257 : Exa Z T248.heap b230 "com/example/grantbook/grantbook/model/ClientSecrets" := (f250.keep Kq248)
      have f258 : Fld Z T248.heap b230 "com/example/grantbook/grantbook/model/ClientSecrets" "currentHash" "Ljava/lang/String;" .null := ((f236_0.keep Kq242 nin0).keep Kq248 nin0)
      have f259 : Fld Z T248.heap b230 "com/example/grantbook/grantbook/model/ClientSecrets" "rotatedHash" "Ljava/lang/String;" .null := ((f236_1.keep Kq242 nin0).keep Kq248 nin0)
      refine own_callV X248 hx hZ hown (hw _ (List.mem_of_getElem? (i := 72) rfl)) (hw _ (List.mem_of_getElem? (i := 73) rfl)) (own_nf hZ (hw _ (List.mem_of_getElem? (i := 75) rfl))) (hw _ (List.mem_of_getElem? (i := 75) rfl)) (hw _ (List.mem_of_getElem? (i := 74) rfl)) (by decide) (rm_rtN l Z a0 hw [] b230 sr_248 T248.heap n0 z254 f257 f258 f259) (hw _ (List.mem_of_getElem? (i := 76) rfl)) (hw _ (List.mem_of_getElem? (i := 28) rfl)) rfl 0 (by decide) (by decide) (by decide) (by decide) f257 [(.ref sr_248)] [] rfl pd_10 rfl 139 rfl (by rw [hml]; rfl) rfl (hb hby at_136) rfl fun T256 v256 L256 X256 hQ256 => ?_
      obtain ⟨nb_256, rfl, Nq256, Kq256, g_nb_256, sz_nb_256, x256_0, f256_0, f256_1⟩ := hQ256
      have ne260 : b230 ≠ nb_256 := Nat.ne_of_lt (Nat.lt_of_lt_of_le f257.lt sz_nb_256)
      have f261 : Exa Z T248.heap nb_242 "com/example/grantbook/grantbook/model/ClientSecrets" := (x242_0.keep Kq248)
      have ne262 : nb_242 ≠ nb_256 := Nat.ne_of_lt (Nat.lt_of_lt_of_le f261.lt sz_nb_256)
      have N256 := Fr.app N248 Nq256
      have sq_nb_256 : h0.size ≤ nb_256 := Nat.le_trans K253.1 sz_nb_256
      have K263 : Keep h0 T256.heap [] := K253.trans Kq256 all0
      have z264 : n0 ≤ T256.heap.size := (Nat.le_trans z254 Kq256.1)
      have z265 : _ ≤ T256.heap.size := (Nat.le_trans z255 Kq256.1)
      show own_GoE p e below _ (T256.setTop (mkF m 139 _ [(.ref nb_256)]))
      refine g_astore X256 hx 141 (hb hby at_139) rfl (l' := #[.val (.int p0), .val (.int p1), .val (.int p2), .val (.int p3), .val (.int (0 : Int32)), .val (.int (0 : Int32)), .val .null, .val .null, .val (.ref b230), .val (.int (1 : Int32)), .val (.ref nb_256)]) rfl rfl ?_
      refine g_iload X256 hx 143 (hb hby at_141) rfl rfl ?_
      refine g_ifNo X256 hx 146 (hb hby at_143) (own_i0_eq_f (by decide)) rfl ?_
      refine g_aload X256 hx 148 (hb hby at_146) rfl rfl rfl ?_
      refine own_callV X256 hx hZ hown (hw _ (List.mem_of_getElem? (i := 42) rfl)) (hw _ (List.mem_of_getElem? (i := 43) rfl)) (own_nf hZ (hw _ (List.mem_of_getElem? (i := 45) rfl))) (hw _ (List.mem_of_getElem? (i := 45) rfl)) (hw _ (List.mem_of_getElem? (i := 44) rfl)) (by decide) (rm_hrN l Z a0 hw [] nb_256 T256.heap n0 z264 f256_1) (hw _ (List.mem_of_getElem? (i := 46) rfl)) (hw _ (List.mem_of_getElem? (i := 28) rfl)) rfl 0 (by decide) (by decide) (by decide) (by decide) x256_0 [] [] rfl pd_11 rfl 151 rfl (by rw [hml]; rfl) rfl (hb hby at_148) rfl fun T266 v266 L266 X266 hQ266 => ?_
      obtain ⟨rfl, Nq266, e266⟩ := hQ266
      have N266 := Fr.app N256 Nq266
      show own_GoE p e below _ (T266.setTop (mkF m 151 _ [(.int (0 : Int32))]))
      refine g_iload X266 hx 153 (hb hby at_151) rfl rfl ?_
      refine g_icmpNo X266 hx 156 (hb hby at_153) (own_ii_ne_f (by decide)) rfl ?_
      refine g_iconst X266 hx 157 (hb hby at_156) (1 : Int32) rfl rfl ?_
      refine g_goto X266 hx 161 (hb hby at_157) (by decide) (by decide) ?_
      refine g_istore X266 hx 163 (hb hby at_161) (l' := #[.val (.int p0), .val (.int p1), .val (.int p2), .val (.int p3), .val (.int (0 : Int32)), .val (.int (0 : Int32)), .val .null, .val .null, .val (.ref b230), .val (.int (1 : Int32)), .val (.ref nb_256)]) rfl rfl ?_
      refine g_iload X266 hx 165 (hb hby at_163) rfl rfl ?_
      refine own_retNW X266 hS (by rw [e266]; exact z265) hx hlk (t := .boolean) hret (by simp) (hb hby at_165) ?_ (by decide) (by decide)
      rw [e266]
      exact ⟨rfl, N266⟩
    · refine g_ifNo X0 hx 19 (hb hby at_16) (own_i0_eq_f c229) rfl ?_
      refine g_iload X0 hx 21 (hb hby at_19) rfl rfl ?_
      refine g_ifYes X0 hx 28 (hb hby at_21) (own_i0_eq_t (by decide)) (by decide) (by decide) ?_
      refine g_iconst X0 hx 29 (hb hby at_28) (0 : Int32) rfl rfl ?_
      refine g_istore X0 hx 31 (hb hby at_29) (l' := #[.val (.int p0), .val (.int p1), .val (.int p2), .val (.int p3), .val (.int (0 : Int32)), .val (.int (0 : Int32)), .unset, .unset, .unset, .unset, .unset]) rfl rfl ?_
      refine g_iload X0 hx 33 (hb hby at_31) rfl rfl ?_
      refine g_ifYes X0 hx 46 (hb hby at_33) (own_i0_eq_t (by decide)) (by decide) (by decide) ?_
      refine g_aconst_null X0 hx 47 (hb hby at_46) rfl ?_
      refine g_astore X0 hx 49 (hb hby at_47) rfl (l' := #[.val (.int p0), .val (.int p1), .val (.int p2), .val (.int p3), .val (.int (0 : Int32)), .val (.int (0 : Int32)), .val .null, .unset, .unset, .unset, .unset]) rfl rfl ?_
      refine g_iload X0 hx 51 (hb hby at_49) rfl rfl ?_
      refine g_ifYes X0 hx 64 (hb hby at_51) (own_i0_eq_t (by decide)) (by decide) (by decide) ?_
      refine g_aconst_null X0 hx 65 (hb hby at_64) rfl ?_
      refine g_astore X0 hx 67 (hb hby at_65) rfl (l' := #[.val (.int p0), .val (.int p1), .val (.int p2), .val (.int p3), .val (.int (0 : Int32)), .val (.int (0 : Int32)), .val .null, .val .null, .unset, .unset, .unset]) rfl rfl ?_
      refine own_newO X0 hx hZ hown (hw _ (List.mem_of_getElem? (i := 26) rfl)) (hw _ (List.mem_of_getElem? (i := 27) rfl)) (hw _ (List.mem_of_getElem? (i := 28) rfl)) e0 70 (hb hby at_67) rfl (by decide) (by decide) fun T267 h267 b267 X267 e267 g267 E267 A267 D267 => ?_
      have g_b267 : n0 ≤ b267 := Nat.le_trans Z0 (Nat.le_of_eq g267.symm)
      have sz_b267 : h0.size ≤ b267 := Nat.le_trans (Keep.refl h0 []).1 (Nat.le_of_eq g267.symm)
      have K268 : Keep h0 h267 [] := (Keep.refl h0 []).ext E267
      have z269 : n0 ≤ h267.size := (Nat.le_trans Z0 E267.1)
      have z270 : _ ≤ h267.size := (Nat.le_trans hSk E267.1)
      have f271 : Fld Z h267 b267 "com/example/grantbook/grantbook/model/ClientSecrets" "currentHash" "Ljava/lang/String;" .null := D267 (Or.inr (hw _ (List.mem_of_getElem? (i := 39) rfl))) (ty := (.object "java/lang/String")) (by decide)
      have f272 : Fld Z h267 b267 "com/example/grantbook/grantbook/model/ClientSecrets" "rotatedHash" "Ljava/lang/String;" .null := D267 (Or.inr (hw _ (List.mem_of_getElem? (i := 41) rfl))) (ty := (.object "java/lang/String")) (by decide)
      refine g_dup X267 hx 71 (hb hby at_70) rfl rfl ?_
      refine g_aload X267 hx 73 (hb hby at_71) rfl rfl rfl ?_
      refine g_aload X267 hx 75 (hb hby at_73) rfl rfl rfl ?_
      refine own_callI X267 hx hZ hown rfl (hw _ (List.mem_of_getElem? (i := 29) rfl)) (hw _ (List.mem_of_getElem? (i := 30) rfl)) (by decide) (rm_icsNN l Z a0 hw [] b267 h267 n0 z269 A267 f271 f272 g_b267) (hw _ (List.mem_of_getElem? (i := 31) rfl)) (hw _ (List.mem_of_getElem? (i := 28) rfl)) e267 1 (by decide) (by decide) (by decide) (by decide) b267 [.null, .null] [(.ref b267)] rfl pd_9 rfl 78 rfl (by rw [hml]; rfl) rfl (hb hby at_75) rfl fun T273 v273 L273 X273 hQ273 => ?_
      obtain ⟨rfl, Nq273, Kq273, f273_0, f273_1⟩ := hQ273
      have N273 := Fr.app N0 Nq273
      have K274 : Keep h0 T273.heap [] := K268.trans Kq273 (allS (Or.inr sz_b267) all0)
      have z275 : n0 ≤ T273.heap.size := (Nat.le_trans z269 Kq273.1)
      have z276 : _ ≤ T273.heap.size := (Nat.le_trans z270 Kq273.1)
      show own_GoE p e below _ (T273.setTop (mkF m 78 _ [(.ref b267)]))
      refine g_astore X273 hx 80 (hb hby at_78) rfl (l' := #[.val (.int p0), .val (.int p1), .val (.int p2), .val (.int p3), .val (.int (0 : Int32)), .val (.int (0 : Int32)), .val .null, .val .null, .val (.ref b267), .unset, .unset]) rfl rfl ?_
      refine g_aload X273 hx 82 (hb hby at_80) rfl rfl rfl ?_
      have f278 : Exa Z T273.heap b267 "com/example/grantbook/grantbook/model/ClientSecrets" := (A267.keep Kq273)
      refine own_callV X273 hx hZ hown (hw _ (List.mem_of_getElem? (i := 42) rfl)) (hw _ (List.mem_of_getElem? (i := 43) rfl)) (own_nf hZ (hw _ (List.mem_of_getElem? (i := 45) rfl))) (hw _ (List.mem_of_getElem? (i := 45) rfl)) (hw _ (List.mem_of_getElem? (i := 44) rfl)) (by decide) (rm_hrN l Z a0 hw [] b267 T273.heap n0 z275 f273_1) (hw _ (List.mem_of_getElem? (i := 46) rfl)) (hw _ (List.mem_of_getElem? (i := 28) rfl)) rfl 0 (by decide) (by decide) (by decide) (by decide) f278 [] [] rfl pd_11 rfl 85 rfl (by rw [hml]; rfl) rfl (hb hby at_82) rfl fun T277 v277 L277 X277 hQ277 => ?_
      obtain ⟨rfl, Nq277, e277⟩ := hQ277
      have N277 := Fr.app N273 Nq277
      show own_GoE p e below _ (T277.setTop (mkF m 85 _ [(.int (0 : Int32))]))
      refine g_iload X277 hx 87 (hb hby at_85) rfl rfl ?_
      refine g_icmpNo X277 hx 90 (hb hby at_87) (own_ii_ne_f (by decide)) rfl ?_
      refine g_iconst X277 hx 91 (hb hby at_90) (1 : Int32) rfl rfl ?_
      refine g_goto X277 hx 95 (hb hby at_91) (by decide) (by decide) ?_
      refine g_istore X277 hx 97 (hb hby at_95) (l' := #[.val (.int p0), .val (.int p1), .val (.int p2), .val (.int p3), .val (.int (0 : Int32)), .val (.int (0 : Int32)), .val .null, .val .null, .val (.ref b267), .val (.int (1 : Int32)), .unset]) rfl rfl ?_
      refine g_iload X277 hx 99 (hb hby at_97) rfl rfl ?_
      refine g_ifNo X277 hx 102 (hb hby at_99) (own_i0_eq_f (by decide)) rfl ?_
      refine g_aload X277 hx 104 (hb hby at_102) rfl rfl rfl ?_
      refine own_callV X277 hx hZ hown (hw _ (List.mem_of_getElem? (i := 47) rfl)) (hw _ (List.mem_of_getElem? (i := 48) rfl)) (own_nf hZ (hw _ (List.mem_of_getElem? (i := 50) rfl))) (hw _ (List.mem_of_getElem? (i := 50) rfl)) (hw _ (List.mem_of_getElem? (i := 49) rfl)) (by decide) (rm_woN l Z a0 hw [] b267 T273.heap n0 z275 f273_0) (hw _ (List.mem_of_getElem? (i := 51) rfl)) (hw _ (List.mem_of_getElem? (i := 28) rfl)) e277 0 (by decide) (by decide) (by decide) (by decide) f278 [] [] rfl pd_12 rfl 107 rfl (by rw [hml]; rfl) rfl (hb hby at_104) rfl fun T279 v279 L279 X279 hQ279 => ?_
      obtain ⟨nb_279, rfl, Nq279, Kq279, g_nb_279, sz_nb_279, x279_0, f279_0, f279_1⟩ := hQ279
      have ne280 : b267 ≠ nb_279 := Nat.ne_of_lt (Nat.lt_of_lt_of_le f278.lt sz_nb_279)
      have N279 := Fr.app N277 Nq279
      have sq_nb_279 : h0.size ≤ nb_279 := Nat.le_trans K274.1 sz_nb_279
      have K281 : Keep h0 T279.heap [] := K274.trans Kq279 all0
      have z282 : n0 ≤ T279.heap.size := (Nat.le_trans z275 Kq279.1)
      have z283 : _ ≤ T279.heap.size := (Nat.le_trans z276 Kq279.1)
      show own_GoE p e below _ (T279.setTop (mkF m 107 _ [(.ref nb_279)]))
      refine own_callV X279 hx hZ hown (hw _ (List.mem_of_getElem? (i := 42) rfl)) (hw _ (List.mem_of_getElem? (i := 43) rfl)) (own_nf hZ (hw _ (List.mem_of_getElem? (i := 45) rfl))) (hw _ (List.mem_of_getElem? (i := 45) rfl)) (hw _ (List.mem_of_getElem? (i := 44) rfl)) (by decide) (rm_hrN l Z a0 hw [] nb_279 T279.heap n0 z282 f279_1) (hw _ (List.mem_of_getElem? (i := 46) rfl)) (hw _ (List.mem_of_getElem? (i := 28) rfl)) rfl 0 (by decide) (by decide) (by decide) (by decide) x279_0 [] [] rfl pd_11 rfl 110 rfl (by rw [hml]; rfl) rfl (hb hby at_107) rfl fun T284 v284 L284 X284 hQ284 => ?_
      obtain ⟨rfl, Nq284, e284⟩ := hQ284
      have N284 := Fr.app N279 Nq284
      show own_GoE p e below _ (T284.setTop (mkF m 110 _ [(.int (0 : Int32))]))
      refine g_ifNo X284 hx 113 (hb hby at_110) (own_i0_ne_f (by decide)) rfl ?_
      refine g_iconst X284 hx 114 (hb hby at_113) (1 : Int32) rfl rfl ?_
      refine g_goto X284 hx 118 (hb hby at_114) (by decide) (by decide) ?_
      refine g_istore X284 hx 120 (hb hby at_118) (l' := #[.val (.int p0), .val (.int p1), .val (.int p2), .val (.int p3), .val (.int (0 : Int32)), .val (.int (0 : Int32)), .val .null, .val .null, .val (.ref b267), .val (.int (1 : Int32)), .unset]) rfl rfl ?_
      refine g_iload X284 hx 122 (hb hby at_120) rfl rfl ?_
      refine g_ifNo X284 hx 125 (hb hby at_122) (own_i0_ne_f (by decide)) rfl ?_
      refine g_aload X284 hx 127 (hb hby at_125) rfl rfl rfl ?_
      refine g_iload_n X284 hx 128 (hb hby at_127) rfl rfl ?_
      refine g_sipush X284 hx 131 (hb hby at_128) (255 : Int32) rfl rfl ?_
      refine g_iand X284 hx 132 (hb hby at_131) rfl ?_
      refine g_i2c X284 hx 133 (hb hby at_132) rfl ?_
      obtain ⟨xc, q_xc⟩ : ∃ z, z = ((p2 &&& (255 : Int32)).toUInt32.toUInt16.toUInt32.toInt32) := ⟨_, rfl⟩
      have h_xc := own_c8 p2 q_xc
      rw [← q_xc]
      have f286 : Sta Z T279.heap "java/lang/String" "COMPACT_STRINGS" "Z" (.int zc) := (own_Sta_keep K281 S_c all0)
      refine own_callS X284 hx hZ hown (hw _ (List.mem_of_getElem? (i := 57) rfl)) (hw _ (List.mem_of_getElem? (i := 58) rfl)) (by decide) (rm_vo l Z a0 hw [] xc zc T279.heap n0 z282 f286 h_xc.1 hz) (hw _ (List.mem_of_getElem? (i := 59) rfl)) (hw _ (List.mem_of_getElem? (i := 6) rfl)) e284 1 (by decide) (by decide) (by decide) (by decide) [(.int xc)] [(.ref b267)] rfl pd_13 rfl 136 rfl (by rw [hml]; rfl) rfl (hb hby at_133) rfl fun T285 v285 L285 X285 hQ285 => ?_
      obtain ⟨sr_285, rfl, Nq285, Kq285, g_sr_285, sz_sr_285⟩ := hQ285
      have f287 : Exa Z T279.heap b267 "com/example/grantbook/grantbook/model/ClientSecrets" := (f278.keep Kq279)
      have ne288 : b267 ≠ sr_285 := Nat.ne_of_lt (Nat.lt_of_lt_of_le f287.lt sz_sr_285)
      have ne289 : nb_279 ≠ sr_285 := Nat.ne_of_lt (Nat.lt_of_lt_of_le x279_0.lt sz_sr_285)
      have N285 := Fr.app N284 Nq285
      have sq_sr_285 : h0.size ≤ sr_285 := Nat.le_trans K281.1 sz_sr_285
      have K290 : Keep h0 T285.heap [] := K281.trans Kq285 all0
      have z291 : n0 ≤ T285.heap.size := (Nat.le_trans z282 Kq285.1)
      have z292 : _ ≤ T285.heap.size := (Nat.le_trans z283 Kq285.1)
      show own_GoE p e below _ (T285.setTop (mkF m 136 _ [(.ref sr_285), (.ref b267)]))
      have f294 : Exa Z T285.heap b267 "com/example/grantbook/grantbook/model/ClientSecrets" := (f287.keep Kq285)
      have f295 : Fld Z T285.heap b267 "com/example/grantbook/grantbook/model/ClientSecrets" "currentHash" "Ljava/lang/String;" .null := ((f273_0.keep Kq279 nin0).keep Kq285 nin0)
      have f296 : Fld Z T285.heap b267 "com/example/grantbook/grantbook/model/ClientSecrets" "rotatedHash" "Ljava/lang/String;" .null := ((f273_1.keep Kq279 nin0).keep Kq285 nin0)
      refine own_callV X285 hx hZ hown (hw _ (List.mem_of_getElem? (i := 72) rfl)) (hw _ (List.mem_of_getElem? (i := 73) rfl)) (own_nf hZ (hw _ (List.mem_of_getElem? (i := 75) rfl))) (hw _ (List.mem_of_getElem? (i := 75) rfl)) (hw _ (List.mem_of_getElem? (i := 74) rfl)) (by decide) (rm_rtN l Z a0 hw [] b267 sr_285 T285.heap n0 z291 f294 f295 f296) (hw _ (List.mem_of_getElem? (i := 76) rfl)) (hw _ (List.mem_of_getElem? (i := 28) rfl)) rfl 0 (by decide) (by decide) (by decide) (by decide) f294 [(.ref sr_285)] [] rfl pd_10 rfl 139 rfl (by rw [hml]; rfl) rfl (hb hby at_136) rfl fun T293 v293 L293 X293 hQ293 => ?_
      obtain ⟨nb_293, rfl, Nq293, Kq293, g_nb_293, sz_nb_293, x293_0, f293_0, f293_1⟩ := hQ293
      have ne297 : b267 ≠ nb_293 := Nat.ne_of_lt (Nat.lt_of_lt_of_le f294.lt sz_nb_293)
      have f298 : Exa Z T285.heap nb_279 "com/example/grantbook/grantbook/model/ClientSecrets" := (x279_0.keep Kq285)
      have ne299 : nb_279 ≠ nb_293 := Nat.ne_of_lt (Nat.lt_of_lt_of_le f298.lt sz_nb_293)
      have N293 := Fr.app N285 Nq293
      have sq_nb_293 : h0.size ≤ nb_293 := Nat.le_trans K290.1 sz_nb_293
      have K300 : Keep h0 T293.heap [] := K290.trans Kq293 all0
      have z301 : n0 ≤ T293.heap.size := (Nat.le_trans z291 Kq293.1)
      have z302 : _ ≤ T293.heap.size := (Nat.le_trans z292 Kq293.1)
      show own_GoE p e below _ (T293.setTop (mkF m 139 _ [(.ref nb_293)]))
      refine g_astore X293 hx 141 (hb hby at_139) rfl (l' := #[.val (.int p0), .val (.int p1), .val (.int p2), .val (.int p3), .val (.int (0 : Int32)), .val (.int (0 : Int32)), .val .null, .val .null, .val (.ref b267), .val (.int (1 : Int32)), .val (.ref nb_293)]) rfl rfl ?_
      refine g_iload X293 hx 143 (hb hby at_141) rfl rfl ?_
      refine g_ifNo X293 hx 146 (hb hby at_143) (own_i0_eq_f (by decide)) rfl ?_
      refine g_aload X293 hx 148 (hb hby at_146) rfl rfl rfl ?_
      refine own_callV X293 hx hZ hown (hw _ (List.mem_of_getElem? (i := 42) rfl)) (hw _ (List.mem_of_getElem? (i := 43) rfl)) (own_nf hZ (hw _ (List.mem_of_getElem? (i := 45) rfl))) (hw _ (List.mem_of_getElem? (i := 45) rfl)) (hw _ (List.mem_of_getElem? (i := 44) rfl)) (by decide) (rm_hrN l Z a0 hw [] nb_293 T293.heap n0 z301 f293_1) (hw _ (List.mem_of_getElem? (i := 46) rfl)) (hw _ (List.mem_of_getElem? (i := 28) rfl)) rfl 0 (by decide) (by decide) (by decide) (by decide) x293_0 [] [] rfl pd_11 rfl 151 rfl (by rw [hml]; rfl) rfl (hb hby at_148) rfl fun T303 v303 L303 X303 hQ303 => ?_
      obtain ⟨rfl, Nq303, e303⟩ := hQ303
      have N303 := Fr.app N293 Nq303
      show own_GoE p e below _ (T303.setTop (mkF m 151 _ [(.int (0 : Int32))]))
      refine g_iload X303 hx 153 (hb hby at_151) rfl rfl ?_
      refine g_icmpNo X303 hx 156 (hb hby at_153) (own_ii_ne_f (by decide)) rfl ?_
      refine g_iconst X303 hx 157 (hb hby at_156) (1 : Int32) rfl rfl ?_
      refine g_goto X303 hx 161 (hb hby at_157) (by decide) (by decide) ?_
      refine g_istore X303 hx 163 (hb hby at_161) (l' := #[.val (.int p0), .val (.int p1), .val (.int p2), .val (.int p3), .val (.int (0 : Int32)), .val (.int (0 : Int32)), .val .null, .val .null, .val (.ref b267), .val (.int (1 : Int32)), .val (.ref nb_293)]) rfl rfl ?_
      refine g_iload X303 hx 165 (hb hby at_163) rfl rfl ?_
      refine own_retNW X303 hS (by rw [e303]; exact z302) hx hlk (t := .boolean) hret (by simp) (hb hby at_165) ?_ (by decide) (by decide)
      rw [e303]
      exact ⟨rfl, N303⟩
  · refine g_ifNo X0 hx 6 (hb hby at_3) (own_i0_eq_f c228) rfl ?_
    refine g_iconst X0 hx 7 (hb hby at_6) (1 : Int32) rfl rfl ?_
    refine g_goto X0 hx 11 (hb hby at_7) (by decide) (by decide) ?_
    refine g_istore X0 hx 13 (hb hby at_11) (l' := #[.val (.int p0), .val (.int p1), .val (.int p2), .val (.int p3), .val (.int (1 : Int32)), .unset, .unset, .unset, .unset, .unset, .unset]) rfl rfl ?_
    refine g_iload_n X0 hx 14 (hb hby at_13) rfl rfl ?_
    refine g_iconst X0 hx 15 (hb hby at_14) (2 : Int32) rfl rfl ?_
    refine g_iand X0 hx 16 (hb hby at_15) rfl ?_
    by_cases c304 : (p3 &&& (2 : Int32)) = (0 : Int32)
    · refine g_ifYes X0 hx 28 (hb hby at_16) (own_i0_eq_t c304) (by decide) (by decide) ?_
      refine g_iconst X0 hx 29 (hb hby at_28) (0 : Int32) rfl rfl ?_
      refine g_istore X0 hx 31 (hb hby at_29) (l' := #[.val (.int p0), .val (.int p1), .val (.int p2), .val (.int p3), .val (.int (1 : Int32)), .val (.int (0 : Int32)), .unset, .unset, .unset, .unset, .unset]) rfl rfl ?_
      refine g_iload X0 hx 33 (hb hby at_31) rfl rfl ?_
      refine g_ifNo X0 hx 36 (hb hby at_33) (own_i0_eq_f (by decide)) rfl ?_
      refine g_iload_n X0 hx 37 (hb hby at_36) rfl rfl ?_
      refine g_iload_n X0 hx 38 (hb hby at_37) rfl rfl ?_
      refine g_iconst X0 hx 39 (hb hby at_38) (2 : Int32) rfl rfl ?_
      refine g_ishr X0 hx 40 (hb hby at_39) rfl ?_
      refine own_callSW X0 hx hZ hown (hw _ (List.mem_of_getElem? (i := 0) rfl)) (hw _ (List.mem_of_getElem? (i := 1) rfl)) (by decide) (rm_drawn l Z a0 hw [] p0 (p3 >>> ((2 : Int32) &&& 31)) zc h0 n0 Z0 S_c hz KZ hH hcw) (hw _ (List.mem_of_getElem? (i := 3) rfl)) (hw _ (List.mem_of_getElem? (i := 2) rfl)) e0 D0 hS hSk 0 (by decide) (by decide) (by decide) (by decide) [(.int p0), (.int (p3 >>> ((2 : Int32) &&& 31)))] [] rfl pd_14 rfl 43 rfl (by rw [hml]; rfl) rfl (hb hby at_40) rfl fun T305 v305 L305 X305 hS hZ hown hQ305 D305 => ?_
      obtain ⟨sr_305, rfl, Nq305, Kq305, g_sr_305, sz_sr_305⟩ := hQ305
      have N305 := Fr.app N0 Nq305
      have sq_sr_305 : h0.size ≤ sr_305 := Nat.le_trans (Keep.refl h0 []).1 sz_sr_305
      have K306 : Keep h0 T305.heap [] := (Keep.refl h0 []).trans Kq305 all0
      have z307 : n0 ≤ T305.heap.size := (Nat.le_trans Z0 Kq305.1)
      show own_GoE p e below _ (T305.setTop (mkF m 43 _ [(.ref sr_305)]))
      refine g_goto X305 hx 47 (hb hby at_43) (by decide) (by decide) ?_
      refine g_astore X305 hx 49 (hb hby at_47) rfl (l' := #[.val (.int p0), .val (.int p1), .val (.int p2), .val (.int p3), .val (.int (1 : Int32)), .val (.int (0 : Int32)), .val (.ref sr_305), .unset, .unset, .unset, .unset]) rfl rfl ?_
      refine g_iload X305 hx 51 (hb hby at_49) rfl rfl ?_
      refine g_ifYes X305 hx 64 (hb hby at_51) (own_i0_eq_t (by decide)) (by decide) (by decide) ?_
      refine g_aconst_null X305 hx 65 (hb hby at_64) rfl ?_
      refine g_astore X305 hx 67 (hb hby at_65) rfl (l' := #[.val (.int p0), .val (.int p1), .val (.int p2), .val (.int p3), .val (.int (1 : Int32)), .val (.int (0 : Int32)), .val (.ref sr_305), .val .null, .unset, .unset, .unset]) rfl rfl ?_
      refine own_newO X305 hx hZ hown (hw _ (List.mem_of_getElem? (i := 26) rfl)) (hw _ (List.mem_of_getElem? (i := 27) rfl)) (hw _ (List.mem_of_getElem? (i := 28) rfl)) rfl 70 (hb hby at_67) rfl (by decide) (by decide) fun T308 h308 b308 X308 e308 g308 E308 A308 D308 => ?_
      have g_b308 : n0 ≤ b308 := Nat.le_trans z307 (Nat.le_of_eq g308.symm)
      have sz_b308 : h0.size ≤ b308 := Nat.le_trans K306.1 (Nat.le_of_eq g308.symm)
      have K309 : Keep h0 h308 [] := K306.ext E308
      have z310 : n0 ≤ h308.size := (Nat.le_trans z307 E308.1)
      have z311 : _ ≤ h308.size := (Nat.le_trans (Nat.le_refl _) E308.1)
      have f312 : Fld Z h308 b308 "com/example/grantbook/grantbook/model/ClientSecrets" "currentHash" "Ljava/lang/String;" .null := D308 (Or.inr (hw _ (List.mem_of_getElem? (i := 39) rfl))) (ty := (.object "java/lang/String")) (by decide)
      have f313 : Fld Z h308 b308 "com/example/grantbook/grantbook/model/ClientSecrets" "rotatedHash" "Ljava/lang/String;" .null := D308 (Or.inr (hw _ (List.mem_of_getElem? (i := 41) rfl))) (ty := (.object "java/lang/String")) (by decide)
      refine g_dup X308 hx 71 (hb hby at_70) rfl rfl ?_
      refine g_aload X308 hx 73 (hb hby at_71) rfl rfl rfl ?_
      refine g_aload X308 hx 75 (hb hby at_73) rfl rfl rfl ?_
      refine own_callI X308 hx hZ hown rfl (hw _ (List.mem_of_getElem? (i := 29) rfl)) (hw _ (List.mem_of_getElem? (i := 30) rfl)) (by decide) (rm_icsRN l Z a0 hw [] b308 sr_305 h308 n0 z310 A308 f312 f313 g_b308) (hw _ (List.mem_of_getElem? (i := 31) rfl)) (hw _ (List.mem_of_getElem? (i := 28) rfl)) e308 1 (by decide) (by decide) (by decide) (by decide) b308 [(.ref sr_305), .null] [(.ref b308)] rfl pd_9 rfl 78 rfl (by rw [hml]; rfl) rfl (hb hby at_75) rfl fun T314 v314 L314 X314 hQ314 => ?_
      obtain ⟨rfl, Nq314, Kq314, f314_0, f314_1⟩ := hQ314
      have N314 := Fr.app N305 Nq314
      have K315 : Keep h0 T314.heap [] := K309.trans Kq314 (allS (Or.inr sz_b308) all0)
      have z316 : n0 ≤ T314.heap.size := (Nat.le_trans z310 Kq314.1)
      have z317 : _ ≤ T314.heap.size := (Nat.le_trans z311 Kq314.1)
      show own_GoE p e below _ (T314.setTop (mkF m 78 _ [(.ref b308)]))
      refine g_astore X314 hx 80 (hb hby at_78) rfl (l' := #[.val (.int p0), .val (.int p1), .val (.int p2), .val (.int p3), .val (.int (1 : Int32)), .val (.int (0 : Int32)), .val (.ref sr_305), .val .null, .val (.ref b308), .unset, .unset]) rfl rfl ?_
      refine g_aload X314 hx 82 (hb hby at_80) rfl rfl rfl ?_
      have f319 : Exa Z T314.heap b308 "com/example/grantbook/grantbook/model/ClientSecrets" := (A308.keep Kq314)
      refine own_callV X314 hx hZ hown (hw _ (List.mem_of_getElem? (i := 42) rfl)) (hw _ (List.mem_of_getElem? (i := 43) rfl)) (own_nf hZ (hw _ (List.mem_of_getElem? (i := 45) rfl))) (hw _ (List.mem_of_getElem? (i := 45) rfl)) (hw _ (List.mem_of_getElem? (i := 44) rfl)) (by decide) (rm_hrN l Z a0 hw [] b308 T314.heap n0 z316 f314_1) (hw _ (List.mem_of_getElem? (i := 46) rfl)) (hw _ (List.mem_of_getElem? (i := 28) rfl)) rfl 0 (by decide) (by decide) (by decide) (by decide) f319 [] [] rfl pd_11 rfl 85 rfl (by rw [hml]; rfl) rfl (hb hby at_82) rfl fun T318 v318 L318 X318 hQ318 => ?_
      obtain ⟨rfl, Nq318, e318⟩ := hQ318
      have N318 := Fr.app N314 Nq318
      show own_GoE p e below _ (T318.setTop (mkF m 85 _ [(.int (0 : Int32))]))
      refine g_iload X318 hx 87 (hb hby at_85) rfl rfl ?_
      refine g_icmpNo X318 hx 90 (hb hby at_87) (own_ii_ne_f (by decide)) rfl ?_
      refine g_iconst X318 hx 91 (hb hby at_90) (1 : Int32) rfl rfl ?_
      refine g_goto X318 hx 95 (hb hby at_91) (by decide) (by decide) ?_
      refine g_istore X318 hx 97 (hb hby at_95) (l' := #[.val (.int p0), .val (.int p1), .val (.int p2), .val (.int p3), .val (.int (1 : Int32)), .val (.int (0 : Int32)), .val (.ref sr_305), .val .null, .val (.ref b308), .val (.int (1 : Int32)), .unset]) rfl rfl ?_
      refine g_iload X318 hx 99 (hb hby at_97) rfl rfl ?_
      refine g_ifNo X318 hx 102 (hb hby at_99) (own_i0_eq_f (by decide)) rfl ?_
      refine g_aload X318 hx 104 (hb hby at_102) rfl rfl rfl ?_
      refine own_callV X318 hx hZ hown (hw _ (List.mem_of_getElem? (i := 47) rfl)) (hw _ (List.mem_of_getElem? (i := 48) rfl)) (own_nf hZ (hw _ (List.mem_of_getElem? (i := 50) rfl))) (hw _ (List.mem_of_getElem? (i := 50) rfl)) (hw _ (List.mem_of_getElem? (i := 49) rfl)) (by decide) (rm_woR l Z a0 hw [] b308 sr_305 T314.heap n0 z316 f314_0) (hw _ (List.mem_of_getElem? (i := 51) rfl)) (hw _ (List.mem_of_getElem? (i := 28) rfl)) e318 0 (by decide) (by decide) (by decide) (by decide) f319 [] [] rfl pd_12 rfl 107 rfl (by rw [hml]; rfl) rfl (hb hby at_104) rfl fun T320 v320 L320 X320 hQ320 => ?_
      obtain ⟨nb_320, rfl, Nq320, Kq320, g_nb_320, sz_nb_320, x320_0, f320_0, f320_1⟩ := hQ320
      have ne321 : b308 ≠ nb_320 := Nat.ne_of_lt (Nat.lt_of_lt_of_le f319.lt sz_nb_320)
      have N320 := Fr.app N318 Nq320
      have sq_nb_320 : h0.size ≤ nb_320 := Nat.le_trans K315.1 sz_nb_320
      have K322 : Keep h0 T320.heap [] := K315.trans Kq320 all0
      have z323 : n0 ≤ T320.heap.size := (Nat.le_trans z316 Kq320.1)
      have z324 : _ ≤ T320.heap.size := (Nat.le_trans z317 Kq320.1)
      show own_GoE p e below _ (T320.setTop (mkF m 107 _ [(.ref nb_320)]))
      refine own_callV X320 hx hZ hown (hw _ (List.mem_of_getElem? (i := 42) rfl)) (hw _ (List.mem_of_getElem? (i := 43) rfl)) (own_nf hZ (hw _ (List.mem_of_getElem? (i := 45) rfl))) (hw _ (List.mem_of_getElem? (i := 45) rfl)) (hw _ (List.mem_of_getElem? (i := 44) rfl)) (by decide) (rm_hrN l Z a0 hw [] nb_320 T320.heap n0 z323 f320_1) (hw _ (List.mem_of_getElem? (i := 46) rfl)) (hw _ (List.mem_of_getElem? (i := 28) rfl)) rfl 0 (by decide) (by decide) (by decide) (by decide) x320_0 [] [] rfl pd_11 rfl 110 rfl (by rw [hml]; rfl) rfl (hb hby at_107) rfl fun T325 v325 L325 X325 hQ325 => ?_
      obtain ⟨rfl, Nq325, e325⟩ := hQ325
      have N325 := Fr.app N320 Nq325
      show own_GoE p e below _ (T325.setTop (mkF m 110 _ [(.int (0 : Int32))]))
      refine g_ifNo X325 hx 113 (hb hby at_110) (own_i0_ne_f (by decide)) rfl ?_
      refine g_iconst X325 hx 114 (hb hby at_113) (1 : Int32) rfl rfl ?_
      refine g_goto X325 hx 118 (hb hby at_114) (by decide) (by decide) ?_
      refine g_istore X325 hx 120 (hb hby at_118) (l' := #[.val (.int p0), .val (.int p1), .val (.int p2), .val (.int p3), .val (.int (1 : Int32)), .val (.int (0 : Int32)), .val (.ref sr_305), .val .null, .val (.ref b308), .val (.int (1 : Int32)), .unset]) rfl rfl ?_
      refine g_iload X325 hx 122 (hb hby at_120) rfl rfl ?_
      refine g_ifNo X325 hx 125 (hb hby at_122) (own_i0_ne_f (by decide)) rfl ?_
      refine g_aload X325 hx 127 (hb hby at_125) rfl rfl rfl ?_
      refine g_iload_n X325 hx 128 (hb hby at_127) rfl rfl ?_
      refine g_sipush X325 hx 131 (hb hby at_128) (255 : Int32) rfl rfl ?_
      refine g_iand X325 hx 132 (hb hby at_131) rfl ?_
      refine g_i2c X325 hx 133 (hb hby at_132) rfl ?_
      obtain ⟨xc, q_xc⟩ : ∃ z, z = ((p2 &&& (255 : Int32)).toUInt32.toUInt16.toUInt32.toInt32) := ⟨_, rfl⟩
      have h_xc := own_c8 p2 q_xc
      rw [← q_xc]
      have f327 : Sta Z T320.heap "java/lang/String" "COMPACT_STRINGS" "Z" (.int zc) := (own_Sta_keep K322 S_c all0)
      refine own_callS X325 hx hZ hown (hw _ (List.mem_of_getElem? (i := 57) rfl)) (hw _ (List.mem_of_getElem? (i := 58) rfl)) (by decide) (rm_vo l Z a0 hw [] xc zc T320.heap n0 z323 f327 h_xc.1 hz) (hw _ (List.mem_of_getElem? (i := 59) rfl)) (hw _ (List.mem_of_getElem? (i := 6) rfl)) e325 1 (by decide) (by decide) (by decide) (by decide) [(.int xc)] [(.ref b308)] rfl pd_13 rfl 136 rfl (by rw [hml]; rfl) rfl (hb hby at_133) rfl fun T326 v326 L326 X326 hQ326 => ?_
      obtain ⟨sr_326, rfl, Nq326, Kq326, g_sr_326, sz_sr_326⟩ := hQ326
      have f328 : Exa Z T320.heap b308 "com/example/grantbook/grantbook/model/ClientSecrets" := (f319.keep Kq320)
      have ne329 : b308 ≠ sr_326 := Nat.ne_of_lt (Nat.lt_of_lt_of_le f328.lt sz_sr_326)
      have ne330 : nb_320 ≠ sr_326 := Nat.ne_of_lt (Nat.lt_of_lt_of_le x320_0.lt sz_sr_326)
      have N326 := Fr.app N325 Nq326
      have sq_sr_326 : h0.size ≤ sr_326 := Nat.le_trans K322.1 sz_sr_326
      have K331 : Keep h0 T326.heap [] := K322.trans Kq326 all0
      have z332 : n0 ≤ T326.heap.size := (Nat.le_trans z323 Kq326.1)
      have z333 : _ ≤ T326.heap.size := (Nat.le_trans z324 Kq326.1)
      show own_GoE p e below _ (T326.setTop (mkF m 136 _ [(.ref sr_326), (.ref b308)]))
      have f335 : Exa Z T326.heap b308 "com/example/grantbook/grantbook/model/ClientSecrets" := (f328.keep Kq326)
      have f336 : Fld Z T326.heap b308 "com/example/grantbook/grantbook/model/ClientSecrets" "currentHash" "Ljava/lang/String;" (.ref sr_305) := ((f314_0.keep Kq320 nin0).keep Kq326 nin0)
      have f337 : Fld Z T326.heap b308 "com/example/grantbook/grantbook/model/ClientSecrets" "rotatedHash" "Ljava/lang/String;" .null := ((f314_1.keep Kq320 nin0).keep Kq326 nin0)
      refine own_callV X326 hx hZ hown (hw _ (List.mem_of_getElem? (i := 72) rfl)) (hw _ (List.mem_of_getElem? (i := 73) rfl)) (own_nf hZ (hw _ (List.mem_of_getElem? (i := 75) rfl))) (hw _ (List.mem_of_getElem? (i := 75) rfl)) (hw _ (List.mem_of_getElem? (i := 74) rfl)) (by decide) (rm_rtR l Z a0 hw [] b308 sr_326 sr_305 T326.heap n0 z332 f335 f336 f337) (hw _ (List.mem_of_getElem? (i := 76) rfl)) (hw _ (List.mem_of_getElem? (i := 28) rfl)) rfl 0 (by decide) (by decide) (by decide) (by decide) f335 [(.ref sr_326)] [] rfl pd_10 rfl 139 rfl (by rw [hml]; rfl) rfl (hb hby at_136) rfl fun T334 v334 L334 X334 hQ334 => ?_
      obtain ⟨nb_334, rfl, Nq334, Kq334, g_nb_334, sz_nb_334, x334_0, f334_0, f334_1⟩ := hQ334
      have ne338 : b308 ≠ nb_334 := Nat.ne_of_lt (Nat.lt_of_lt_of_le f335.lt sz_nb_334)
      have f339 : Exa Z T326.heap nb_320 "com/example/grantbook/grantbook/model/ClientSecrets" := (x320_0.keep Kq326)
      have ne340 : nb_320 ≠ nb_334 := Nat.ne_of_lt (Nat.lt_of_lt_of_le f339.lt sz_nb_334)
      have N334 := Fr.app N326 Nq334
      have sq_nb_334 : h0.size ≤ nb_334 := Nat.le_trans K331.1 sz_nb_334
      have K341 : Keep h0 T334.heap [] := K331.trans Kq334 all0
      have z342 : n0 ≤ T334.heap.size := (Nat.le_trans z332 Kq334.1)
      have z343 : _ ≤ T334.heap.size := (Nat.le_trans z333 Kq334.1)
      show own_GoE p e below _ (T334.setTop (mkF m 139 _ [(.ref nb_334)]))
      refine g_astore X334 hx 141 (hb hby at_139) rfl (l' := #[.val (.int p0), .val (.int p1), .val (.int p2), .val (.int p3), .val (.int (1 : Int32)), .val (.int (0 : Int32)), .val (.ref sr_305), .val .null, .val (.ref b308), .val (.int (1 : Int32)), .val (.ref nb_334)]) rfl rfl ?_
      refine g_iload X334 hx 143 (hb hby at_141) rfl rfl ?_
      refine g_ifNo X334 hx 146 (hb hby at_143) (own_i0_eq_f (by decide)) rfl ?_
      refine g_aload X334 hx 148 (hb hby at_146) rfl rfl rfl ?_
      refine own_callV X334 hx hZ hown (hw _ (List.mem_of_getElem? (i := 42) rfl)) (hw _ (List.mem_of_getElem? (i := 43) rfl)) (own_nf hZ (hw _ (List.mem_of_getElem? (i := 45) rfl))) (hw _ (List.mem_of_getElem? (i := 45) rfl)) (hw _ (List.mem_of_getElem? (i := 44) rfl)) (by decide) (rm_hrR l Z a0 hw [] nb_334 sr_305 T334.heap n0 z342 f334_1) (hw _ (List.mem_of_getElem? (i := 46) rfl)) (hw _ (List.mem_of_getElem? (i := 28) rfl)) rfl 0 (by decide) (by decide) (by decide) (by decide) x334_0 [] [] rfl pd_11 rfl 151 rfl (by rw [hml]; rfl) rfl (hb hby at_148) rfl fun T344 v344 L344 X344 hQ344 => ?_
      obtain ⟨rfl, Nq344, e344⟩ := hQ344
      have N344 := Fr.app N334 Nq344
      show own_GoE p e below _ (T344.setTop (mkF m 151 _ [(.int (1 : Int32))]))
      refine g_iload X344 hx 153 (hb hby at_151) rfl rfl ?_
      refine g_icmpNo X344 hx 156 (hb hby at_153) (own_ii_ne_f (by decide)) rfl ?_
      refine g_iconst X344 hx 157 (hb hby at_156) (1 : Int32) rfl rfl ?_
      refine g_goto X344 hx 161 (hb hby at_157) (by decide) (by decide) ?_
      refine g_istore X344 hx 163 (hb hby at_161) (l' := #[.val (.int p0), .val (.int p1), .val (.int p2), .val (.int p3), .val (.int (1 : Int32)), .val (.int (0 : Int32)), .val (.ref sr_305), .val .null, .val (.ref b308), .val (.int (1 : Int32)), .val (.ref nb_334)]) rfl rfl ?_
      refine g_iload X344 hx 165 (hb hby at_163) rfl rfl ?_
      refine own_retNW X344 hS (by rw [e344]; exact z343) hx hlk (t := .boolean) hret (by simp) (hb hby at_165) ?_ (by decide) (by decide)
      rw [e344]
      exact ⟨rfl, N344⟩
    · refine g_ifNo X0 hx 19 (hb hby at_16) (own_i0_eq_f c304) rfl ?_
      refine g_iload X0 hx 21 (hb hby at_19) rfl rfl ?_
      refine g_ifNo X0 hx 24 (hb hby at_21) (own_i0_eq_f (by decide)) rfl ?_
      refine g_iconst X0 hx 25 (hb hby at_24) (1 : Int32) rfl rfl ?_
      refine g_goto X0 hx 29 (hb hby at_25) (by decide) (by decide) ?_
      refine g_istore X0 hx 31 (hb hby at_29) (l' := #[.val (.int p0), .val (.int p1), .val (.int p2), .val (.int p3), .val (.int (1 : Int32)), .val (.int (1 : Int32)), .unset, .unset, .unset, .unset, .unset]) rfl rfl ?_
      refine g_iload X0 hx 33 (hb hby at_31) rfl rfl ?_
      refine g_ifNo X0 hx 36 (hb hby at_33) (own_i0_eq_f (by decide)) rfl ?_
      refine g_iload_n X0 hx 37 (hb hby at_36) rfl rfl ?_
      refine g_iload_n X0 hx 38 (hb hby at_37) rfl rfl ?_
      refine g_iconst X0 hx 39 (hb hby at_38) (2 : Int32) rfl rfl ?_
      refine g_ishr X0 hx 40 (hb hby at_39) rfl ?_
      refine own_callSW X0 hx hZ hown (hw _ (List.mem_of_getElem? (i := 0) rfl)) (hw _ (List.mem_of_getElem? (i := 1) rfl)) (by decide) (rm_drawn l Z a0 hw [] p0 (p3 >>> ((2 : Int32) &&& 31)) zc h0 n0 Z0 S_c hz KZ hH hcw) (hw _ (List.mem_of_getElem? (i := 3) rfl)) (hw _ (List.mem_of_getElem? (i := 2) rfl)) e0 D0 hS hSk 0 (by decide) (by decide) (by decide) (by decide) [(.int p0), (.int (p3 >>> ((2 : Int32) &&& 31)))] [] rfl pd_14 rfl 43 rfl (by rw [hml]; rfl) rfl (hb hby at_40) rfl fun T345 v345 L345 X345 hS hZ hown hQ345 D345 => ?_
      obtain ⟨sr_345, rfl, Nq345, Kq345, g_sr_345, sz_sr_345⟩ := hQ345
      have N345 := Fr.app N0 Nq345
      have sq_sr_345 : h0.size ≤ sr_345 := Nat.le_trans (Keep.refl h0 []).1 sz_sr_345
      have K346 : Keep h0 T345.heap [] := (Keep.refl h0 []).trans Kq345 all0
      have z347 : n0 ≤ T345.heap.size := (Nat.le_trans Z0 Kq345.1)
      show own_GoE p e below _ (T345.setTop (mkF m 43 _ [(.ref sr_345)]))
      refine g_goto X345 hx 47 (hb hby at_43) (by decide) (by decide) ?_
      refine g_astore X345 hx 49 (hb hby at_47) rfl (l' := #[.val (.int p0), .val (.int p1), .val (.int p2), .val (.int p3), .val (.int (1 : Int32)), .val (.int (1 : Int32)), .val (.ref sr_345), .unset, .unset, .unset, .unset]) rfl rfl ?_
      refine g_iload X345 hx 51 (hb hby at_49) rfl rfl ?_
      refine g_ifNo X345 hx 54 (hb hby at_51) (own_i0_eq_f (by decide)) rfl ?_
      refine g_iload_n X345 hx 55 (hb hby at_54) rfl rfl ?_
      refine g_iload_n X345 hx 56 (hb hby at_55) rfl rfl ?_
      refine g_iconst X345 hx 57 (hb hby at_56) (3 : Int32) rfl rfl ?_
      refine g_ishr X345 hx 58 (hb hby at_57) rfl ?_
      have f349 : Sta Z T345.heap "java/lang/String" "COMPACT_STRINGS" "Z" (.int zc) := (own_Sta_keep K346 S_c all0)
      refine own_callSW X345 hx hZ hown (hw _ (List.mem_of_getElem? (i := 0) rfl)) (hw _ (List.mem_of_getElem? (i := 1) rfl)) (by decide) (rm_drawn l Z a0 hw [] p1 (p3 >>> ((3 : Int32) &&& 31)) zc T345.heap n0 z347 f349 hz (own_kz KZ K346) hH hcw) (hw _ (List.mem_of_getElem? (i := 3) rfl)) (hw _ (List.mem_of_getElem? (i := 2) rfl)) rfl D345 hS (Nat.le_refl _) 0 (by decide) (by decide) (by decide) (by decide) [(.int p1), (.int (p3 >>> ((3 : Int32) &&& 31)))] [] rfl pd_14 rfl 61 rfl (by rw [hml]; rfl) rfl (hb hby at_58) rfl fun T348 v348 L348 X348 hS hZ hown hQ348 D348 => ?_
      obtain ⟨sr_348, rfl, Nq348, Kq348, g_sr_348, sz_sr_348⟩ := hQ348
      have N348 := Fr.app N345 Nq348
      have sq_sr_348 : h0.size ≤ sr_348 := Nat.le_trans K346.1 sz_sr_348
      have K350 : Keep h0 T348.heap [] := K346.trans Kq348 all0
      have z351 : n0 ≤ T348.heap.size := (Nat.le_trans z347 Kq348.1)
      show own_GoE p e below _ (T348.setTop (mkF m 61 _ [(.ref sr_348)]))
      refine g_goto X348 hx 65 (hb hby at_61) (by decide) (by decide) ?_
      refine g_astore X348 hx 67 (hb hby at_65) rfl (l' := #[.val (.int p0), .val (.int p1), .val (.int p2), .val (.int p3), .val (.int (1 : Int32)), .val (.int (1 : Int32)), .val (.ref sr_345), .val (.ref sr_348), .unset, .unset, .unset]) rfl rfl ?_
      refine own_newO X348 hx hZ hown (hw _ (List.mem_of_getElem? (i := 26) rfl)) (hw _ (List.mem_of_getElem? (i := 27) rfl)) (hw _ (List.mem_of_getElem? (i := 28) rfl)) rfl 70 (hb hby at_67) rfl (by decide) (by decide) fun T352 h352 b352 X352 e352 g352 E352 A352 D352 => ?_
      have g_b352 : n0 ≤ b352 := Nat.le_trans z351 (Nat.le_of_eq g352.symm)
      have sz_b352 : h0.size ≤ b352 := Nat.le_trans K350.1 (Nat.le_of_eq g352.symm)
      have K353 : Keep h0 h352 [] := K350.ext E352
      have z354 : n0 ≤ h352.size := (Nat.le_trans z351 E352.1)
      have z355 : _ ≤ h352.size := (Nat.le_trans (Nat.le_refl _) E352.1)
      have f356 : Fld Z h352 b352 "com/example/grantbook/grantbook/model/ClientSecrets" "currentHash" "Ljava/lang/String;" .null := D352 (Or.inr (hw _ (List.mem_of_getElem? (i := 39) rfl))) (ty := (.object "java/lang/String")) (by decide)
      have f357 : Fld Z h352 b352 "com/example/grantbook/grantbook/model/ClientSecrets" "rotatedHash" "Ljava/lang/String;" .null := D352 (Or.inr (hw _ (List.mem_of_getElem? (i := 41) rfl))) (ty := (.object "java/lang/String")) (by decide)
      refine g_dup X352 hx 71 (hb hby at_70) rfl rfl ?_
      refine g_aload X352 hx 73 (hb hby at_71) rfl rfl rfl ?_
      refine g_aload X352 hx 75 (hb hby at_73) rfl rfl rfl ?_
      refine own_callI X352 hx hZ hown rfl (hw _ (List.mem_of_getElem? (i := 29) rfl)) (hw _ (List.mem_of_getElem? (i := 30) rfl)) (by decide) (rm_icsRR l Z a0 hw [] b352 sr_345 sr_348 h352 n0 z354 A352 f356 f357 g_b352) (hw _ (List.mem_of_getElem? (i := 31) rfl)) (hw _ (List.mem_of_getElem? (i := 28) rfl)) e352 1 (by decide) (by decide) (by decide) (by decide) b352 [(.ref sr_345), (.ref sr_348)] [(.ref b352)] rfl pd_9 rfl 78 rfl (by rw [hml]; rfl) rfl (hb hby at_75) rfl fun T358 v358 L358 X358 hQ358 => ?_
      obtain ⟨rfl, Nq358, Kq358, f358_0, f358_1⟩ := hQ358
      have N358 := Fr.app N348 Nq358
      have K359 : Keep h0 T358.heap [] := K353.trans Kq358 (allS (Or.inr sz_b352) all0)
      have z360 : n0 ≤ T358.heap.size := (Nat.le_trans z354 Kq358.1)
      have z361 : _ ≤ T358.heap.size := (Nat.le_trans z355 Kq358.1)
      show own_GoE p e below _ (T358.setTop (mkF m 78 _ [(.ref b352)]))
      refine g_astore X358 hx 80 (hb hby at_78) rfl (l' := #[.val (.int p0), .val (.int p1), .val (.int p2), .val (.int p3), .val (.int (1 : Int32)), .val (.int (1 : Int32)), .val (.ref sr_345), .val (.ref sr_348), .val (.ref b352), .unset, .unset]) rfl rfl ?_
      refine g_aload X358 hx 82 (hb hby at_80) rfl rfl rfl ?_
      have f363 : Exa Z T358.heap b352 "com/example/grantbook/grantbook/model/ClientSecrets" := (A352.keep Kq358)
      refine own_callV X358 hx hZ hown (hw _ (List.mem_of_getElem? (i := 42) rfl)) (hw _ (List.mem_of_getElem? (i := 43) rfl)) (own_nf hZ (hw _ (List.mem_of_getElem? (i := 45) rfl))) (hw _ (List.mem_of_getElem? (i := 45) rfl)) (hw _ (List.mem_of_getElem? (i := 44) rfl)) (by decide) (rm_hrR l Z a0 hw [] b352 sr_348 T358.heap n0 z360 f358_1) (hw _ (List.mem_of_getElem? (i := 46) rfl)) (hw _ (List.mem_of_getElem? (i := 28) rfl)) rfl 0 (by decide) (by decide) (by decide) (by decide) f363 [] [] rfl pd_11 rfl 85 rfl (by rw [hml]; rfl) rfl (hb hby at_82) rfl fun T362 v362 L362 X362 hQ362 => ?_
      obtain ⟨rfl, Nq362, e362⟩ := hQ362
      have N362 := Fr.app N358 Nq362
      show own_GoE p e below _ (T362.setTop (mkF m 85 _ [(.int (1 : Int32))]))
      refine g_iload X362 hx 87 (hb hby at_85) rfl rfl ?_
      refine g_icmpNo X362 hx 90 (hb hby at_87) (own_ii_ne_f (by decide)) rfl ?_
      refine g_iconst X362 hx 91 (hb hby at_90) (1 : Int32) rfl rfl ?_
      refine g_goto X362 hx 95 (hb hby at_91) (by decide) (by decide) ?_
      refine g_istore X362 hx 97 (hb hby at_95) (l' := #[.val (.int p0), .val (.int p1), .val (.int p2), .val (.int p3), .val (.int (1 : Int32)), .val (.int (1 : Int32)), .val (.ref sr_345), .val (.ref sr_348), .val (.ref b352), .val (.int (1 : Int32)), .unset]) rfl rfl ?_
      refine g_iload X362 hx 99 (hb hby at_97) rfl rfl ?_
      refine g_ifNo X362 hx 102 (hb hby at_99) (own_i0_eq_f (by decide)) rfl ?_
      refine g_aload X362 hx 104 (hb hby at_102) rfl rfl rfl ?_
      refine own_callV X362 hx hZ hown (hw _ (List.mem_of_getElem? (i := 47) rfl)) (hw _ (List.mem_of_getElem? (i := 48) rfl)) (own_nf hZ (hw _ (List.mem_of_getElem? (i := 50) rfl))) (hw _ (List.mem_of_getElem? (i := 50) rfl)) (hw _ (List.mem_of_getElem? (i := 49) rfl)) (by decide) (rm_woR l Z a0 hw [] b352 sr_345 T358.heap n0 z360 f358_0) (hw _ (List.mem_of_getElem? (i := 51) rfl)) (hw _ (List.mem_of_getElem? (i := 28) rfl)) e362 0 (by decide) (by decide) (by decide) (by decide) f363 [] [] rfl pd_12 rfl 107 rfl (by rw [hml]; rfl) rfl (hb hby at_104) rfl fun T364 v364 L364 X364 hQ364 => ?_
      obtain ⟨nb_364, rfl, Nq364, Kq364, g_nb_364, sz_nb_364, x364_0, f364_0, f364_1⟩ := hQ364
      have ne365 : b352 ≠ nb_364 := Nat.ne_of_lt (Nat.lt_of_lt_of_le f363.lt sz_nb_364)
      have N364 := Fr.app N362 Nq364
      have sq_nb_364 : h0.size ≤ nb_364 := Nat.le_trans K359.1 sz_nb_364
      have K366 : Keep h0 T364.heap [] := K359.trans Kq364 all0
      have z367 : n0 ≤ T364.heap.size := (Nat.le_trans z360 Kq364.1)
      have z368 : _ ≤ T364.heap.size := (Nat.le_trans z361 Kq364.1)
      show own_GoE p e below _ (T364.setTop (mkF m 107 _ [(.ref nb_364)]))
      refine own_callV X364 hx hZ hown (hw _ (List.mem_of_getElem? (i := 42) rfl)) (hw _ (List.mem_of_getElem? (i := 43) rfl)) (own_nf hZ (hw _ (List.mem_of_getElem? (i := 45) rfl))) (hw _ (List.mem_of_getElem? (i := 45) rfl)) (hw _ (List.mem_of_getElem? (i := 44) rfl)) (by decide) (rm_hrN l Z a0 hw [] nb_364 T364.heap n0 z367 f364_1) (hw _ (List.mem_of_getElem? (i := 46) rfl)) (hw _ (List.mem_of_getElem? (i := 28) rfl)) rfl 0 (by decide) (by decide) (by decide) (by decide) x364_0 [] [] rfl pd_11 rfl 110 rfl (by rw [hml]; rfl) rfl (hb hby at_107) rfl fun T369 v369 L369 X369 hQ369 => ?_
      obtain ⟨rfl, Nq369, e369⟩ := hQ369
      have N369 := Fr.app N364 Nq369
      show own_GoE p e below _ (T369.setTop (mkF m 110 _ [(.int (0 : Int32))]))
      refine g_ifNo X369 hx 113 (hb hby at_110) (own_i0_ne_f (by decide)) rfl ?_
      refine g_iconst X369 hx 114 (hb hby at_113) (1 : Int32) rfl rfl ?_
      refine g_goto X369 hx 118 (hb hby at_114) (by decide) (by decide) ?_
      refine g_istore X369 hx 120 (hb hby at_118) (l' := #[.val (.int p0), .val (.int p1), .val (.int p2), .val (.int p3), .val (.int (1 : Int32)), .val (.int (1 : Int32)), .val (.ref sr_345), .val (.ref sr_348), .val (.ref b352), .val (.int (1 : Int32)), .unset]) rfl rfl ?_
      refine g_iload X369 hx 122 (hb hby at_120) rfl rfl ?_
      refine g_ifYes X369 hx 163 (hb hby at_122) (own_i0_ne_t (by decide)) (by decide) (by decide) ?_
      refine g_iload X369 hx 165 (hb hby at_163) rfl rfl ?_
      refine own_retNW X369 hS (by rw [e369]; exact z368) hx hlk (t := .boolean) hret (by simp) (hb hby at_165) ?_ (by decide) (by decide)
      rw [e369]
      exact ⟨rfl, N369⟩
theorem own_ne0 {args : Array Value} {s : State} {t : Term} {z : Int32} (ht : t.eval args s none [] s = some (.int z)) (h : (Jvm.Cond.not (.eq t (.int 0))).before args s = true) : ¬ (z = (0 : Int32)) := by
  intro q
  subst q
  simp [Cond.before, Cond.holds, Cond.value, ht, Term.eval] at h
set_option maxRecDepth 65536 in
set_option maxHeartbeats 40000000 in
theorem comes_1 {Post : Tables → Env → Array Value → State → Outcome → State → Prop} (hpost : ∀ tb e args s v u, (limb_1_1.after args s (.returned v) u = true ∧ limb_1_2.after args s (.returned v) u = true ∧ True) → ReturnedEndW s (.returned v) u (Jvm.fieldLocs frame_1_writes args s ++ Jvm.arrayLocs frame_1_arrays args s ++ Jvm.staticLocs frame_1_statics s) 32 1152 → Post tb e args s (.returned v) u) :
    ArmFor flags0 classFile x code maxLocals ret World_1 tables_1 room_1 Calls_1 rest_1 Pre_1 Post := by
  intro l hfl _ _ p e ha hc hk s m args below hf hA hF happ hP
  obtain ⟨hcalls, hrest, hpre⟩ := hP
  obtain ⟨-, -, -, hnamed, -, -, -, hat⟩ := (Spec.applies_iff hf).mp happ
  obtain ⟨hg, hn⟩ := and_e (Cond.before_iff.mp (show (Jvm.Cond.and given_1 narrow_1).before args s = true from hpre))
  obtain ⟨gc, q0⟩ := and_e hg
  obtain ⟨ga0, q1⟩ := and_e q0
  obtain ⟨ga1, q2⟩ := and_e q1
  obtain ⟨ga2, q3⟩ := and_e q2
  have ga3 := q3
  obtain ⟨w0, w1, w2, w3, rfl⟩ : ∃ w0 w1 w2 w3 : Value, args = #[w0, w1, w2, w3] := by
    have hs : args.size = 4 := by simpa [Cond.value, given_1] using gc
    obtain ⟨L⟩ := args
    match L, hs with
    | [w0, w1, w2, w3], _ => exact ⟨w0, w1, w2, w3, rfl⟩
  have hw := fun d (hd : d ∈ tables_1) => atoms_spec (ws := Jvm.Cond.code x code maxLocals ret :: tables_1) hat d (List.mem_cons_of_mem _ hd)
  have hfit : Fit s := fun {y c} hc i hi => by
    obtain ⟨ha, rfl⟩ := Array.getElem?_eq_some_iff.mp hc
    have q := List.all_eq_true.mp ((Array.all_eq_true_iff_forall_mem.mp hF) _ (Array.getElem_mem ha)) i (List.mem_range.mpr hi)
    simpa [Array.getElem?_eq_getElem hi] using q
  obtain ⟨hsets, hown0⟩ := atoms_of _ (rest_1_c_eq ▸ (show rest_1_c.before _ s = true from hrest))
  have hr0 := Cond.before_iff.mp hown0
  obtain ⟨i0, ei0⟩ := is_v ga0
  obtain rfl : w0 = (.int i0) := Option.some.inj ei0
  obtain ⟨i1, ei1⟩ := is_v ga1
  obtain rfl : w1 = (.int i1) := Option.some.inj ei1
  obtain ⟨i2, ei2⟩ := is_v ga2
  obtain rfl : w2 = (.int i2) := Option.some.inj ei2
  obtain ⟨i3, ei3⟩ := is_v ga3
  obtain rfl : w3 = (.int i3) := Option.some.inj ei3
  obtain ⟨zc, ezc⟩ := is_v (Cond.before_iff.mp (hsets _ (List.mem_of_getElem? (i := 1) rfl)))
  obtain ⟨n, o, h1, h2, h3, _, L, rfl, ⟨rfl, N⟩, hq⟩ := rm_law l s _ hw tables_1 i0 i1 i2 i3 zc s.heap s.heap.size (Nat.le_refl _) (Sta.start ezc (Or.inl (hsets _ (List.mem_of_getElem? (i := 0) rfl)))) (own_ne0 ezc (hsets _ (List.mem_of_getElem? (i := 2) rfl))) (fun _ _ q => q) (hcalls.1 ("java/lang/String", 7) (List.mem_of_getElem? (i := 0) rfl)) (hsets _ (List.mem_of_getElem? (i := 2) rfl)) p e ha hc hk s m _ below hf ((Spec.applies_iff_loose hf).mp happ).1 ⟨rfl, State.Warmed39.refl s, rfl, Or.inl IB.start⟩ trivial
  refine ⟨n, _, h1, h2, h3, hpost _ _ _ _ _ _ ⟨Cond.after_iff.mpr rfl, Cond.after_iff.mpr (eq_i res_at (Term.int_eval (1)) rfl), trivial⟩ ⟨hq.1, hq.2.1, hq.2.2.1, (hq.2.2.2.sift fun y hy => Or.inr (N y hy)).mono (by decide) (by decide)⟩⟩
theorem main_1_1 : Claimed_1_1 := comes_1 fun _ _ _ _ _ _ h hF => ⟨h.1, hF⟩
theorem main_1_2 : Claimed_1_2 := comes_1 fun _ _ _ _ _ _ h hF => ⟨h.2.1, hF⟩
end Jvm.Pilot.@@N@@
namespace Jvm.Pilot.@@N@@
open Jvm Jvm.ClassFile Sem Op Lib Jvm.Free Jvm.Stand Jvm.Pilot.@@N@@.Jvm.D
/-! MADE BY PROGRAM (witnessworld.py) out of the Statement's table words and the real class files: 21 classes; the members and pool entries that the words name. The judged class is class 1, her method 2. -/
namespace start1
open Jvm.ClassFile
def u (s : String) : CpInfo := .utf8 (stringToUtf16 s)
/-- a pool by its gaps: so many unusable entries, then the entry; so many at the end -/
def gap : Nat → List CpInfo → List CpInfo
  | 0, r => r
  | n + 1, r => .unusable :: gap n r
def poolList (es : List (Nat × CpInfo)) (last : Nat) : List CpInfo := es.foldr (fun e r => gap e.1 (e.2 :: r)) (gap last [])
def pool (es : List (Nat × CpInfo)) (last : Nat) : Array CpInfo := ⟨poolList es last⟩
def fileOf (pool : Array CpInfo) (this : Nat) (attrs : Array Attribute := #[]) (ms : Array MethodInfo := #[]) (fl : Nat := 33) (sup : Nat := 0) (ifs : Array Nat := #[]) (fds : Array FieldInfo := #[]) : ClassFile where
  minorVersion := 0
  majorVersion := 65
  constantPool := pool
  accessFlags := fl
  thisClass := this
  superClass := sup
  interfaces := ifs
  fields := fds
  methods := ms
  attributes := attrs
def plain (name : String) (sup : Option ClassId) : Class where
  name := name
  kind := .ordinary
  loader := none
  accessFlags := 33
  super := sup
  interfaces := #[]
  cf := none
  fields := #[]
  methods := #[]
  instanceTypes := #[]
  staticTypes := #[]
  resolved := #[]
  callSites := []
  init := .initialized
  statics := none
  mirror := none

def pool0 : Array CpInfo := pool [(5, u "<init>"), (0, u "()V"), (1, .class_ 10), (1, u "java/lang/Object")] 113

def k0c0 : Code := { maxStack := 0, maxLocals := 1, code := object_method_1_code, exceptionTable := #[], attributes := #[] }
def k0m0 : Method := { name := "<init>", desc := "()V", sig := { parameters := [], returnType := none }, accessFlags := 1, code := some k0c0 }
/-- java/lang/Object -/
def k0 : Class := { plain "java/lang/Object" none with
  accessFlags := 33
  interfaces := #[]
  cf := some (fileOf pool0 8 #[] #[{ accessFlags := 1, nameIndex := 5, descriptorIndex := 6, attributes := #[] }] 33 0 #[] #[])
  fields := #[]
  methods := #[k0m0]
  instanceTypes := #[]
  staticTypes := #[]
  resolved := Array.replicate 124 none
  statics := none }

def pool1 : Array CpInfo := pool [(2, .class_ 4), (1, u "java/lang/Object"), (0, u "<init>"), (0, u "()V"), (0, .class_ 8), (0, u "java/lang/String"), (0, .methodref 7 10), (0, .nameAndType 5 11), (0, u "([C)V"), (0, .methodref 13 14), (0, .class_ 15), (0, .nameAndType 16 17), (0, u "com/example/grantbook/grantbook/model/ClientSecretsHasRotatedPinLaw"), (0, u "drawn"), (0, u "(II)Ljava/lang/String;"), (0, .class_ 19), (0, u "com/example/grantbook/grantbook/model/ClientSecrets"), (0, .methodref 18 21), (0, .nameAndType 5 22), (0, u "(Ljava/lang/String;Ljava/lang/String;)V"), (0, .methodref 18 24), (0, .nameAndType 25 26), (0, u "hasRotated"), (0, u "()Z"), (0, .methodref 18 28), (0, .nameAndType 29 30), (0, u "withoutRotated"), (0, u "()Lcom/example/grantbook/grantbook/model/ClientSecrets;"), (0, .methodref 7 32), (0, .nameAndType 33 34), (0, u "valueOf"), (0, u "(C)Ljava/lang/String;"), (0, .methodref 18 36), (0, .nameAndType 37 38), (0, u "rotatedTo"), (0, u "(Ljava/lang/String;)Lcom/example/grantbook/grantbook/model/ClientSecrets;"), (3, u "law"), (0, u "(IIII)Z")] 2

def k1m0 : Method := { name := "<init>", desc := "()V", sig := { parameters := [], returnType := none }, accessFlags := 1, code := none }
def k1c1 : Code := { maxStack := 7, maxLocals := 2, code := method_2_code, exceptionTable := #[], attributes := #[] }
def k1m1 : Method := { name := "drawn", desc := "(II)Ljava/lang/String;", sig := { parameters := [.int, .int], returnType := some (.object "java/lang/String") }, accessFlags := 10, code := some k1c1 }
def k1c2 : Code := { maxStack := 4, maxLocals := 11, code := code, exceptionTable := #[], attributes := #[] }
def k1m2 : Method := { name := "law", desc := "(IIII)Z", sig := { parameters := [.int, .int, .int, .int], returnType := some .boolean }, accessFlags := 9, code := some k1c2 }
/-- com/example/grantbook/grantbook/model/ClientSecretsHasRotatedPinLaw -/
def k1 : Class := { plain "com/example/grantbook/grantbook/model/ClientSecretsHasRotatedPinLaw" (some 0) with
  accessFlags := 49
  interfaces := #[]
  cf := some (fileOf pool1 13 #[] #[{ accessFlags := 1, nameIndex := 5, descriptorIndex := 6, attributes := #[] }, { accessFlags := 10, nameIndex := 16, descriptorIndex := 17, attributes := #[] }, { accessFlags := 9, nameIndex := 42, descriptorIndex := 43, attributes := #[] }] 49 2 #[] #[])
  fields := #[]
  methods := #[k1m0, k1m1, k1m2]
  instanceTypes := #[]
  staticTypes := #[]
  resolved := Array.replicate 46 none
  statics := none }

def pool2 : Array CpInfo := pool [(1, .class_ 2), (0, u "java/io/Serializable"), (0, .class_ 4), (0, u "java/lang/Object")] 2

/-- java/io/Serializable -/
def k2 : Class := { plain "java/io/Serializable" (some 0) with
  accessFlags := 1537
  interfaces := #[]
  cf := some (fileOf pool2 1 #[] #[] 1537 3 #[] #[])
  fields := #[]
  methods := #[]
  instanceTypes := #[]
  staticTypes := #[]
  resolved := Array.replicate 7 none
  statics := none }

def pool3 : Array CpInfo := pool [(1, .class_ 2), (0, u "java/lang/Comparable"), (0, .class_ 4), (0, u "java/lang/Object")] 7

/-- java/lang/Comparable -/
def k3 : Class := { plain "java/lang/Comparable" (some 0) with
  accessFlags := 1537
  interfaces := #[]
  cf := some (fileOf pool3 1 #[] #[] 1537 3 #[] #[])
  fields := #[]
  methods := #[]
  instanceTypes := #[]
  staticTypes := #[]
  resolved := Array.replicate 12 none
  statics := none }

def pool4 : Array CpInfo := pool [(2, .class_ 4), (1, u "java/lang/CharSequence"), (42, .class_ 48), (0, u "java/lang/CharSequence$1CodePointIterator"), (10, .class_ 60), (0, u "java/lang/CharSequence$1CharIterator"), (5, .class_ 67), (0, u "java/lang/Object")] 63

/-- java/lang/CharSequence -/
def k4 : Class := { plain "java/lang/CharSequence" (some 0) with
  accessFlags := 1537
  interfaces := #[]
  cf := some (fileOf pool4 2 #[.nestMembers #[47, 59]] #[] 1537 66 #[] #[])
  fields := #[]
  methods := #[]
  instanceTypes := #[]
  staticTypes := #[]
  resolved := Array.replicate 131 none
  statics := none }

def pool5 : Array CpInfo := pool [(1, .class_ 2), (0, u "java/lang/constant/Constable"), (0, .class_ 4), (0, u "java/lang/Object")] 6

/-- java/lang/constant/Constable -/
def k5 : Class := { plain "java/lang/constant/Constable" (some 0) with
  accessFlags := 1537
  interfaces := #[]
  cf := some (fileOf pool5 1 #[] #[] 1537 3 #[] #[])
  fields := #[]
  methods := #[]
  instanceTypes := #[]
  staticTypes := #[]
  resolved := Array.replicate 11 none
  statics := none }

def pool6 : Array CpInfo := pool [(1, .class_ 2), (0, u "java/lang/constant/ConstantDesc"), (0, .class_ 4), (0, u "java/lang/Object")] 32

/-- java/lang/constant/ConstantDesc -/
def k6 : Class := { plain "java/lang/constant/ConstantDesc" (some 0) with
  accessFlags := 1537
  interfaces := #[]
  cf := some (fileOf pool6 1 #[] #[] 1537 3 #[] #[])
  fields := #[]
  methods := #[]
  instanceTypes := #[]
  staticTypes := #[]
  resolved := Array.replicate 37 none
  statics := none }

def pool7 : Array CpInfo := pool [(1, .methodref 2 3), (0, .class_ 4), (0, .nameAndType 5 6), (0, u "java/lang/Object"), (0, u "<init>"), (0, u "()V"), (0, .string 8), (0, u ""), (0, .fieldref 10 11), (0, .class_ 12), (0, .nameAndType 13 14), (0, u "java/lang/String"), (0, u "value"), (0, u "[B"), (0, .fieldref 10 16), (0, .nameAndType 17 18), (0, u "coder"), (0, u "B"), (2, u "hash"), (0, u "I"), (2, u "hashIsZero"), (0, u "Z"), (0, .methodref 10 28), (0, .nameAndType 5 29), (0, u "([CIILjava/lang/Void;)V"), (8, .fieldref 10 39), (0, .nameAndType 40 26), (0, u "COMPACT_STRINGS"), (1, .class_ 44), (1, u "java/lang/StringUTF16"), (0, u "compress"), (1, .methodref 42 48), (0, .nameAndType 49 50), (0, u "coderFromArrayLen"), (0, u "([BI)B"), (2, u "toBytes"), (53, .class_ 109), (1, u "java/lang/StringLatin1"), (67, .methodref 42 178), (0, .nameAndType 45 179), (0, u "([CII)[B"), (29, .methodref 10 210), (0, .nameAndType 5 211), (0, u "([BB)V"), (157, u "(C)Z"), (205, .class_ 576), (0, u "java/lang/CharSequence"), (22, u "CASE_INSENSITIVE_ORDER"), (0, u "Ljava/util/Comparator;"), (181, u "valueOf"), (0, u "(C)Ljava/lang/String;"), (226, u "([C)V"), (4, .methodref 107 1016), (0, .nameAndType 1017 369), (0, u "canEncode"), (0, .methodref 107 1019), (0, .nameAndType 53 1020), (0, u "(C)[B"), (80, u "serialPersistentFields"), (0, u "[Ljava/io/ObjectStreamField;"), (0, .class_ 1104), (0, u "java/lang/String$CaseInsensitiveComparator"), (1, .class_ 1107), (0, u "java/io/Serializable"), (0, .class_ 1109), (0, u "java/lang/Comparable"), (0, .class_ 1111), (0, u "java/lang/constant/Constable"), (0, .class_ 1113), (0, u "java/lang/constant/ConstantDesc"), (2, u "serialVersionUID"), (0, u "J"), (3, u "REPL"), (0, u "C"), (2, u "LATIN1"), (1, u "UTF16")] 323

def k7m0 : Method := { name := "<init>", desc := "()V", sig := { parameters := [], returnType := none }, accessFlags := 1, code := none }
def k7c1 : Code := { maxStack := 5, maxLocals := 2, code := jdk_42_method_3_code, exceptionTable := #[], attributes := #[] }
def k7m1 : Method := { name := "<init>", desc := "([C)V", sig := { parameters := [(.array .char)], returnType := none }, accessFlags := 1, code := some k7c1 }
def k7c2 : Code := { maxStack := 4, maxLocals := 1, code := jdk_42_method_139_code, exceptionTable := #[], attributes := #[] }
def k7m2 : Method := { name := "valueOf", desc := "(C)Ljava/lang/String;", sig := { parameters := [.char], returnType := some (.object "java/lang/String") }, accessFlags := 9, code := some k7c2 }
def k7c3 : Code := { maxStack := 4, maxLocals := 6, code := jdk_42_method_149_code, exceptionTable := #[], attributes := #[] }
def k7m3 : Method := { name := "<init>", desc := "([CIILjava/lang/Void;)V", sig := { parameters := [(.array .char), .int, .int, (.object "java/lang/Void")], returnType := none }, accessFlags := 2, code := some k7c3 }
def k7c4 : Code := { maxStack := 2, maxLocals := 3, code := jdk_42_method_151_code, exceptionTable := #[], attributes := #[] }
def k7m4 : Method := { name := "<init>", desc := "([BB)V", sig := { parameters := [(.array .byte), .byte], returnType := none }, accessFlags := 0, code := some k7c4 }
/-- java/lang/String -/
def k7 : Class := { plain "java/lang/String" (some 0) with
  accessFlags := 49
  interfaces := #[2, 3, 4, 5, 6]
  cf := some (fileOf pool7 10 #[.nestMembers #[1103]] #[{ accessFlags := 1, nameIndex := 5, descriptorIndex := 6, attributes := #[] }, { accessFlags := 1, nameIndex := 5, descriptorIndex := 1010, attributes := #[] }, { accessFlags := 9, nameIndex := 782, descriptorIndex := 783, attributes := #[] }, { accessFlags := 2, nameIndex := 5, descriptorIndex := 29, attributes := #[] }, { accessFlags := 0, nameIndex := 5, descriptorIndex := 211, attributes := #[] }] 49 2 #[1106, 1108, 575, 1110, 1112] #[{ accessFlags := 18, nameIndex := 13, descriptorIndex := 14, attributes := #[] }, { accessFlags := 18, nameIndex := 17, descriptorIndex := 18, attributes := #[] }, { accessFlags := 2, nameIndex := 21, descriptorIndex := 22, attributes := #[] }, { accessFlags := 2, nameIndex := 25, descriptorIndex := 26, attributes := #[] }, { accessFlags := 26, nameIndex := 1116, descriptorIndex := 1117, attributes := #[] }, { accessFlags := 24, nameIndex := 40, descriptorIndex := 26, attributes := #[] }, { accessFlags := 26, nameIndex := 1101, descriptorIndex := 1102, attributes := #[] }, { accessFlags := 26, nameIndex := 1121, descriptorIndex := 1122, attributes := #[] }, { accessFlags := 25, nameIndex := 599, descriptorIndex := 600, attributes := #[] }, { accessFlags := 24, nameIndex := 1125, descriptorIndex := 18, attributes := #[] }, { accessFlags := 24, nameIndex := 1127, descriptorIndex := 18, attributes := #[] }])
  fields := #[{ name := "value", type := (.array .byte), accessFlags := 18, slot := 0, constantValue := 0 }, { name := "coder", type := .byte, accessFlags := 18, slot := 1, constantValue := 0 }, { name := "hash", type := .int, accessFlags := 2, slot := 2, constantValue := 0 }, { name := "hashIsZero", type := .boolean, accessFlags := 2, slot := 3, constantValue := 0 }, { name := "serialVersionUID", type := .long, accessFlags := 26, slot := 0, constantValue := 0 }, { name := "COMPACT_STRINGS", type := .boolean, accessFlags := 24, slot := 1, constantValue := 0 }, { name := "serialPersistentFields", type := (.array (.object "java/io/ObjectStreamField")), accessFlags := 26, slot := 2, constantValue := 0 }, { name := "REPL", type := .char, accessFlags := 26, slot := 3, constantValue := 0 }, { name := "CASE_INSENSITIVE_ORDER", type := (.object "java/util/Comparator"), accessFlags := 25, slot := 4, constantValue := 0 }, { name := "LATIN1", type := .byte, accessFlags := 24, slot := 5, constantValue := 0 }, { name := "UTF16", type := .byte, accessFlags := 24, slot := 6, constantValue := 0 }]
  methods := #[k7m0, k7m1, k7m2, k7m3, k7m4]
  instanceTypes := #[(.array .byte), .byte, .int, .boolean]
  staticTypes := #[.long, .boolean, (.array (.object "java/io/ObjectStreamField")), .char, (.object "java/util/Comparator"), .byte, .byte]
  resolved := Array.replicate 1451 none
  statics := some 0 }

def pool8 : Array CpInfo := pool [(1, .methodref 2 3), (0, .class_ 4), (0, .nameAndType 5 6), (0, u "java/lang/Object"), (0, u "<init>"), (0, u "()V"), (0, .class_ 8), (0, u "java/lang/Record")] 13

def k8c0 : Code := { maxStack := 1, maxLocals := 1, code := jdk_30_method_1_code, exceptionTable := #[], attributes := #[] }
def k8m0 : Method := { name := "<init>", desc := "()V", sig := { parameters := [], returnType := none }, accessFlags := 4, code := some k8c0 }
/-- java/lang/Record -/
def k8 : Class := { plain "java/lang/Record" (some 0) with
  accessFlags := 1057
  interfaces := #[]
  cf := some (fileOf pool8 7 #[] #[{ accessFlags := 4, nameIndex := 5, descriptorIndex := 6, attributes := #[] }] 1057 2 #[] #[])
  fields := #[]
  methods := #[k8m0]
  instanceTypes := #[]
  staticTypes := #[]
  resolved := Array.replicate 22 none
  statics := none }

def pool9 : Array CpInfo := pool [(1, .methodref 2 3), (0, .class_ 4), (0, .nameAndType 5 6), (0, u "java/lang/Record"), (0, u "<init>"), (0, u "()V"), (7, .fieldref 15 16), (0, .class_ 17), (0, .nameAndType 18 19), (0, u "com/example/grantbook/grantbook/model/ClientSecrets"), (0, u "currentHash"), (0, u "Ljava/lang/String;"), (0, .fieldref 15 21), (0, .nameAndType 22 19), (0, u "rotatedHash"), (0, .methodref 15 24), (0, .nameAndType 5 25), (0, u "(Ljava/lang/String;Ljava/lang/String;)V"), (26, .methodref 15 53), (0, .nameAndType 54 55), (0, u "hasRotated"), (0, u "()Z"), (5, .methodref 15 62), (0, .nameAndType 63 64), (0, u "of"), (0, u "(Ljava/lang/String;)Lcom/example/grantbook/grantbook/model/ClientSecrets;"), (33, u "NONE"), (0, u "Lcom/example/grantbook/grantbook/model/ClientSecrets;"), (0, u "NO_SECRET_METHOD"), (7, u "rotatedTo"), (0, u "withoutRotated"), (0, u "()Lcom/example/grantbook/grantbook/model/ClientSecrets;")] 27

def k9c0 : Code := { maxStack := 3, maxLocals := 3, code := prog_29_method_1_code, exceptionTable := #[], attributes := #[] }
def k9m0 : Method := { name := "<init>", desc := "(Ljava/lang/String;Ljava/lang/String;)V", sig := { parameters := [(.object "java/lang/String"), (.object "java/lang/String")], returnType := none }, accessFlags := 1, code := some k9c0 }
def k9c1 : Code := { maxStack := 4, maxLocals := 1, code := prog_29_method_2_code, exceptionTable := #[], attributes := #[] }
def k9m1 : Method := { name := "of", desc := "(Ljava/lang/String;)Lcom/example/grantbook/grantbook/model/ClientSecrets;", sig := { parameters := [(.object "java/lang/String")], returnType := some (.object "com/example/grantbook/grantbook/model/ClientSecrets") }, accessFlags := 9, code := some k9c1 }
def k9c2 : Code := { maxStack := 1, maxLocals := 1, code := prog_29_method_4_code, exceptionTable := #[], attributes := #[] }
def k9m2 : Method := { name := "hasRotated", desc := "()Z", sig := { parameters := [], returnType := some .boolean }, accessFlags := 1, code := some k9c2 }
def k9c3 : Code := { maxStack := 4, maxLocals := 2, code := prog_29_method_5_code, exceptionTable := #[], attributes := #[] }
def k9m3 : Method := { name := "rotatedTo", desc := "(Ljava/lang/String;)Lcom/example/grantbook/grantbook/model/ClientSecrets;", sig := { parameters := [(.object "java/lang/String")], returnType := some (.object "com/example/grantbook/grantbook/model/ClientSecrets") }, accessFlags := 1, code := some k9c3 }
def k9c4 : Code := { maxStack := 1, maxLocals := 1, code := prog_29_method_6_code, exceptionTable := #[], attributes := #[] }
def k9m4 : Method := { name := "withoutRotated", desc := "()Lcom/example/grantbook/grantbook/model/ClientSecrets;", sig := { parameters := [], returnType := some (.object "com/example/grantbook/grantbook/model/ClientSecrets") }, accessFlags := 1, code := some k9c4 }
/-- com/example/grantbook/grantbook/model/ClientSecrets -/
def k9 : Class := { plain "com/example/grantbook/grantbook/model/ClientSecrets" (some 8) with
  accessFlags := 49
  interfaces := #[]
  cf := some (fileOf pool9 15 #[] #[{ accessFlags := 1, nameIndex := 5, descriptorIndex := 25, attributes := #[] }, { accessFlags := 9, nameIndex := 63, descriptorIndex := 64, attributes := #[] }, { accessFlags := 1, nameIndex := 54, descriptorIndex := 55, attributes := #[] }, { accessFlags := 1, nameIndex := 108, descriptorIndex := 64, attributes := #[] }, { accessFlags := 1, nameIndex := 109, descriptorIndex := 110, attributes := #[] }] 49 2 #[] #[{ accessFlags := 18, nameIndex := 18, descriptorIndex := 19, attributes := #[] }, { accessFlags := 18, nameIndex := 22, descriptorIndex := 19, attributes := #[] }, { accessFlags := 25, nameIndex := 98, descriptorIndex := 99, attributes := #[] }, { accessFlags := 26, nameIndex := 100, descriptorIndex := 19, attributes := #[] }])
  fields := #[{ name := "currentHash", type := (.object "java/lang/String"), accessFlags := 18, slot := 0, constantValue := 0 }, { name := "rotatedHash", type := (.object "java/lang/String"), accessFlags := 18, slot := 1, constantValue := 0 }, { name := "NONE", type := (.object "com/example/grantbook/grantbook/model/ClientSecrets"), accessFlags := 25, slot := 0, constantValue := 0 }, { name := "NO_SECRET_METHOD", type := (.object "java/lang/String"), accessFlags := 26, slot := 1, constantValue := 0 }]
  methods := #[k9m0, k9m1, k9m2, k9m3, k9m4]
  instanceTypes := #[(.object "java/lang/String"), (.object "java/lang/String")]
  staticTypes := #[(.object "com/example/grantbook/grantbook/model/ClientSecrets"), (.object "java/lang/String")]
  resolved := Array.replicate 138 none
  statics := none }

def pool10 : Array CpInfo := pool [(4, .class_ 6), (1, u "java/lang/Object"), (0, u "<init>"), (0, u "()V"), (5, .class_ 16), (1, u "java/lang/StringLatin1"), (73, u "canEncode"), (14, u "(C)Z"), (15, u "$assertionsDisabled"), (0, u "Z"), (98, .class_ 223), (1, u "java/lang/StringLatin1$LinesSpliterator"), (156, u "toBytes"), (1, u "(C)[B"), (7, .class_ 391), (0, u "java/lang/StringLatin1$CharsSpliterator")] 3

def k10m0 : Method := { name := "<init>", desc := "()V", sig := { parameters := [], returnType := none }, accessFlags := 0, code := none }
def k10c1 : Code := { maxStack := 2, maxLocals := 1, code := jdk_43_method_3_code, exceptionTable := #[], attributes := #[] }
def k10m1 : Method := { name := "canEncode", desc := "(C)Z", sig := { parameters := [.char], returnType := some .boolean }, accessFlags := 9, code := some k10c1 }
def k10c2 : Code := { maxStack := 4, maxLocals := 1, code := jdk_43_method_46_code, exceptionTable := #[], attributes := #[] }
def k10m2 : Method := { name := "toBytes", desc := "(C)[B", sig := { parameters := [.char], returnType := some (.array .byte) }, accessFlags := 9, code := some k10c2 }
/-- java/lang/StringLatin1 -/
def k10 : Class := { plain "java/lang/StringLatin1" (some 0) with
  accessFlags := 48
  interfaces := #[]
  cf := some (fileOf pool10 14 #[.nestMembers #[390, 221]] #[{ accessFlags := 0, nameIndex := 7, descriptorIndex := 8, attributes := #[] }, { accessFlags := 9, nameIndex := 90, descriptorIndex := 105, attributes := #[] }, { accessFlags := 9, nameIndex := 380, descriptorIndex := 382, attributes := #[] }] 48 4 #[] #[{ accessFlags := 4120, nameIndex := 121, descriptorIndex := 122, attributes := #[] }])
  fields := #[{ name := "$assertionsDisabled", type := .boolean, accessFlags := 4120, slot := 0, constantValue := 0 }]
  methods := #[k10m0, k10m1, k10m2]
  instanceTypes := #[]
  staticTypes := #[.boolean]
  resolved := Array.replicate 395 none
  statics := none }

def pool11 : Array CpInfo := pool [(6, .class_ 8), (1, u "java/lang/Object"), (0, u "<init>"), (0, u "()V"), (1, .class_ 14), (1, u "java/lang/StringUTF16"), (31, u "$assertionsDisabled"), (0, u "Z"), (13, u "HI_BYTE_SHIFT"), (0, u "I"), (2, u "LO_BYTE_SHIFT"), (49, .methodref 12 116), (0, .nameAndType 117 118), (0, u "compress"), (0, u "([CI[BII)I"), (3, u "([CII)[B"), (138, u "coderFromArrayLen"), (0, u "([BI)B"), (106, .class_ 371), (1, u "java/lang/StringUTF16$LinesSpliterator"), (58, u "MAX_LENGTH"), (196, .class_ 628), (0, u "java/lang/StringUTF16$CodePointsSpliterator"), (0, .class_ 630), (0, u "java/lang/StringUTF16$CharsSpliterator")] 4

def k11m0 : Method := { name := "<init>", desc := "()V", sig := { parameters := [], returnType := none }, accessFlags := 0, code := none }
def k11c1 : Code := { maxStack := 2, maxLocals := 2, code := jdk_52_method_15_code, exceptionTable := #[], attributes := #[] }
def k11m1 : Method := { name := "coderFromArrayLen", desc := "([BI)B", sig := { parameters := [(.array .byte), .int], returnType := some .byte }, accessFlags := 8, code := some k11c1 }
def k11c2 : Code := { maxStack := 5, maxLocals := 6, code := jdk_52_method_16_code, exceptionTable := #[], attributes := #[] }
def k11m2 : Method := { name := "compress", desc := "([CII)[B", sig := { parameters := [(.array .char), .int, .int], returnType := some (.array .byte) }, accessFlags := 9, code := some k11c2 }
def k11c3 : Code := { maxStack := 3, maxLocals := 7, code := jdk_52_method_21_code, exceptionTable := #[], attributes := #[] }
def k11m3 : Method := { name := "compress", desc := "([CI[BII)I", sig := { parameters := [(.array .char), .int, (.array .byte), .int, .int], returnType := some .int }, accessFlags := 9, code := some k11c3 }
/-- java/lang/StringUTF16 -/
def k11 : Class := { plain "java/lang/StringUTF16" (some 0) with
  accessFlags := 48
  interfaces := #[]
  cf := some (fileOf pool11 12 #[.nestMembers #[627, 629, 369]] #[{ accessFlags := 0, nameIndex := 9, descriptorIndex := 10, attributes := #[] }, { accessFlags := 8, nameIndex := 261, descriptorIndex := 262, attributes := #[] }, { accessFlags := 9, nameIndex := 117, descriptorIndex := 122, attributes := #[] }, { accessFlags := 9, nameIndex := 117, descriptorIndex := 118, attributes := #[] }] 48 6 #[] #[{ accessFlags := 26, nameIndex := 61, descriptorIndex := 62, attributes := #[] }, { accessFlags := 26, nameIndex := 65, descriptorIndex := 62, attributes := #[] }, { accessFlags := 24, nameIndex := 430, descriptorIndex := 62, attributes := #[] }, { accessFlags := 4120, nameIndex := 46, descriptorIndex := 47, attributes := #[] }])
  fields := #[{ name := "HI_BYTE_SHIFT", type := .int, accessFlags := 26, slot := 0, constantValue := 0 }, { name := "LO_BYTE_SHIFT", type := .int, accessFlags := 26, slot := 1, constantValue := 0 }, { name := "MAX_LENGTH", type := .int, accessFlags := 24, slot := 2, constantValue := 0 }, { name := "$assertionsDisabled", type := .boolean, accessFlags := 4120, slot := 3, constantValue := 0 }]
  methods := #[k11m0, k11m1, k11m2, k11m3]
  instanceTypes := #[]
  staticTypes := #[.int, .int, .int, .boolean]
  resolved := Array.replicate 635 none
  statics := none }

def pool12 : Array CpInfo := pool [(2, .class_ 4), (1, u "java/lang/Object"), (0, u "<init>"), (0, u "()V"), (17, .class_ 26), (1, u "jdk/internal/util/Preconditions"), (28, .class_ 56), (0, u "jdk/internal/util/Preconditions$4"), (57, .class_ 115), (0, u "jdk/internal/util/Preconditions$1"), (7, u "SIOOBE_FORMATTER"), (0, u "Ljava/util/function/BiFunction;"), (0, .class_ 126), (0, u "jdk/internal/util/Preconditions$2"), (3, u "AIOOBE_FORMATTER"), (0, .class_ 132), (0, u "jdk/internal/util/Preconditions$3"), (3, u "IOOBE_FORMATTER")] 57

def k12m0 : Method := { name := "<init>", desc := "()V", sig := { parameters := [], returnType := none }, accessFlags := 1, code := none }
/-- jdk/internal/util/Preconditions -/
def k12 : Class := { plain "jdk/internal/util/Preconditions" (some 0) with
  accessFlags := 33
  interfaces := #[]
  cf := some (fileOf pool12 24 #[.nestMembers #[55, 131, 125, 114]] #[{ accessFlags := 1, nameIndex := 5, descriptorIndex := 6, attributes := #[] }] 33 2 #[] #[{ accessFlags := 25, nameIndex := 123, descriptorIndex := 124, attributes := #[] }, { accessFlags := 25, nameIndex := 130, descriptorIndex := 124, attributes := #[] }, { accessFlags := 25, nameIndex := 136, descriptorIndex := 124, attributes := #[] }])
  fields := #[{ name := "SIOOBE_FORMATTER", type := (.object "java/util/function/BiFunction"), accessFlags := 25, slot := 0, constantValue := 0 }, { name := "AIOOBE_FORMATTER", type := (.object "java/util/function/BiFunction"), accessFlags := 25, slot := 1, constantValue := 0 }, { name := "IOOBE_FORMATTER", type := (.object "java/util/function/BiFunction"), accessFlags := 25, slot := 2, constantValue := 0 }]
  methods := #[k12m0]
  instanceTypes := #[]
  staticTypes := #[(.object "java/util/function/BiFunction"), (.object "java/util/function/BiFunction"), (.object "java/util/function/BiFunction")]
  resolved := Array.replicate 194 none
  statics := some 1 }

def pool13 : Array CpInfo := pool [(9, u "<init>"), (6, .class_ 18), (1, u "java/lang/Object"), (0, u "()V"), (1, .class_ 23), (1, u "jdk/internal/util/ArraysSupport"), (0, u "LOG2_ARRAY_LONG_INDEX_SCALE"), (0, u "I"), (2, u "U"), (0, u "Ljdk/internal/misc/Unsafe;"), (8, u "BIG_ENDIAN"), (0, u "Z"), (8, u "LOG2_BYTE_BIT_SIZE"), (4, u "LOG2_ARRAY_INT_INDEX_SCALE"), (54, u "JLA"), (0, u "Ljdk/internal/access/JavaLangAccess;"), (11, u "LOG2_ARRAY_BOOLEAN_INDEX_SCALE"), (9, u "LOG2_ARRAY_BYTE_INDEX_SCALE"), (5, u "LOG2_ARRAY_CHAR_INDEX_SCALE"), (5, u "LOG2_ARRAY_SHORT_INDEX_SCALE"), (18, u "LOG2_ARRAY_FLOAT_INDEX_SCALE"), (24, u "LOG2_ARRAY_DOUBLE_INDEX_SCALE"), (89, u "T_BOOLEAN"), (2, u "T_CHAR"), (1, u "T_FLOAT"), (1, u "T_DOUBLE"), (1, u "T_BYTE"), (1, u "T_SHORT"), (1, u "T_INT"), (1, u "T_LONG"), (1, u "SOFT_MAX_ARRAY_LENGTH")] 83

def k13m0 : Method := { name := "<init>", desc := "()V", sig := { parameters := [], returnType := none }, accessFlags := 2, code := none }
/-- jdk/internal/util/ArraysSupport -/
def k13 : Class := { plain "jdk/internal/util/ArraysSupport" (some 0) with
  accessFlags := 33
  interfaces := #[]
  cf := some (fileOf pool13 21 #[] #[{ accessFlags := 2, nameIndex := 9, descriptorIndex := 19, attributes := #[] }] 33 16 #[] #[{ accessFlags := 24, nameIndex := 28, descriptorIndex := 29, attributes := #[] }, { accessFlags := 26, nameIndex := 38, descriptorIndex := 39, attributes := #[] }, { accessFlags := 25, nameIndex := 121, descriptorIndex := 25, attributes := #[] }, { accessFlags := 25, nameIndex := 131, descriptorIndex := 25, attributes := #[] }, { accessFlags := 25, nameIndex := 137, descriptorIndex := 25, attributes := #[] }, { accessFlags := 25, nameIndex := 143, descriptorIndex := 25, attributes := #[] }, { accessFlags := 25, nameIndex := 53, descriptorIndex := 25, attributes := #[] }, { accessFlags := 25, nameIndex := 24, descriptorIndex := 25, attributes := #[] }, { accessFlags := 25, nameIndex := 162, descriptorIndex := 25, attributes := #[] }, { accessFlags := 25, nameIndex := 187, descriptorIndex := 25, attributes := #[] }, { accessFlags := 26, nameIndex := 48, descriptorIndex := 25, attributes := #[] }, { accessFlags := 25, nameIndex := 277, descriptorIndex := 25, attributes := #[] }, { accessFlags := 25, nameIndex := 280, descriptorIndex := 25, attributes := #[] }, { accessFlags := 25, nameIndex := 282, descriptorIndex := 25, attributes := #[] }, { accessFlags := 25, nameIndex := 284, descriptorIndex := 25, attributes := #[] }, { accessFlags := 25, nameIndex := 286, descriptorIndex := 25, attributes := #[] }, { accessFlags := 25, nameIndex := 288, descriptorIndex := 25, attributes := #[] }, { accessFlags := 25, nameIndex := 290, descriptorIndex := 25, attributes := #[] }, { accessFlags := 25, nameIndex := 292, descriptorIndex := 25, attributes := #[] }, { accessFlags := 26, nameIndex := 108, descriptorIndex := 109, attributes := #[] }, { accessFlags := 25, nameIndex := 294, descriptorIndex := 25, attributes := #[] }])
  fields := #[{ name := "U", type := (.object "jdk/internal/misc/Unsafe"), accessFlags := 24, slot := 0, constantValue := 0 }, { name := "BIG_ENDIAN", type := .boolean, accessFlags := 26, slot := 1, constantValue := 0 }, { name := "LOG2_ARRAY_BOOLEAN_INDEX_SCALE", type := .int, accessFlags := 25, slot := 2, constantValue := 0 }, { name := "LOG2_ARRAY_BYTE_INDEX_SCALE", type := .int, accessFlags := 25, slot := 3, constantValue := 0 }, { name := "LOG2_ARRAY_CHAR_INDEX_SCALE", type := .int, accessFlags := 25, slot := 4, constantValue := 0 }, { name := "LOG2_ARRAY_SHORT_INDEX_SCALE", type := .int, accessFlags := 25, slot := 5, constantValue := 0 }, { name := "LOG2_ARRAY_INT_INDEX_SCALE", type := .int, accessFlags := 25, slot := 6, constantValue := 0 }, { name := "LOG2_ARRAY_LONG_INDEX_SCALE", type := .int, accessFlags := 25, slot := 7, constantValue := 0 }, { name := "LOG2_ARRAY_FLOAT_INDEX_SCALE", type := .int, accessFlags := 25, slot := 8, constantValue := 0 }, { name := "LOG2_ARRAY_DOUBLE_INDEX_SCALE", type := .int, accessFlags := 25, slot := 9, constantValue := 0 }, { name := "LOG2_BYTE_BIT_SIZE", type := .int, accessFlags := 26, slot := 10, constantValue := 0 }, { name := "T_BOOLEAN", type := .int, accessFlags := 25, slot := 11, constantValue := 0 }, { name := "T_CHAR", type := .int, accessFlags := 25, slot := 12, constantValue := 0 }, { name := "T_FLOAT", type := .int, accessFlags := 25, slot := 13, constantValue := 0 }, { name := "T_DOUBLE", type := .int, accessFlags := 25, slot := 14, constantValue := 0 }, { name := "T_BYTE", type := .int, accessFlags := 25, slot := 15, constantValue := 0 }, { name := "T_SHORT", type := .int, accessFlags := 25, slot := 16, constantValue := 0 }, { name := "T_INT", type := .int, accessFlags := 25, slot := 17, constantValue := 0 }, { name := "T_LONG", type := .int, accessFlags := 25, slot := 18, constantValue := 0 }, { name := "JLA", type := (.object "jdk/internal/access/JavaLangAccess"), accessFlags := 26, slot := 19, constantValue := 0 }, { name := "SOFT_MAX_ARRAY_LENGTH", type := .int, accessFlags := 25, slot := 20, constantValue := 0 }]
  methods := #[k13m0]
  instanceTypes := #[]
  staticTypes := #[(.object "jdk/internal/misc/Unsafe"), .boolean, .int, .int, .int, .int, .int, .int, .int, .int, .int, .int, .int, .int, .int, .int, .int, .int, .int, (.object "jdk/internal/access/JavaLangAccess"), .int]
  resolved := Array.replicate 378 none
  statics := none }

def pool14 : Array CpInfo := pool [(1, u "java/lang/Cloneable"), (0, .class_ 1), (0, u "java/lang/Object"), (0, .class_ 3)] 3

/-- java/lang/Cloneable -/
def k14 : Class := { plain "java/lang/Cloneable" (some 0) with
  accessFlags := 1537
  interfaces := #[]
  cf := some (fileOf pool14 2 #[] #[] 1537 4 #[] #[])
  fields := #[]
  methods := #[]
  instanceTypes := #[]
  staticTypes := #[]
  resolved := Array.replicate 8 none
  statics := none }

/-- the primitive byte -/
def k15 : Class := { plain "byte" none with kind := .primitive 'B', accessFlags := 0x411 }
/-- [B -/
def k16 : Class := { plain "[B" (some 0) with kind := .array 15 .byte, interfaces := #[14, 2], accessFlags := 1041 }

/-- the primitive char -/
def k17 : Class := { plain "char" none with kind := .primitive 'C', accessFlags := 0x411 }
/-- [C -/
def k18 : Class := { plain "[C" (some 0) with kind := .array 17 .char, interfaces := #[14, 2], accessFlags := 1041 }

/-- the primitive int -/
def k19 : Class := { plain "int" none with kind := .primitive 'I', accessFlags := 0x411 }
/-- [I -/
def k20 : Class := { plain "[I" (some 0) with kind := .array 19 .int, interfaces := #[14, 2], accessFlags := 1041 }

def heap : Heap := #[{ cls := 7, slots := #[.long 0, .int 1, .null, .int 0, .null, .int 0, .int 0], vm := .statics 7 },
  { cls := 12, slots := #[.null, .null, .null], vm := .statics 12 }]
def classes : Array Class := #[k0, k1, k2, k3, k4, k5, k6, k7, k8, k9, k10, k11, k12, k13, k14, k15, k16, k17, k18, k19, k20]
def interned : List (Array UInt16 × Addr) := []
def slotsUsed : Nat := 10
def theMethod : MethodId := ⟨1, 2⟩
def args0 : Array Value := #[.int 5, .int 5, .int 5, .int 5]
def aboutOver (below : List Frame) : State where
  vm := { classes := classes, interned := interned.toArray }
  heap := heap
  slotsUsed := slotsUsed
  threads := #[{ frames := .invoking theMethod args0 :: below }]
def below0 : List Frame := [.native { method := ⟨0, 0⟩, args := #[] }]
def about1 : State := aboutOver below0
def p0 : Program := .bare "" "" ""
def e0 : Env := launch0.env 0 0 0
theorem w_frames : about1.frames = Frame.invoking theMethod args0 :: below0 := rfl
set_option maxRecDepth 65536 in
theorem w_args : argsFit about1.vm theMethod args0 = true := by decide +kernel
set_option maxRecDepth 65536 in
theorem w_heap : heapFits about1 = true := by decide +kernel
set_option maxRecDepth 65536 in
theorem w_runnable : about1.curStatus? = some .runnable := by decide +kernel
set_option maxRecDepth 65536 in
theorem w_alone : about1.alone = true := by decide +kernel
set_option maxRecDepth 65536 in
theorem w_named : about1.methodNamed? x = some theMethod := by decide +kernel
set_option maxRecDepth 65536 in
theorem w_hears : about1.hears theMethod below0 = true := by decide +kernel
set_option maxRecDepth 65536 in
theorem w_ripe : about1.ripe theMethod args0 below0 = true := by decide +kernel
theorem w_running : about1.status = .running := rfl
set_option maxRecDepth 65536 in
theorem w_room : about1.hasRoom e0.platform room_1 = true :=
  launch0.hasRoom_least _ room_1 (by decide +kernel) (by decide +kernel) (by decide +kernel) (by decide +kernel) (by decide +kernel) (by decide +kernel)
theorem allAtoms_all (ts : List Jvm.Cond) (a : Array Jvm.Value) (st : Jvm.State) : (allAtoms ts).before a st = ts.all (fun c => c.before a st) := by
  induction ts with
  | nil => rfl
  | cons c t ih =>
    show (Jvm.Cond.and c (allAtoms t)).before a st = _
    rw [Jvm.Cond.before_and, ih, List.all_cons]
def words1 : List Jvm.Cond := Jvm.Cond.code x code maxLocals ret :: tables_1
/-- a 'code' word, met by the world's own term for the bytes: nothing is compared byte by byte -/
theorem code_word {y : MethodName} {bytes : ByteArray} {mx : Nat} {rt : Option FieldType} {a : Array Value} {s : State} {m : MethodId} {meth : Method} {c : Code} (h1 : s.methodNamed? y = some m) (h2 : s.vm.method? m = some meth) (h3 : meth.code = some c) (h4 : c.code = bytes)
    (h5 : (c.maxLocals == mx && c.exceptionTable.isEmpty && decide (c.maxStack ≤ mostOperands) && decide (meth.sig.returnType = rt) && !meth.locks && decide (parseMethodDescriptor y.desc = some meth.sig)) = true) : (Jvm.Cond.code y bytes mx rt).before a s = true := by
  simp only [Bool.and_eq_true, beq_iff_eq, Bool.not_eq_true', decide_eq_true_eq] at h5
  obtain ⟨⟨⟨⟨⟨g1, g2⟩, g3⟩, g4⟩, g5⟩, g6⟩ := h5
  simp [Cond.before, Cond.holds, Cond.value, h1, h2, h3, h4, g1, g2, g3, g4, g5, g6]
def isCode : Jvm.Cond → Bool
  | .code _ _ _ _ => true
  | _ => false
theorem all_split {L : List Jvm.Cond} {P : Jvm.Cond → Bool} (h1 : L.all (fun c => isCode c || P c) = true) (h2 : ∀ c ∈ L.filter isCode, P c = true) : L.all P = true := by
  refine List.all_eq_true.mpr fun c hc => ?_
  have h := List.all_eq_true.mp h1 c hc
  rcases Bool.eq_false_or_eq_true (isCode c) with hi | hi
  · exact h2 c (List.mem_filter.mpr ⟨hc, hi⟩)
  · simpa [hi] using h
set_option maxRecDepth 65536 in
theorem w_c0 : (Jvm.Cond.code x code maxLocals ret).before args0 about1 = true := code_word (m := ⟨1, 2⟩) (meth := k1m2) (c := k1c2) (by decide +kernel) rfl rfl rfl (by decide +kernel)
set_option maxRecDepth 65536 in
theorem w_c1 : (Jvm.Cond.code ({ cls := "com/example/grantbook/grantbook/model/ClientSecretsHasRotatedPinLaw", name := "drawn", desc := "(II)Ljava/lang/String;" } : Jvm.MethodName) method_2_code (2 : Nat) (Option.some (Jvm.ClassFile.FieldType.object "java/lang/String"))).before args0 about1 = true := code_word (m := ⟨1, 1⟩) (meth := k1m1) (c := k1c1) (by decide +kernel) rfl rfl rfl (by decide +kernel)
set_option maxRecDepth 65536 in
theorem w_c2 : (Jvm.Cond.code ({ cls := "java/lang/String", name := "<init>", desc := "([C)V" } : Jvm.MethodName) jdk_42_method_3_code (2 : Nat) (Option.none : Option Jvm.ClassFile.FieldType)).before args0 about1 = true := code_word (m := ⟨7, 1⟩) (meth := k7m1) (c := k7c1) (by decide +kernel) rfl rfl rfl (by decide +kernel)
set_option maxRecDepth 65536 in
theorem w_c3 : (Jvm.Cond.code ({ cls := "java/lang/String", name := "<init>", desc := "([CIILjava/lang/Void;)V" } : Jvm.MethodName) jdk_42_method_149_code (6 : Nat) (Option.none : Option Jvm.ClassFile.FieldType)).before args0 about1 = true := code_word (m := ⟨7, 3⟩) (meth := k7m3) (c := k7c3) (by decide +kernel) rfl rfl rfl (by decide +kernel)
set_option maxRecDepth 65536 in
theorem w_c4 : (Jvm.Cond.code ({ cls := "java/lang/Object", name := "<init>", desc := "()V" } : Jvm.MethodName) object_method_1_code (1 : Nat) (Option.none : Option Jvm.ClassFile.FieldType)).before args0 about1 = true := code_word (m := ⟨0, 0⟩) (meth := k0m0) (c := k0c0) (by decide +kernel) rfl rfl rfl (by decide +kernel)
set_option maxRecDepth 65536 in
theorem w_c5 : (Jvm.Cond.code ({ cls := "com/example/grantbook/grantbook/model/ClientSecrets", name := "<init>", desc := "(Ljava/lang/String;Ljava/lang/String;)V" } : Jvm.MethodName) prog_29_method_1_code (3 : Nat) (Option.none : Option Jvm.ClassFile.FieldType)).before args0 about1 = true := code_word (m := ⟨9, 0⟩) (meth := k9m0) (c := k9c0) (by decide +kernel) rfl rfl rfl (by decide +kernel)
set_option maxRecDepth 65536 in
theorem w_c6 : (Jvm.Cond.code ({ cls := "java/lang/Record", name := "<init>", desc := "()V" } : Jvm.MethodName) jdk_30_method_1_code (1 : Nat) (Option.none : Option Jvm.ClassFile.FieldType)).before args0 about1 = true := code_word (m := ⟨8, 0⟩) (meth := k8m0) (c := k8c0) (by decide +kernel) rfl rfl rfl (by decide +kernel)
set_option maxRecDepth 65536 in
theorem w_c7 : (Jvm.Cond.code ({ cls := "com/example/grantbook/grantbook/model/ClientSecrets", name := "hasRotated", desc := "()Z" } : Jvm.MethodName) prog_29_method_4_code (1 : Nat) (Option.some Jvm.ClassFile.FieldType.boolean)).before args0 about1 = true := code_word (m := ⟨9, 2⟩) (meth := k9m2) (c := k9c2) (by decide +kernel) rfl rfl rfl (by decide +kernel)
set_option maxRecDepth 65536 in
theorem w_c8 : (Jvm.Cond.code ({ cls := "com/example/grantbook/grantbook/model/ClientSecrets", name := "withoutRotated", desc := "()Lcom/example/grantbook/grantbook/model/ClientSecrets;" } : Jvm.MethodName) prog_29_method_6_code (1 : Nat) (Option.some (Jvm.ClassFile.FieldType.object "com/example/grantbook/grantbook/model/ClientSecrets"))).before args0 about1 = true := code_word (m := ⟨9, 4⟩) (meth := k9m4) (c := k9c4) (by decide +kernel) rfl rfl rfl (by decide +kernel)
set_option maxRecDepth 65536 in
theorem w_c9 : (Jvm.Cond.code ({ cls := "com/example/grantbook/grantbook/model/ClientSecrets", name := "of", desc := "(Ljava/lang/String;)Lcom/example/grantbook/grantbook/model/ClientSecrets;" } : Jvm.MethodName) prog_29_method_2_code (1 : Nat) (Option.some (Jvm.ClassFile.FieldType.object "com/example/grantbook/grantbook/model/ClientSecrets"))).before args0 about1 = true := code_word (m := ⟨9, 1⟩) (meth := k9m1) (c := k9c1) (by decide +kernel) rfl rfl rfl (by decide +kernel)
set_option maxRecDepth 65536 in
theorem w_c10 : (Jvm.Cond.code ({ cls := "java/lang/String", name := "valueOf", desc := "(C)Ljava/lang/String;" } : Jvm.MethodName) jdk_42_method_139_code (1 : Nat) (Option.some (Jvm.ClassFile.FieldType.object "java/lang/String"))).before args0 about1 = true := code_word (m := ⟨7, 2⟩) (meth := k7m2) (c := k7c2) (by decide +kernel) rfl rfl rfl (by decide +kernel)
set_option maxRecDepth 65536 in
theorem w_c11 : (Jvm.Cond.code ({ cls := "java/lang/StringLatin1", name := "canEncode", desc := "(C)Z" } : Jvm.MethodName) jdk_43_method_3_code (1 : Nat) (Option.some Jvm.ClassFile.FieldType.boolean)).before args0 about1 = true := code_word (m := ⟨10, 1⟩) (meth := k10m1) (c := k10c1) (by decide +kernel) rfl rfl rfl (by decide +kernel)
set_option maxRecDepth 65536 in
theorem w_c12 : (Jvm.Cond.code ({ cls := "java/lang/StringLatin1", name := "toBytes", desc := "(C)[B" } : Jvm.MethodName) jdk_43_method_46_code (1 : Nat) (Option.some (Jvm.ClassFile.FieldType.array Jvm.ClassFile.FieldType.byte))).before args0 about1 = true := code_word (m := ⟨10, 2⟩) (meth := k10m2) (c := k10c2) (by decide +kernel) rfl rfl rfl (by decide +kernel)
set_option maxRecDepth 65536 in
theorem w_c13 : (Jvm.Cond.code ({ cls := "java/lang/String", name := "<init>", desc := "([BB)V" } : Jvm.MethodName) jdk_42_method_151_code (3 : Nat) (Option.none : Option Jvm.ClassFile.FieldType)).before args0 about1 = true := code_word (m := ⟨7, 4⟩) (meth := k7m4) (c := k7c4) (by decide +kernel) rfl rfl rfl (by decide +kernel)
set_option maxRecDepth 65536 in
theorem w_c14 : (Jvm.Cond.code ({ cls := "com/example/grantbook/grantbook/model/ClientSecrets", name := "rotatedTo", desc := "(Ljava/lang/String;)Lcom/example/grantbook/grantbook/model/ClientSecrets;" } : Jvm.MethodName) prog_29_method_5_code (2 : Nat) (Option.some (Jvm.ClassFile.FieldType.object "com/example/grantbook/grantbook/model/ClientSecrets"))).before args0 about1 = true := code_word (m := ⟨9, 3⟩) (meth := k9m3) (c := k9c3) (by decide +kernel) rfl rfl rfl (by decide +kernel)
set_option maxRecDepth 65536 in
theorem w_c15 : (Jvm.Cond.code ({ cls := "java/lang/StringUTF16", name := "compress", desc := "([CII)[B" } : Jvm.MethodName) jdk_52_method_16_code (6 : Nat) (Option.some (Jvm.ClassFile.FieldType.array Jvm.ClassFile.FieldType.byte))).before args0 about1 = true := code_word (m := ⟨11, 2⟩) (meth := k11m2) (c := k11c2) (by decide +kernel) rfl rfl rfl (by decide +kernel)
set_option maxRecDepth 65536 in
theorem w_c16 : (Jvm.Cond.code ({ cls := "java/lang/StringUTF16", name := "compress", desc := "([CI[BII)I" } : Jvm.MethodName) jdk_52_method_21_code (7 : Nat) (Option.some Jvm.ClassFile.FieldType.int)).before args0 about1 = true := code_word (m := ⟨11, 3⟩) (meth := k11m3) (c := k11c3) (by decide +kernel) rfl rfl rfl (by decide +kernel)
set_option maxRecDepth 65536 in
theorem w_c17 : (Jvm.Cond.code ({ cls := "java/lang/StringUTF16", name := "coderFromArrayLen", desc := "([BI)B" } : Jvm.MethodName) jdk_52_method_15_code (2 : Nat) (Option.some Jvm.ClassFile.FieldType.byte)).before args0 about1 = true := code_word (m := ⟨11, 1⟩) (meth := k11m1) (c := k11c1) (by decide +kernel) rfl rfl rfl (by decide +kernel)
def codes1 : List Jvm.Cond := [Jvm.Cond.code x code maxLocals ret, Jvm.Cond.code ({ cls := "com/example/grantbook/grantbook/model/ClientSecretsHasRotatedPinLaw", name := "drawn", desc := "(II)Ljava/lang/String;" } : Jvm.MethodName) method_2_code (2 : Nat) (Option.some (Jvm.ClassFile.FieldType.object "java/lang/String")), Jvm.Cond.code ({ cls := "java/lang/String", name := "<init>", desc := "([C)V" } : Jvm.MethodName) jdk_42_method_3_code (2 : Nat) (Option.none : Option Jvm.ClassFile.FieldType), Jvm.Cond.code ({ cls := "java/lang/String", name := "<init>", desc := "([CIILjava/lang/Void;)V" } : Jvm.MethodName) jdk_42_method_149_code (6 : Nat) (Option.none : Option Jvm.ClassFile.FieldType), Jvm.Cond.code ({ cls := "java/lang/Object", name := "<init>", desc := "()V" } : Jvm.MethodName) object_method_1_code (1 : Nat) (Option.none : Option Jvm.ClassFile.FieldType), Jvm.Cond.code ({ cls := "com/example/grantbook/grantbook/model/ClientSecrets", name := "<init>", desc := "(Ljava/lang/String;Ljava/lang/String;)V" } : Jvm.MethodName) prog_29_method_1_code (3 : Nat) (Option.none : Option Jvm.ClassFile.FieldType), Jvm.Cond.code ({ cls := "java/lang/Record", name := "<init>", desc := "()V" } : Jvm.MethodName) jdk_30_method_1_code (1 : Nat) (Option.none : Option Jvm.ClassFile.FieldType), Jvm.Cond.code ({ cls := "com/example/grantbook/grantbook/model/ClientSecrets", name := "hasRotated", desc := "()Z" } : Jvm.MethodName) prog_29_method_4_code (1 : Nat) (Option.some Jvm.ClassFile.FieldType.boolean), Jvm.Cond.code ({ cls := "com/example/grantbook/grantbook/model/ClientSecrets", name := "withoutRotated", desc := "()Lcom/example/grantbook/grantbook/model/ClientSecrets;" } : Jvm.MethodName) prog_29_method_6_code (1 : Nat) (Option.some (Jvm.ClassFile.FieldType.object "com/example/grantbook/grantbook/model/ClientSecrets")), Jvm.Cond.code ({ cls := "com/example/grantbook/grantbook/model/ClientSecrets", name := "of", desc := "(Ljava/lang/String;)Lcom/example/grantbook/grantbook/model/ClientSecrets;" } : Jvm.MethodName) prog_29_method_2_code (1 : Nat) (Option.some (Jvm.ClassFile.FieldType.object "com/example/grantbook/grantbook/model/ClientSecrets")), Jvm.Cond.code ({ cls := "java/lang/String", name := "valueOf", desc := "(C)Ljava/lang/String;" } : Jvm.MethodName) jdk_42_method_139_code (1 : Nat) (Option.some (Jvm.ClassFile.FieldType.object "java/lang/String")), Jvm.Cond.code ({ cls := "java/lang/StringLatin1", name := "canEncode", desc := "(C)Z" } : Jvm.MethodName) jdk_43_method_3_code (1 : Nat) (Option.some Jvm.ClassFile.FieldType.boolean), Jvm.Cond.code ({ cls := "java/lang/StringLatin1", name := "toBytes", desc := "(C)[B" } : Jvm.MethodName) jdk_43_method_46_code (1 : Nat) (Option.some (Jvm.ClassFile.FieldType.array Jvm.ClassFile.FieldType.byte)), Jvm.Cond.code ({ cls := "java/lang/String", name := "<init>", desc := "([BB)V" } : Jvm.MethodName) jdk_42_method_151_code (3 : Nat) (Option.none : Option Jvm.ClassFile.FieldType), Jvm.Cond.code ({ cls := "com/example/grantbook/grantbook/model/ClientSecrets", name := "rotatedTo", desc := "(Ljava/lang/String;)Lcom/example/grantbook/grantbook/model/ClientSecrets;" } : Jvm.MethodName) prog_29_method_5_code (2 : Nat) (Option.some (Jvm.ClassFile.FieldType.object "com/example/grantbook/grantbook/model/ClientSecrets")), Jvm.Cond.code ({ cls := "java/lang/StringUTF16", name := "compress", desc := "([CII)[B" } : Jvm.MethodName) jdk_52_method_16_code (6 : Nat) (Option.some (Jvm.ClassFile.FieldType.array Jvm.ClassFile.FieldType.byte)), Jvm.Cond.code ({ cls := "java/lang/StringUTF16", name := "compress", desc := "([CI[BII)I" } : Jvm.MethodName) jdk_52_method_21_code (7 : Nat) (Option.some Jvm.ClassFile.FieldType.int), Jvm.Cond.code ({ cls := "java/lang/StringUTF16", name := "coderFromArrayLen", desc := "([BI)B" } : Jvm.MethodName) jdk_52_method_15_code (2 : Nat) (Option.some Jvm.ClassFile.FieldType.byte)]
set_option maxRecDepth 65536 in
theorem codes_eq : words1.filter isCode = codes1 := rfl
theorem w_codes : ∀ c ∈ words1.filter isCode, c.before args0 about1 = true := by
  rw [codes_eq]
  intro c hc
  simp only [codes1, List.mem_cons, List.not_mem_nil, or_false] at hc
  rcases hc with rfl | rfl | rfl | rfl | rfl | rfl | rfl | rfl | rfl | rfl | rfl | rfl | rfl | rfl | rfl | rfl | rfl | rfl
  · exact w_c0
  · exact w_c1
  · exact w_c2
  · exact w_c3
  · exact w_c4
  · exact w_c5
  · exact w_c6
  · exact w_c7
  · exact w_c8
  · exact w_c9
  · exact w_c10
  · exact w_c11
  · exact w_c12
  · exact w_c13
  · exact w_c14
  · exact w_c15
  · exact w_c16
  · exact w_c17
set_option maxRecDepth 65536 in
theorem w_t1 : (words1.take 24).all (fun c => isCode c || c.before args0 about1) = true := by decide +kernel
set_option maxRecDepth 65536 in
theorem w_t2 : ((words1.drop 24).take 24).all (fun c => isCode c || c.before args0 about1) = true := by decide +kernel
set_option maxRecDepth 65536 in
theorem w_t3 : (((words1.drop 24).drop 24).take 24).all (fun c => isCode c || c.before args0 about1) = true := by decide +kernel
set_option maxRecDepth 65536 in
theorem w_t4 : (((words1.drop 24).drop 24).drop 24).all (fun c => isCode c || c.before args0 about1) = true := by decide +kernel
theorem w_tables : (allAtoms (Jvm.Cond.code x code maxLocals ret :: tables_1)).before args0 about1 = true := by
  rw [allAtoms_all]
  show words1.all (fun c => c.before args0 about1) = true
  refine all_split ?_ w_codes
  rw [← List.take_append_drop 24 words1, List.all_append, w_t1, ← List.take_append_drop 24 (words1.drop 24), List.all_append, w_t2, ← List.take_append_drop 24 ((words1.drop 24).drop 24), List.all_append, w_t3, w_t4]
  rfl
set_option maxRecDepth 65536 in
theorem w_rest : rest_1_c.before args0 about1 = true := by decide +kernel
set_option maxRecDepth 65536 in
theorem w_case : (Jvm.Cond.and given_1 narrow_1).before args0 about1 = true := by decide +kernel
set_option maxRecDepth 65536 in
theorem w_consts : constsHeld consts_1 about1 := Jvm.Lit.constsHeldB_iff.mp (by decide +kernel)
theorem w_applies : (headSpec (Jvm.Cond.code x code maxLocals ret :: tables_1) room_1).applies x e0.platform about1 = true :=
  (Spec.applies_iff w_frames).mpr ⟨w_running, w_runnable, w_alone, w_named, w_hears, w_ripe, w_room, w_tables⟩
theorem atStart : AtStart classFile x code maxLocals ret World_1 tables_1 room_1 Calls_1 rest_1 Pre_1 launch0 p0 e0 about1 theMethod args0 below0 :=
  ⟨lists_1, trivial, launch0.admits_env _ _ _, launch0.least_env, fairChoices_fair.cas, fairChoices_fair.clock, w_frames, w_args, w_heap, w_applies, ⟨w_consts, trivial⟩, w_rest, w_case⟩
end start1
theorem witness_1 : WitnessClaimed_1 := ⟨start1.p0, start1.e0, start1.about1, start1.theMethod, start1.args0, start1.below0, start1.atStart⟩
end Jvm.Pilot.@@N@@
