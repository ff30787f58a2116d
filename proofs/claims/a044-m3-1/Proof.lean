import JvmDerived
import JvmDerived.Pilot.@@N@@Statement
import JvmDerived.Pilot.@@N@@Code
set_option linter.unusedVariables false
set_option linter.unusedSimpArgs false
namespace Jvm.Pilot.@@N@@
open Jvm Jvm.ClassFile Sem Op Lib Jvm.Free Jvm.Stand Jvm.LawKit Jvm.RoadKit Bundle Jvm.Pilot.@@N@@.Jvm.D
section Own
variable {p : Program} {l : Launch} {e : Env} {R : Room} {s : State} {m : MethodId} {args : Array Value} {below : List Frame} {meth : Method} {c : Code} {T : State} {locs : List Loc} {cells slots : Nat}
/-- from S0 the run ends, and the end is as EE says -/
def own_GoE (p : Program) (e : Env) (below : List Frame) (EE : Outcome → Option Value → State → List Loc → Prop) (S0 : State) : Prop :=
  ∃ U o, Steps p.tables e below S0 U ∧ U.status = .running ∧ Ended U below o ∧ ∃ v L, o = .returned v ∧ EE o v U L
/-- .. within the frame of k cells and n slots -/
abbrev own_Go (p : Program) (e : Env) (below : List Frame) (s : State) (Q : Option Value → Heap → List Loc → Prop) (k n : Nat) (S0 : State) : Prop :=
  own_GoE p e below (fun o v U L => Q v U.heap L ∧ FrameEnd s o U L k n) S0
variable {Q : Option Value → Heap → List Loc → Prop} {K N : Nat} {S0 S1 : State} {EE : Outcome → Option Value → State → List Loc → Prop}
theorem own_step (h : ∀ t, Steps p.tables e below S1 t → Steps p.tables e below S0 t) (G : own_GoE p e below EE S1) : own_GoE p e below EE S0 := by
  obtain ⟨U, o, h1, r⟩ := G
  exact ⟨U, o, h _ h1, r⟩
theorem own_start {g g' : JFrame} (q : g = g') (G : own_GoE p e below EE (T.setTop g')) : own_GoE p e below EE (T.setTop g) := q ▸ G
theorem own_end (X : Stand p l e R s m args below meth c T locs cells slots) {v : Option Value} (hv : meth.sig.returnType = none → v = none) (hlk : meth.locks = false) (hq : Q v T.heap locs) (hk : cells ≤ K) (hn : slots ≤ N)
    (go : ∀ fs, (∀ (f : JFrame) (acts : List Action), f.method = m → f.locked = none → f.entered = [] → (doReturn e (T.setTop f) acts v).1 = T.setFrames fs) → Steps p.tables e below S0 (T.setFrames fs)) : own_Go p e below s Q K N S0 := by
  obtain ⟨fs, hr, hrun, hended, hW, hsame⟩ := X.leave (v := v) hv hlk
  exact ⟨_, _, go fs hr, hrun, hended, _, _, rfl, hq, ⟨_, rfl⟩, hW, hsame.mono hk hn⟩
theorem own_retN (X : Stand p l e R s m args below meth c T locs cells slots) (hx : p.tables.exec = Jvm.exec) (hlk : meth.locks = false) {pc : Nat} {Ls : Array Slot} {z : Int32} {t : FieldType} {rest : List Value} (hret : meth.sig.returnType = some t) (ht : t = .boolean ∨ t = .byte ∨ t = .char ∨ t = .short)
    (hd : decode c.code pc = .ok (.ireturn, 1)) (hq : Q (some (.int (nar t z))) T.heap locs) (hk : cells ≤ K) (hn : slots ≤ N) : own_Go p e below s Q K N (T.setTop (mkF m pc Ls (.int z :: rest))) :=
  own_end X (fun h => by rw [hret] at h; cases h) hlk hq hk hn fun fs hr => retN X hx hret ht hd hr
theorem own_retI (X : Stand p l e R s m args below meth c T locs cells slots) (hx : p.tables.exec = Jvm.exec) (hlk : meth.locks = false) {pc : Nat} {Ls : Array Slot} {z : Int32} {rest : List Value} (hret : meth.sig.returnType = some .int)
    (hd : decode c.code pc = .ok (.ireturn, 1)) (hq : Q (some (.int z)) T.heap locs) (hk : cells ≤ K) (hn : slots ≤ N) : own_Go p e below s Q K N (T.setTop (mkF m pc Ls (.int z :: rest))) :=
  own_end X (fun h => by rw [hret] at h; cases h) hlk hq hk hn fun fs hr => retOut X hx hret rfl (Or.inl ⟨rfl, Or.inl rfl, _, rfl⟩) hd hr
theorem own_retJ (X : Stand p l e R s m args below meth c T locs cells slots) (hx : p.tables.exec = Jvm.exec) (hlk : meth.locks = false) {pc : Nat} {Ls : Array Slot} {z : Int64} {rest : List Value} (hret : meth.sig.returnType = some .long)
    (hd : decode c.code pc = .ok (.lreturn, 1)) (hq : Q (some (.long z)) T.heap locs) (hk : cells ≤ K) (hn : slots ≤ N) : own_Go p e below s Q K N (T.setTop (mkF m pc Ls (.long z :: rest))) :=
  own_end X (fun h => by rw [hret] at h; cases h) hlk hq hk hn fun fs hr => retOut X hx hret rfl (Or.inr (Or.inl ⟨rfl, rfl, _, rfl⟩)) hd hr
theorem own_retA (X : Stand p l e R s m args below meth c T locs cells slots) (hx : p.tables.exec = Jvm.exec) (hlk : meth.locks = false) {pc : Nat} {Ls : Array Slot} {w : Value} {t : FieldType} {rest : List Value} (hret : meth.sig.returnType = some t) (ht : t.isReference = true) (hw : w.isRef = true)
    (hd : decode c.code pc = .ok (.areturn, 1)) (hq : Q (some w) T.heap locs) (hk : cells ≤ K) (hn : slots ≤ N) : own_Go p e below s Q K N (T.setTop (mkF m pc Ls (w :: rest))) :=
  own_end X (fun h => by rw [hret] at h; cases h) hlk hq hk hn fun fs hr => retOut X hx hret (by cases t <;> first | (cases ht; done) | (cases w <;> rfl)) (Or.inr (Or.inr (Or.inr (Or.inr ⟨rfl, ht, hw⟩)))) hd hr
theorem own_retV (X : Stand p l e R s m args below meth c T locs cells slots) (hx : p.tables.exec = Jvm.exec) (hlk : meth.locks = false) {pc : Nat} {Ls : Array Slot} (hret : meth.sig.returnType = none)
    (hd : decode c.code pc = .ok (.return_, 1)) (hq : Q none T.heap locs) (hk : cells ≤ K) (hn : slots ≤ N) : own_Go p e below s Q K N (T.setTop (mkF m pc Ls [])) :=
  own_end X (fun _ => rfl) hlk hq hk hn fun fs hr => X.returnOut hx hret hd hr
theorem own_Sta_keep {Z : State} {h h' : Heap} {ws : List Addr} {C n d : String} {w : Value} (Kp : Keep h h' ws) (F : Sta Z h C n d w) (q : ∀ a ∈ ws, ∀ cell : Cell, h[a]? = some cell → cell.vm.isStatics = false) : Sta Z h' C n d w := by
  obtain ⟨cf, i, k, f, st, cell, h1, h2, h3, h4, h5, h6, h7⟩ := F
  exact ⟨cf, i, k, f, st, cell, h1, h2, h3, h4, Kp.2.1 _ _ h5 (fun hm => by rw [q _ hm _ h5] at h6; cases h6), h6, h7⟩
theorem g_iload_n (X : Stand p l e R s m args below meth c T locs cells slots) (hx : p.tables.exec = Jvm.exec) {pc : Nat} (pc' : Nat) {Ls : Array Slot} {k : Fin 4} {v : Int32} {st : List Value} (hd : decode c.code pc = .ok (.iload_n k, 1)) (hl : Ls[k.val]? = some (.val (.int v))) (hp : pc + 1 = pc') (G : own_GoE p e below EE (T.setTop (mkF m pc' Ls (.int v :: st)))) : own_GoE p e below EE (T.setTop (mkF m pc Ls (st))) := by
  subst hp; exact own_step (fun _ k => XS.iloadN X.here hx rfl hd hl k) G
theorem g_iload (X : Stand p l e R s m args below meth c T locs cells slots) (hx : p.tables.exec = Jvm.exec) {pc : Nat} (pc' : Nat) {Ls : Array Slot} {k : Nat} {v : Int32} {st : List Value} (hd : decode c.code pc = .ok (.iload k, 2)) (hl : Ls[k]? = some (.val (.int v))) (hp : pc + 2 = pc') (G : own_GoE p e below EE (T.setTop (mkF m pc' Ls (.int v :: st)))) : own_GoE p e below EE (T.setTop (mkF m pc Ls (st))) := by
  subst hp; exact own_step (fun _ k => XS.iload X.here hx rfl hd hl k) G
theorem g_istore_n (X : Stand p l e R s m args below meth c T locs cells slots) (hx : p.tables.exec = Jvm.exec) {pc : Nat} (pc' : Nat) {Ls : Array Slot} {k : Fin 4} {v : Int32} {st : List Value} {l' : Array Slot} (hd : decode c.code pc = .ok (.istore_n k, 1)) (hl : storeLocals Ls k.val (.int v) = some l') (hp : pc + 1 = pc') (G : own_GoE p e below EE (T.setTop (mkF m pc' l' (st)))) : own_GoE p e below EE (T.setTop (mkF m pc Ls (.int v :: st))) := by
  subst hp; exact own_step (fun _ k => XS.istoreN X.here hx rfl hd rfl hl k) G
theorem g_istore (X : Stand p l e R s m args below meth c T locs cells slots) (hx : p.tables.exec = Jvm.exec) {pc : Nat} (pc' : Nat) {Ls : Array Slot} {k : Nat} {v : Int32} {st : List Value} {l' : Array Slot} (hd : decode c.code pc = .ok (.istore k, 2)) (hl : storeLocals Ls k (.int v) = some l') (hp : pc + 2 = pc') (G : own_GoE p e below EE (T.setTop (mkF m pc' l' (st)))) : own_GoE p e below EE (T.setTop (mkF m pc Ls (.int v :: st))) := by
  subst hp; exact own_step (fun _ k => XS.istore X.here hx rfl hd rfl hl k) G
theorem g_lload_n (X : Stand p l e R s m args below meth c T locs cells slots) (hx : p.tables.exec = Jvm.exec) {pc : Nat} (pc' : Nat) {Ls : Array Slot} {k : Fin 4} {v : Int64} {st : List Value} (hd : decode c.code pc = .ok (.lload_n k, 1)) (hl : Ls[k.val]? = some (.val (.long v))) (hp : pc + 1 = pc') (G : own_GoE p e below EE (T.setTop (mkF m pc' Ls (.long v :: st)))) : own_GoE p e below EE (T.setTop (mkF m pc Ls (st))) := by
  subst hp; exact own_step (fun _ k => XS.lloadN X.here hx rfl hd hl k) G
theorem g_lload (X : Stand p l e R s m args below meth c T locs cells slots) (hx : p.tables.exec = Jvm.exec) {pc : Nat} (pc' : Nat) {Ls : Array Slot} {k : Nat} {v : Int64} {st : List Value} (hd : decode c.code pc = .ok (.lload k, 2)) (hl : Ls[k]? = some (.val (.long v))) (hp : pc + 2 = pc') (G : own_GoE p e below EE (T.setTop (mkF m pc' Ls (.long v :: st)))) : own_GoE p e below EE (T.setTop (mkF m pc Ls (st))) := by
  subst hp; exact own_step (fun _ k => XS.lload X.here hx rfl hd hl k) G
theorem g_lstore_n (X : Stand p l e R s m args below meth c T locs cells slots) (hx : p.tables.exec = Jvm.exec) {pc : Nat} (pc' : Nat) {Ls : Array Slot} {k : Fin 4} {v : Int64} {st : List Value} {l' : Array Slot} (hd : decode c.code pc = .ok (.lstore_n k, 1)) (hl : storeLocals Ls k.val (.long v) = some l') (hp : pc + 1 = pc') (G : own_GoE p e below EE (T.setTop (mkF m pc' l' (st)))) : own_GoE p e below EE (T.setTop (mkF m pc Ls (.long v :: st))) := by
  subst hp; exact own_step (fun _ k => XS.lstoreN X.here hx rfl hd rfl hl k) G
theorem g_lstore (X : Stand p l e R s m args below meth c T locs cells slots) (hx : p.tables.exec = Jvm.exec) {pc : Nat} (pc' : Nat) {Ls : Array Slot} {k : Nat} {v : Int64} {st : List Value} {l' : Array Slot} (hd : decode c.code pc = .ok (.lstore k, 2)) (hl : storeLocals Ls k (.long v) = some l') (hp : pc + 2 = pc') (G : own_GoE p e below EE (T.setTop (mkF m pc' l' (st)))) : own_GoE p e below EE (T.setTop (mkF m pc Ls (.long v :: st))) := by
  subst hp; exact own_step (fun _ k => XS.lstore X.here hx rfl hd rfl hl k) G
theorem g_aload_n (X : Stand p l e R s m args below meth c T locs cells slots) (hx : p.tables.exec = Jvm.exec) {pc : Nat} (pc' : Nat) {Ls : Array Slot} {k : Fin 4} {v : Value} {st : List Value} (hd : decode c.code pc = .ok (.aload_n k, 1)) (hl : Ls[k.val]? = some (.val v)) (hv : v.isRef = true) (hp : pc + 1 = pc') (G : own_GoE p e below EE (T.setTop (mkF m pc' Ls (v :: st)))) : own_GoE p e below EE (T.setTop (mkF m pc Ls (st))) := by
  subst hp; exact own_step (fun _ k => XS.aloadN X.here hx rfl hd hl hv k) G
theorem g_aload (X : Stand p l e R s m args below meth c T locs cells slots) (hx : p.tables.exec = Jvm.exec) {pc : Nat} (pc' : Nat) {Ls : Array Slot} {k : Nat} {v : Value} {st : List Value} (hd : decode c.code pc = .ok (.aload k, 2)) (hl : Ls[k]? = some (.val v)) (hv : v.isRef = true) (hp : pc + 2 = pc') (G : own_GoE p e below EE (T.setTop (mkF m pc' Ls (v :: st)))) : own_GoE p e below EE (T.setTop (mkF m pc Ls (st))) := by
  subst hp; exact own_step (fun _ k => XS.aload X.here hx rfl hd hl hv k) G
theorem g_astore_n (X : Stand p l e R s m args below meth c T locs cells slots) (hx : p.tables.exec = Jvm.exec) {pc : Nat} (pc' : Nat) {Ls : Array Slot} {k : Fin 4} {v : Value} {st : List Value} {l' : Array Slot} (hd : decode c.code pc = .ok (.astore_n k, 1)) (hv : v.isRef = true) (hl : storeLocals Ls k.val v = some l') (hp : pc + 1 = pc') (G : own_GoE p e below EE (T.setTop (mkF m pc' l' (st)))) : own_GoE p e below EE (T.setTop (mkF m pc Ls (v :: st))) := by
  subst hp; exact own_step (fun _ k => XS.astoreN X.here hx rfl hd rfl hv hl k) G
theorem g_astore (X : Stand p l e R s m args below meth c T locs cells slots) (hx : p.tables.exec = Jvm.exec) {pc : Nat} (pc' : Nat) {Ls : Array Slot} {k : Nat} {v : Value} {st : List Value} {l' : Array Slot} (hd : decode c.code pc = .ok (.astore k, 2)) (hv : v.isRef = true) (hl : storeLocals Ls k v = some l') (hp : pc + 2 = pc') (G : own_GoE p e below EE (T.setTop (mkF m pc' l' (st)))) : own_GoE p e below EE (T.setTop (mkF m pc Ls (v :: st))) := by
  subst hp; exact own_step (fun _ k => XS.astore X.here hx rfl hd rfl hv hl k) G
theorem g_iconst (X : Stand p l e R s m args below meth c T locs cells slots) (hx : p.tables.exec = Jvm.exec) {pc : Nat} (pc' : Nat) {Ls : Array Slot} {i : Int} {st : List Value} (hd : decode c.code pc = .ok (.iconst i, 1)) (z : Int32) (hz : Int32.ofInt i = z) (hp : pc + 1 = pc') (G : own_GoE p e below EE (T.setTop (mkF m pc' Ls (.int z :: st)))) : own_GoE p e below EE (T.setTop (mkF m pc Ls st)) := by
  subst hp hz; exact own_step (fun _ k => XS.iconst X.here hx rfl hd k) G
theorem g_bipush (X : Stand p l e R s m args below meth c T locs cells slots) (hx : p.tables.exec = Jvm.exec) {pc : Nat} (pc' : Nat) {Ls : Array Slot} {i : Int} {st : List Value} (hd : decode c.code pc = .ok (.bipush i, 2)) (z : Int32) (hz : (Int8.ofInt i).toInt32 = z) (hp : pc + 2 = pc') (G : own_GoE p e below EE (T.setTop (mkF m pc' Ls (.int z :: st)))) : own_GoE p e below EE (T.setTop (mkF m pc Ls st)) := by
  subst hp hz; exact own_step (fun _ k => XS.bipush X.here hx rfl hd k) G
theorem g_sipush (X : Stand p l e R s m args below meth c T locs cells slots) (hx : p.tables.exec = Jvm.exec) {pc : Nat} (pc' : Nat) {Ls : Array Slot} {i : Int} {st : List Value} (hd : decode c.code pc = .ok (.sipush i, 3)) (z : Int32) (hz : (Int16.ofInt i).toInt32 = z) (hp : pc + 3 = pc') (G : own_GoE p e below EE (T.setTop (mkF m pc' Ls (.int z :: st)))) : own_GoE p e below EE (T.setTop (mkF m pc Ls st)) := by
  subst hp hz; exact own_step (fun _ k => XS.sipush X.here hx rfl hd k) G
theorem g_lconst (X : Stand p l e R s m args below meth c T locs cells slots) (hx : p.tables.exec = Jvm.exec) {pc : Nat} (pc' : Nat) {Ls : Array Slot} {i : Fin 2} {st : List Value} (hd : decode c.code pc = .ok (.lconst i, 1)) (z : Int64) (hz : Int64.ofNat i.val = z) (hp : pc + 1 = pc') (G : own_GoE p e below EE (T.setTop (mkF m pc' Ls (.long z :: st)))) : own_GoE p e below EE (T.setTop (mkF m pc Ls st)) := by
  subst hp hz; exact own_step (fun _ k => XS.lconst X.here hx rfl hd k) G
theorem g_aconst_null (X : Stand p l e R s m args below meth c T locs cells slots) (hx : p.tables.exec = Jvm.exec) {pc : Nat} (pc' : Nat) {Ls : Array Slot} {st : List Value} (hd : decode c.code pc = .ok (.aconst_null, 1))  (hp : pc + 1 = pc') (G : own_GoE p e below EE (T.setTop (mkF m pc' Ls (.null :: st)))) : own_GoE p e below EE (T.setTop (mkF m pc Ls (st))) := by
  subst hp; exact own_step (fun _ k => XS.aconstNull X.here hx rfl hd k) G
theorem g_iadd (X : Stand p l e R s m args below meth c T locs cells slots) (hx : p.tables.exec = Jvm.exec) {pc : Nat} (pc' : Nat) {Ls : Array Slot} {x y : Int32} {st : List Value} (hd : decode c.code pc = .ok (.iadd, 1))  (hp : pc + 1 = pc') (G : own_GoE p e below EE (T.setTop (mkF m pc' Ls (.int (x + y) :: st)))) : own_GoE p e below EE (T.setTop (mkF m pc Ls (.int y :: .int x :: st))) := by
  subst hp; exact own_step (fun _ k => XS.iadd X.here hx rfl hd rfl k) G
theorem g_ladd (X : Stand p l e R s m args below meth c T locs cells slots) (hx : p.tables.exec = Jvm.exec) {pc : Nat} (pc' : Nat) {Ls : Array Slot} {x y : Int64} {st : List Value} (hd : decode c.code pc = .ok (.ladd, 1))  (hp : pc + 1 = pc') (G : own_GoE p e below EE (T.setTop (mkF m pc' Ls (.long (x + y) :: st)))) : own_GoE p e below EE (T.setTop (mkF m pc Ls (.long y :: .long x :: st))) := by
  subst hp; exact own_step (fun _ k => XS.ladd X.here hx rfl hd rfl k) G
theorem g_isub (X : Stand p l e R s m args below meth c T locs cells slots) (hx : p.tables.exec = Jvm.exec) {pc : Nat} (pc' : Nat) {Ls : Array Slot} {x y : Int32} {st : List Value} (hd : decode c.code pc = .ok (.isub, 1))  (hp : pc + 1 = pc') (G : own_GoE p e below EE (T.setTop (mkF m pc' Ls (.int (x - y) :: st)))) : own_GoE p e below EE (T.setTop (mkF m pc Ls (.int y :: .int x :: st))) := by
  subst hp; exact own_step (fun _ k => XS.isub X.here hx rfl hd rfl k) G
theorem g_lsub (X : Stand p l e R s m args below meth c T locs cells slots) (hx : p.tables.exec = Jvm.exec) {pc : Nat} (pc' : Nat) {Ls : Array Slot} {x y : Int64} {st : List Value} (hd : decode c.code pc = .ok (.lsub, 1))  (hp : pc + 1 = pc') (G : own_GoE p e below EE (T.setTop (mkF m pc' Ls (.long (x - y) :: st)))) : own_GoE p e below EE (T.setTop (mkF m pc Ls (.long y :: .long x :: st))) := by
  subst hp; exact own_step (fun _ k => XS.lsub X.here hx rfl hd rfl k) G
theorem g_imul (X : Stand p l e R s m args below meth c T locs cells slots) (hx : p.tables.exec = Jvm.exec) {pc : Nat} (pc' : Nat) {Ls : Array Slot} {x y : Int32} {st : List Value} (hd : decode c.code pc = .ok (.imul, 1))  (hp : pc + 1 = pc') (G : own_GoE p e below EE (T.setTop (mkF m pc' Ls (.int (x * y) :: st)))) : own_GoE p e below EE (T.setTop (mkF m pc Ls (.int y :: .int x :: st))) := by
  subst hp; exact own_step (fun _ k => XS.imul X.here hx rfl hd rfl k) G
theorem g_lmul (X : Stand p l e R s m args below meth c T locs cells slots) (hx : p.tables.exec = Jvm.exec) {pc : Nat} (pc' : Nat) {Ls : Array Slot} {x y : Int64} {st : List Value} (hd : decode c.code pc = .ok (.lmul, 1))  (hp : pc + 1 = pc') (G : own_GoE p e below EE (T.setTop (mkF m pc' Ls (.long (x * y) :: st)))) : own_GoE p e below EE (T.setTop (mkF m pc Ls (.long y :: .long x :: st))) := by
  subst hp; exact own_step (fun _ k => XS.lmul X.here hx rfl hd rfl k) G
theorem g_iand (X : Stand p l e R s m args below meth c T locs cells slots) (hx : p.tables.exec = Jvm.exec) {pc : Nat} (pc' : Nat) {Ls : Array Slot} {x y : Int32} {st : List Value} (hd : decode c.code pc = .ok (.iand, 1))  (hp : pc + 1 = pc') (G : own_GoE p e below EE (T.setTop (mkF m pc' Ls (.int (x &&& y) :: st)))) : own_GoE p e below EE (T.setTop (mkF m pc Ls (.int y :: .int x :: st))) := by
  subst hp; exact own_step (fun _ k => XS.iand X.here hx rfl hd rfl k) G
theorem g_land (X : Stand p l e R s m args below meth c T locs cells slots) (hx : p.tables.exec = Jvm.exec) {pc : Nat} (pc' : Nat) {Ls : Array Slot} {x y : Int64} {st : List Value} (hd : decode c.code pc = .ok (.land, 1))  (hp : pc + 1 = pc') (G : own_GoE p e below EE (T.setTop (mkF m pc' Ls (.long (x &&& y) :: st)))) : own_GoE p e below EE (T.setTop (mkF m pc Ls (.long y :: .long x :: st))) := by
  subst hp; exact own_step (fun _ k => XS.land X.here hx rfl hd rfl k) G
theorem g_ior (X : Stand p l e R s m args below meth c T locs cells slots) (hx : p.tables.exec = Jvm.exec) {pc : Nat} (pc' : Nat) {Ls : Array Slot} {x y : Int32} {st : List Value} (hd : decode c.code pc = .ok (.ior, 1))  (hp : pc + 1 = pc') (G : own_GoE p e below EE (T.setTop (mkF m pc' Ls (.int (x ||| y) :: st)))) : own_GoE p e below EE (T.setTop (mkF m pc Ls (.int y :: .int x :: st))) := by
  subst hp; exact own_step (fun _ k => XS.ior X.here hx rfl hd rfl k) G
theorem g_lor (X : Stand p l e R s m args below meth c T locs cells slots) (hx : p.tables.exec = Jvm.exec) {pc : Nat} (pc' : Nat) {Ls : Array Slot} {x y : Int64} {st : List Value} (hd : decode c.code pc = .ok (.lor, 1))  (hp : pc + 1 = pc') (G : own_GoE p e below EE (T.setTop (mkF m pc' Ls (.long (x ||| y) :: st)))) : own_GoE p e below EE (T.setTop (mkF m pc Ls (.long y :: .long x :: st))) := by
  subst hp; exact own_step (fun _ k => XS.lor X.here hx rfl hd rfl k) G
theorem g_ixor (X : Stand p l e R s m args below meth c T locs cells slots) (hx : p.tables.exec = Jvm.exec) {pc : Nat} (pc' : Nat) {Ls : Array Slot} {x y : Int32} {st : List Value} (hd : decode c.code pc = .ok (.ixor, 1))  (hp : pc + 1 = pc') (G : own_GoE p e below EE (T.setTop (mkF m pc' Ls (.int (x ^^^ y) :: st)))) : own_GoE p e below EE (T.setTop (mkF m pc Ls (.int y :: .int x :: st))) := by
  subst hp; exact own_step (fun _ k => XS.ixor X.here hx rfl hd rfl k) G
theorem g_lxor (X : Stand p l e R s m args below meth c T locs cells slots) (hx : p.tables.exec = Jvm.exec) {pc : Nat} (pc' : Nat) {Ls : Array Slot} {x y : Int64} {st : List Value} (hd : decode c.code pc = .ok (.lxor, 1))  (hp : pc + 1 = pc') (G : own_GoE p e below EE (T.setTop (mkF m pc' Ls (.long (x ^^^ y) :: st)))) : own_GoE p e below EE (T.setTop (mkF m pc Ls (.long y :: .long x :: st))) := by
  subst hp; exact own_step (fun _ k => XS.lxor X.here hx rfl hd rfl k) G
theorem g_ineg (X : Stand p l e R s m args below meth c T locs cells slots) (hx : p.tables.exec = Jvm.exec) {pc : Nat} (pc' : Nat) {Ls : Array Slot} {x : Int32} {st : List Value} (hd : decode c.code pc = .ok (.ineg, 1))  (hp : pc + 1 = pc') (G : own_GoE p e below EE (T.setTop (mkF m pc' Ls (.int (-x) :: st)))) : own_GoE p e below EE (T.setTop (mkF m pc Ls (.int x :: st))) := by
  subst hp; exact own_step (fun _ k => XS.ineg X.here hx rfl hd rfl k) G
theorem g_lneg (X : Stand p l e R s m args below meth c T locs cells slots) (hx : p.tables.exec = Jvm.exec) {pc : Nat} (pc' : Nat) {Ls : Array Slot} {x : Int64} {st : List Value} (hd : decode c.code pc = .ok (.lneg, 1))  (hp : pc + 1 = pc') (G : own_GoE p e below EE (T.setTop (mkF m pc' Ls (.long (-x) :: st)))) : own_GoE p e below EE (T.setTop (mkF m pc Ls (.long x :: st))) := by
  subst hp; exact own_step (fun _ k => XS.lneg X.here hx rfl hd rfl k) G
theorem g_i2l (X : Stand p l e R s m args below meth c T locs cells slots) (hx : p.tables.exec = Jvm.exec) {pc : Nat} (pc' : Nat) {Ls : Array Slot} {x : Int32} {st : List Value} (hd : decode c.code pc = .ok (.i2l, 1))  (hp : pc + 1 = pc') (G : own_GoE p e below EE (T.setTop (mkF m pc' Ls (.long (x.toInt64) :: st)))) : own_GoE p e below EE (T.setTop (mkF m pc Ls (.int x :: st))) := by
  subst hp; exact own_step (fun _ k => XS.i2l X.here hx rfl hd rfl k) G
theorem g_l2i (X : Stand p l e R s m args below meth c T locs cells slots) (hx : p.tables.exec = Jvm.exec) {pc : Nat} (pc' : Nat) {Ls : Array Slot} {x : Int64} {st : List Value} (hd : decode c.code pc = .ok (.l2i, 1))  (hp : pc + 1 = pc') (G : own_GoE p e below EE (T.setTop (mkF m pc' Ls (.int (x.toInt32) :: st)))) : own_GoE p e below EE (T.setTop (mkF m pc Ls (.long x :: st))) := by
  subst hp; exact own_step (fun _ k => XS.l2i X.here hx rfl hd rfl k) G
theorem g_i2b (X : Stand p l e R s m args below meth c T locs cells slots) (hx : p.tables.exec = Jvm.exec) {pc : Nat} (pc' : Nat) {Ls : Array Slot} {x : Int32} {st : List Value} (hd : decode c.code pc = .ok (.i2b, 1))  (hp : pc + 1 = pc') (G : own_GoE p e below EE (T.setTop (mkF m pc' Ls (.int (x.toInt8.toInt32) :: st)))) : own_GoE p e below EE (T.setTop (mkF m pc Ls (.int x :: st))) := by
  subst hp; exact own_step (fun _ k => XS.i2b X.here hx rfl hd rfl k) G
theorem g_i2s (X : Stand p l e R s m args below meth c T locs cells slots) (hx : p.tables.exec = Jvm.exec) {pc : Nat} (pc' : Nat) {Ls : Array Slot} {x : Int32} {st : List Value} (hd : decode c.code pc = .ok (.i2s, 1))  (hp : pc + 1 = pc') (G : own_GoE p e below EE (T.setTop (mkF m pc' Ls (.int (x.toInt16.toInt32) :: st)))) : own_GoE p e below EE (T.setTop (mkF m pc Ls (.int x :: st))) := by
  subst hp; exact own_step (fun _ k => XS.i2s X.here hx rfl hd rfl k) G
theorem g_i2c (X : Stand p l e R s m args below meth c T locs cells slots) (hx : p.tables.exec = Jvm.exec) {pc : Nat} (pc' : Nat) {Ls : Array Slot} {x : Int32} {st : List Value} (hd : decode c.code pc = .ok (.i2c, 1))  (hp : pc + 1 = pc') (G : own_GoE p e below EE (T.setTop (mkF m pc' Ls (.int (x.toUInt32.toUInt16.toUInt32.toInt32) :: st)))) : own_GoE p e below EE (T.setTop (mkF m pc Ls (.int x :: st))) := by
  subst hp; exact own_step (fun _ k => XS.i2c X.here hx rfl hd rfl k) G
theorem g_ishl (X : Stand p l e R s m args below meth c T locs cells slots) (hx : p.tables.exec = Jvm.exec) {pc : Nat} (pc' : Nat) {Ls : Array Slot} {x : Int32} {y : Int32} {st : List Value} (hd : decode c.code pc = .ok (.ishl, 1))  (hp : pc + 1 = pc') (G : own_GoE p e below EE (T.setTop (mkF m pc' Ls (.int (x <<< (y &&& 31)) :: st)))) : own_GoE p e below EE (T.setTop (mkF m pc Ls (.int y :: .int x :: st))) := by
  subst hp; exact own_step (fun _ k => XS.ishl X.here hx rfl hd rfl k) G
theorem g_ishr (X : Stand p l e R s m args below meth c T locs cells slots) (hx : p.tables.exec = Jvm.exec) {pc : Nat} (pc' : Nat) {Ls : Array Slot} {x : Int32} {y : Int32} {st : List Value} (hd : decode c.code pc = .ok (.ishr, 1))  (hp : pc + 1 = pc') (G : own_GoE p e below EE (T.setTop (mkF m pc' Ls (.int (x >>> (y &&& 31)) :: st)))) : own_GoE p e below EE (T.setTop (mkF m pc Ls (.int y :: .int x :: st))) := by
  subst hp; exact own_step (fun _ k => XS.ishr X.here hx rfl hd rfl k) G
theorem g_iushr (X : Stand p l e R s m args below meth c T locs cells slots) (hx : p.tables.exec = Jvm.exec) {pc : Nat} (pc' : Nat) {Ls : Array Slot} {x : Int32} {y : Int32} {st : List Value} (hd : decode c.code pc = .ok (.iushr, 1))  (hp : pc + 1 = pc') (G : own_GoE p e below EE (T.setTop (mkF m pc' Ls (.int ((x.toUInt32 >>> (y &&& 31).toUInt32).toInt32) :: st)))) : own_GoE p e below EE (T.setTop (mkF m pc Ls (.int y :: .int x :: st))) := by
  subst hp; exact own_step (fun _ k => XS.iushr X.here hx rfl hd rfl k) G
theorem g_lshl (X : Stand p l e R s m args below meth c T locs cells slots) (hx : p.tables.exec = Jvm.exec) {pc : Nat} (pc' : Nat) {Ls : Array Slot} {x : Int64} {y : Int32} {st : List Value} (hd : decode c.code pc = .ok (.lshl, 1))  (hp : pc + 1 = pc') (G : own_GoE p e below EE (T.setTop (mkF m pc' Ls (.long (x <<< (y &&& 0x3f).toInt64) :: st)))) : own_GoE p e below EE (T.setTop (mkF m pc Ls (.int y :: .long x :: st))) := by
  subst hp; exact own_step (fun _ k => XS.lshl X.here hx rfl hd rfl k) G
theorem g_lshr (X : Stand p l e R s m args below meth c T locs cells slots) (hx : p.tables.exec = Jvm.exec) {pc : Nat} (pc' : Nat) {Ls : Array Slot} {x : Int64} {y : Int32} {st : List Value} (hd : decode c.code pc = .ok (.lshr, 1))  (hp : pc + 1 = pc') (G : own_GoE p e below EE (T.setTop (mkF m pc' Ls (.long (x >>> (y &&& 0x3f).toInt64) :: st)))) : own_GoE p e below EE (T.setTop (mkF m pc Ls (.int y :: .long x :: st))) := by
  subst hp; exact own_step (fun _ k => XS.lshr X.here hx rfl hd rfl k) G
theorem g_lushr (X : Stand p l e R s m args below meth c T locs cells slots) (hx : p.tables.exec = Jvm.exec) {pc : Nat} (pc' : Nat) {Ls : Array Slot} {x : Int64} {y : Int32} {st : List Value} (hd : decode c.code pc = .ok (.lushr, 1))  (hp : pc + 1 = pc') (G : own_GoE p e below EE (T.setTop (mkF m pc' Ls (.long ((x.toUInt64 >>> (y &&& 0x3f).toInt64.toUInt64).toInt64) :: st)))) : own_GoE p e below EE (T.setTop (mkF m pc Ls (.int y :: .long x :: st))) := by
  subst hp; exact own_step (fun _ k => XS.lushr X.here hx rfl hd rfl k) G
theorem g_lcmp (X : Stand p l e R s m args below meth c T locs cells slots) (hx : p.tables.exec = Jvm.exec) {pc : Nat} (pc' : Nat) {Ls : Array Slot} {x y : Int64} {st : List Value} (hd : decode c.code pc = .ok (.lcmp, 1))  (hp : pc + 1 = pc') (G : own_GoE p e below EE (T.setTop (mkF m pc' Ls (.int (lcmpW x y) :: st)))) : own_GoE p e below EE (T.setTop (mkF m pc Ls (.long y :: .long x :: st))) := by
  subst hp; exact own_step (fun _ k => XS.lcmp X.here hx rfl hd rfl k) G
theorem g_idiv (X : Stand p l e R s m args below meth c T locs cells slots) (hx : p.tables.exec = Jvm.exec) {pc : Nat} (pc' : Nat) {Ls : Array Slot} {x y : Int32} {st : List Value} (hd : decode c.code pc = .ok (.idiv, 1)) (hp : pc + 1 = pc') (hy : y ≠ 0) (G : own_GoE p e below EE (T.setTop (mkF m pc' Ls (.int (x / y) :: st)))) : own_GoE p e below EE (T.setTop (mkF m pc Ls (.int y :: .int x :: st))) := by
  subst hp; exact own_step (fun _ k => XS.idiv X.here hx rfl hd rfl hy k) G
theorem g_ldiv (X : Stand p l e R s m args below meth c T locs cells slots) (hx : p.tables.exec = Jvm.exec) {pc : Nat} (pc' : Nat) {Ls : Array Slot} {x y : Int64} {st : List Value} (hd : decode c.code pc = .ok (.ldiv, 1)) (hp : pc + 1 = pc') (hy : y ≠ 0) (G : own_GoE p e below EE (T.setTop (mkF m pc' Ls (.long (x / y) :: st)))) : own_GoE p e below EE (T.setTop (mkF m pc Ls (.long y :: .long x :: st))) := by
  subst hp; exact own_step (fun _ k => XS.ldiv X.here hx rfl hd rfl hy k) G
theorem g_irem (X : Stand p l e R s m args below meth c T locs cells slots) (hx : p.tables.exec = Jvm.exec) {pc : Nat} (pc' : Nat) {Ls : Array Slot} {x y : Int32} {st : List Value} (hd : decode c.code pc = .ok (.irem, 1)) (hp : pc + 1 = pc') (hy : y ≠ 0) (G : own_GoE p e below EE (T.setTop (mkF m pc' Ls (.int (x % y) :: st)))) : own_GoE p e below EE (T.setTop (mkF m pc Ls (.int y :: .int x :: st))) := by
  subst hp; exact own_step (fun _ k => iremM X hx rfl hd rfl hy k) G
theorem g_lrem (X : Stand p l e R s m args below meth c T locs cells slots) (hx : p.tables.exec = Jvm.exec) {pc : Nat} (pc' : Nat) {Ls : Array Slot} {x y : Int64} {st : List Value} (hd : decode c.code pc = .ok (.lrem, 1)) (hp : pc + 1 = pc') (hy : y ≠ 0) (G : own_GoE p e below EE (T.setTop (mkF m pc' Ls (.long (x % y) :: st)))) : own_GoE p e below EE (T.setTop (mkF m pc Ls (.long y :: .long x :: st))) := by
  subst hp; rw [← lrem_mod] at G; exact own_step (fun _ k => XS.lrem X.here hx rfl hd rfl hy k) G
theorem g_iinc (X : Stand p l e R s m args below meth c T locs cells slots) (hx : p.tables.exec = Jvm.exec) {pc : Nat} (pc' : Nat) {Ls : Array Slot} {k : Nat} {cst : Int} {x z : Int32} {l' : Array Slot} {st : List Value} (hd : decode c.code pc = .ok (.iinc k cst, 3)) (hl : Ls[k]? = some (.val (.int x))) (hz : x + Int32.ofInt cst = z) (hl' : storeLocals Ls k (.int z) = some l') (hp : pc + 3 = pc') (G : own_GoE p e below EE (T.setTop (mkF m pc' l' st))) : own_GoE p e below EE (T.setTop (mkF m pc Ls st)) := by
  subst hp hz; exact own_step (fun _ k => XS.iinc X.here hx rfl hd hl hl' k) G
theorem g_dup (X : Stand p l e R s m args below meth c T locs cells slots) (hx : p.tables.exec = Jvm.exec) {pc : Nat} (pc' : Nat) {Ls : Array Slot} {x : Value} {st : List Value} (hd : decode c.code pc = .ok (.dup, 1)) (hc : x.category = 1) (hp : pc + 1 = pc') (G : own_GoE p e below EE (T.setTop (mkF m pc' Ls (x :: x :: st)))) : own_GoE p e below EE (T.setTop (mkF m pc Ls (x :: st))) := by
  subst hp; exact own_step (fun _ k => XS.dup X.here hx rfl hd rfl hc k) G
theorem g_pop (X : Stand p l e R s m args below meth c T locs cells slots) (hx : p.tables.exec = Jvm.exec) {pc : Nat} (pc' : Nat) {Ls : Array Slot} {x : Value} {st : List Value} (hd : decode c.code pc = .ok (.pop, 1)) (hc : x.category = 1) (hp : pc + 1 = pc') (G : own_GoE p e below EE (T.setTop (mkF m pc' Ls (st)))) : own_GoE p e below EE (T.setTop (mkF m pc Ls (x :: st))) := by
  subst hp; exact own_step (fun _ k => XS.pop X.here hx rfl hd rfl hc k) G
theorem g_dup_x1 (X : Stand p l e R s m args below meth c T locs cells slots) (hx : p.tables.exec = Jvm.exec) {pc : Nat} (pc' : Nat) {Ls : Array Slot} {x y : Value} {st : List Value} (hd : decode c.code pc = .ok (.dup_x1, 1)) (hc : x.category = 1) (hc' : y.category = 1) (hp : pc + 1 = pc') (G : own_GoE p e below EE (T.setTop (mkF m pc' Ls (x :: y :: x :: st)))) : own_GoE p e below EE (T.setTop (mkF m pc Ls (x :: y :: st))) := by
  subst hp; exact own_step (fun _ k => XS.dupX1 X.here hx rfl hd rfl hc hc' k) G
theorem g_dup2 (X : Stand p l e R s m args below meth c T locs cells slots) (hx : p.tables.exec = Jvm.exec) {pc : Nat} (pc' : Nat) {Ls : Array Slot} {x y : Value} {st : List Value} (hd : decode c.code pc = .ok (.dup2, 1)) (hc : x.category = 1) (hc' : y.category = 1) (hp : pc + 1 = pc') (G : own_GoE p e below EE (T.setTop (mkF m pc' Ls (x :: y :: x :: y :: st)))) : own_GoE p e below EE (T.setTop (mkF m pc Ls (x :: y :: st))) := by
  subst hp; exact own_step (fun _ k => XT.dup2 X.here hx rfl hd rfl hc hc' k) G
theorem g_dup2L (X : Stand p l e R s m args below meth c T locs cells slots) (hx : p.tables.exec = Jvm.exec) {pc : Nat} (pc' : Nat) {Ls : Array Slot} {x : Int64} {st : List Value} (hd : decode c.code pc = .ok (.dup2, 1))  (hp : pc + 1 = pc') (G : own_GoE p e below EE (T.setTop (mkF m pc' Ls (.long x :: .long x :: st)))) : own_GoE p e below EE (T.setTop (mkF m pc Ls (.long x :: st))) := by
  subst hp; exact own_step (fun _ k => XT.dup2L X.here hx rfl hd rfl k) G
theorem g_goto (X : Stand p l e R s m args below meth c T locs cells slots) (hx : p.tables.exec = Jvm.exec) {pc : Nat} (pc' : Nat) {Ls : Array Slot} {o : Int} {st : List Value} (hd : decode c.code pc = .ok (.goto o, 3)) (ho : 0 ≤ (pc : Int) + o) (hp : ((pc : Int) + o).toNat = pc') (G : own_GoE p e below EE (T.setTop (mkF m pc' Ls st))) : own_GoE p e below EE (T.setTop (mkF m pc Ls st)) :=
  own_step (fun _ k => XS.goto X.here hx rfl rfl hd ho hp k) G
theorem g_ifYes (X : Stand p l e R s m args below meth c T locs cells slots) (hx : p.tables.exec = Jvm.exec) {pc : Nat} (pc' : Nat) {Ls : Array Slot} {cd : ClassFile.Cond} {x : Int32} {o : Int} {st : List Value} (hd : decode c.code pc = .ok (.ifCond cd o, 3)) (hc : ifCond.holds cd x = true) (ho : 0 ≤ (pc : Int) + o) (hp : ((pc : Int) + o).toNat = pc') (G : own_GoE p e below EE (T.setTop (mkF m pc' Ls st))) : own_GoE p e below EE (T.setTop (mkF m pc Ls (.int x :: st))) :=
  own_step (fun _ k => XS.ifYes X.here hx rfl rfl hd rfl hc ho hp k) G
theorem g_ifNo (X : Stand p l e R s m args below meth c T locs cells slots) (hx : p.tables.exec = Jvm.exec) {pc : Nat} (pc' : Nat) {Ls : Array Slot} {cd : ClassFile.Cond} {x : Int32} {o : Int} {st : List Value} (hd : decode c.code pc = .ok (.ifCond cd o, 3)) (hc : ifCond.holds cd x = false) (hp : pc + 3 = pc') (G : own_GoE p e below EE (T.setTop (mkF m pc' Ls st))) : own_GoE p e below EE (T.setTop (mkF m pc Ls (.int x :: st))) := by
  subst hp; exact own_step (fun _ k => XS.ifNo X.here hx rfl hd rfl hc k) G
theorem g_icmpYes (X : Stand p l e R s m args below meth c T locs cells slots) (hx : p.tables.exec = Jvm.exec) {pc : Nat} (pc' : Nat) {Ls : Array Slot} {cd : ClassFile.Cond} {x y : Int32} {o : Int} {st : List Value} (hd : decode c.code pc = .ok (.if_icmp cd o, 3)) (hc : if_icmp.holds cd x y = true) (ho : 0 ≤ (pc : Int) + o) (hp : ((pc : Int) + o).toNat = pc') (G : own_GoE p e below EE (T.setTop (mkF m pc' Ls st))) : own_GoE p e below EE (T.setTop (mkF m pc Ls (.int y :: .int x :: st))) :=
  own_step (fun _ k => XS.icmpYes X.here hx rfl rfl hd rfl hc ho hp k) G
theorem g_icmpNo (X : Stand p l e R s m args below meth c T locs cells slots) (hx : p.tables.exec = Jvm.exec) {pc : Nat} (pc' : Nat) {Ls : Array Slot} {cd : ClassFile.Cond} {x y : Int32} {o : Int} {st : List Value} (hd : decode c.code pc = .ok (.if_icmp cd o, 3)) (hc : if_icmp.holds cd x y = false) (hp : pc + 3 = pc') (G : own_GoE p e below EE (T.setTop (mkF m pc' Ls st))) : own_GoE p e below EE (T.setTop (mkF m pc Ls (.int y :: .int x :: st))) := by
  subst hp; exact own_step (fun _ k => XS.icmpNo X.here hx rfl hd rfl hc k) G
theorem g_ifnullYes (X : Stand p l e R s m args below meth c T locs cells slots) (hx : p.tables.exec = Jvm.exec) {pc : Nat} (pc' : Nat) {Ls : Array Slot} {o : Int} {st : List Value} (hd : decode c.code pc = .ok (.ifnull o, 3)) (ho : 0 ≤ (pc : Int) + o) (hp : ((pc : Int) + o).toNat = pc') (G : own_GoE p e below EE (T.setTop (mkF m pc' Ls st))) : own_GoE p e below EE (T.setTop (mkF m pc Ls (.null :: st))) :=
  own_step (fun _ k => XS.ifnullYes X.here hx rfl rfl hd rfl ho hp k) G
theorem g_ifnullNo (X : Stand p l e R s m args below meth c T locs cells slots) (hx : p.tables.exec = Jvm.exec) {pc : Nat} (pc' : Nat) {Ls : Array Slot} {b : Addr} {o : Int} {st : List Value} (hd : decode c.code pc = .ok (.ifnull o, 3)) (hp : pc + 3 = pc') (G : own_GoE p e below EE (T.setTop (mkF m pc' Ls st))) : own_GoE p e below EE (T.setTop (mkF m pc Ls (.ref b :: st))) := by
  subst hp; exact own_step (fun _ k => XS.ifnullNo X.here hx rfl hd rfl k) G
theorem g_ifnonnullYes (X : Stand p l e R s m args below meth c T locs cells slots) (hx : p.tables.exec = Jvm.exec) {pc : Nat} (pc' : Nat) {Ls : Array Slot} {b : Addr} {o : Int} {st : List Value} (hd : decode c.code pc = .ok (.ifnonnull o, 3)) (ho : 0 ≤ (pc : Int) + o) (hp : ((pc : Int) + o).toNat = pc') (G : own_GoE p e below EE (T.setTop (mkF m pc' Ls st))) : own_GoE p e below EE (T.setTop (mkF m pc Ls (.ref b :: st))) :=
  own_step (fun _ k => XS.ifnonnullYes X.here hx rfl rfl hd rfl ho hp k) G
theorem g_ifnonnullNo (X : Stand p l e R s m args below meth c T locs cells slots) (hx : p.tables.exec = Jvm.exec) {pc : Nat} (pc' : Nat) {Ls : Array Slot} {o : Int} {st : List Value} (hd : decode c.code pc = .ok (.ifnonnull o, 3)) (hp : pc + 3 = pc') (G : own_GoE p e below EE (T.setTop (mkF m pc' Ls st))) : own_GoE p e below EE (T.setTop (mkF m pc Ls (.null :: st))) := by
  subst hp; exact own_step (fun _ k => XS.ifnonnullNo X.here hx rfl hd rfl k) G
theorem g_acmp (X : Stand p l e R s m args below meth c T locs cells slots) (hx : p.tables.exec = Jvm.exec) {pc : Nat} {Ls : Array Slot} {cd : ACond} {x y : Value} {o : Int} {st : List Value} {same : Bool} (pc' : Nat) (hd : decode c.code pc = .ok (.if_acmp cd o, 3)) (h1 : x.isRef = true) (h2 : y.isRef = true) (hq : decide (x = y) = same) (ho : 0 ≤ (pc : Int) + o) (hp : pc' = if acV cd same = true then ((pc : Int) + o).toNat else pc + 3) (G : own_GoE p e below EE (T.setTop (mkF m pc' Ls st))) : own_GoE p e below EE (T.setTop (mkF m pc Ls (y :: x :: st))) :=
  own_step (fun _ k => Jvm.RoadKit.acmp X hx rfl h1 h2 rfl hd rfl hq ho hp k) G
theorem g_ldc (X : Stand p l e R s m args below meth c T locs cells slots) (hx : p.tables.exec = Jvm.exec) {own : String} (hown : s.vm.findClass own = some m.cls) {pc : Nat} (pc' : Nat) {Ls : Array Slot} {i : Nat} {z : Int32} {st : List Value} (hw : (Jvm.Cond.constant own i z).before args s = true) (hd : decode c.code pc = .ok (.ldc i, 2)) (hp : pc + 2 = pc') (G : own_GoE p e below EE (T.setTop (mkF m pc' Ls (.int z :: st)))) : own_GoE p e below EE (T.setTop (mkF m pc Ls st)) := by
  subst hp; exact own_step (fun _ k => X.ldcInt hx hown hw (g := mkF m pc Ls st) rfl hd _ k) G
theorem g_ldc_w (X : Stand p l e R s m args below meth c T locs cells slots) (hx : p.tables.exec = Jvm.exec) {own : String} (hown : s.vm.findClass own = some m.cls) {pc : Nat} (pc' : Nat) {Ls : Array Slot} {i : Nat} {z : Int32} {st : List Value} (hw : (Jvm.Cond.constant own i z).before args s = true) (hd : decode c.code pc = .ok (.ldc_w i, 3)) (hp : pc + 3 = pc') (G : own_GoE p e below EE (T.setTop (mkF m pc' Ls (.int z :: st)))) : own_GoE p e below EE (T.setTop (mkF m pc Ls st)) := by
  subst hp; exact own_step (fun _ k => X.ldcwInt hx hown hw (g := mkF m pc Ls st) rfl hd _ k) G
theorem g_ldc2_w (X : Stand p l e R s m args below meth c T locs cells slots) (hx : p.tables.exec = Jvm.exec) {own : String} (hown : s.vm.findClass own = some m.cls) {pc : Nat} (pc' : Nat) {Ls : Array Slot} {i : Nat} {z : Int64} {st : List Value} (hw : (Jvm.Cond.constantLong own i z).before args s = true) (hd : decode c.code pc = .ok (.ldc2_w i, 3)) (hp : pc + 3 = pc') (G : own_GoE p e below EE (T.setTop (mkF m pc' Ls (.long z :: st)))) : own_GoE p e below EE (T.setTop (mkF m pc Ls st)) := by
  subst hp; exact own_step (fun _ k => X.ldc2Long hx hown hw (g := mkF m pc Ls st) rfl hd _ k) G
theorem g_tswIn (X : Stand p l e R s m args below meth c T locs cells slots) (hx : p.tables.exec = Jvm.exec) {pc : Nat} (pc' : Nat) {Ls : Array Slot} {dflt low high : Int} {offs : Array Int} {len : Nat} {o : Int} {i : Int32} {st : List Value} (hd : decode c.code pc = .ok (.tableswitch dflt low high offs, len)) (hin : ¬ (i.toInt < low ∨ i.toInt > high)) (hoff : offs[(i.toInt - low).toNat]? = some o) (ho : 0 ≤ (pc : Int) + o) (hp : ((pc : Int) + o).toNat = pc') (G : own_GoE p e below EE (T.setTop (mkF m pc' Ls st))) : own_GoE p e below EE (T.setTop (mkF m pc Ls (.int i :: st))) :=
  own_step (fun _ k => XS.tswIn X.here hx rfl rfl hd rfl hin hoff ho hp k) G
theorem g_tswOut (X : Stand p l e R s m args below meth c T locs cells slots) (hx : p.tables.exec = Jvm.exec) {pc : Nat} (pc' : Nat) {Ls : Array Slot} {dflt low high : Int} {offs : Array Int} {len : Nat} {i : Int32} {st : List Value} (hd : decode c.code pc = .ok (.tableswitch dflt low high offs, len)) (hout : i.toInt < low ∨ i.toInt > high) (ho : 0 ≤ (pc : Int) + dflt) (hp : ((pc : Int) + dflt).toNat = pc') (G : own_GoE p e below EE (T.setTop (mkF m pc' Ls st))) : own_GoE p e below EE (T.setTop (mkF m pc Ls (.int i :: st))) :=
  own_step (fun _ k => XS.tswOut X.here hx rfl rfl hd rfl hout ho hp k) G
theorem own_ii_eq_t {x y : Int32} (h : x = y) : if_icmp.holds .eq x y = true := XT.ii_eq_t h
theorem own_i0_eq_t {x : Int32} (h : x = 0) : ifCond.holds .eq x = true := XT.i0_eq_t h
theorem own_ll_eq_t {x y : Int64} (h : x = y) : ifCond.holds .eq (lcmpW x y) = true := XT.ll_eq_t h
theorem own_ii_eq_f {x y : Int32} (h : ¬ (x = y)) : if_icmp.holds .eq x y = false := XT.ii_eq_f h
theorem own_i0_eq_f {x : Int32} (h : ¬ (x = 0)) : ifCond.holds .eq x = false := XT.i0_eq_f h
theorem own_ll_eq_f {x y : Int64} (h : ¬ (x = y)) : ifCond.holds .eq (lcmpW x y) = false := XT.ll_eq_f h
theorem own_ii_ne_t {x y : Int32} (h : ¬ (x = y)) : if_icmp.holds .ne x y = true := XT.ii_ne_t h
theorem own_i0_ne_t {x : Int32} (h : ¬ (x = 0)) : ifCond.holds .ne x = true := XT.i0_ne_t h
theorem own_ll_ne_t {x y : Int64} (h : ¬ (x = y)) : ifCond.holds .ne (lcmpW x y) = true := XT.ll_ne_t h
theorem own_ii_ne_f {x y : Int32} (h : x = y) : if_icmp.holds .ne x y = false := XT.ii_ne_f h
theorem own_i0_ne_f {x : Int32} (h : x = 0) : ifCond.holds .ne x = false := XT.i0_ne_f h
theorem own_ll_ne_f {x y : Int64} (h : x = y) : ifCond.holds .ne (lcmpW x y) = false := XT.ll_ne_f h
theorem own_ii_lt_t {x y : Int32} (h : x < y) : if_icmp.holds .lt x y = true := XT.ii_lt_t h
theorem own_i0_lt_t {x : Int32} (h : x < 0) : ifCond.holds .lt x = true := XT.i0_lt_t h
theorem own_ll_lt_t {x y : Int64} (h : x < y) : ifCond.holds .lt (lcmpW x y) = true := XT.ll_lt_t h
theorem own_ii_lt_f {x y : Int32} (h : ¬ (x < y)) : if_icmp.holds .lt x y = false := XT.ii_lt_f h
theorem own_i0_lt_f {x : Int32} (h : ¬ (x < 0)) : ifCond.holds .lt x = false := XT.i0_lt_f h
theorem own_ll_lt_f {x y : Int64} (h : ¬ (x < y)) : ifCond.holds .lt (lcmpW x y) = false := XT.ll_lt_f h
theorem own_ii_ge_t {x y : Int32} (h : ¬ (x < y)) : if_icmp.holds .ge x y = true := XT.ii_ge_t h
theorem own_i0_ge_t {x : Int32} (h : ¬ (x < 0)) : ifCond.holds .ge x = true := XT.i0_ge_t h
theorem own_ll_ge_t {x y : Int64} (h : ¬ (x < y)) : ifCond.holds .ge (lcmpW x y) = true := XT.ll_ge_t h
theorem own_ii_ge_f {x y : Int32} (h : x < y) : if_icmp.holds .ge x y = false := XT.ii_ge_f h
theorem own_i0_ge_f {x : Int32} (h : x < 0) : ifCond.holds .ge x = false := XT.i0_ge_f h
theorem own_ll_ge_f {x y : Int64} (h : x < y) : ifCond.holds .ge (lcmpW x y) = false := XT.ll_ge_f h
theorem own_ii_gt_t {x y : Int32} (h : y < x) : if_icmp.holds .gt x y = true := XT.ii_gt_t h
theorem own_i0_gt_t {x : Int32} (h : 0 < x) : ifCond.holds .gt x = true := XT.i0_gt_t h
theorem own_ll_gt_t {x y : Int64} (h : y < x) : ifCond.holds .gt (lcmpW x y) = true := XT.ll_gt_t h
theorem own_ii_gt_f {x y : Int32} (h : ¬ (y < x)) : if_icmp.holds .gt x y = false := XT.ii_gt_f h
theorem own_i0_gt_f {x : Int32} (h : ¬ (0 < x)) : ifCond.holds .gt x = false := XT.i0_gt_f h
theorem own_ll_gt_f {x y : Int64} (h : ¬ (y < x)) : ifCond.holds .gt (lcmpW x y) = false := XT.ll_gt_f h
theorem own_ii_le_t {x y : Int32} (h : ¬ (y < x)) : if_icmp.holds .le x y = true := XT.ii_le_t h
theorem own_i0_le_t {x : Int32} (h : ¬ (0 < x)) : ifCond.holds .le x = true := XT.i0_le_t h
theorem own_ll_le_t {x y : Int64} (h : ¬ (y < x)) : ifCond.holds .le (lcmpW x y) = true := XT.ll_le_t h
theorem own_ii_le_f {x y : Int32} (h : y < x) : if_icmp.holds .le x y = false := XT.ii_le_f h
theorem own_i0_le_f {x : Int32} (h : 0 < x) : ifCond.holds .le x = false := XT.i0_le_f h
theorem own_ll_le_f {x y : Int64} (h : y < x) : ifCond.holds .le (lcmpW x y) = false := XT.ll_le_f h
theorem own_getF (X : Stand p l e R s m args below meth c T locs cells slots) (hx : p.tables.exec = Jvm.exec) {Z : State} {a0 : Array Value} {h : Heap} (hZ : Z.Warmed39 s.vm) {own : String} (hown : s.vm.findClass own = some m.cls) {R0 O n d host : String} {index : Nat} (w : (Jvm.Cond.fieldLink own index R0 n d).before a0 Z = true ∨ (Jvm.Cond.fieldLinkNest own index R0 n d host).before a0 Z = true) (via : Via Z R0 O n d) (eT : T.heap = h) {a : Addr} {v : Value} (F : Fld Z h a O n d v) {pc : Nat} (pc' : Nat) {Ls : Array Slot} {rest : List Value} (hd : decode c.code pc = .ok (.getfield index, 3)) (hp : pc + 3 = pc') (k : ∀ T', Stand p l e R s m args below meth c T' locs cells slots → T'.heap = h → own_GoE p e below EE (T'.setTop (mkF m pc' Ls (v :: rest)))) : own_GoE p e below EE (T.setTop (mkF m pc Ls (.ref a :: rest))) := by
  subst hp
  obtain ⟨T', X', e', st⟩ := getF X hx hZ hown w via eT F (g := mkF m pc Ls (.ref a :: rest)) rfl rfl hd
  exact own_step st (k T' X' e')
theorem own_getS (X : Stand p l e R s m args below meth c T locs cells slots) (hx : p.tables.exec = Jvm.exec) {Z : State} {a0 : Array Value} {h : Heap} (hZ : Z.Warmed39 s.vm) {own : String} (hown : s.vm.findClass own = some m.cls) {R0 O n d host : String} {index : Nat} (w : (Jvm.Cond.fieldLink own index R0 n d).before a0 Z = true ∨ (Jvm.Cond.fieldLinkNest own index R0 n d host).before a0 Z = true) (via : Via Z R0 O n d) (eT : T.heap = h) {v : Value} (F : Sta Z h O n d v) {pc : Nat} (pc' : Nat) {Ls : Array Slot} {rest : List Value} (hd : decode c.code pc = .ok (.getstatic index, 3)) (hp : pc + 3 = pc') (k : ∀ T', Stand p l e R s m args below meth c T' locs cells slots → T'.heap = h → own_GoE p e below EE (T'.setTop (mkF m pc' Ls (v :: rest)))) : own_GoE p e below EE (T.setTop (mkF m pc Ls rest)) := by
  subst hp
  obtain ⟨T', X', e', st⟩ := getS2 X hx hZ hown w via eT F (g := mkF m pc Ls rest) rfl hd
  exact own_step st (k T' X' e')
theorem own_putF (X : Stand p l e R s m args below meth c T locs cells slots) (hx : p.tables.exec = Jvm.exec) {Z : State} {a0 : Array Value} {h : Heap} (hZ : Z.Warmed39 s.vm) {own : String} (hown : s.vm.findClass own = some m.cls) {R0 O n d host : String} {index : Nat} (w : (Jvm.Cond.fieldLink own index R0 n d).before a0 Z = true ∨ (Jvm.Cond.fieldLinkNest own index R0 n d host).before a0 Z = true) (via : Via Z R0 O n d) (eT : T.heap = h) {a : Addr} {v old : Value} (F : Fld Z h a O n d old) {C : String} {kk : Nat} {ty : FieldType} (E : Exa Z h a C) (L : (Jvm.Cond.lays C O n d).before a0 Z = true ∨ ((Jvm.Cond.laysFinal C O n d).before a0 Z = true ∧ own = O ∧ meth.name = "<init>")) (wi : (Jvm.Cond.instantiable C kk).before a0 Z = true) (hty : parseFieldDescriptor d = some ty) (hn : narrow ty v = v) (hf : fits ty v = true) {pc : Nat} (pc' : Nat) {Ls : Array Slot} {rest : List Value} (hd : decode c.code pc = .ok (.putfield index, 3)) (hp : pc + 3 = pc') (k : ∀ T' h', Stand p l e R s m args below meth c T' (locs ++ [⟨a, Jvm.RoadKit.slotOf Z O n d⟩]) cells slots → T'.heap = h' → Wr h h' a (Jvm.RoadKit.slotOf Z O n d) v → own_GoE p e below EE (T'.setTop (mkF m pc' Ls rest))) : own_GoE p e below EE (T.setTop (mkF m pc Ls (v :: .ref a :: rest))) := by
  subst hp
  obtain ⟨T', h', X', e', W', st⟩ := putF X hx hZ hown w via eT F E L wi hty hn hf (g := mkF m pc Ls (v :: .ref a :: rest)) rfl rfl hd
  exact own_step st (k T' h' X' e' W')
theorem own_putFN (X : Stand p l e R s m args below meth c T locs cells slots) (hx : p.tables.exec = Jvm.exec) {Z : State} {a0 : Array Value} {h : Heap} (hZ : Z.Warmed39 s.vm) {own : String} (hown : s.vm.findClass own = some m.cls) {R0 O n d : String} {index : Nat} (w : (Jvm.Cond.fieldLink own index R0 n d).before a0 Z = true) (via : Via Z R0 O n d) (eT : T.heap = h) {a : Addr} {v old : Value} (v' : Value) (F : Fld Z h a O n d old) {C : String} {kk : Nat} {ty : FieldType} (E : Exa Z h a C) (L : (Jvm.Cond.lays C O n d).before a0 Z = true ∨ ((Jvm.Cond.laysFinal C O n d).before a0 Z = true ∧ own = O ∧ meth.name = "<init>")) (wi : (Jvm.Cond.instantiable C kk).before a0 Z = true) (hty : parseFieldDescriptor d = some ty) (hn : narrow ty v = v') (hf : fits ty v' = true) {pc : Nat} (pc' : Nat) {Ls : Array Slot} {rest : List Value} (hd : decode c.code pc = .ok (.putfield index, 3)) (hp : pc + 3 = pc') (k : ∀ T' h', Stand p l e R s m args below meth c T' (locs ++ [⟨a, Jvm.RoadKit.slotOf Z O n d⟩]) cells slots → T'.heap = h' → Wr h h' a (Jvm.RoadKit.slotOf Z O n d) v' → own_GoE p e below EE (T'.setTop (mkF m pc' Ls rest))) : own_GoE p e below EE (T.setTop (mkF m pc Ls (v :: .ref a :: rest))) := by
  subst hp
  obtain ⟨T', h', X', e', W', st⟩ := putFN X hx hZ hown w via eT F E L wi hty hn hf (g := mkF m pc Ls (v :: .ref a :: rest)) rfl rfl hd
  exact own_step st (k T' h' X' e' W')
theorem own_newO (X : Stand p l e R s m args below meth c T locs cells slots) (hx : p.tables.exec = Jvm.exec) {Z : State} {a0 : Array Value} {h : Heap} (hZ : Z.Warmed39 s.vm) {own : String} (hown : s.vm.findClass own = some m.cls) {C : String} {index n : Nat} (w : (Jvm.Cond.classLink own index C).before a0 Z = true) (wi : (Jvm.Cond.instantiable C n).before a0 Z = true) (wz : (Jvm.Cond.initialized C).before a0 Z = true) (eT : T.heap = h) {pc : Nat} (pc' : Nat) {Ls : Array Slot} {rest : List Value} (hd : decode c.code pc = .ok (.new index, 3)) (hp : pc + 3 = pc') (hc : cells + 1 ≤ R.cells) (hl : slots + n ≤ R.slots)
    (k : ∀ T' h' b, Stand p l e R s m args below meth c T' locs (cells + 1) (slots + n) → T'.heap = h' → b = h.size → Ext h h' → Exa Z h' b C → (∀ {O nm d : String} {ty : FieldType}, Laid Z a0 C O nm d → parseFieldDescriptor d = some ty → Fld Z h' b O nm d (defaultValue ty)) → own_GoE p e below EE (T'.setTop (mkF m pc' Ls (.ref b :: rest)))) : own_GoE p e below EE (T.setTop (mkF m pc Ls rest)) := by
  subst hp
  obtain ⟨T', h', X', e', E', A', D', -, st⟩ := newO X hx hZ hown w wi wz eT (g := mkF m pc Ls rest) rfl hd hc hl
  exact own_step st (k T' h' _ X' e' rfl E' A' D')
theorem own_newP (X : Stand p l e R s m args below meth c T locs cells slots) (hx : p.tables.exec = Jvm.exec) {Z : State} {a0 : Array Value} {h : Heap} (hZ : Z.Warmed39 s.vm) {aty : ArrayType} (w : (Jvm.Cond.arrayClass (newarray.typeOf aty)).before a0 Z = true) (eT : T.heap = h) {n : Int32} {pc : Nat} (pc' : Nat) {Ls : Array Slot} {rest : List Value} (hd : decode c.code pc = .ok (.newarray aty, 2)) (hp : pc + 2 = pc') (hn : ¬ n < 0) (cap : Nat) (hcap : n.toNatClampNeg ≤ cap) (hb : cap * 8 ≤ 536870912) (hc : cells + 1 ≤ R.cells) (hl : slots + cap ≤ R.slots)
    (k : ∀ T' h' cA b, Stand p l e R s m args below meth c T' locs (cells + 1) (slots + cap) → T'.heap = h' → b = h.size → Ext h h' → Arr Z h' b (newA cA (newarray.typeOf aty) n) (newarray.typeOf aty) → own_GoE p e below EE (T'.setTop (mkF m pc' Ls (.ref b :: rest)))) : own_GoE p e below EE (T.setTop (mkF m pc Ls (.int n :: rest))) := by
  subst hp
  obtain ⟨T', h', cA, X', e', E', A', st⟩ := newP X hx hZ w eT (g := mkF m pc Ls (.int n :: rest)) rfl hd rfl hn hcap hb hc hl
  exact own_step st (k T' h' cA _ X' e' rfl E' A')
theorem own_newR (X : Stand p l e R s m args below meth c T locs cells slots) (hx : p.tables.exec = Jvm.exec) {Z : State} {a0 : Array Value} {h : Heap} (hZ : Z.Warmed39 s.vm) {own : String} (hown : s.vm.findClass own = some m.cls) {C : String} {index : Nat} (w1 : (Jvm.Cond.classLink own index C).before a0 Z = true) (w2 : (Jvm.Cond.arrayOver (.object C)).before a0 Z = true) (eT : T.heap = h) {n : Int32} {pc : Nat} (pc' : Nat) {Ls : Array Slot} {rest : List Value} (hd : decode c.code pc = .ok (.anewarray index, 3)) (hp : pc + 3 = pc') (hn : ¬ n < 0) (cap : Nat) (hcap : n.toNatClampNeg ≤ cap) (hb : cap * 8 ≤ 536870912) (hc : cells + 1 ≤ R.cells) (hl : slots + cap ≤ R.slots)
    (k : ∀ T' h' cA b, Stand p l e R s m args below meth c T' locs (cells + 1) (slots + cap) → T'.heap = h' → b = h.size → Ext h h' → Arr Z h' b (newA cA (.object C) n) (.object C) → Ovr Z cA C → own_GoE p e below EE (T'.setTop (mkF m pc' Ls (.ref b :: rest)))) : own_GoE p e below EE (T.setTop (mkF m pc Ls (.int n :: rest))) := by
  subst hp
  obtain ⟨T', h', cA, X', e', E', A', O', st⟩ := newR X hx hZ hown w1 w2 eT (g := mkF m pc Ls (.int n :: rest)) rfl hd rfl hn hcap hb hc hl
  exact own_step st (k T' h' cA _ X' e' rfl E' A' O')
theorem own_stI (X : Stand p l e R s m args below meth c T locs cells slots) (hx : p.tables.exec = Jvm.exec) {Z : State} {h : Heap} (hZ : Z.Warmed39 s.vm) (eT : T.heap = h) {a : Addr} {cl : Cell} (A : Arr Z h a cl .int) {j : Int32} {x : Int32} (hj : ¬ (j < 0 ∨ cl.slots.size ≤ j.toNatClampNeg)) {pc : Nat} (pc' : Nat) {Ls : Array Slot} {rest : List Value} (hd : decode c.code pc = .ok (.iastore, 1)) (hp : pc + 1 = pc') (k : ∀ T' h', Stand p l e R s m args below meth c T' (locs ++ [⟨a, j.toNatClampNeg⟩]) cells slots → T'.heap = h' → Wr h h' a j.toNatClampNeg (.int x) → own_GoE p e below EE (T'.setTop (mkF m pc' Ls rest))) : own_GoE p e below EE (T.setTop (mkF m pc Ls (.int x :: .int j :: .ref a :: rest))) := by
  subst hp
  obtain ⟨T', h', X', e', W', st⟩ := stI X hx hZ eT A hj (g := mkF m pc Ls (.int x :: .int j :: .ref a :: rest)) rfl rfl hd
  exact own_step st (k T' h' X' e' W')
theorem own_stC (X : Stand p l e R s m args below meth c T locs cells slots) (hx : p.tables.exec = Jvm.exec) {Z : State} {h : Heap} (hZ : Z.Warmed39 s.vm) (eT : T.heap = h) {a : Addr} {cl : Cell} (A : Arr Z h a cl .char) {j : Int32} {x : Int32} (hj : ¬ (j < 0 ∨ cl.slots.size ≤ j.toNatClampNeg)) {pc : Nat} (pc' : Nat) {Ls : Array Slot} {rest : List Value} (hd : decode c.code pc = .ok (.castore, 1)) (hp : pc + 1 = pc') (k : ∀ T' h', Stand p l e R s m args below meth c T' (locs ++ [⟨a, j.toNatClampNeg⟩]) cells slots → T'.heap = h' → Wr h h' a j.toNatClampNeg (.int (nar .char x)) → own_GoE p e below EE (T'.setTop (mkF m pc' Ls rest))) : own_GoE p e below EE (T.setTop (mkF m pc Ls (.int x :: .int j :: .ref a :: rest))) := by
  subst hp
  obtain ⟨T', h', X', e', W', st⟩ := stC X hx hZ eT A hj (g := mkF m pc Ls (.int x :: .int j :: .ref a :: rest)) rfl rfl hd
  exact own_step st (k T' h' X' e' W')
theorem own_stZ (X : Stand p l e R s m args below meth c T locs cells slots) (hx : p.tables.exec = Jvm.exec) {Z : State} {h : Heap} (hZ : Z.Warmed39 s.vm) (eT : T.heap = h) {a : Addr} {cl : Cell} (A : Arr Z h a cl .boolean) {j : Int32} {x : Int32} (hj : ¬ (j < 0 ∨ cl.slots.size ≤ j.toNatClampNeg)) {pc : Nat} (pc' : Nat) {Ls : Array Slot} {rest : List Value} (hd : decode c.code pc = .ok (.bastore, 1)) (hp : pc + 1 = pc') (k : ∀ T' h', Stand p l e R s m args below meth c T' (locs ++ [⟨a, j.toNatClampNeg⟩]) cells slots → T'.heap = h' → Wr h h' a j.toNatClampNeg (.int (nar .boolean x)) → own_GoE p e below EE (T'.setTop (mkF m pc' Ls rest))) : own_GoE p e below EE (T.setTop (mkF m pc Ls (.int x :: .int j :: .ref a :: rest))) := by
  subst hp
  obtain ⟨T', h', X', e', W', st⟩ := stZ X hx hZ eT A hj (g := mkF m pc Ls (.int x :: .int j :: .ref a :: rest)) rfl rfl hd
  exact own_step st (k T' h' X' e' W')
theorem own_stB (X : Stand p l e R s m args below meth c T locs cells slots) (hx : p.tables.exec = Jvm.exec) {Z : State} {h : Heap} (hZ : Z.Warmed39 s.vm) (eT : T.heap = h) {a : Addr} {cl : Cell} (A : Arr Z h a cl .byte) {j : Int32} {x : Int32} (hj : ¬ (j < 0 ∨ cl.slots.size ≤ j.toNatClampNeg)) {pc : Nat} (pc' : Nat) {Ls : Array Slot} {rest : List Value} (hd : decode c.code pc = .ok (.bastore, 1)) (hp : pc + 1 = pc') (k : ∀ T' h', Stand p l e R s m args below meth c T' (locs ++ [⟨a, j.toNatClampNeg⟩]) cells slots → T'.heap = h' → Wr h h' a j.toNatClampNeg (.int (nar .byte x)) → own_GoE p e below EE (T'.setTop (mkF m pc' Ls rest))) : own_GoE p e below EE (T.setTop (mkF m pc Ls (.int x :: .int j :: .ref a :: rest))) := by
  subst hp
  obtain ⟨T', h', X', e', W', st⟩ := stB X hx hZ eT A hj (g := mkF m pc Ls (.int x :: .int j :: .ref a :: rest)) rfl rfl hd
  exact own_step st (k T' h' X' e' W')
theorem own_stS (X : Stand p l e R s m args below meth c T locs cells slots) (hx : p.tables.exec = Jvm.exec) {Z : State} {h : Heap} (hZ : Z.Warmed39 s.vm) (eT : T.heap = h) {a : Addr} {cl : Cell} (A : Arr Z h a cl .short) {j : Int32} {x : Int32} (hj : ¬ (j < 0 ∨ cl.slots.size ≤ j.toNatClampNeg)) {pc : Nat} (pc' : Nat) {Ls : Array Slot} {rest : List Value} (hd : decode c.code pc = .ok (.sastore, 1)) (hp : pc + 1 = pc') (k : ∀ T' h', Stand p l e R s m args below meth c T' (locs ++ [⟨a, j.toNatClampNeg⟩]) cells slots → T'.heap = h' → Wr h h' a j.toNatClampNeg (.int (nar .short x)) → own_GoE p e below EE (T'.setTop (mkF m pc' Ls rest))) : own_GoE p e below EE (T.setTop (mkF m pc Ls (.int x :: .int j :: .ref a :: rest))) := by
  subst hp
  obtain ⟨T', h', X', e', W', st⟩ := stS X hx hZ eT A hj (g := mkF m pc Ls (.int x :: .int j :: .ref a :: rest)) rfl rfl hd
  exact own_step st (k T' h' X' e' W')
theorem own_stJ (X : Stand p l e R s m args below meth c T locs cells slots) (hx : p.tables.exec = Jvm.exec) {Z : State} {h : Heap} (hZ : Z.Warmed39 s.vm) (eT : T.heap = h) {a : Addr} {cl : Cell} (A : Arr Z h a cl .long) {j : Int32} {x : Int64} (hj : ¬ (j < 0 ∨ cl.slots.size ≤ j.toNatClampNeg)) {pc : Nat} (pc' : Nat) {Ls : Array Slot} {rest : List Value} (hd : decode c.code pc = .ok (.lastore, 1)) (hp : pc + 1 = pc') (k : ∀ T' h', Stand p l e R s m args below meth c T' (locs ++ [⟨a, j.toNatClampNeg⟩]) cells slots → T'.heap = h' → Wr h h' a j.toNatClampNeg (.long x) → own_GoE p e below EE (T'.setTop (mkF m pc' Ls rest))) : own_GoE p e below EE (T.setTop (mkF m pc Ls (.long x :: .int j :: .ref a :: rest))) := by
  subst hp
  obtain ⟨T', h', X', e', W', st⟩ := stJ X hx hZ eT A hj (g := mkF m pc Ls (.long x :: .int j :: .ref a :: rest)) rfl rfl hd
  exact own_step st (k T' h' X' e' W')
theorem own_stR (X : Stand p l e R s m args below meth c T locs cells slots) (hx : p.tables.exec = Jvm.exec) {Z : State} {h : Heap} (hZ : Z.Warmed39 s.vm) (eT : T.heap = h) {a : Addr} {cl : Cell} {ty : FieldType} (A : Arr Z h a cl ty) {j : Int32} {v : Value} (hj : ¬ (j < 0 ∨ cl.slots.size ≤ j.toNatClampNeg)) (hty : ty.isReference = true) (F : Sto Z h a v) {pc : Nat} (pc' : Nat) {Ls : Array Slot} {rest : List Value} (hd : decode c.code pc = .ok (.aastore, 1)) (hp : pc + 1 = pc') (k : ∀ T' h', Stand p l e R s m args below meth c T' (locs ++ [⟨a, j.toNatClampNeg⟩]) cells slots → T'.heap = h' → Wr h h' a j.toNatClampNeg v → own_GoE p e below EE (T'.setTop (mkF m pc' Ls rest))) : own_GoE p e below EE (T.setTop (mkF m pc Ls (v :: .int j :: .ref a :: rest))) := by
  subst hp
  obtain ⟨T', h', X', e', W', st⟩ := stR X hx hZ eT A hj hty F (g := mkF m pc Ls (v :: .int j :: .ref a :: rest)) rfl rfl hd
  exact own_step st (k T' h' X' e' W')
theorem own_iaload (X : Stand p l e R s m args below meth c T locs cells slots) (hx : p.tables.exec = Jvm.exec) {Z : State} {h : Heap} (hZ : Z.Warmed39 s.vm) (eT : T.heap = h) {a : Addr} {cl : Cell} (A : Arr Z h a cl .int) {j : Int32} {v : Value} (hj : ¬ (j < 0 ∨ cl.slots.size ≤ j.toNatClampNeg)) (hv : cl.slots[j.toNatClampNeg]? = some v) {pc : Nat} (pc' : Nat) {Ls : Array Slot} {rest : List Value} (hd : decode c.code pc = .ok (.iaload, 1)) (hp : pc + 1 = pc') (G : own_GoE p e below EE (T.setTop (mkF m pc' Ls (v :: rest)))) : own_GoE p e below EE (T.setTop (mkF m pc Ls (.int j :: .ref a :: rest))) := by
  subst hp eT
  exact own_step (X.iaload hx (j := j) (v := v) A.1 (State.isArrayOf_alike hZ.alike A.2.1) A.2.2 hj hv (g := mkF m pc Ls (.int j :: .ref a :: rest)) rfl rfl hd) G
theorem own_caload (X : Stand p l e R s m args below meth c T locs cells slots) (hx : p.tables.exec = Jvm.exec) {Z : State} {h : Heap} (hZ : Z.Warmed39 s.vm) (eT : T.heap = h) {a : Addr} {cl : Cell} (A : Arr Z h a cl .char) {j : Int32} {v : Value} (hj : ¬ (j < 0 ∨ cl.slots.size ≤ j.toNatClampNeg)) (hv : cl.slots[j.toNatClampNeg]? = some v) {pc : Nat} (pc' : Nat) {Ls : Array Slot} {rest : List Value} (hd : decode c.code pc = .ok (.caload, 1)) (hp : pc + 1 = pc') (G : own_GoE p e below EE (T.setTop (mkF m pc' Ls (v :: rest)))) : own_GoE p e below EE (T.setTop (mkF m pc Ls (.int j :: .ref a :: rest))) := by
  subst hp eT
  exact own_step (X.caload hx (j := j) (v := v) A.1 (State.isArrayOf_alike hZ.alike A.2.1) A.2.2 hj hv (g := mkF m pc Ls (.int j :: .ref a :: rest)) rfl rfl hd) G
theorem own_laload (X : Stand p l e R s m args below meth c T locs cells slots) (hx : p.tables.exec = Jvm.exec) {Z : State} {h : Heap} (hZ : Z.Warmed39 s.vm) (eT : T.heap = h) {a : Addr} {cl : Cell} (A : Arr Z h a cl .long) {j : Int32} {v : Value} (hj : ¬ (j < 0 ∨ cl.slots.size ≤ j.toNatClampNeg)) (hv : cl.slots[j.toNatClampNeg]? = some v) {pc : Nat} (pc' : Nat) {Ls : Array Slot} {rest : List Value} (hd : decode c.code pc = .ok (.laload, 1)) (hp : pc + 1 = pc') (G : own_GoE p e below EE (T.setTop (mkF m pc' Ls (v :: rest)))) : own_GoE p e below EE (T.setTop (mkF m pc Ls (.int j :: .ref a :: rest))) := by
  subst hp eT
  exact own_step (X.laload hx (j := j) (v := v) A.1 (State.isArrayOf_alike hZ.alike A.2.1) A.2.2 hj hv (g := mkF m pc Ls (.int j :: .ref a :: rest)) rfl rfl hd) G
theorem own_baloadB (X : Stand p l e R s m args below meth c T locs cells slots) (hx : p.tables.exec = Jvm.exec) {Z : State} {h : Heap} (hZ : Z.Warmed39 s.vm) (eT : T.heap = h) {a : Addr} {cl : Cell} (A : Arr Z h a cl .byte) {j : Int32} {v : Value} (hj : ¬ (j < 0 ∨ cl.slots.size ≤ j.toNatClampNeg)) (hv : cl.slots[j.toNatClampNeg]? = some v) {pc : Nat} (pc' : Nat) {Ls : Array Slot} {rest : List Value} (hd : decode c.code pc = .ok (.baload, 1)) (hp : pc + 1 = pc') (G : own_GoE p e below EE (T.setTop (mkF m pc' Ls (v :: rest)))) : own_GoE p e below EE (T.setTop (mkF m pc Ls (.int j :: .ref a :: rest))) := by
  subst hp eT
  exact own_step (X.baloadBytes hx (j := j) (v := v) A.1 (State.isArrayOf_alike hZ.alike A.2.1) A.2.2 hj hv (g := mkF m pc Ls (.int j :: .ref a :: rest)) rfl rfl hd) G
theorem own_baloadZ (X : Stand p l e R s m args below meth c T locs cells slots) (hx : p.tables.exec = Jvm.exec) {Z : State} {h : Heap} (hZ : Z.Warmed39 s.vm) (eT : T.heap = h) {a : Addr} {cl : Cell} (A : Arr Z h a cl .boolean) {j : Int32} {v : Value} (hj : ¬ (j < 0 ∨ cl.slots.size ≤ j.toNatClampNeg)) (hv : cl.slots[j.toNatClampNeg]? = some v) {pc : Nat} (pc' : Nat) {Ls : Array Slot} {rest : List Value} (hd : decode c.code pc = .ok (.baload, 1)) (hp : pc + 1 = pc') (G : own_GoE p e below EE (T.setTop (mkF m pc' Ls (v :: rest)))) : own_GoE p e below EE (T.setTop (mkF m pc Ls (.int j :: .ref a :: rest))) := by
  subst hp eT
  exact own_step (X.baloadBooleans hx (j := j) (v := v) A.1 (State.isArrayOf_alike hZ.alike A.2.1) A.2.2 hj hv (g := mkF m pc Ls (.int j :: .ref a :: rest)) rfl rfl hd) G
theorem own_aaload (X : Stand p l e R s m args below meth c T locs cells slots) (hx : p.tables.exec = Jvm.exec) {Z : State} {h : Heap} (hZ : Z.Warmed39 s.vm) (eT : T.heap = h) {a : Addr} {cl : Cell} {ty : FieldType} (hty : ty.isReference = true) (A : Arr Z h a cl ty) {j : Int32} {v : Value} (hj : ¬ (j < 0 ∨ cl.slots.size ≤ j.toNatClampNeg)) (hv : cl.slots[j.toNatClampNeg]? = some v) {pc : Nat} (pc' : Nat) {Ls : Array Slot} {rest : List Value} (hd : decode c.code pc = .ok (.aaload, 1)) (hp : pc + 1 = pc') (G : own_GoE p e below EE (T.setTop (mkF m pc' Ls (v :: rest)))) : own_GoE p e below EE (T.setTop (mkF m pc Ls (.int j :: .ref a :: rest))) := by
  subst hp eT
  exact own_step (X.aaload hx (j := j) (v := v) A.1 (State.isArrayOf_alike hZ.alike A.2.1) hty A.2.2 hj hv (g := mkF m pc Ls (.int j :: .ref a :: rest)) rfl rfl hd) G
theorem own_arraylength (X : Stand p l e R s m args below meth c T locs cells slots) (hx : p.tables.exec = Jvm.exec) {Z : State} {h : Heap} (hZ : Z.Warmed39 s.vm) (eT : T.heap = h) {a : Addr} {cl : Cell} {ty : FieldType} (A : Arr Z h a cl ty) {z : Int32} (hz : cl.slots.size = z.toNatClampNeg) (h0 : ¬ z < 0) {pc : Nat} (pc' : Nat) {Ls : Array Slot} {rest : List Value} (hd : decode c.code pc = .ok (.arraylength, 1)) (hp : pc + 1 = pc') (G : own_GoE p e below EE (T.setTop (mkF m pc' Ls (.int z :: rest)))) : own_GoE p e below EE (T.setTop (mkF m pc Ls (.ref a :: rest))) := by
  subst hp eT
  refine own_step (X.arraylength hx A.1 (State.isArrayOf_alike hZ.alike A.2.1) (g := mkF m pc Ls (.ref a :: rest)) rfl rfl hd) ?_
  rw [len_of hz h0]
  exact G
theorem own_initO (X : Stand p l e R s m args below meth c T locs cells slots) (hx : p.tables.exec = Jvm.exec) {Z : State} {a0 : Array Value} {h : Heap} (hZ : Z.Warmed39 s.vm) {own : String} (hown : s.vm.findClass own = some m.cls) {idx : Nat} (w1 : (Jvm.Cond.methodLink own idx Lib.objectInit).before a0 Z = true) (w2 : (Jvm.Cond.instanceMethod Lib.objectInit).before a0 Z = true) (w3 : (Jvm.Cond.code Lib.objectInit ⟨#[0xb1]⟩ 1 none).before a0 Z = true) (eT : T.heap = h) {a : Addr} {pc : Nat} (pc' : Nat) {Ls : Array Slot} {rest : List Value} (hsize : Ls.size = c.maxLocals) (hd : decode c.code pc = .ok (.invokespecial idx, 3)) (hp : pc + 3 = pc') (hf : 1 ≤ R.frames) (W : Nat) (hW : (rest.map fun v => v.category).sum = W) (hl : W + 12 ≤ R.locals) (k : ∀ T', Stand p l e R s m args below meth c T' locs cells slots → T'.heap = h → own_GoE p e below EE (T'.setTop (mkF m pc' Ls rest))) : own_GoE p e below EE (T.setTop (mkF m pc Ls (.ref a :: rest))) := by
  subst hp
  obtain ⟨T', X', e', st⟩ := initO X hx hZ hown w1 w2 w3 eT (g := mkF m pc Ls (.ref a :: rest)) rfl hsize rfl hd hf (W := W) (by show 2 * 0 + _ ≤ _; omega) hl
  exact own_step st (k T' X' e')
theorem own_callS (X : Stand p l e R s m args below meth c T locs cells slots) (hx : p.tables.exec = Jvm.exec) {Z : State} {a0 : Array Value} {h : Heap} (hZ : Z.Warmed39 s.vm) {own : String} (hown : s.vm.findClass own = some m.cls) {index : Nat} {y : MethodName} {bytes : ByteArray} {maxL : Nat} {ret : Option FieldType} {rm : Room} {as' : Array Value} {Q' : Option Value → Heap → List Loc → Prop} (w1 : (Jvm.Cond.methodLink own index y).before a0 Z = true) (w2 : (Jvm.Cond.static y).before a0 Z = true) (hy : y.cls ≠ "java/lang/invoke/MethodHandle" ∧ y.cls ≠ "java/lang/invoke/VarHandle") (hM : MetFree l y (head1 [Jvm.Cond.code y bytes maxL ret] rm) (fun a U => a = as' ∧ Z.Warmed39 U.vm ∧ U.heap = h) (fun _ _ _ _ _ => True) (fun _ U o U' => ∃ v L, o = .returned v ∧ Q' v U'.heap L ∧ FrameEnd U o U' L rm.cells rm.slots)) (wc : (Jvm.Cond.code y bytes maxL ret).before a0 Z = true) (wz : (Jvm.Cond.initialized y.cls).before a0 Z = true) (eT : T.heap = h) (W : Nat) (hf : rm.frames + 1 ≤ R.frames) (hl : W + (maxL + 11) + rm.locals ≤ R.locals) (hc : cells + rm.cells ≤ R.cells) (hs : slots + rm.slots ≤ R.slots) (argsL rest : List Value) (has : argsL.toArray = as') {ps : List FieldType} {rr : Option FieldType} (hpd : parseMethodDescriptor y.desc = some ⟨ps, rr⟩) (hlen : argsL.length = ps.length) {pc : Nat} (pc' : Nat) {Ls : Array Slot} {stk : List Value} (hstk : stk = argsL.reverse ++ rest) (hsize : Ls.size = c.maxLocals) (hW : (rest.map fun v => v.category).sum = W) (hd : decode c.code pc = .ok (.invokestatic index, 3)) (hp : pc + 3 = pc') (k : ∀ T' v L, Stand p l e R s m args below meth c T' (locs ++ L) (cells + rm.cells) (slots + rm.slots) → Q' v T'.heap L → own_GoE p e below EE (T'.setTop (mkF m pc' Ls (v.toList ++ rest)))) : own_GoE p e below EE (T.setTop (mkF m pc Ls stk)) := by
  subst hp hstk
  obtain ⟨v', _, ⟨T', L', k', n'⟩, -, X', ⟨Lc', hQ', l', y', z'⟩, st'⟩ := Jvm.LawKit.callS X hx (y := y) hown (mvT hZ w1) (mvT hZ w2) (mvT hZ wz) (mvT hZ wc) hy (backOf (W := W) hM hZ wc wz hf hl) (g := mkF m pc Ls (argsL.reverse ++ rest)) rfl hsize (argsL := argsL) (rest := rest) (lenOf hpd hlen) rfl (by show 2 * 0 + _ ≤ _; omega) hd (fun _ _ => ⟨has, eT, hc, hs⟩)
  dsimp only [Pt.U, Pt.locs, Pt.cells, Pt.slots] at X' l' y' z' st' hQ'
  subst l' y' z'
  exact own_step (fun t kk => st' _ kk) (k T' v' _ X' hQ')
theorem own_callI (X : Stand p l e R s m args below meth c T locs cells slots) (hx : p.tables.exec = Jvm.exec) {Z : State} {a0 : Array Value} {h : Heap} (hZ : Z.Warmed39 s.vm) {own : String} (hown : s.vm.findClass own = some m.cls) {index : Nat} {y : MethodName} {bytes : ByteArray} {maxL : Nat} {rm : Room} {as' : Array Value} {Q' : Option Value → Heap → List Loc → Prop} (hy1 : y.name = "<init>") (w1 : (Jvm.Cond.methodLink own index y).before a0 Z = true) (w2 : (Jvm.Cond.instanceMethod y).before a0 Z = true) (hy : y.cls ≠ "java/lang/invoke/MethodHandle" ∧ y.cls ≠ "java/lang/invoke/VarHandle") (hM : MetFree l y (head1 [Jvm.Cond.code y bytes maxL none] rm) (fun a U => a = as' ∧ Z.Warmed39 U.vm ∧ U.heap = h) (fun _ _ _ _ _ => True) (fun _ U o U' => ∃ v L, o = .returned v ∧ Q' v U'.heap L ∧ FrameEnd U o U' L rm.cells rm.slots)) (wc : (Jvm.Cond.code y bytes maxL none).before a0 Z = true) (wz : (Jvm.Cond.initialized y.cls).before a0 Z = true) (eT : T.heap = h) (W : Nat) (hf : rm.frames + 1 ≤ R.frames) (hl : W + (maxL + 11) + rm.locals ≤ R.locals) (hc : cells + rm.cells ≤ R.cells) (hs : slots + rm.slots ≤ R.slots) (a : Addr) (argsL rest : List Value) (has : (.ref a :: argsL).toArray = as') {ps : List FieldType} {rr : Option FieldType} (hpd : parseMethodDescriptor y.desc = some ⟨ps, rr⟩) (hlen : argsL.length = ps.length) {pc : Nat} (pc' : Nat) {Ls : Array Slot} {stk : List Value} (hstk : stk = argsL.reverse ++ .ref a :: rest) (hsize : Ls.size = c.maxLocals) (hW : (rest.map fun v => v.category).sum = W) (hd : decode c.code pc = .ok (.invokespecial index, 3)) (hp : pc + 3 = pc') (k : ∀ T' v L, Stand p l e R s m args below meth c T' (locs ++ L) (cells + rm.cells) (slots + rm.slots) → Q' v T'.heap L → own_GoE p e below EE (T'.setTop (mkF m pc' Ls (v.toList ++ rest)))) : own_GoE p e below EE (T.setTop (mkF m pc Ls stk)) := by
  subst hp hstk
  obtain ⟨v', _, ⟨T', L', k', n'⟩, -, X', ⟨Lc', hQ', l', y', z'⟩, st'⟩ := X.specialBack hx (y := y) hy1 hown (mvT hZ w1) (mvT hZ w2) (mvT hZ wc) hy (backOf (W := W) hM hZ wc wz hf hl) (g := mkF m pc Ls (argsL.reverse ++ .ref a :: rest)) rfl hsize (Steps.refl _) (a := a) (argsL := argsL) (rest := rest) (lenOf hpd hlen) rfl (by show 2 * 0 + _ ≤ _; omega) hd (fun _ _ => ⟨has, eT, hc, hs⟩)
  dsimp only [Pt.U, Pt.locs, Pt.cells, Pt.slots] at X' l' y' z' st' hQ'
  subst l' y' z'
  exact own_step (fun t kk => st'.trans kk) (k T' v' _ X' hQ')
theorem own_callV (X : Stand p l e R s m args below meth c T locs cells slots) (hx : p.tables.exec = Jvm.exec) {Z : State} {a0 : Array Value} {h : Heap} (hZ : Z.Warmed39 s.vm) {own : String} (hown : s.vm.findClass own = some m.cls) {C : String} {index : Nat} {y z : MethodName} {bytes : ByteArray} {maxL : Nat} {ret : Option FieldType} {rm : Room} {as' : Array Value} {Q' : Option Value → Heap → List Loc → Prop} (w1 : (Jvm.Cond.methodLink own index y).before a0 Z = true) (w2 : (Jvm.Cond.declares y).before a0 Z = true) (hnf : NotFace s y) (w3 : (Jvm.Cond.selects C y z).before a0 Z = true) (w4 : (Jvm.Cond.instanceMethod z).before a0 Z = true) (hy : y.cls ≠ "java/lang/invoke/MethodHandle" ∧ y.cls ≠ "java/lang/invoke/VarHandle") (hM : MetFree l z (head1 [Jvm.Cond.code z bytes maxL ret] rm) (fun a U => a = as' ∧ Z.Warmed39 U.vm ∧ U.heap = h) (fun _ _ _ _ _ => True) (fun _ U o U' => ∃ v L, o = .returned v ∧ Q' v U'.heap L ∧ FrameEnd U o U' L rm.cells rm.slots)) (wc : (Jvm.Cond.code z bytes maxL ret).before a0 Z = true) (wz : (Jvm.Cond.initialized z.cls).before a0 Z = true) (eT : T.heap = h) (W : Nat) (hf : rm.frames + 1 ≤ R.frames) (hl : W + (maxL + 11) + rm.locals ≤ R.locals) (hc : cells + rm.cells ≤ R.cells) (hs : slots + rm.slots ≤ R.slots) {a : Addr} (E : Exa Z h a C) (argsL rest : List Value) (has : (.ref a :: argsL).toArray = as') {ps : List FieldType} {rr : Option FieldType} (hpd : parseMethodDescriptor y.desc = some ⟨ps, rr⟩) (hlen : argsL.length = ps.length) {pc : Nat} (pc' : Nat) {Ls : Array Slot} {stk : List Value} (hstk : stk = argsL.reverse ++ .ref a :: rest) (hsize : Ls.size = c.maxLocals) (hW : (rest.map fun v => v.category).sum = W) (hd : decode c.code pc = .ok (.invokevirtual index, 3)) (hp : pc + 3 = pc') (k : ∀ T' v L, Stand p l e R s m args below meth c T' (locs ++ L) (cells + rm.cells) (slots + rm.slots) → Q' v T'.heap L → own_GoE p e below EE (T'.setTop (mkF m pc' Ls (v.toList ++ rest)))) : own_GoE p e below EE (T.setTop (mkF m pc Ls stk)) := by
  subst hp hstk
  obtain ⟨cq, kq, qa, qb, qc⟩ := isOf hZ eT E
  obtain ⟨v', _, ⟨T', L', k', n'⟩, -, X', ⟨Lc', hQ', l', y', z'⟩, st'⟩ := X.virtualBack hx (y := y) (z := z) hown (mvT hZ w1) (mvT hZ w2) hnf (mvT hZ w3) (mvT hZ w4) hy (backOf (W := W) hM hZ wc wz hf hl) qa qc (g := mkF m pc Ls (argsL.reverse ++ .ref a :: rest)) rfl hsize (Steps.refl _) (argsL := argsL) (rest := rest) (lenOf hpd hlen) rfl (by show 2 * 0 + _ ≤ _; omega) hd (fun _ _ => ⟨has, eT, hc, hs⟩)
  dsimp only [Pt.U, Pt.locs, Pt.cells, Pt.slots] at X' l' y' z' st' hQ'
  subst l' y' z'
  exact own_step (fun t kk => st'.trans kk) (k T' v' _ X' hQ')
theorem own_callU (X : Stand p l e R s m args below meth c T locs cells slots) (hx : p.tables.exec = Jvm.exec) {Z : State} {a0 : Array Value} {h : Heap} (hZ : Z.Warmed39 s.vm) {own : String} (hown : s.vm.findClass own = some m.cls) {C owner : String} {index : Nat} {y z : MethodName} {bytes : ByteArray} {maxL : Nat} {ret : Option FieldType} {rm : Room} {as' : Array Value} {Q' : Option Value → Heap → List Loc → Prop} (w1 : (Jvm.Cond.methodLink own index y).before a0 Z = true) (w5 : (Jvm.Cond.sameMethod y.cls owner y.name y.desc).before a0 Z = true) (w2 : (Jvm.Cond.declares ⟨owner, y.name, y.desc⟩).before a0 Z = true) (ho : owner ≠ "java/lang/invoke/MethodHandle" ∧ owner ≠ "java/lang/invoke/VarHandle") (w3 : (Jvm.Cond.selects C y z).before a0 Z = true) (w4 : (Jvm.Cond.instanceMethod z).before a0 Z = true) (hM : MetFree l z (head1 [Jvm.Cond.code z bytes maxL ret] rm) (fun a U => a = as' ∧ Z.Warmed39 U.vm ∧ U.heap = h) (fun _ _ _ _ _ => True) (fun _ U o U' => ∃ v L, o = .returned v ∧ Q' v U'.heap L ∧ FrameEnd U o U' L rm.cells rm.slots)) (wc : (Jvm.Cond.code z bytes maxL ret).before a0 Z = true) (wz : (Jvm.Cond.initialized z.cls).before a0 Z = true) (eT : T.heap = h) (W : Nat) (hf : rm.frames + 1 ≤ R.frames) (hl : W + (maxL + 11) + rm.locals ≤ R.locals) (hc : cells + rm.cells ≤ R.cells) (hs : slots + rm.slots ≤ R.slots) {a : Addr} (E : Exa Z h a C) (argsL rest : List Value) (has : (.ref a :: argsL).toArray = as') {ps : List FieldType} {rr : Option FieldType} (hpd : parseMethodDescriptor y.desc = some ⟨ps, rr⟩) (hlen : argsL.length = ps.length) {pc : Nat} (pc' : Nat) {Ls : Array Slot} {stk : List Value} (hstk : stk = argsL.reverse ++ .ref a :: rest) (hsize : Ls.size = c.maxLocals) (hW : (rest.map fun v => v.category).sum = W) (hd : decode c.code pc = .ok (.invokevirtual index, 3)) (hp : pc + 3 = pc') (k : ∀ T' v L, Stand p l e R s m args below meth c T' (locs ++ L) (cells + rm.cells) (slots + rm.slots) → Q' v T'.heap L → own_GoE p e below EE (T'.setTop (mkF m pc' Ls (v.toList ++ rest)))) : own_GoE p e below EE (T.setTop (mkF m pc Ls stk)) := by
  subst hp hstk
  obtain ⟨cq, kq, qa, qb, qc⟩ := isOf hZ eT E
  obtain ⟨v', _, ⟨T', L', k', n'⟩, -, X', ⟨Lc', hQ', l', y', z'⟩, st'⟩ := X.virtualBackUp hx (owner := owner) (x := y) (y := z) hown (mvT hZ w1) (mvT hZ w5) (mvT hZ w2) ho (mvT hZ w3) (mvT hZ w4) (backOf (W := W) hM hZ wc wz hf hl) qa qc (g := mkF m pc Ls (argsL.reverse ++ .ref a :: rest)) rfl hsize (Steps.refl _) (argsL := argsL) (rest := rest) (lenOf hpd hlen) rfl (by show 2 * 0 + _ ≤ _; omega) hd (fun _ _ => ⟨has, eT, hc, hs⟩)
  dsimp only [Pt.U, Pt.locs, Pt.cells, Pt.slots] at X' l' y' z' st' hQ'
  subst l' y' z'
  exact own_step (fun t kk => st'.trans kk) (k T' v' _ X' hQ')
theorem own_nf {C : String} {y : MethodName} {Z : State} {a0 : Array Value} (hZ : Z.Warmed39 s.vm) (w : (Jvm.Cond.selects C y y).before a0 Z = true) : NotFace s y := notFace_of_selects (args := #[]) (mvT hZ w)
theorem own_selfsel {K : String} {y y' : MethodName} (w : (Jvm.Cond.selects K y' y').before args s = true) (hK : y'.cls = y.cls) (hp : s.PrivateAt y) (hi : (Jvm.Cond.instanceMethod y).before args s = true) (hy : y.cls ≠ "java/lang/invoke/MethodHandle" ∧ y.cls ≠ "java/lang/invoke/VarHandle") : (Jvm.Cond.selects y.cls y y).before args s = true := by
  obtain ⟨c2, r2, m2, -, -, q3, -, kP, hkP, hkPi⟩ := Cond.selects_spec w
  exact selects_self_of_private (by rw [← hK]; exact findClass_of_methodNamed q3) hkP hkPi hp hi hy
theorem own_callP (X : Stand p l e R s m args below meth c T locs cells slots) (hx : p.tables.exec = Jvm.exec) {Z : State} {a0 : Array Value} {h : Heap} (hZ : Z.Warmed39 s.vm) {own : String} (hown : s.vm.findClass own = some m.cls) {C K' : String} {index : Nat} {y y' : MethodName} {bytes : ByteArray} {maxL : Nat} {ret : Option FieldType} {rm : Room} {as' : Array Value} {Q' : Option Value → Heap → List Loc → Prop} (w1 : (Jvm.Cond.methodLink own index y).before a0 Z = true) (w2 : (Jvm.Cond.instanceMethod y).before a0 Z = true) (w3 : (Jvm.Cond.selects K' y' y').before a0 Z = true) (hK : y'.cls = y.cls) (w4 : (Jvm.Cond.privateMethod y).before a0 Z = true) (hy : y.cls ≠ "java/lang/invoke/MethodHandle" ∧ y.cls ≠ "java/lang/invoke/VarHandle") (hM : MetFree l y (head1 [Jvm.Cond.code y bytes maxL ret] rm) (fun a U => a = as' ∧ Z.Warmed39 U.vm ∧ U.heap = h) (fun _ _ _ _ _ => True) (fun _ U o U' => ∃ v L, o = .returned v ∧ Q' v U'.heap L ∧ FrameEnd U o U' L rm.cells rm.slots)) (wc : (Jvm.Cond.code y bytes maxL ret).before a0 Z = true) (wz : (Jvm.Cond.initialized y.cls).before a0 Z = true) (eT : T.heap = h) (W : Nat) (hf : rm.frames + 1 ≤ R.frames) (hl : W + (maxL + 11) + rm.locals ≤ R.locals) (hc : cells + rm.cells ≤ R.cells) (hs : slots + rm.slots ≤ R.slots) {a : Addr} (E : Exa Z h a C) (argsL rest : List Value) (has : (.ref a :: argsL).toArray = as') {ps : List FieldType} {rr : Option FieldType} (hpd : parseMethodDescriptor y.desc = some ⟨ps, rr⟩) (hlen : argsL.length = ps.length) {pc : Nat} (pc' : Nat) {Ls : Array Slot} {stk : List Value} (hstk : stk = argsL.reverse ++ .ref a :: rest) (hsize : Ls.size = c.maxLocals) (hW : (rest.map fun v => v.category).sum = W) (hd : decode c.code pc = .ok (.invokevirtual index, 3)) (hp : pc + 3 = pc') (k : ∀ T' v L, Stand p l e R s m args below meth c T' (locs ++ L) (cells + rm.cells) (slots + rm.slots) → Q' v T'.heap L → own_GoE p e below EE (T'.setTop (mkF m pc' Ls (v.toList ++ rest)))) : own_GoE p e below EE (T.setTop (mkF m pc Ls stk)) := by
  subst hp hstk
  obtain ⟨cq, qa, qb⟩ := E.cell
  have hpr := Cond.privateMethod_at (mvP hZ w4 (args := args))
  obtain ⟨v', _, ⟨T', L', k', n'⟩, -, X', ⟨Lc', hQ', l', y', z'⟩, st'⟩ := X.privateBack hx (y := y) hown (mvT hZ w1) (mvT hZ w2) (own_selfsel (mvT hZ w3) hK hpr (mvT hZ w2) hy) hpr (mvT hZ wc) hy (backOf (W := W) hM hZ wc wz hf hl) (g := mkF m pc Ls (argsL.reverse ++ .ref a :: rest)) rfl hsize (Steps.refl _) (a := a) (by rw [eT]; exact qa) qb (argsL := argsL) (rest := rest) (lenOf hpd hlen) rfl (by show 2 * 0 + _ ≤ _; omega) hd (fun _ _ => ⟨has, eT, hc, hs⟩)
  dsimp only [Pt.U, Pt.locs, Pt.cells, Pt.slots] at X' l' y' z' st' hQ'
  subst l' y' z'
  exact own_step (fun t kk => st'.trans kk) (k T' v' _ X' hQ')
theorem own_cpA (X : Stand p l e R s m args below meth c T locs cells slots) (hx : p.tables.exec = Jvm.exec) {Z : State} {a0 : Array Value} {h : Heap} (hZ : Z.Warmed39 s.vm) {own : String} (hown : s.vm.findClass own = some m.cls) {index : Nat} (w1 : (Jvm.Cond.methodLink own index Jvm.Stand.acN).before a0 Z = true) (w2 : (Jvm.Cond.native Jvm.Stand.acN).before a0 Z = true) (w3 : (Jvm.Cond.static Jvm.Stand.acN).before a0 Z = true) (w4 : (Jvm.Cond.initialized "java/lang/System").before a0 Z = true) (eT : T.heap = h)
    {a b : Addr} {k k' : ClassId} {ty ty' : FieldType} {z z' sp dp nn : Int32} {vs vd : List Value} {dv dd : Value} (us : List Value) (A : Arv Z h a k ty z vs dv) (B : Arv Z h b k' ty' z' vd dd) (hty : (ty = ty' ∧ refKind ty = false) ∨ (refKind ty = true ∧ refKind ty' = true ∧ StoL Z h b us))
    (h1 : ¬ sp < 0) (h2 : ¬ dp < 0) (h3 : ¬ nn < 0) (h4 : sp.toNatClampNeg + nn.toNatClampNeg ≤ z.toNatClampNeg) (h5 : dp.toNatClampNeg + nn.toNatClampNeg ≤ z'.toNatClampNeg) (hus : us = (List.range nn.toNatClampNeg).map fun i => vs.getD (sp.toNatClampNeg + i) dv) (hl : dp.toNatClampNeg + nn.toNatClampNeg ≤ vd.length) {n0 : Nat} (Nf : Fr n0 locs) (ge : n0 ≤ b)
    {pc : Nat} (pc' : Nat) {Ls : Array Slot} {rest : List Value} (hsize : Ls.size = c.maxLocals) (hd : decode c.code pc = .ok (.invokestatic index, 3)) (hp : pc + 3 = pc') (hf : 1 ≤ R.frames) (W : Nat) (hW : (rest.map fun v => v.category).sum = W) (hlo : W + (nativeFrameWords "java/lang/System" "arraycopy" 5 + 11) ≤ R.locals)
    (kk : ∀ T' h' L, Stand p l e R s m args below meth c T' L cells slots → T'.heap = h' → Fr n0 L → Keep h h' [b] → Arv Z h' b k' ty' z' (vd.take dp.toNatClampNeg ++ us ++ vd.drop (dp.toNatClampNeg + nn.toNatClampNeg)) dd → own_GoE p e below EE (T'.setTop (mkF m pc' Ls rest))) : own_GoE p e below EE (T.setTop (mkF m pc Ls (.int nn :: .int dp :: .ref b :: .int sp :: .ref a :: rest))) := by
  subst hp
  obtain ⟨T', h', L', X', e', N', K', B', st⟩ := cpA X hx hZ hown w1 w2 w3 w4 eT A B hty h1 h2 h3 h4 h5 hus hl Nf ge (g := mkF m pc Ls (.int nn :: .int dp :: .ref b :: .int sp :: .ref a :: rest)) rfl hsize rfl hd hf (W := W) (by show 2 * 0 + _ ≤ _; omega) hlo
  exact own_step st (kk T' h' L' X' e' N' K' B')
theorem own_plainE {Z : State} {h : Heap} {a : Addr} {C : String} (E : Exa Z h a C) : ∀ cell : Cell, h[a]? = some cell → cell.vm.isStatics = false := fun cell hc => by
  obtain ⟨c', k', h1, -, -, h2, -⟩ := E
  cases h1.symm.trans hc; exact h2
theorem own_plainA {Z : State} {h : Heap} {a : Addr} {k : ClassId} {ty : FieldType} {z : Int32} {vs : List Value} {dv : Value} (V : Arv Z h a k ty z vs dv) : ∀ cell : Cell, h[a]? = some cell → cell.vm.isStatics = false := fun cell hc => by
  obtain ⟨c', A, -⟩ := V
  cases A.1.symm.trans hc; exact A.plain
theorem own_castY (X : Stand p l e R s m args below meth c T locs cells slots) (hx : p.tables.exec = Jvm.exec) {Z : State} {a0 : Array Value} {h : Heap} (hZ : Z.Warmed39 s.vm) {own : String} (hown : s.vm.findClass own = some m.cls) {K' : String} {index : Nat} (w : (Jvm.Cond.classLink own index K').before a0 Z = true) (eT : T.heap = h) {a : Addr} (F : Ins Z h a K' true) {pc : Nat} (pc' : Nat) {Ls : Array Slot} {rest : List Value} (hd : decode c.code pc = .ok (.checkcast index, 3)) (hp : pc + 3 = pc') (k : ∀ T', Stand p l e R s m args below meth c T' locs cells slots → T'.heap = h → own_GoE p e below EE (T'.setTop (mkF m pc' Ls (.ref a :: rest)))) : own_GoE p e below EE (T.setTop (mkF m pc Ls (.ref a :: rest))) := by
  subst hp
  obtain ⟨T', X', e', st⟩ := castY X hx hZ hown w eT F (g := mkF m pc Ls (.ref a :: rest)) rfl rfl hd
  exact own_step st (k T' X' e')
theorem own_instY (X : Stand p l e R s m args below meth c T locs cells slots) (hx : p.tables.exec = Jvm.exec) {Z : State} {a0 : Array Value} {h : Heap} (hZ : Z.Warmed39 s.vm) {own : String} (hown : s.vm.findClass own = some m.cls) {K' : String} {index : Nat} (w : (Jvm.Cond.classLink own index K').before a0 Z = true) (eT : T.heap = h) {a : Addr} (F : Ins Z h a K' true) {pc : Nat} (pc' : Nat) {Ls : Array Slot} {rest : List Value} (hd : decode c.code pc = .ok (.instanceof index, 3)) (hp : pc + 3 = pc') (k : ∀ T', Stand p l e R s m args below meth c T' locs cells slots → T'.heap = h → own_GoE p e below EE (T'.setTop (mkF m pc' Ls (.int 1 :: rest)))) : own_GoE p e below EE (T.setTop (mkF m pc Ls (.ref a :: rest))) := by
  subst hp
  obtain ⟨T', X', e', st⟩ := instY X hx hZ hown w eT F (g := mkF m pc Ls (.ref a :: rest)) rfl rfl hd
  exact own_step st (k T' X' e')
theorem own_instNo (X : Stand p l e R s m args below meth c T locs cells slots) (hx : p.tables.exec = Jvm.exec) {Z : State} {a0 : Array Value} {h : Heap} (hZ : Z.Warmed39 s.vm) {own : String} (hown : s.vm.findClass own = some m.cls) {K' : String} {index : Nat} (w : (Jvm.Cond.classLink own index K').before a0 Z = true) (eT : T.heap = h) {a : Addr} {C : String} (E : Exa Z h a C) (F : ∃ c t, Z.vm.findClass C = some c ∧ Z.vm.findClass K' = some t ∧ Z.vm.assignable c t = false) {pc : Nat} (pc' : Nat) {Ls : Array Slot} {rest : List Value} (hd : decode c.code pc = .ok (.instanceof index, 3)) (hp : pc + 3 = pc') (k : ∀ T', Stand p l e R s m args below meth c T' locs cells slots → T'.heap = h → own_GoE p e below EE (T'.setTop (mkF m pc' Ls (.int 0 :: rest)))) : own_GoE p e below EE (T.setTop (mkF m pc Ls (.ref a :: rest))) := by
  subst hp
  obtain ⟨T', X', e', st⟩ := instNo X hx hZ hown w eT E F (g := mkF m pc Ls (.ref a :: rest)) rfl rfl hd
  exact own_step st (k T' X' e')
theorem own_instNull (X : Stand p l e R s m args below meth c T locs cells slots) (hx : p.tables.exec = Jvm.exec) {index : Nat} {pc : Nat} (pc' : Nat) {Ls : Array Slot} {rest : List Value} (hd : decode c.code pc = .ok (.instanceof index, 3)) (hp : pc + 3 = pc') (G : own_GoE p e below EE (T.setTop (mkF m pc' Ls (.int 0 :: rest)))) : own_GoE p e below EE (T.setTop (mkF m pc Ls (.null :: rest))) := by
  subst hp
  exact own_step (X.instanceofNull hx (g := mkF m pc Ls (.null :: rest)) rfl rfl hd) G
theorem own_irr (x : Int32) : ¬ x < x := by rw [Int32.lt_iff_toInt_lt]; omega
theorem own_fldV {Z : State} {h : Heap} {a : Addr} {C n d : String} {v w : Value} (F : Fld Z h a C n d v) (q : v = w) : Fld Z h a C n d w := q ▸ F
theorem own_arvL {Z : State} {h : Heap} {a : Addr} {k : ClassId} {ty : FieldType} {z : Int32} {vs ws : List Value} {dv : Value} (F : Arv Z h a k ty z vs dv) (q : ws = vs) : Arv Z h a k ty z ws dv := q ▸ F
section Lit
open Jvm.Free.SB Jvm.Free.SBG
/-- what the library's word on a literal (empty) says, as the walk's facts -/
theorem own_slF {Z W : State} {a : Addr} {units : Array UInt16} (hu : units = #[]) (hal : Z.vm.Alike W.vm) (h : SlOf W a units) :
    ∃ (b : Addr) (kc : ClassId), Exa Z W.heap a "java/lang/String" ∧ Fld Z W.heap a "java/lang/String" "coder" "B" (.int 0) ∧ Fld Z W.heap a "java/lang/String" "value" "[B" (.ref b) ∧ Arv Z W.heap b kc .byte 0 [] (.int 0) := by
  obtain ⟨⟨sa, sC, fSV, fSC, sd, SA, len⟩, cS, rfl, ⟨⟨c1, c2, c3, ⟨_, _, _, v1, v2⟩, ⟨_, _, _, w1, w2⟩, c6, c7, c8, c9, d1, ⟨d2, kb, d3, comp, d4⟩, d5, -⟩, f1, rfl⟩, ⟨kS, g1, -, g2⟩, -, hsl⟩ := h
  subst hu
  have hsz : SA.slots.size = 0 := by
    have q := congrArg Array.size hsl
    simpa [stringBytes] using q
  obtain ⟨kv, zv⟩ := ff_back hal v1
  obtain ⟨kc, zc⟩ := ff_back hal w1
  have hfZ : Z.vm.findClass "java/lang/String" = some sC.cls := by rw [← hal.findClass]; exact f1
  obtain ⟨kz, hkz, -⟩ := Vm.findClass_spec hfZ
  obtain ⟨kz', hkz', ekz⟩ := hal.2.2 _ _ hkz
  have ekS : kz' = kS := Option.some.inj (hkz'.symm.trans g1)
  have hb : ∃ kb0 : Class, Z.vm.classes[SA.cls]? = some kb0 ∧ kb0.kind = kb.kind := by
    cases hq : Z.vm.classes[SA.cls]? with
    | some kb0 =>
      obtain ⟨kb1, e1, e2⟩ := hal.2.2 _ _ hq
      cases e1.symm.trans d3
      exact ⟨kb0, rfl, by rw [e2]⟩
    | none =>
      have l1 : SA.cls < W.vm.classes.size := (Array.getElem?_eq_some_iff.mp d3).1
      have l2 : Z.vm.classes.size ≤ SA.cls := Array.getElem?_eq_none_iff.mp hq
      have l3 : W.vm.classes.size = Z.vm.classes.size := hal.2.1
      exact absurd l1 (by rw [l3]; exact Nat.not_lt.mpr l2)
  obtain ⟨kb0, hb1, hb2⟩ := hb
  refine ⟨sd, SA.cls, ⟨sC, kz, c1, hfZ, hkz, c3, fun _ => by rw [g2, ← ekS, ekz]⟩, ⟨sC, _, kc, _, fSC, c1, zc, c7, c2, c3, by rw [← hal.assignable]; exact w2, c9⟩, ⟨sC, _, kv, _, fSV, c1, zv, c6, c2, c3, by rw [← hal.assignable]; exact v2, c8⟩,
    ⟨SA, ⟨d1, ⟨d2, kb0, hb1, comp, by rw [hb2]; exact d4⟩, d5⟩, rfl, by rw [hsz]; rfl, by decide, fun j hj => ?_, fun j hj => ?_⟩⟩
  · rw [hsz] at hj; exact absurd hj (Nat.not_lt_zero _)
  · rw [hsz] at hj; exact absurd hj (Nat.not_lt_zero _)
theorem own_find {A : Array (Array UInt16 × Addr)} {u : Array UInt16} {x : Array UInt16 × Addr} (h : A.find? (fun p => p.1 == u) = some x) : x.1 = u := by
  have := Array.find?_some h
  simpa using this
/-- ldc_w of the literal "": the String is known -/
theorem own_ldcW0 {p : Program} {l : Launch} {e : Env} {R : Room} {s : State} {m : MethodId} {args : Array Value} {below : List Frame} {meth : Method} {c : Code} {T : State} {locs : List Loc} {cells slots : Nat}
    (X : Stand p l e R s m args below meth c T locs cells slots) (hold : ∀ (b : Addr) (cl : Cell), s.heap[b]? = some cl → T.heap[b]? = some cl) (hexec : p.tables.exec = Jvm.exec) {own : String} {index : Nat} (hown : s.vm.findClass own = some m.cls)
    (hlink : (Jvm.Cond.stringLink own index "").before args s = true) (hS : ∀ a ∈ Bundle.stringAtoms, a.before args s = true) (hheld : ConstHeldL s own index)
    {g : JFrame} (hg : g.method = m) (hdg : decode c.code g.pc = .ok (.ldc_w index, 3)) (hRcells : cells + 2 ≤ R.cells) (hRslots : slots + 4 ≤ R.slots) :
    ∃ (a : Addr) (T₂ : State), Stand p l e R (s.setVm T₂.vm) m args below meth c T₂ locs (cells + 2) (slots + 4) ∧ s.Since T₂.vm T₂.heap.size ∧ (∀ a0, a0 < T.heap.size → T₂.heap[a0]? = T.heap[a0]?) ∧ SlOf T₂ a #[] ∧
      ∀ target, Steps p.tables e below (T₂.setTop { g with pc := g.pc + 3, stack := .ref a :: g.stack }) target → Steps p.tables e below (T.setTop g) target := by
  obtain ⟨k, cf, i, units, hk, hcf, hc, hu, hnm, hdec, hres⟩ := Cond.stringLink_spec hown hlink
  have hu0 : units = #[] := by
    have q := Jvm.ClassFile.units_of_text hdec (fun _ q => by simp at q)
    exact Array.toList_inj.mp (by simpa using q)
  subst hu0
  have hTi : T.vm.interned = s.vm.interned := X.warmed.interned_eq
  -- the entry, in any tables that are warmer: as it was, or named and found
  have later : ∀ vm', s.Warmed39 vm' → ∀ (k' : Class), vm'.classes[m.cls]? = some k' → k'.resolved[index]? = k.resolved[index]? ∨ ∃ a, k.resolved[index]? = some none ∧ k'.resolved[index]? = some (some (.string a)) ∧ vm'.interned.find? (fun p => p.1 == #[]) = some (#[], a) := by
    intro vm' hW k' hk'
    obtain ⟨k'', hk'', -, -, ee, -⟩ := hW.2.2.2 _ k hk
    cases hk'.symm.trans hk''
    rcases ee index with e0 | ⟨hop, r, e1, hr | ⟨a, t, si, us, rfl, -, q3, q4, q5⟩⟩
    · exact Or.inl e0
    · exfalso
      cases r <;> simp [State.rightAt, hk, hcf, hnm] at hr
    · rw [hcf] at q3 q4
      have e3 : si = i := by
        have := q3.symm.trans hc
        simpa using this
      subst e3
      have e4 : us = #[] := by simpa [ConstantPool.utf8?, hu] using q4.symm
      subst e4
      exact Or.inr ⟨a, hop, e1, q5⟩
  -- one who stood there already
  have old : ∀ a0, ((k.resolved[index]? = some (some (.string a0))) ∨ (k.resolved[index]? = some none ∧ s.vm.interned.find? (fun p => p.1 == #[]) = some (#[], a0))) →
      ∃ (a : Addr) (T₂ : State), Stand p l e R (s.setVm T₂.vm) m args below meth c T₂ locs (cells + 2) (slots + 4) ∧ s.Since T₂.vm T₂.heap.size ∧ (∀ a0, a0 < T.heap.size → T₂.heap[a0]? = T.heap[a0]?) ∧ SlOf T₂ a #[] ∧
        ∀ target, Steps p.tables e below (T₂.setTop { g with pc := g.pc + 3, stack := .ref a :: g.stack }) target → Steps p.tables e below (T.setTop g) target := by
    intro a0 hor
    obtain ⟨a, T₂, X₂, hSi, ⟨k₂, hk₂, hr₂⟩, hb, hI, st⟩ := X.ldcWStringCold hexec hown hlink hS hg hdg (n := 0) (by simp) (by decide) hRcells hRslots
    have ha : a = a0 := by
      rcases later _ hSi.1 k₂ hk₂ with q | ⟨a', q1, q2, q3⟩
      · rw [hr₂] at q
        rcases hor with h0 | ⟨h0, -⟩
        · rw [h0] at q; cases q; rfl
        · rw [h0] at q; cases q
      · rw [hr₂] at q2
        cases q2
        rcases hor with h0 | ⟨-, h0⟩
        · rw [h0] at q1; cases q1
        · have hpre : ∃ more, T₂.vm.interned = s.vm.interned ++ more := hSi.1.2.2.1
          obtain ⟨more, hm⟩ := hpre
          rw [hm, Array.find?_append, h0] at q3
          cases q3; rfl
    subst ha
    have hsl : SlOf s a #[] := hheld _ k cf i #[] a hown hk hcf hc hu hor
    refine ⟨a, T₂, X₂, hSi, hb, hsl.moved hSi.1.alike (fun b cl q => ?_), st⟩
    have q' := hold b cl q
    rw [hb b (Array.getElem?_eq_some_iff.mp q').1]; exact q'
  rcases hres with hopen | ⟨a0, hr0⟩
  rotate_left
  · exact old a0 (Or.inl hr0)
  cases hf : s.vm.interned.find? (fun p => p.1 == #[]) with
  | some x =>
    obtain ⟨u, a0⟩ := x
    have := own_find hf
    dsimp only at this
    subst this
    exact old a0 (Or.inr ⟨hopen, hf⟩)
  | none =>
    -- she is made
    obtain ⟨k', hk', he⟩ := X.warmed.alike.2.2 _ _ hk
    have hcf' : k'.cf = some cf := by rw [he]; exact hcf
    have hfT : T.vm.interned.find? (fun p => p.1 == #[]) = none := by rw [hTi]; exact hf
    have hopen' : k'.resolved[index]? = some none := by
      rcases later _ X.warmed.wide k' hk' with q | ⟨a', -, -, q⟩
      · exact q.trans hopen
      · rw [hfT] at q; cases q
    subst hg
    obtain ⟨Zs, LZs, hn4, hfitv, hfitc⟩ := StringT.of_atoms (args := args) hS
    obtain ⟨kS', kB', LZ', htyS⟩ := LZs.warmer X.warmed.alike
    have hfs : T.fitsSlot = s.fitsSlot := (show T.fitsSlot = (s.setVm T.vm).fitsSlot from rfl).trans (State.fitsSlot_setVm X.warmed.alike)
    have hfound : (T.vm.interned.push ((#[] : Array UInt16), T.heap.size + 1)).find? (fun p => p.1 == #[]) = some (#[], T.heap.size + 1) := by
      rw [Array.find?_push, hfT]; simp
    have hW : s.Warmed39 (({ T.vm with interned := T.vm.interned.push (#[], T.heap.size + 1) } : Vm).noted g.method.cls index (.string (T.heap.size + 1))) :=
      (X.warmed.wide.interns #[] (T.heap.size + 1)).notedString hk (Or.inl hopen) (by rw [hcf]; exact hnm) (by rw [hcf]; exact hc) (by rw [hcf]; simp [ConstantPool.utf8?, hu]) hfound
    have X2 := (X.pushed (bytesOf Zs.cB #[])).pushed (stringAt Zs.cS kS' Zs.fv Zs.fc #[] T.heap.size)
    rw [← withString_eq] at X2
    have b1 : (bytesOf Zs.cB #[]).slots.size = 0 := by
      rw [(Cell.writeAll_facts _ _).2.2]; simp [bytes0, stringBytes]
    have b2 : (stringAt Zs.cS kS' Zs.fv Zs.fc #[] T.heap.size).slots.size = 4 := by simp [string0, Cell.setSlot, htyS, hn4]
    have hh2 : (withString T Zs.cB Zs.cS kS' Zs.fv Zs.fc #[]).heap = (T.heap.push (bytesOf Zs.cB #[])).push (stringAt Zs.cS kS' Zs.fv Zs.fc #[] T.heap.size) := by rw [withString_eq]; rfl
    have hsz : (withString T Zs.cB Zs.cS kS' Zs.fv Zs.fc #[]).heap.size = T.heap.size + 2 := by rw [hh2, Array.size_push, Array.size_push]
    refine ⟨T.heap.size + 1, (withString T Zs.cB Zs.cS kS' Zs.fv Zs.fc #[]).setVm (({ T.vm with interned := T.vm.interned.push (#[], T.heap.size + 1) } : Vm).noted g.method.cls index (.string (T.heap.size + 1))),
      (X2.mono (by omega) (by rw [b1, b2]; omega)).retabled hW,
      ⟨hW, State.Booked.step (X.warmed.no_new_pair _) X.same.2.1 ⟨by show T.heap.size ≤ (withString T Zs.cB Zs.cS kS' Zs.fv Zs.fc #[]).heap.size; omega, Or.inr ⟨#[], T.heap.size + 1, rfl, by omega, by show T.heap.size + 1 < (withString T Zs.cB Zs.cS kS' Zs.fv Zs.fc #[]).heap.size; omega⟩⟩⟩, ?_, ?_, fun target hrest => ?_⟩
    · intro a0 h0
      show (withString T Zs.cB Zs.cS kS' Zs.fv Zs.fc #[]).heap[a0]? = _
      rw [hh2, Array.getElem?_push, if_neg (by rw [Array.size_push]; omega), Array.getElem?_push, if_neg (by omega)]
    · obtain ⟨q, cS, r1, r2, r3, r4, r5, -⟩ := made_sl hS LZs hn4 htyS hW.alike (W := (withString T Zs.cB Zs.cS kS' Zs.fv Zs.fc #[]).setVm (({ T.vm with interned := T.vm.interned.push (#[], T.heap.size + 1) } : Vm).noted g.method.cls index (.string (T.heap.size + 1)))) (n := T.heap.size) (units := #[])
        (by show (withString T Zs.cB Zs.cS kS' Zs.fv Zs.fc #[]).heap[T.heap.size]? = _
            rw [hh2, Array.getElem?_push, if_neg (by rw [Array.size_push]; omega), Array.getElem?_push, if_pos rfl])
        (by show (withString T Zs.cB Zs.cS kS' Zs.fv Zs.fc #[]).heap[T.heap.size + 1]? = _
            rw [hh2, Array.getElem?_push, if_pos (by rw [Array.size_push])]) (by simp) (by simp [stringBytes]) 0
      exact ⟨q, cS, r1, r2, r3, r4, r5⟩
    · refine Steps.instr (c := _) (by simpa using X.here) ?_
      simp [jvm, wpRun, exec, X.here.top, hexec, hdg]
      refine ldc_w.wp_string_new (e := e) (s := T) (f := g) X.here.top hk' hcf' hc hu hopen' hfT LZ'.found LZ'.cls LZ'.initialized LZ'.ordinary LZ'.foundB LZ'.clsB LZ'.kindB LZ'.value LZ'.coder (by simp [stringBytes]) (by simp [stringBytes]) (X.cellsAbove hRcells) ?_
        (stringBytes_fit LZ'.clsB LZ'.kindB #[]) LZ'.valueSlot LZ'.coderSlot (by rw [hfs]; exact hfitv _) (by rw [hfs]; exact hfitc _) (fun d' acts' acts'' => ?_)
      · have := X.slotsAbove hRslots
        show T.slotsUsed + (stringBytes #[]).size + kS'.instanceTypes.size ≤ _
        rw [htyS, hn4, show (stringBytes #[]).size = 0 by simp [stringBytes]]; omega
      · have hs' : (withString T Zs.cB Zs.cS kS' Zs.fv Zs.fc #[]).topJava?.isSome := by simpa [withString] using X.here.top
        simp [jvm, afterInstr, hs']
        rw [State.modifyTopJava_setTop]
        exact hrest
end Lit
def own_LD (Z : State) (vm : Vm) (h : Heap) : Prop := IB Z vm []
theorem own_LD.keep {Z : State} {vm : Vm} {h h' : Heap} (D : own_LD Z vm h) (Kp : Keep h h' []) : own_LD Z vm h' := D
theorem own_LD.warm {Z s : State} {vm vm1 : Vm} {h : Heap} (D : own_LD Z vm h) (hW : (s.setVm vm).WarmedH vm1) : own_LD Z vm1 h := by
  have q : vm1.interned = vm.interned := hW.interned_eq
  unfold own_LD IB at D ⊢
  rw [q]
  exact D
theorem own_backS {y : MethodName} {bytes : ByteArray} {maxL : Nat} {ret : Option FieldType} {rm : Room} {len W : Nat} {as' : Array Value} {Q' : Option Value → Heap → List Loc → Prop} {Z : State} {a0 : Array Value} {h : Heap} {vm0 : Vm}
    (hM : MetFree l y (head1 [Jvm.Cond.code y bytes maxL ret] rm) (fun a U => a = as' ∧ Z.Warmed39 U.vm ∧ U.heap = h ∧ own_LD Z U.vm h) (fun _ _ _ _ _ => True) (fun _ U o U' => ∃ v L, o = .returned v ∧ (Q' v U'.heap L ∧ True) ∧ ReturnedEndW U o U' L rm.cells rm.slots))
    (hZ : Z.Warmed39 (s.setVm vm0).vm) (wc : (Jvm.Cond.code y bytes maxL ret).before a0 Z = true) (wz : (Jvm.Cond.initialized y.cls).before a0 Z = true) (D : own_LD Z vm0 h) (hf : rm.frames + 1 ≤ R.frames) (hl : W + (maxL + 11) + rm.locals ≤ R.locals) :
    BackS l R p e below (s.setVm vm0) args y len W (fun A a => a = as' ∧ A.U.heap = h ∧ A.cells + rm.cells ≤ R.cells ∧ A.slots + rm.slots ≤ R.slots)
      (fun A _ v B => ∃ L, (Q' v B.U.heap L ∧ True) ∧ B.locs = A.locs ++ L ∧ B.cells = A.cells + rm.cells ∧ B.slots = A.slots + rm.slots) :=
  BackS.of_freeW (bytes := bytes) (maxL := maxL) (ret := ret) (E := fun _ _ o t L k n => k = rm.cells ∧ n = rm.slots ∧ ∃ v, o = .returned v ∧ Q' v t.heap L ∧ True) hM hf hl
    (fun m meth c A a Y hp => have hU : Z.Warmed39 A.U.vm := wtrans hZ Y.warmed
      ⟨by show (Jvm.Cond.and _ .tt).before a A.U = true; rw [Cond.before_and, mv hU wc]; rfl, mv hU wc, mv hU wz, hp.2.2.1, hp.2.2.2⟩)
    (fun m meth c A a g mk Y hp => ⟨hp.1, wtrans hZ Y.warmed, hp.2.1, D.warm Y.warmed⟩) (fun _ _ _ _ _ _ _ _ _ => trivial)
    (fun _ _ _ _ ⟨v, L, h1, h2, h3⟩ => ⟨L, _, _, h3, rfl, rfl, v, h1, h2⟩)
    (fun m meth c A a g mk v t L k n Y hp _ _ ⟨e1, e2, v', e3, e4⟩ => by cases e3; subst e1 e2; exact ⟨L, e4, rfl, rfl, rfl⟩)
theorem own_callSW {vm0 : Vm} (X : Stand p l e R (s.setVm vm0) m args below meth c T locs cells slots) (hx : p.tables.exec = Jvm.exec) {Z : State} {a0 : Array Value} {h : Heap} (hZ : Z.Warmed39 (s.setVm vm0).vm) {own : String} (hown : (s.setVm vm0).vm.findClass own = some m.cls) {index : Nat} {y : MethodName} {bytes : ByteArray} {maxL : Nat} {ret : Option FieldType} {rm : Room} {as' : Array Value} {Q' : Option Value → Heap → List Loc → Prop} (w1 : (Jvm.Cond.methodLink own index y).before a0 Z = true) (w2 : (Jvm.Cond.static y).before a0 Z = true) (hy : y.cls ≠ "java/lang/invoke/MethodHandle" ∧ y.cls ≠ "java/lang/invoke/VarHandle") (hM : MetFree l y (head1 [Jvm.Cond.code y bytes maxL ret] rm) (fun a U => a = as' ∧ Z.Warmed39 U.vm ∧ U.heap = h ∧ own_LD Z U.vm h) (fun _ _ _ _ _ => True) (fun _ U o U' => ∃ v L, o = .returned v ∧ (Q' v U'.heap L ∧ True) ∧ ReturnedEndW U o U' L rm.cells rm.slots)) (wc : (Jvm.Cond.code y bytes maxL ret).before a0 Z = true) (wz : (Jvm.Cond.initialized y.cls).before a0 Z = true) (eT : T.heap = h) (D : own_LD Z vm0 h) {k0 : Nat} (hS : s.Since vm0 k0) (hSk : k0 ≤ h.size) (W : Nat) (hf : rm.frames + 1 ≤ R.frames) (hl : W + (maxL + 11) + rm.locals ≤ R.locals) (hc : cells + rm.cells ≤ R.cells) (hs : slots + rm.slots ≤ R.slots) (argsL rest : List Value) (has : argsL.toArray = as') {ps : List FieldType} {rr : Option FieldType} (hpd : parseMethodDescriptor y.desc = some ⟨ps, rr⟩) (hlen : argsL.length = ps.length) {pc : Nat} (pc' : Nat) {Ls : Array Slot} {stk : List Value} (hstk : stk = argsL.reverse ++ rest) (hsize : Ls.size = c.maxLocals) (hW : (rest.map fun v => v.category).sum = W) (hd : decode c.code pc = .ok (.invokestatic index, 3)) (hp : pc + 3 = pc') (k : ∀ T' v L, Stand p l e R (s.setVm T'.vm) m args below meth c T' (locs ++ L) (cells + rm.cells) (slots + rm.slots) → s.Since T'.vm T'.heap.size → Z.Warmed39 (s.setVm T'.vm).vm → (s.setVm T'.vm).vm.findClass own = some m.cls → Q' v T'.heap L → True → own_GoE p e below EE (T'.setTop (mkF m pc' Ls (v.toList ++ rest)))) : own_GoE p e below EE (T.setTop (mkF m pc Ls stk)) := by
  subst hp hstk
  obtain ⟨v', _, ⟨T', L', k', n'⟩, -, X', h2', hg', ⟨Lc', ⟨hQ', hD'⟩, l', y', z'⟩, st'⟩ := callSS X hx (y := y) hown (mvT hZ w1) (mvT hZ w2) (mvT hZ wz) (mvT hZ wc) hy (own_backS (W := W) hM hZ wc wz D hf hl) (g := mkF m pc Ls (argsL.reverse ++ rest)) rfl hsize (argsL := argsL) (rest := rest) (lenOf hpd hlen) rfl (by show 2 * 0 + _ ≤ _; omega) hd (fun _ _ => ⟨has, eT, hc, hs⟩)
  dsimp only [Pt.U, Pt.locs, Pt.cells, Pt.slots] at X' l' y' z' st' hQ' hD' h2' hg'
  subst l' y' z'
  obtain ⟨X2, hS2, hZ2, hown2⟩ := rebS hS (show k0 ≤ T.heap.size by rw [eT]; exact hSk) X' h2' hg' hZ hown
  exact own_step (fun t kk => st'.trans kk) (k T' v' _ X2 hS2 hZ2 hown2 hQ' hD')
theorem own_callIW {vm0 : Vm} (X : Stand p l e R (s.setVm vm0) m args below meth c T locs cells slots) (hx : p.tables.exec = Jvm.exec) {Z : State} {a0 : Array Value} {h : Heap} (hZ : Z.Warmed39 (s.setVm vm0).vm) {own : String} (hown : (s.setVm vm0).vm.findClass own = some m.cls) {index : Nat} {y : MethodName} {bytes : ByteArray} {maxL : Nat} {rm : Room} {as' : Array Value} {Q' : Option Value → Heap → List Loc → Prop} (hy1 : y.name = "<init>") (w1 : (Jvm.Cond.methodLink own index y).before a0 Z = true) (w2 : (Jvm.Cond.instanceMethod y).before a0 Z = true) (hy : y.cls ≠ "java/lang/invoke/MethodHandle" ∧ y.cls ≠ "java/lang/invoke/VarHandle") (hM : MetFree l y (head1 [Jvm.Cond.code y bytes maxL none] rm) (fun a U => a = as' ∧ Z.Warmed39 U.vm ∧ U.heap = h ∧ own_LD Z U.vm h) (fun _ _ _ _ _ => True) (fun _ U o U' => ∃ v L, o = .returned v ∧ (Q' v U'.heap L ∧ True) ∧ ReturnedEndW U o U' L rm.cells rm.slots)) (wc : (Jvm.Cond.code y bytes maxL none).before a0 Z = true) (wz : (Jvm.Cond.initialized y.cls).before a0 Z = true) (eT : T.heap = h) (D : own_LD Z vm0 h) {k0 : Nat} (hS : s.Since vm0 k0) (hSk : k0 ≤ h.size) (W : Nat) (hf : rm.frames + 1 ≤ R.frames) (hl : W + (maxL + 11) + rm.locals ≤ R.locals) (hc : cells + rm.cells ≤ R.cells) (hs : slots + rm.slots ≤ R.slots) (a : Addr) (argsL rest : List Value) (has : (.ref a :: argsL).toArray = as') {ps : List FieldType} {rr : Option FieldType} (hpd : parseMethodDescriptor y.desc = some ⟨ps, rr⟩) (hlen : argsL.length = ps.length) {pc : Nat} (pc' : Nat) {Ls : Array Slot} {stk : List Value} (hstk : stk = argsL.reverse ++ .ref a :: rest) (hsize : Ls.size = c.maxLocals) (hW : (rest.map fun v => v.category).sum = W) (hd : decode c.code pc = .ok (.invokespecial index, 3)) (hp : pc + 3 = pc') (k : ∀ T' v L, Stand p l e R (s.setVm T'.vm) m args below meth c T' (locs ++ L) (cells + rm.cells) (slots + rm.slots) → s.Since T'.vm T'.heap.size → Z.Warmed39 (s.setVm T'.vm).vm → (s.setVm T'.vm).vm.findClass own = some m.cls → Q' v T'.heap L → True → own_GoE p e below EE (T'.setTop (mkF m pc' Ls (v.toList ++ rest)))) : own_GoE p e below EE (T.setTop (mkF m pc Ls stk)) := by
  subst hp hstk
  obtain ⟨v', _, ⟨T', L', k', n'⟩, -, X', h2', hg', ⟨Lc', ⟨hQ', hD'⟩, l', y', z'⟩, st'⟩ := X.specialBackS hx (y := y) hy1 hown (mvT hZ w1) (mvT hZ w2) (mvT hZ wc) hy (own_backS (W := W) hM hZ wc wz D hf hl) (g := mkF m pc Ls (argsL.reverse ++ .ref a :: rest)) rfl hsize (Steps.refl _) (a := a) (argsL := argsL) (rest := rest) (lenOf hpd hlen) rfl (by show 2 * 0 + _ ≤ _; omega) hd (fun _ _ => ⟨has, eT, hc, hs⟩)
  dsimp only [Pt.U, Pt.locs, Pt.cells, Pt.slots] at X' l' y' z' st' hQ' hD' h2' hg'
  subst l' y' z'
  obtain ⟨X2, hS2, hZ2, hown2⟩ := rebS hS (show k0 ≤ T.heap.size by rw [eT]; exact hSk) X' h2' hg' hZ hown
  exact own_step (fun t kk => st'.trans kk) (k T' v' _ X2 hS2 hZ2 hown2 hQ' hD')
theorem own_callVW {vm0 : Vm} (X : Stand p l e R (s.setVm vm0) m args below meth c T locs cells slots) (hx : p.tables.exec = Jvm.exec) {Z : State} {a0 : Array Value} {h : Heap} (hZ : Z.Warmed39 (s.setVm vm0).vm) {own : String} (hown : (s.setVm vm0).vm.findClass own = some m.cls) {C : String} {index : Nat} {y z : MethodName} {bytes : ByteArray} {maxL : Nat} {ret : Option FieldType} {rm : Room} {as' : Array Value} {Q' : Option Value → Heap → List Loc → Prop} (w1 : (Jvm.Cond.methodLink own index y).before a0 Z = true) (w2 : (Jvm.Cond.declares y).before a0 Z = true) (hnf : NotFace (s.setVm vm0) y) (w3 : (Jvm.Cond.selects C y z).before a0 Z = true) (w4 : (Jvm.Cond.instanceMethod z).before a0 Z = true) (hy : y.cls ≠ "java/lang/invoke/MethodHandle" ∧ y.cls ≠ "java/lang/invoke/VarHandle") (hM : MetFree l z (head1 [Jvm.Cond.code z bytes maxL ret] rm) (fun a U => a = as' ∧ Z.Warmed39 U.vm ∧ U.heap = h ∧ own_LD Z U.vm h) (fun _ _ _ _ _ => True) (fun _ U o U' => ∃ v L, o = .returned v ∧ (Q' v U'.heap L ∧ True) ∧ ReturnedEndW U o U' L rm.cells rm.slots)) (wc : (Jvm.Cond.code z bytes maxL ret).before a0 Z = true) (wz : (Jvm.Cond.initialized z.cls).before a0 Z = true) (eT : T.heap = h) (D : own_LD Z vm0 h) {k0 : Nat} (hS : s.Since vm0 k0) (hSk : k0 ≤ h.size) (W : Nat) (hf : rm.frames + 1 ≤ R.frames) (hl : W + (maxL + 11) + rm.locals ≤ R.locals) (hc : cells + rm.cells ≤ R.cells) (hs : slots + rm.slots ≤ R.slots) {a : Addr} (E : Exa Z h a C) (argsL rest : List Value) (has : (.ref a :: argsL).toArray = as') {ps : List FieldType} {rr : Option FieldType} (hpd : parseMethodDescriptor y.desc = some ⟨ps, rr⟩) (hlen : argsL.length = ps.length) {pc : Nat} (pc' : Nat) {Ls : Array Slot} {stk : List Value} (hstk : stk = argsL.reverse ++ .ref a :: rest) (hsize : Ls.size = c.maxLocals) (hW : (rest.map fun v => v.category).sum = W) (hd : decode c.code pc = .ok (.invokevirtual index, 3)) (hp : pc + 3 = pc') (k : ∀ T' v L, Stand p l e R (s.setVm T'.vm) m args below meth c T' (locs ++ L) (cells + rm.cells) (slots + rm.slots) → s.Since T'.vm T'.heap.size → Z.Warmed39 (s.setVm T'.vm).vm → (s.setVm T'.vm).vm.findClass own = some m.cls → Q' v T'.heap L → True → own_GoE p e below EE (T'.setTop (mkF m pc' Ls (v.toList ++ rest)))) : own_GoE p e below EE (T.setTop (mkF m pc Ls stk)) := by
  subst hp hstk
  obtain ⟨cq, kq, qa, qb, qc⟩ := isOf hZ eT E
  obtain ⟨v', _, ⟨T', L', k', n'⟩, -, X', h2', hg', ⟨Lc', ⟨hQ', hD'⟩, l', y', z'⟩, st'⟩ := X.virtualBackS hx (y := y) (z := z) hown (mvT hZ w1) (mvT hZ w2) hnf (mvT hZ w3) (mvT hZ w4) hy (own_backS (W := W) hM hZ wc wz D hf hl) qa qc (g := mkF m pc Ls (argsL.reverse ++ .ref a :: rest)) rfl hsize (Steps.refl _) (argsL := argsL) (rest := rest) (lenOf hpd hlen) rfl (by show 2 * 0 + _ ≤ _; omega) hd (fun _ _ => ⟨has, eT, hc, hs⟩)
  dsimp only [Pt.U, Pt.locs, Pt.cells, Pt.slots] at X' l' y' z' st' hQ' hD' h2' hg'
  subst l' y' z'
  obtain ⟨X2, hS2, hZ2, hown2⟩ := rebS hS (show k0 ≤ T.heap.size by rw [eT]; exact hSk) X' h2' hg' hZ hown
  exact own_step (fun t kk => st'.trans kk) (k T' v' _ X2 hS2 hZ2 hown2 hQ' hD')
theorem own_ldcL {vm0 : Vm} (X : Stand p l e R (s.setVm vm0) m args below meth c T locs cells slots) (hx : p.tables.exec = Jvm.exec) {Z : State} {a0 : Array Value} {h : Heap} (hZ : Z.Warmed39 (s.setVm vm0).vm) {own : String} {index : Nat} (hown : (s.setVm vm0).vm.findClass own = some m.cls) (w : (Jvm.Cond.stringLink own index "").before a0 Z = true) (wS : ∀ a ∈ Bundle.stringAtoms, a.before a0 Z = true) (eT : T.heap = h) {k0 : Nat} (hS : s.Since vm0 k0) (hSk : k0 ≤ h.size) (N0 : Fr s.heap.size locs) (hkeep : ∀ (b : Addr) (cl : Cell), Z.heap[b]? = some cl → s.heap[b]? = some cl)
    (D : own_LD Z vm0 h) (hh : Jvm.Lit.constHeld Z own index) (hcw : Jvm.Lit.compactW.before a0 Z = true) {pc : Nat} (pc' : Nat) {Ls : Array Slot} {rest : List Value} (hd : decode c.code pc = .ok (.ldc index, 2)) (hp : pc + 2 = pc') (hc : cells + 2 ≤ R.cells) (hl : slots + 4 ≤ R.slots)
    (k : ∀ T' h' vm1 k1 a b kb, Stand p l e R (s.setVm vm1) m args below meth c T' locs (cells + 2) (slots + 4) → T'.heap = h' → Ext h h' → s.Since vm1 k1 → k1 ≤ h'.size → Z.Warmed39 (s.setVm vm1).vm → (s.setVm vm1).vm.findClass own = some m.cls → Exa Z h' a "java/lang/String" → Fld Z h' a "java/lang/String" "coder" "B" (.int 0) → Fld Z h' a "java/lang/String" "value" "[B" (.ref b) → Arv Z h' b kb .byte 0 [] (.int 0) → own_GoE p e below EE (T'.setTop (mkF m pc' Ls (.ref a :: rest)))) : own_GoE p e below EE (T.setTop (mkF m pc Ls rest)) := by
  subst hp
  obtain ⟨a, T', h', k1, b, kc, r1, r2, r3, r4, r5, r6, r7, r8, r9, r10, r11, r12, r13, r14, r15, r16⟩ := ldcSVL (Ts := []) (vs := []) (z := 0) (n := 0) X hx hZ hown w wS eT hS hSk N0 hkeep D (by simp) hh hcw ⟨fun _ q => by simp at q, rfl⟩ (by decide) rfl (g := mkF m pc Ls rest) rfl hd (by simp) (by decide) hc hl
  exact own_step r16 (k T' h' T'.vm k1 a b kc r1 r2 r3 r4 r5 r6 r7 r8 r9 r10 r11)
theorem own_ldcU {vm0 : Vm} (X : Stand p l e R (s.setVm vm0) m args below meth c T locs cells slots) (hx : p.tables.exec = Jvm.exec) {Z : State} {a0 : Array Value} {h : Heap} (hZ : Z.Warmed39 (s.setVm vm0).vm) {own : String} {index : Nat} (hown : (s.setVm vm0).vm.findClass own = some m.cls) (w : (Jvm.Cond.stringLink own index "").before a0 Z = true) (wS : ∀ a ∈ Bundle.stringAtoms, a.before a0 Z = true) (eT : T.heap = h) {k0 : Nat} (hS : s.Since vm0 k0) (hSk : k0 ≤ h.size) (N0 : Fr s.heap.size locs) (hkeep : ∀ (b : Addr) (cl : Cell), Z.heap[b]? = some cl → s.heap[b]? = some cl)
    (D : own_LD Z vm0 h) (hh : Jvm.Lit.constHeld Z own index) (hcw : Jvm.Lit.compactW.before a0 Z = true) {pc : Nat} (pc' : Nat) {Ls : Array Slot} {rest : List Value} (hd : decode c.code pc = .ok (.ldc_w index, 3)) (hp : pc + 3 = pc') (hc : cells + 2 ≤ R.cells) (hl : slots + 4 ≤ R.slots)
    (k : ∀ T' h' vm1 k1 a b kb, Stand p l e R (s.setVm vm1) m args below meth c T' locs (cells + 2) (slots + 4) → T'.heap = h' → Ext h h' → s.Since vm1 k1 → k1 ≤ h'.size → Z.Warmed39 (s.setVm vm1).vm → (s.setVm vm1).vm.findClass own = some m.cls → Exa Z h' a "java/lang/String" → Fld Z h' a "java/lang/String" "coder" "B" (.int 0) → Fld Z h' a "java/lang/String" "value" "[B" (.ref b) → Arv Z h' b kb .byte 0 [] (.int 0) → own_GoE p e below EE (T'.setTop (mkF m pc' Ls (.ref a :: rest)))) : own_GoE p e below EE (T.setTop (mkF m pc Ls rest)) := by
  subst hp
  have wi : (Jvm.Cond.instantiable "java/lang/String" 4).before a0 Z = true := wS _ (by simp [Bundle.stringAtoms, Bundle.sN])
  have wa : (Jvm.Cond.arrayClass .byte).before a0 Z = true := wS _ (by simp [Bundle.stringAtoms])
  have hH : ConstHeldL (s.setVm vm0) own index := heldCarry hZ w D (by simp) hkeep (heldStart hh w (fun _ q => by simp at q) hcw wa wi)
  obtain ⟨a, T', X', hS', hb, hsl, st⟩ := own_ldcW0 X (oldF X N0) hx hown (mvS hZ w) (fun d hd => by
    have q := wS d hd
    simp only [Bundle.stringAtoms, List.mem_cons, List.not_mem_nil, or_false] at hd
    rcases hd with rfl | rfl | rfl | rfl | rfl | rfl | rfl
    · exact mv (s := s.setVm vm0) hZ q
    · exact mv (s := s.setVm vm0) hZ q
    · exact mvA (s := s.setVm vm0) hZ q
    · exact mv (s := s.setVm vm0) hZ q
    · exact mv (s := s.setVm vm0) hZ q
    · exact mv (s := s.setVm vm0) hZ q
    · exact mv (s := s.setVm vm0) hZ q) hH (g := mkF m pc Ls rest) rfl hd hc hl
  subst eT
  have E := ext_of hb
  have hW : Z.Warmed39 T'.vm := State.Warmed39.trans (t := s.setVm vm0) hZ hS'.1
  obtain ⟨b, kc, f1, f2, f3, f4⟩ := own_slF rfl hW.alike hsl
  exact own_step st (k T' _ T'.vm _ a b kc X' rfl E (hS.trans hS' (Nat.le_trans hSk E.1)) (Nat.le_refl _) hW (by rw [show (s.setVm T'.vm).vm = T'.vm from rfl, hS'.1.alike.findClass]; exact hown) f1 f2 f3 f4)
variable {QW : Option Value → Vm → Heap → List Loc → Prop}
theorem own_endW {vm1 : Vm} (X : Stand p l e R (s.setVm vm1) m args below meth c T locs cells slots) {n0 : Nat} (hS : s.Since vm1 n0) (hSk : n0 ≤ T.heap.size) {v : Option Value} (hv : meth.sig.returnType = none → v = none) (hlk : meth.locks = false) (hq : QW v T.vm T.heap locs) (hk : cells ≤ K) (hn : slots ≤ N)
    (go : ∀ fs, (∀ (f : JFrame) (acts : List Action), f.method = m → f.locked = none → f.entered = [] → (doReturn e (T.setTop f) acts v).1 = T.setFrames fs) → Steps p.tables e below S0 (T.setFrames fs)) : own_GoE p e below (fun o v U L => QW v U.vm U.heap L ∧ ReturnedEndW s o U L K N) S0 := by
  obtain ⟨fs, hr, hrun, hended, h1, h2, h3, h4⟩ := X.leaveW hS hSk (v := v) hv hlk
  exact ⟨_, _, go fs hr, hrun, hended, _, _, rfl, hq, h1, h2, h3, h4.mono hk hn⟩
theorem own_retNW {vm1 : Vm} (X : Stand p l e R (s.setVm vm1) m args below meth c T locs cells slots) {n0 : Nat} (hS : s.Since vm1 n0) (hSk : n0 ≤ T.heap.size) (hx : p.tables.exec = Jvm.exec) (hlk : meth.locks = false) {pc : Nat} {Ls : Array Slot} {z : Int32} {t : FieldType} {rest : List Value} (hret : meth.sig.returnType = some t) (ht : t = .boolean ∨ t = .byte ∨ t = .char ∨ t = .short)
    (hd : decode c.code pc = .ok (.ireturn, 1)) (hq : QW (some (.int (nar t z))) T.vm T.heap locs) (hk : cells ≤ K) (hn : slots ≤ N) : own_GoE p e below (fun o v U L => QW v U.vm U.heap L ∧ ReturnedEndW s o U L K N) (T.setTop (mkF m pc Ls (.int z :: rest))) :=
  own_endW X hS hSk (fun h => by rw [hret] at h; cases h) hlk hq hk hn fun fs hr => retN X hx hret ht hd hr
theorem own_retAW {vm1 : Vm} (X : Stand p l e R (s.setVm vm1) m args below meth c T locs cells slots) {n0 : Nat} (hS : s.Since vm1 n0) (hSk : n0 ≤ T.heap.size) (hx : p.tables.exec = Jvm.exec) (hlk : meth.locks = false) {pc : Nat} {Ls : Array Slot} {w : Value} {t : FieldType} {rest : List Value} (hret : meth.sig.returnType = some t) (ht : t.isReference = true) (hw : w.isRef = true)
    (hd : decode c.code pc = .ok (.areturn, 1)) (hq : QW (some w) T.vm T.heap locs) (hk : cells ≤ K) (hn : slots ≤ N) : own_GoE p e below (fun o v U L => QW v U.vm U.heap L ∧ ReturnedEndW s o U L K N) (T.setTop (mkF m pc Ls (w :: rest))) :=
  own_endW X hS hSk (fun h => by rw [hret] at h; cases h) hlk hq hk hn fun fs hr => retOut X hx hret (by cases t <;> first | (cases ht; done) | (cases w <;> rfl)) (Or.inr (Or.inr (Or.inr (Or.inr ⟨rfl, ht, hw⟩)))) hd hr
theorem own_retVW {vm1 : Vm} (X : Stand p l e R (s.setVm vm1) m args below meth c T locs cells slots) {n0 : Nat} (hS : s.Since vm1 n0) (hSk : n0 ≤ T.heap.size) (hx : p.tables.exec = Jvm.exec) (hlk : meth.locks = false) {pc : Nat} {Ls : Array Slot}  (hret : meth.sig.returnType = none)
    (hd : decode c.code pc = .ok (.return_, 1)) (hq : QW (none) T.vm T.heap locs) (hk : cells ≤ K) (hn : slots ≤ N) : own_GoE p e below (fun o v U L => QW v U.vm U.heap L ∧ ReturnedEndW s o U L K N) (T.setTop (mkF m pc Ls ([]))) :=
  own_endW X hS hSk (fun _ => rfl) hlk hq hk hn fun fs hr => X.returnOut hx hret hd hr
end Own
theorem own_rb {z w : Int32} (h : z = w) (hz : nar .boolean z = z := by decide) : (some (Value.int (nar .boolean z)) : Option Value) = some (.int w) := by rw [hz, h]
theorem own_wS {a0 : Array Value} {Z : State} (hw : ∀ d ∈ tables_1, d.before a0 Z = true) : ∀ a ∈ Bundle.stringAtoms, a.before a0 Z = true := by
  intro d hd
  simp only [Bundle.stringAtoms, List.mem_cons, List.not_mem_nil, or_false] at hd
  rcases hd with rfl | rfl | rfl | rfl | rfl | rfl | rfl
  · exact (hw _ (List.mem_of_getElem? (i := 7) rfl))
  · exact (hw _ (List.mem_of_getElem? (i := 6) rfl))
  · exact (hw _ (List.mem_of_getElem? (i := 23) rfl))
  · exact (hw _ (List.mem_of_getElem? (i := 33) rfl))
  · exact (hw _ (List.mem_of_getElem? (i := 31) rfl))
  · exact (hw _ (List.mem_of_getElem? (i := 72) rfl))
  · exact (hw _ (List.mem_of_getElem? (i := 73) rfl))
theorem own_kz {Z : State} {h h' : Heap} (KZ : ∀ (b : Addr) (cl : Cell), Z.heap[b]? = some cl → h[b]? = some cl) (Kp : Keep h h' []) : ∀ (b : Addr) (cl : Cell), Z.heap[b]? = some cl → h'[b]? = some cl :=
  fun b cl q => Kp.2.1 b cl (KZ b cl q) nin0
def own_b (x : Int32) : Int32 := nar .byte (x.toInt8.toInt32)
def own_h (x : Int32) : Int32 := nar .byte ((x >>> ((0 : Int32) &&& 31)).toInt8.toInt32)
def own_l (x : Int32) : Int32 := nar .byte ((x >>> ((8 : Int32) &&& 31)).toInt8.toInt32)
def own_u : List Int32 → List Value
  | [] => []
  | x :: r => .int (own_h x) :: .int (own_l x) :: own_u r
/-- r is a String of the chars cs -/
def own_Str (Z : State) (h : Heap) (r : Addr) (cs : List Int32) : Prop :=
  (∃ b k, Exa Z h r "java/lang/String" ∧ Fld Z h r "java/lang/String" "coder" "B" (.int (0 : Int32)) ∧ Fld Z h r "java/lang/String" "value" "[B" (.ref b) ∧ Arv Z h b k .byte (Int32.ofNat cs.length) (cs.map fun x => .int (own_b x)) (.int (0 : Int32)) ∧ ∀ x ∈ cs, 0 ≤ x.toInt ∧ x.toInt ≤ 255) ∨
  (∃ b k, Exa Z h r "java/lang/String" ∧ Fld Z h r "java/lang/String" "coder" "B" (.int (1 : Int32)) ∧ Fld Z h r "java/lang/String" "value" "[B" (.ref b) ∧ Arv Z h b k .byte (Int32.ofNat (2 * cs.length)) (own_u cs) (.int (0 : Int32)) ∧ ∀ x ∈ cs, 0 ≤ x.toInt ∧ x.toInt ≤ 65535)
theorem own_Str.exa {Z : State} {h : Heap} {r : Addr} {cs : List Int32} (q : own_Str Z h r cs) : Exa Z h r "java/lang/String" := by
  rcases q with ⟨b, k, E, -⟩ | ⟨b, k, E, -⟩ <;> exact E
theorem own_all0 {P : Int32 → Prop} : ∀ x ∈ ([] : List Int32), P x := fun _ q => by simp at q
theorem own_allS {P : Int32 → Prop} {a : Int32} {l : List Int32} (h : P a) (t : ∀ x ∈ l, P x) : ∀ x ∈ a :: l, P x := fun x q => by
  rcases List.mem_cons.mp q with rfl | q
  · exact h
  · exact t x q
theorem own_r8 {x : Int32} (h : 0 ≤ x.toInt ∧ x.toInt ≤ 65535) (c : ¬ ((255 : Int32) < x)) : 0 ≤ x.toInt ∧ x.toInt ≤ 255 := by
  rw [Int32.lt_iff_toInt_lt] at c
  have : (255 : Int32).toInt = 255 := rfl
  omega
theorem own_r16 {x : Int32} (h : 0 ≤ x.toInt ∧ x.toInt ≤ 255) : 0 ≤ x.toInt ∧ x.toInt ≤ 65535 := by omega
theorem own_nc {x : Int32} (h : 0 ≤ x.toInt ∧ x.toInt ≤ 65535) : nar .char x = x := by
  apply Int32.toInt_inj.mp
  have c := c_i2c x
  show x.toUInt32.toUInt16.toUInt32.toInt32.toInt = x.toInt
  omega
theorem own_getb {x : Int32} (h : 0 ≤ x.toInt ∧ x.toInt ≤ 255) : (some (Value.int (nar .char ((own_b x &&& (255 : Int32)).toUInt32.toUInt16.toUInt32.toInt32))) : Option Value) = some (.int x) := by
  have a := c_i2b x
  have a' := c_i2b (x.toInt8.toInt32)
  have m := c_mask (own_b x) 255 8 (by decide) (by decide)
  have e : (own_b x).toInt = x.toInt8.toInt32.toInt8.toInt32.toInt := rfl
  have c := c_i2c (own_b x &&& (255 : Int32))
  have q : (own_b x &&& (255 : Int32)).toUInt32.toUInt16.toUInt32.toInt32 = x := by
    apply Int32.toInt_inj.mp
    omega
  rw [q, own_nc (own_r16 h)]
theorem own_get {x : Int32} (h : 0 ≤ x.toInt ∧ x.toInt ≤ 65535) : (some (Value.int (nar .char ((((own_h x &&& (255 : Int32)) <<< ((0 : Int32) &&& 31)) ||| ((own_l x &&& (255 : Int32)) <<< ((8 : Int32) &&& 31))).toUInt32.toUInt16.toUInt32.toInt32))) : Option Value) = some (.int x) := by
  have s0 := c_ishr x 0 0 (by decide)
  have s8 := c_ishr x 8 8 (by decide)
  have b0 := c_i2b (x >>> ((0 : Int32) &&& 31))
  have b0' := c_i2b ((x >>> ((0 : Int32) &&& 31)).toInt8.toInt32)
  have b8 := c_i2b (x >>> ((8 : Int32) &&& 31))
  have b8' := c_i2b ((x >>> ((8 : Int32) &&& 31)).toInt8.toInt32)
  have e0 : (own_h x).toInt = (x >>> ((0 : Int32) &&& 31)).toInt8.toInt32.toInt8.toInt32.toInt := rfl
  have e8 : (own_l x).toInt = (x >>> ((8 : Int32) &&& 31)).toInt8.toInt32.toInt8.toInt32.toInt := rfl
  have m0 := c_mask (own_h x) 255 8 (by decide) (by decide)
  have m8 := c_mask (own_l x) 255 8 (by decide) (by decide)
  have t0 := c_ishl (own_h x &&& (255 : Int32)) 0 0 (by decide)
  have t8 := c_ishl (own_l x &&& (255 : Int32)) 8 8 (by decide)
  have r0 := rng32 ((own_h x &&& (255 : Int32)) <<< ((0 : Int32) &&& 31))
  have r8 := rng32 ((own_l x &&& (255 : Int32)) <<< ((8 : Int32) &&& 31))
  have or := c_or' ((own_h x &&& (255 : Int32)) <<< ((0 : Int32) &&& 31)) ((own_l x &&& (255 : Int32)) <<< ((8 : Int32) &&& 31)) 8 (by decide) 256 rfl (by omega) (by omega) (by omega)
  have ro := rng32 (((own_h x &&& (255 : Int32)) <<< ((0 : Int32) &&& 31)) ||| ((own_l x &&& (255 : Int32)) <<< ((8 : Int32) &&& 31)))
  have c := c_i2c (((own_h x &&& (255 : Int32)) <<< ((0 : Int32) &&& 31)) ||| ((own_l x &&& (255 : Int32)) <<< ((8 : Int32) &&& 31)))
  have q : (((own_h x &&& (255 : Int32)) <<< ((0 : Int32) &&& 31)) ||| ((own_l x &&& (255 : Int32)) <<< ((8 : Int32) &&& 31))).toUInt32.toUInt16.toUInt32.toInt32 = x := by
    apply Int32.toInt_inj.mp
    omega
  rw [q, own_nc h]
theorem d_jdk_41_method_11_0 : decode jdk_41_method_11_code 0 = .ok (.iload_n 0, 1) := by decide +kernel
theorem d_jdk_41_method_11_1 : decode jdk_41_method_11_code 1 = .ok (.ifCond .lt 8, 3) := by decide +kernel
theorem d_jdk_41_method_11_4 : decode jdk_41_method_11_code 4 = .ok (.iload_n 0, 1) := by decide +kernel
theorem d_jdk_41_method_11_5 : decode jdk_41_method_11_code 5 = .ok (.iload_n 1, 1) := by decide +kernel
theorem d_jdk_41_method_11_6 : decode jdk_41_method_11_code 6 = .ok (.if_icmp .lt 10, 3) := by decide +kernel
theorem d_jdk_41_method_11_16 : decode jdk_41_method_11_code 16 = .ok (.iload_n 0, 1) := by decide +kernel
theorem d_jdk_41_method_11_17 : decode jdk_41_method_11_code 17 = .ok (.ireturn, 1) := by decide +kernel
theorem ef_0 (m : MethodId) (x0 : Int32) (x1 : Int32) (x2 : Value) (hr : x2.isRef = true) : entryFrame m #[(.int x0), (.int x1), x2] 3 = mkF m 0 #[.val (.int x0), .val (.int x1), .val x2] [] := by
  rcases ref_cases hr with rfl | ⟨a, rfl⟩ <;> first | (simp [entryFrame, mkF, argsToLocals, Value.category]; done) | rfl
theorem pn_0 : plainName "jdk/internal/util/Preconditions" = true := by first | (simp [plainName, overriddenIn]; done) | decide +kernel
def Q_pci (Z : State) (ii : Int32) (jj : Int32) (fm : Value) (h0 : Heap) (n0 : Nat) (v : Option Value) (h : Heap) (L : List Loc) : Prop := v = some (.int ii) ∧ Fr n0 L ∧ h = h0
set_option maxRecDepth 65536 in
set_option maxHeartbeats 40000000 in
theorem rm_pci (l : Launch) (Z : State) (a0 : Array Value) (hw : ∀ d ∈ tables_1, d.before a0 Z = true) (ws : List Jvm.Cond) (ii : Int32) (jj : Int32) (fm : Value) (h0 : Heap) (n0 : Nat) (Z0 : n0 ≤ h0.size) (g1 : ¬ (ii < (0 : Int32))) (g2 : ii < jj) (hfm : fm.isRef = true) :
    MetFree l (⟨"jdk/internal/util/Preconditions", "checkIndex", "(IILjava/util/function/BiFunction;)I"⟩ : MethodName) (head1 (Jvm.Cond.code (⟨"jdk/internal/util/Preconditions", "checkIndex", "(IILjava/util/function/BiFunction;)I"⟩ : MethodName) jdk_41_method_11_code 3 (some .int) :: ws) ({ frames := 0, cells := 0, slots := 0, locals := 0 } : Room)) (fun aA U => aA = #[(.int ii), (.int jj), fm] ∧ Z.Warmed39 U.vm ∧ U.heap = h0) (fun _ _ _ _ _ => True) (fun _ U oO U' => ∃ vV LL, oO = .returned vV ∧ Q_pci Z ii jj fm h0 n0 vV U'.heap LL ∧ FrameEnd U oO U' LL ({ frames := 0, cells := 0, slots := 0, locals := 0 } : Room).cells ({ frames := 0, cells := 0, slots := 0, locals := 0 } : Room).slots) := by
  refine MetFree.of_bodySF (plainFor_of_name pn_0) hisR ?_
  intro p e s m args below meth c s₁ Bd hml0 hP hK
  obtain ⟨rfl, hZ, hh⟩ := hP
  have hx := Bd.exec
  have hby := Bd.bytes
  have hml : c.maxLocals = 3 := hml0
  have hown : s.vm.findClass "jdk/internal/util/Preconditions" = some m.cls := findClass_of_methodNamed Bd.named
  have hnm := (name_of_methodNamed Bd.named Bd.method).1
  have X0 : Stand p l e ({ frames := 0, cells := 0, slots := 0, locals := 0 } : Room) s m #[(.int ii), (.int jj), fm] below meth c s₁ [] 0 0 := Stand.of_body Bd
  have e0 : s₁.heap = h0 := by rw [← hh, Bd.state]; rfl
  have N0 := Fr.nil n0
  have hret := Bd.returns
  have hlk : meth.locks = false := Bd.notSynchronized
  refine own_start (ef_0 m ii jj fm hfm) ?_
  show own_Go p e below s (Q_pci Z ii jj fm h0 n0) ({ frames := 0, cells := 0, slots := 0, locals := 0 } : Room).cells ({ frames := 0, cells := 0, slots := 0, locals := 0 } : Room).slots (s₁.setTop (mkF m 0 #[.val (.int ii), .val (.int jj), .val fm] []))
  refine g_iload_n X0 hx 1 (hb hby d_jdk_41_method_11_0) rfl rfl ?_
  refine g_ifNo X0 hx 4 (hb hby d_jdk_41_method_11_1) (own_i0_lt_f g1) rfl ?_
  refine g_iload_n X0 hx 5 (hb hby d_jdk_41_method_11_4) rfl rfl ?_
  refine g_iload_n X0 hx 6 (hb hby d_jdk_41_method_11_5) rfl rfl ?_
  refine g_icmpYes X0 hx 16 (hb hby d_jdk_41_method_11_6) (own_ii_lt_t g2) (by decide) (by decide) ?_
  refine g_iload_n X0 hx 17 (hb hby d_jdk_41_method_11_16) rfl rfl ?_
  refine own_retI X0 hx hlk hret (hb hby d_jdk_41_method_11_17) ?_ (by decide) (by decide)
  rw [e0]
  exact ⟨rfl, N0, rfl⟩
theorem d_jdk_42_method_155_0 : decode jdk_42_method_155_code 0 = .ok (.iload_n 0, 1) := by decide +kernel
theorem d_jdk_42_method_155_1 : decode jdk_42_method_155_code 1 = .ok (.iload_n 1, 1) := by decide +kernel
theorem d_jdk_42_method_155_2 : decode jdk_42_method_155_code 2 = .ok (.getstatic 1053, 3) := by decide +kernel
theorem d_jdk_42_method_155_5 : decode jdk_42_method_155_code 5 = .ok (.invokestatic 1059, 3) := by decide +kernel
theorem pd_0 : parseMethodDescriptor "(IILjava/util/function/BiFunction;)I" = some ⟨[.int, .int, (.object "java/util/function/BiFunction")], some .int⟩ := by decide +kernel
theorem d_jdk_42_method_155_8 : decode jdk_42_method_155_code 8 = .ok (.pop, 1) := by decide +kernel
theorem d_jdk_42_method_155_9 : decode jdk_42_method_155_code 9 = .ok (.return_, 1) := by decide +kernel
theorem ef_1 (m : MethodId) (x0 : Int32) (x1 : Int32) : entryFrame m #[(.int x0), (.int x1)] 2 = mkF m 0 #[.val (.int x0), .val (.int x1)] [] := by first | (simp [entryFrame, mkF, argsToLocals, Value.category]; done) | rfl
theorem pn_1 : plainName "java/lang/String" = true := by first | (simp [plainName, overriddenIn]; done) | decide +kernel
def Q_sci (Z : State) (ii : Int32) (jj : Int32) (fm : Value) (h0 : Heap) (n0 : Nat) (v : Option Value) (h : Heap) (L : List Loc) : Prop := v = none ∧ Fr n0 L ∧ h = h0
set_option maxRecDepth 65536 in
set_option maxHeartbeats 40000000 in
theorem rm_sci (l : Launch) (Z : State) (a0 : Array Value) (hw : ∀ d ∈ tables_1, d.before a0 Z = true) (ws : List Jvm.Cond) (ii : Int32) (jj : Int32) (fm : Value) (h0 : Heap) (n0 : Nat) (Z0 : n0 ≤ h0.size) (S_SIOOBE_FORMATTER : Sta Z h0 "jdk/internal/util/Preconditions" "SIOOBE_FORMATTER" "Ljava/util/function/BiFunction;" fm) (g1 : ¬ (ii < (0 : Int32))) (g2 : ii < jj) (hfm : fm.isRef = true) :
    MetFree l (⟨"java/lang/String", "checkIndex", "(II)V"⟩ : MethodName) (head1 (Jvm.Cond.code (⟨"java/lang/String", "checkIndex", "(II)V"⟩ : MethodName) jdk_42_method_155_code 2 none :: ws) ({ frames := 1, cells := 0, slots := 0, locals := 14 } : Room)) (fun aA U => aA = #[(.int ii), (.int jj)] ∧ Z.Warmed39 U.vm ∧ U.heap = h0) (fun _ _ _ _ _ => True) (fun _ U oO U' => ∃ vV LL, oO = .returned vV ∧ Q_sci Z ii jj fm h0 n0 vV U'.heap LL ∧ FrameEnd U oO U' LL ({ frames := 1, cells := 0, slots := 0, locals := 14 } : Room).cells ({ frames := 1, cells := 0, slots := 0, locals := 14 } : Room).slots) := by
  refine MetFree.of_bodySF (plainFor_of_name pn_1) hisR ?_
  intro p e s m args below meth c s₁ Bd hml0 hP hK
  obtain ⟨rfl, hZ, hh⟩ := hP
  have hx := Bd.exec
  have hby := Bd.bytes
  have hml : c.maxLocals = 2 := hml0
  have hown : s.vm.findClass "java/lang/String" = some m.cls := findClass_of_methodNamed Bd.named
  have hnm := (name_of_methodNamed Bd.named Bd.method).1
  have X0 : Stand p l e ({ frames := 1, cells := 0, slots := 0, locals := 14 } : Room) s m #[(.int ii), (.int jj)] below meth c s₁ [] 0 0 := Stand.of_body Bd
  have e0 : s₁.heap = h0 := by rw [← hh, Bd.state]; rfl
  have N0 := Fr.nil n0
  have hret := Bd.returns
  have hlk : meth.locks = false := Bd.notSynchronized
  refine own_start (ef_1 m ii jj) ?_
  show own_Go p e below s (Q_sci Z ii jj fm h0 n0) ({ frames := 1, cells := 0, slots := 0, locals := 14 } : Room).cells ({ frames := 1, cells := 0, slots := 0, locals := 14 } : Room).slots (s₁.setTop (mkF m 0 #[.val (.int ii), .val (.int jj)] []))
  refine g_iload_n X0 hx 1 (hb hby d_jdk_42_method_155_0) rfl rfl ?_
  refine g_iload_n X0 hx 2 (hb hby d_jdk_42_method_155_1) rfl rfl ?_
  refine own_getS X0 hx hZ hown (host := "") (Or.inl (hw _ (List.mem_of_getElem? (i := 57) rfl))) Via.refl e0 S_SIOOBE_FORMATTER 5 (hb hby d_jdk_42_method_155_2) rfl fun T3 X3 e3 => ?_
  refine own_callS X3 hx hZ hown (hw _ (List.mem_of_getElem? (i := 97) rfl)) (hw _ (List.mem_of_getElem? (i := 98) rfl)) (by decide) (rm_pci l Z a0 hw [] ii jj fm h0 n0 Z0 g1 g2 hfm) (hw _ (List.mem_of_getElem? (i := 99) rfl)) (hw _ (List.mem_of_getElem? (i := 58) rfl)) e3 0 (by decide) (by decide) (by decide) (by decide) [(.int ii), (.int jj), fm] [] rfl pd_0 rfl 8 rfl (by rw [hml]; rfl) rfl (hb hby d_jdk_42_method_155_5) rfl fun T4 v4 L4 X4 hQ4 => ?_
  obtain ⟨rfl, Nq4, e4⟩ := hQ4
  have N4 := Fr.app N0 Nq4
  show own_GoE p e below _ (T4.setTop (mkF m 8 _ [(.int ii)]))
  refine g_pop X4 hx 9 (hb hby d_jdk_42_method_155_8) rfl rfl ?_
  refine own_retV X4 hx hlk hret (hb hby d_jdk_42_method_155_9) ?_ (by decide) (by decide)
  rw [e4]
  exact ⟨rfl, N4, rfl⟩
theorem d_jdk_41_method_12_0 : decode jdk_41_method_12_code 0 = .ok (.iload_n 0, 1) := by decide +kernel
theorem d_jdk_41_method_12_1 : decode jdk_41_method_12_code 1 = .ok (.ifCond .lt 13, 3) := by decide +kernel
theorem d_jdk_41_method_12_4 : decode jdk_41_method_12_code 4 = .ok (.iload_n 0, 1) := by decide +kernel
theorem d_jdk_41_method_12_5 : decode jdk_41_method_12_code 5 = .ok (.iload_n 1, 1) := by decide +kernel
theorem d_jdk_41_method_12_6 : decode jdk_41_method_12_code 6 = .ok (.if_icmp .gt 8, 3) := by decide +kernel
theorem d_jdk_41_method_12_9 : decode jdk_41_method_12_code 9 = .ok (.iload_n 1, 1) := by decide +kernel
theorem d_jdk_41_method_12_10 : decode jdk_41_method_12_code 10 = .ok (.iload_n 2, 1) := by decide +kernel
theorem d_jdk_41_method_12_11 : decode jdk_41_method_12_code 11 = .ok (.if_icmp .le 11, 3) := by decide +kernel
theorem d_jdk_41_method_12_22 : decode jdk_41_method_12_code 22 = .ok (.iload_n 0, 1) := by decide +kernel
theorem d_jdk_41_method_12_23 : decode jdk_41_method_12_code 23 = .ok (.ireturn, 1) := by decide +kernel
theorem ef_2 (m : MethodId) (x0 : Int32) (x1 : Int32) (x2 : Int32) (x3 : Value) (hr : x3.isRef = true) : entryFrame m #[(.int x0), (.int x1), (.int x2), x3] 4 = mkF m 0 #[.val (.int x0), .val (.int x1), .val (.int x2), .val x3] [] := by
  rcases ref_cases hr with rfl | ⟨a, rfl⟩ <;> first | (simp [entryFrame, mkF, argsToLocals, Value.category]; done) | rfl
def Q_pft (Z : State) (ff : Int32) (ee : Int32) (jj : Int32) (fm : Value) (h0 : Heap) (n0 : Nat) (v : Option Value) (h : Heap) (L : List Loc) : Prop := v = some (.int ff) ∧ Fr n0 L ∧ h = h0
set_option maxRecDepth 65536 in
set_option maxHeartbeats 40000000 in
theorem rm_pft (l : Launch) (Z : State) (a0 : Array Value) (hw : ∀ d ∈ tables_1, d.before a0 Z = true) (ws : List Jvm.Cond) (ff : Int32) (ee : Int32) (jj : Int32) (fm : Value) (h0 : Heap) (n0 : Nat) (Z0 : n0 ≤ h0.size) (g1 : ¬ (ff < (0 : Int32))) (g2 : ¬ (ee < ff)) (g3 : ¬ (jj < ee)) (hfm : fm.isRef = true) :
    MetFree l (⟨"jdk/internal/util/Preconditions", "checkFromToIndex", "(IIILjava/util/function/BiFunction;)I"⟩ : MethodName) (head1 (Jvm.Cond.code (⟨"jdk/internal/util/Preconditions", "checkFromToIndex", "(IIILjava/util/function/BiFunction;)I"⟩ : MethodName) jdk_41_method_12_code 4 (some .int) :: ws) ({ frames := 0, cells := 0, slots := 0, locals := 0 } : Room)) (fun aA U => aA = #[(.int ff), (.int ee), (.int jj), fm] ∧ Z.Warmed39 U.vm ∧ U.heap = h0) (fun _ _ _ _ _ => True) (fun _ U oO U' => ∃ vV LL, oO = .returned vV ∧ Q_pft Z ff ee jj fm h0 n0 vV U'.heap LL ∧ FrameEnd U oO U' LL ({ frames := 0, cells := 0, slots := 0, locals := 0 } : Room).cells ({ frames := 0, cells := 0, slots := 0, locals := 0 } : Room).slots) := by
  refine MetFree.of_bodySF (plainFor_of_name pn_0) hisR ?_
  intro p e s m args below meth c s₁ Bd hml0 hP hK
  obtain ⟨rfl, hZ, hh⟩ := hP
  have hx := Bd.exec
  have hby := Bd.bytes
  have hml : c.maxLocals = 4 := hml0
  have hown : s.vm.findClass "jdk/internal/util/Preconditions" = some m.cls := findClass_of_methodNamed Bd.named
  have hnm := (name_of_methodNamed Bd.named Bd.method).1
  have X0 : Stand p l e ({ frames := 0, cells := 0, slots := 0, locals := 0 } : Room) s m #[(.int ff), (.int ee), (.int jj), fm] below meth c s₁ [] 0 0 := Stand.of_body Bd
  have e0 : s₁.heap = h0 := by rw [← hh, Bd.state]; rfl
  have N0 := Fr.nil n0
  have hret := Bd.returns
  have hlk : meth.locks = false := Bd.notSynchronized
  refine own_start (ef_2 m ff ee jj fm hfm) ?_
  show own_Go p e below s (Q_pft Z ff ee jj fm h0 n0) ({ frames := 0, cells := 0, slots := 0, locals := 0 } : Room).cells ({ frames := 0, cells := 0, slots := 0, locals := 0 } : Room).slots (s₁.setTop (mkF m 0 #[.val (.int ff), .val (.int ee), .val (.int jj), .val fm] []))
  refine g_iload_n X0 hx 1 (hb hby d_jdk_41_method_12_0) rfl rfl ?_
  refine g_ifNo X0 hx 4 (hb hby d_jdk_41_method_12_1) (own_i0_lt_f g1) rfl ?_
  refine g_iload_n X0 hx 5 (hb hby d_jdk_41_method_12_4) rfl rfl ?_
  refine g_iload_n X0 hx 6 (hb hby d_jdk_41_method_12_5) rfl rfl ?_
  refine g_icmpNo X0 hx 9 (hb hby d_jdk_41_method_12_6) (own_ii_gt_f g2) rfl ?_
  refine g_iload_n X0 hx 10 (hb hby d_jdk_41_method_12_9) rfl rfl ?_
  refine g_iload_n X0 hx 11 (hb hby d_jdk_41_method_12_10) rfl rfl ?_
  refine g_icmpYes X0 hx 22 (hb hby d_jdk_41_method_12_11) (own_ii_le_t g3) (by decide) (by decide) ?_
  refine g_iload_n X0 hx 23 (hb hby d_jdk_41_method_12_22) rfl rfl ?_
  refine own_retI X0 hx hlk hret (hb hby d_jdk_41_method_12_23) ?_ (by decide) (by decide)
  rw [e0]
  exact ⟨rfl, N0, rfl⟩
theorem d_jdk_42_method_158_0 : decode jdk_42_method_158_code 0 = .ok (.iload_n 0, 1) := by decide +kernel
theorem d_jdk_42_method_158_1 : decode jdk_42_method_158_code 1 = .ok (.iload_n 1, 1) := by decide +kernel
theorem d_jdk_42_method_158_2 : decode jdk_42_method_158_code 2 = .ok (.iload_n 2, 1) := by decide +kernel
theorem d_jdk_42_method_158_3 : decode jdk_42_method_158_code 3 = .ok (.getstatic 1053, 3) := by decide +kernel
theorem d_jdk_42_method_158_6 : decode jdk_42_method_158_code 6 = .ok (.invokestatic 1062, 3) := by decide +kernel
theorem pd_1 : parseMethodDescriptor "(IIILjava/util/function/BiFunction;)I" = some ⟨[.int, .int, .int, (.object "java/util/function/BiFunction")], some .int⟩ := by decide +kernel
theorem d_jdk_42_method_158_9 : decode jdk_42_method_158_code 9 = .ok (.pop, 1) := by decide +kernel
theorem d_jdk_42_method_158_10 : decode jdk_42_method_158_code 10 = .ok (.return_, 1) := by decide +kernel
theorem ef_3 (m : MethodId) (x0 : Int32) (x1 : Int32) (x2 : Int32) : entryFrame m #[(.int x0), (.int x1), (.int x2)] 3 = mkF m 0 #[.val (.int x0), .val (.int x1), .val (.int x2)] [] := by first | (simp [entryFrame, mkF, argsToLocals, Value.category]; done) | rfl
def Q_cbe (Z : State) (ff : Int32) (ee : Int32) (jj : Int32) (fm : Value) (h0 : Heap) (n0 : Nat) (v : Option Value) (h : Heap) (L : List Loc) : Prop := v = none ∧ Fr n0 L ∧ h = h0
set_option maxRecDepth 65536 in
set_option maxHeartbeats 40000000 in
theorem rm_cbe (l : Launch) (Z : State) (a0 : Array Value) (hw : ∀ d ∈ tables_1, d.before a0 Z = true) (ws : List Jvm.Cond) (ff : Int32) (ee : Int32) (jj : Int32) (fm : Value) (h0 : Heap) (n0 : Nat) (Z0 : n0 ≤ h0.size) (S_SIOOBE_FORMATTER : Sta Z h0 "jdk/internal/util/Preconditions" "SIOOBE_FORMATTER" "Ljava/util/function/BiFunction;" fm) (g1 : ¬ (ff < (0 : Int32))) (g2 : ¬ (ee < ff)) (g3 : ¬ (jj < ee)) (hfm : fm.isRef = true) :
    MetFree l (⟨"java/lang/String", "checkBoundsBeginEnd", "(III)V"⟩ : MethodName) (head1 (Jvm.Cond.code (⟨"java/lang/String", "checkBoundsBeginEnd", "(III)V"⟩ : MethodName) jdk_42_method_158_code 3 none :: ws) ({ frames := 1, cells := 0, slots := 0, locals := 15 } : Room)) (fun aA U => aA = #[(.int ff), (.int ee), (.int jj)] ∧ Z.Warmed39 U.vm ∧ U.heap = h0) (fun _ _ _ _ _ => True) (fun _ U oO U' => ∃ vV LL, oO = .returned vV ∧ Q_cbe Z ff ee jj fm h0 n0 vV U'.heap LL ∧ FrameEnd U oO U' LL ({ frames := 1, cells := 0, slots := 0, locals := 15 } : Room).cells ({ frames := 1, cells := 0, slots := 0, locals := 15 } : Room).slots) := by
  refine MetFree.of_bodySF (plainFor_of_name pn_1) hisR ?_
  intro p e s m args below meth c s₁ Bd hml0 hP hK
  obtain ⟨rfl, hZ, hh⟩ := hP
  have hx := Bd.exec
  have hby := Bd.bytes
  have hml : c.maxLocals = 3 := hml0
  have hown : s.vm.findClass "java/lang/String" = some m.cls := findClass_of_methodNamed Bd.named
  have hnm := (name_of_methodNamed Bd.named Bd.method).1
  have X0 : Stand p l e ({ frames := 1, cells := 0, slots := 0, locals := 15 } : Room) s m #[(.int ff), (.int ee), (.int jj)] below meth c s₁ [] 0 0 := Stand.of_body Bd
  have e0 : s₁.heap = h0 := by rw [← hh, Bd.state]; rfl
  have N0 := Fr.nil n0
  have hret := Bd.returns
  have hlk : meth.locks = false := Bd.notSynchronized
  refine own_start (ef_3 m ff ee jj) ?_
  show own_Go p e below s (Q_cbe Z ff ee jj fm h0 n0) ({ frames := 1, cells := 0, slots := 0, locals := 15 } : Room).cells ({ frames := 1, cells := 0, slots := 0, locals := 15 } : Room).slots (s₁.setTop (mkF m 0 #[.val (.int ff), .val (.int ee), .val (.int jj)] []))
  refine g_iload_n X0 hx 1 (hb hby d_jdk_42_method_158_0) rfl rfl ?_
  refine g_iload_n X0 hx 2 (hb hby d_jdk_42_method_158_1) rfl rfl ?_
  refine g_iload_n X0 hx 3 (hb hby d_jdk_42_method_158_2) rfl rfl ?_
  refine own_getS X0 hx hZ hown (host := "") (Or.inl (hw _ (List.mem_of_getElem? (i := 57) rfl))) Via.refl e0 S_SIOOBE_FORMATTER 6 (hb hby d_jdk_42_method_158_3) rfl fun T8 X8 e8 => ?_
  refine own_callS X8 hx hZ hown (hw _ (List.mem_of_getElem? (i := 59) rfl)) (hw _ (List.mem_of_getElem? (i := 60) rfl)) (by decide) (rm_pft l Z a0 hw [] ff ee jj fm h0 n0 Z0 g1 g2 g3 hfm) (hw _ (List.mem_of_getElem? (i := 61) rfl)) (hw _ (List.mem_of_getElem? (i := 58) rfl)) e8 0 (by decide) (by decide) (by decide) (by decide) [(.int ff), (.int ee), (.int jj), fm] [] rfl pd_1 rfl 9 rfl (by rw [hml]; rfl) rfl (hb hby d_jdk_42_method_158_6) rfl fun T9 v9 L9 X9 hQ9 => ?_
  obtain ⟨rfl, Nq9, e9⟩ := hQ9
  have N9 := Fr.app N0 Nq9
  show own_GoE p e below _ (T9.setTop (mkF m 9 _ [(.int ff)]))
  refine g_pop X9 hx 10 (hb hby d_jdk_42_method_158_9) rfl rfl ?_
  refine own_retV X9 hx hlk hret (hb hby d_jdk_42_method_158_10) ?_ (by decide) (by decide)
  rw [e9]
  exact ⟨rfl, N9, rfl⟩
theorem d_jdk_41_method_13_0 : decode jdk_41_method_13_code 0 = .ok (.iload_n 2, 1) := by decide +kernel
theorem d_jdk_41_method_13_1 : decode jdk_41_method_13_code 1 = .ok (.iload_n 0, 1) := by decide +kernel
theorem d_jdk_41_method_13_2 : decode jdk_41_method_13_code 2 = .ok (.ior, 1) := by decide +kernel
theorem d_jdk_41_method_13_3 : decode jdk_41_method_13_code 3 = .ok (.iload_n 1, 1) := by decide +kernel
theorem d_jdk_41_method_13_4 : decode jdk_41_method_13_code 4 = .ok (.ior, 1) := by decide +kernel
theorem d_jdk_41_method_13_5 : decode jdk_41_method_13_code 5 = .ok (.ifCond .lt 10, 3) := by decide +kernel
theorem d_jdk_41_method_13_8 : decode jdk_41_method_13_code 8 = .ok (.iload_n 1, 1) := by decide +kernel
theorem d_jdk_41_method_13_9 : decode jdk_41_method_13_code 9 = .ok (.iload_n 2, 1) := by decide +kernel
theorem d_jdk_41_method_13_10 : decode jdk_41_method_13_code 10 = .ok (.iload_n 0, 1) := by decide +kernel
theorem d_jdk_41_method_13_11 : decode jdk_41_method_13_code 11 = .ok (.isub, 1) := by decide +kernel
theorem d_jdk_41_method_13_12 : decode jdk_41_method_13_code 12 = .ok (.if_icmp .le 11, 3) := by decide +kernel
theorem d_jdk_41_method_13_23 : decode jdk_41_method_13_code 23 = .ok (.iload_n 0, 1) := by decide +kernel
theorem d_jdk_41_method_13_24 : decode jdk_41_method_13_code 24 = .ok (.ireturn, 1) := by decide +kernel
def Q_pfs (Z : State) (ff : Int32) (ee : Int32) (jj : Int32) (fm : Value) (h0 : Heap) (n0 : Nat) (v : Option Value) (h : Heap) (L : List Loc) : Prop := v = some (.int ff) ∧ Fr n0 L ∧ h = h0
set_option maxRecDepth 65536 in
set_option maxHeartbeats 40000000 in
theorem rm_pfs (l : Launch) (Z : State) (a0 : Array Value) (hw : ∀ d ∈ tables_1, d.before a0 Z = true) (ws : List Jvm.Cond) (ff : Int32) (ee : Int32) (jj : Int32) (fm : Value) (h0 : Heap) (n0 : Nat) (Z0 : n0 ≤ h0.size) (g1 : ¬ (((jj ||| ff) ||| ee) < (0 : Int32))) (g2 : ¬ ((jj - ff) < ee)) (hfm : fm.isRef = true) :
    MetFree l (⟨"jdk/internal/util/Preconditions", "checkFromIndexSize", "(IIILjava/util/function/BiFunction;)I"⟩ : MethodName) (head1 (Jvm.Cond.code (⟨"jdk/internal/util/Preconditions", "checkFromIndexSize", "(IIILjava/util/function/BiFunction;)I"⟩ : MethodName) jdk_41_method_13_code 4 (some .int) :: ws) ({ frames := 0, cells := 0, slots := 0, locals := 0 } : Room)) (fun aA U => aA = #[(.int ff), (.int ee), (.int jj), fm] ∧ Z.Warmed39 U.vm ∧ U.heap = h0) (fun _ _ _ _ _ => True) (fun _ U oO U' => ∃ vV LL, oO = .returned vV ∧ Q_pfs Z ff ee jj fm h0 n0 vV U'.heap LL ∧ FrameEnd U oO U' LL ({ frames := 0, cells := 0, slots := 0, locals := 0 } : Room).cells ({ frames := 0, cells := 0, slots := 0, locals := 0 } : Room).slots) := by
  refine MetFree.of_bodySF (plainFor_of_name pn_0) hisR ?_
  intro p e s m args below meth c s₁ Bd hml0 hP hK
  obtain ⟨rfl, hZ, hh⟩ := hP
  have hx := Bd.exec
  have hby := Bd.bytes
  have hml : c.maxLocals = 4 := hml0
  have hown : s.vm.findClass "jdk/internal/util/Preconditions" = some m.cls := findClass_of_methodNamed Bd.named
  have hnm := (name_of_methodNamed Bd.named Bd.method).1
  have X0 : Stand p l e ({ frames := 0, cells := 0, slots := 0, locals := 0 } : Room) s m #[(.int ff), (.int ee), (.int jj), fm] below meth c s₁ [] 0 0 := Stand.of_body Bd
  have e0 : s₁.heap = h0 := by rw [← hh, Bd.state]; rfl
  have N0 := Fr.nil n0
  have hret := Bd.returns
  have hlk : meth.locks = false := Bd.notSynchronized
  refine own_start (ef_2 m ff ee jj fm hfm) ?_
  show own_Go p e below s (Q_pfs Z ff ee jj fm h0 n0) ({ frames := 0, cells := 0, slots := 0, locals := 0 } : Room).cells ({ frames := 0, cells := 0, slots := 0, locals := 0 } : Room).slots (s₁.setTop (mkF m 0 #[.val (.int ff), .val (.int ee), .val (.int jj), .val fm] []))
  refine g_iload_n X0 hx 1 (hb hby d_jdk_41_method_13_0) rfl rfl ?_
  refine g_iload_n X0 hx 2 (hb hby d_jdk_41_method_13_1) rfl rfl ?_
  refine g_ior X0 hx 3 (hb hby d_jdk_41_method_13_2) rfl ?_
  refine g_iload_n X0 hx 4 (hb hby d_jdk_41_method_13_3) rfl rfl ?_
  refine g_ior X0 hx 5 (hb hby d_jdk_41_method_13_4) rfl ?_
  refine g_ifNo X0 hx 8 (hb hby d_jdk_41_method_13_5) (own_i0_lt_f g1) rfl ?_
  refine g_iload_n X0 hx 9 (hb hby d_jdk_41_method_13_8) rfl rfl ?_
  refine g_iload_n X0 hx 10 (hb hby d_jdk_41_method_13_9) rfl rfl ?_
  refine g_iload_n X0 hx 11 (hb hby d_jdk_41_method_13_10) rfl rfl ?_
  refine g_isub X0 hx 12 (hb hby d_jdk_41_method_13_11) rfl ?_
  refine g_icmpYes X0 hx 23 (hb hby d_jdk_41_method_13_12) (own_ii_le_t g2) (by decide) (by decide) ?_
  refine g_iload_n X0 hx 24 (hb hby d_jdk_41_method_13_23) rfl rfl ?_
  refine own_retI X0 hx hlk hret (hb hby d_jdk_41_method_13_24) ?_ (by decide) (by decide)
  rw [e0]
  exact ⟨rfl, N0, rfl⟩
theorem d_jdk_42_method_157_0 : decode jdk_42_method_157_code 0 = .ok (.iload_n 0, 1) := by decide +kernel
theorem d_jdk_42_method_157_1 : decode jdk_42_method_157_code 1 = .ok (.iload_n 1, 1) := by decide +kernel
theorem d_jdk_42_method_157_2 : decode jdk_42_method_157_code 2 = .ok (.iload_n 2, 1) := by decide +kernel
theorem d_jdk_42_method_157_3 : decode jdk_42_method_157_code 3 = .ok (.getstatic 1053, 3) := by decide +kernel
theorem d_jdk_42_method_157_6 : decode jdk_42_method_157_code 6 = .ok (.invokestatic 1065, 3) := by decide +kernel
theorem d_jdk_42_method_157_9 : decode jdk_42_method_157_code 9 = .ok (.ireturn, 1) := by decide +kernel
def Q_cbo (Z : State) (ff : Int32) (ee : Int32) (jj : Int32) (fm : Value) (h0 : Heap) (n0 : Nat) (v : Option Value) (h : Heap) (L : List Loc) : Prop := v = some (.int ff) ∧ Fr n0 L ∧ h = h0
set_option maxRecDepth 65536 in
set_option maxHeartbeats 40000000 in
theorem rm_cbo (l : Launch) (Z : State) (a0 : Array Value) (hw : ∀ d ∈ tables_1, d.before a0 Z = true) (ws : List Jvm.Cond) (ff : Int32) (ee : Int32) (jj : Int32) (fm : Value) (h0 : Heap) (n0 : Nat) (Z0 : n0 ≤ h0.size) (S_SIOOBE_FORMATTER : Sta Z h0 "jdk/internal/util/Preconditions" "SIOOBE_FORMATTER" "Ljava/util/function/BiFunction;" fm) (g1 : ¬ (((jj ||| ff) ||| ee) < (0 : Int32))) (g2 : ¬ ((jj - ff) < ee)) (hfm : fm.isRef = true) :
    MetFree l (⟨"java/lang/String", "checkBoundsOffCount", "(III)I"⟩ : MethodName) (head1 (Jvm.Cond.code (⟨"java/lang/String", "checkBoundsOffCount", "(III)I"⟩ : MethodName) jdk_42_method_157_code 3 (some .int) :: ws) ({ frames := 1, cells := 0, slots := 0, locals := 15 } : Room)) (fun aA U => aA = #[(.int ff), (.int ee), (.int jj)] ∧ Z.Warmed39 U.vm ∧ U.heap = h0) (fun _ _ _ _ _ => True) (fun _ U oO U' => ∃ vV LL, oO = .returned vV ∧ Q_cbo Z ff ee jj fm h0 n0 vV U'.heap LL ∧ FrameEnd U oO U' LL ({ frames := 1, cells := 0, slots := 0, locals := 15 } : Room).cells ({ frames := 1, cells := 0, slots := 0, locals := 15 } : Room).slots) := by
  refine MetFree.of_bodySF (plainFor_of_name pn_1) hisR ?_
  intro p e s m args below meth c s₁ Bd hml0 hP hK
  obtain ⟨rfl, hZ, hh⟩ := hP
  have hx := Bd.exec
  have hby := Bd.bytes
  have hml : c.maxLocals = 3 := hml0
  have hown : s.vm.findClass "java/lang/String" = some m.cls := findClass_of_methodNamed Bd.named
  have hnm := (name_of_methodNamed Bd.named Bd.method).1
  have X0 : Stand p l e ({ frames := 1, cells := 0, slots := 0, locals := 15 } : Room) s m #[(.int ff), (.int ee), (.int jj)] below meth c s₁ [] 0 0 := Stand.of_body Bd
  have e0 : s₁.heap = h0 := by rw [← hh, Bd.state]; rfl
  have N0 := Fr.nil n0
  have hret := Bd.returns
  have hlk : meth.locks = false := Bd.notSynchronized
  refine own_start (ef_3 m ff ee jj) ?_
  show own_Go p e below s (Q_cbo Z ff ee jj fm h0 n0) ({ frames := 1, cells := 0, slots := 0, locals := 15 } : Room).cells ({ frames := 1, cells := 0, slots := 0, locals := 15 } : Room).slots (s₁.setTop (mkF m 0 #[.val (.int ff), .val (.int ee), .val (.int jj)] []))
  refine g_iload_n X0 hx 1 (hb hby d_jdk_42_method_157_0) rfl rfl ?_
  refine g_iload_n X0 hx 2 (hb hby d_jdk_42_method_157_1) rfl rfl ?_
  refine g_iload_n X0 hx 3 (hb hby d_jdk_42_method_157_2) rfl rfl ?_
  refine own_getS X0 hx hZ hown (host := "") (Or.inl (hw _ (List.mem_of_getElem? (i := 57) rfl))) Via.refl e0 S_SIOOBE_FORMATTER 6 (hb hby d_jdk_42_method_157_3) rfl fun T12 X12 e12 => ?_
  refine own_callS X12 hx hZ hown (hw _ (List.mem_of_getElem? (i := 179) rfl)) (hw _ (List.mem_of_getElem? (i := 180) rfl)) (by decide) (rm_pfs l Z a0 hw [] ff ee jj fm h0 n0 Z0 g1 g2 hfm) (hw _ (List.mem_of_getElem? (i := 181) rfl)) (hw _ (List.mem_of_getElem? (i := 58) rfl)) e12 0 (by decide) (by decide) (by decide) (by decide) [(.int ff), (.int ee), (.int jj), fm] [] rfl pd_1 rfl 9 rfl (by rw [hml]; rfl) rfl (hb hby d_jdk_42_method_157_6) rfl fun T13 v13 L13 X13 hQ13 => ?_
  obtain ⟨rfl, Nq13, e13⟩ := hQ13
  have N13 := Fr.app N0 Nq13
  show own_GoE p e below _ (T13.setTop (mkF m 9 _ [(.int ff)]))
  refine own_retI X13 hx hlk hret (hb hby d_jdk_42_method_157_9) ?_ (by decide) (by decide)
  rw [e13]
  exact ⟨rfl, N13, rfl⟩
def own_min (a b : Int32) : Int32 := if b < a then b else a
def own_max (a b : Int32) : Int32 := if a < b then b else a
theorem own_sh0 (z : Int32) : z >>> ((0 : Int32) &&& 31) = z := by
  apply Int32.toInt_inj.mp
  rw [c_ishr z 0 0 (by decide)]
  omega
theorem own_sh1 {n : Nat} (h : n ≤ 5) : (Int32.ofNat (2 * n)) >>> ((1 : Int32) &&& 31) = Int32.ofNat n := by
  have all : ∀ k : Fin 6, (Int32.ofNat (2 * k.val)) >>> ((1 : Int32) &&& 31) = Int32.ofNat k.val := by decide +kernel
  exact all ⟨n, by omega⟩
def own_at (cs : List Int32) (j : Int32) : Int32 := cs.getD j.toNatClampNeg 0
theorem own_in {cs : List Int32} {j : Int32} (hn : cs.length ≤ 5) (h1 : ¬ (j < (0 : Int32))) (h2 : j < (Int32.ofNat cs.length)) : j.toNatClampNeg < cs.length := by
  rw [Int32.lt_iff_toInt_lt] at h1 h2
  rw [Int32.toInt_ofNat_of_lt (by omega)] at h2
  have k : (0 : Int32).toInt = 0 := rfl
  have e : j.toNatClampNeg = j.toInt.toNat := rfl
  omega
theorem own_at_mem {cs : List Int32} {j : Int32} (h : j.toNatClampNeg < cs.length) : own_at cs j ∈ cs := by
  unfold own_at
  rw [List.getD_eq_getElem?_getD, List.getElem?_eq_getElem h]
  exact List.getElem_mem h
theorem own_gL {cs : List Int32} {j : Int32} (h : j.toNatClampNeg < cs.length) : (cs.map fun x => Value.int (own_b x)).getD j.toNatClampNeg (.int (0 : Int32)) = .int (own_b (own_at cs j)) := by
  unfold own_at
  rw [List.getD_eq_getElem?_getD, List.getD_eq_getElem?_getD, List.getElem?_map, List.getElem?_eq_getElem h]
  rfl
theorem own_gU : ∀ (cs : List Int32) (n : Nat), n < cs.length → (own_u cs).getD (2 * n) (.int (0 : Int32)) = .int (own_h (cs.getD n 0)) ∧ (own_u cs).getD (2 * n + 1) (.int (0 : Int32)) = .int (own_l (cs.getD n 0))
  | [], n, h => absurd h (Nat.not_lt_zero _)
  | x :: r, 0, _ => ⟨rfl, rfl⟩
  | x :: r, n + 1, h => own_gU r n (by simpa using h)
theorem own_i2 {cs : List Int32} {j : Int32} (hn : cs.length ≤ 5) (h1 : ¬ (j < (0 : Int32))) (h2 : j < (Int32.ofNat cs.length)) :
    (¬ ((j <<< ((1 : Int32) &&& 31)) < (0 : Int32)) ∧ (j <<< ((1 : Int32) &&& 31)) < (Int32.ofNat (2 * cs.length))) ∧ (j <<< ((1 : Int32) &&& 31)).toNatClampNeg = 2 * j.toNatClampNeg ∧
    (¬ (((j <<< ((1 : Int32) &&& 31)) + (1 : Int32)) < (0 : Int32)) ∧ ((j <<< ((1 : Int32) &&& 31)) + (1 : Int32)) < (Int32.ofNat (2 * cs.length))) ∧ ((j <<< ((1 : Int32) &&& 31)) + (1 : Int32)).toNatClampNeg = 2 * j.toNatClampNeg + 1 := by
  have a := c_ishl j 1 1 (by decide)
  have r := rng32 (j <<< ((1 : Int32) &&& 31))
  have b := c_iadd (j <<< ((1 : Int32) &&& 31)) 1
  have r' := rng32 ((j <<< ((1 : Int32) &&& 31)) + 1)
  simp only [Int32.lt_iff_toInt_lt] at *
  rw [Int32.toInt_ofNat_of_lt (by omega)] at h2 ⊢
  have k0 : (0 : Int32).toInt = 0 := rfl
  have k1 : (1 : Int32).toInt = 1 := rfl
  have e1 : (j <<< ((1 : Int32) &&& 31)).toNatClampNeg = (j <<< ((1 : Int32) &&& 31)).toInt.toNat := rfl
  have e2 : ((j <<< ((1 : Int32) &&& 31)) + (1 : Int32)).toNatClampNeg = ((j <<< ((1 : Int32) &&& 31)) + (1 : Int32)).toInt.toNat := rfl
  have e3 : j.toNatClampNeg = j.toInt.toNat := rfl
  rw [e1, e2, e3]
  omega
theorem own_ldh {cs : List Int32} {j : Int32} (hn : cs.length ≤ 5) (h1 : ¬ (j < (0 : Int32))) (h2 : j < (Int32.ofNat cs.length)) : (own_u cs).getD (j <<< ((1 : Int32) &&& 31)).toNatClampNeg (.int (0 : Int32)) = .int (own_h (own_at cs j)) := by
  rw [(own_i2 hn h1 h2).2.1]
  exact (own_gU cs _ (own_in hn h1 h2)).1
theorem own_ldl {cs : List Int32} {j : Int32} (hn : cs.length ≤ 5) (h1 : ¬ (j < (0 : Int32))) (h2 : j < (Int32.ofNat cs.length)) : (own_u cs).getD ((j <<< ((1 : Int32) &&& 31)) + (1 : Int32)).toNatClampNeg (.int (0 : Int32)) = .int (own_l (own_at cs j)) := by
  rw [(own_i2 hn h1 h2).2.2.2]
  exact (own_gU cs _ (own_in hn h1 h2)).2
def own_sl (vs : List Value) (f n : Nat) : List Value := (List.range n).map fun i => vs.getD (f + i) (.int (0 : Int32))
abbrev own_B (f e z : Int32) : Prop := 0 ≤ f.toInt ∧ f.toInt < e.toInt ∧ e.toInt ≤ z.toInt ∧ z.toInt ≤ 10
theorem own_Bs {f e z : Int32} (h : own_B f e z) : (e - f).toInt = e.toInt - f.toInt ∧ (z - f).toInt = z.toInt - f.toInt := by
  obtain ⟨h1, h2, h3, h4⟩ := h
  have a := c_isub e f
  have r := rng32 (e - f)
  have a' := c_isub z f
  have r' := rng32 (z - f)
  omega
theorem own_B0 {f e z : Int32} (h : own_B f e z) : ¬ (f < (0 : Int32)) := by
  rw [Int32.lt_iff_toInt_lt]; have k : (0 : Int32).toInt = 0 := rfl; have := h.1; omega
theorem own_B1 {f e z : Int32} (h : own_B f e z) : ¬ ((e - f) < (0 : Int32)) := by
  rw [Int32.lt_iff_toInt_lt, (own_Bs h).1]; have k : (0 : Int32).toInt = 0 := rfl; have := h.2.1; omega
theorem own_B2 {f e z : Int32} (h : own_B f e z) : (e - f).toNatClampNeg ≤ 10 := by
  have q : (e - f).toNatClampNeg = (e - f).toInt.toNat := rfl
  rw [q, (own_Bs h).1]; obtain ⟨h1, h2, h3, h4⟩ := h; omega
theorem own_B3 {f e z : Int32} (h : own_B f e z) : f.toNatClampNeg + (e - f).toNatClampNeg ≤ z.toNatClampNeg := by
  have q : (e - f).toNatClampNeg = (e - f).toInt.toNat := rfl
  have q1 : f.toNatClampNeg = f.toInt.toNat := rfl
  have q2 : z.toNatClampNeg = z.toInt.toNat := rfl
  rw [q, q1, q2, (own_Bs h).1]; obtain ⟨h1, h2, h3, h4⟩ := h; omega
theorem own_B4 {f e z : Int32} (h : own_B f e z) : ¬ (e < f) := by
  rw [Int32.lt_iff_toInt_lt]; have := h.2.1; omega
theorem own_B5 {f e z : Int32} (h : own_B f e z) : own_min (z - f) (e - f) = (e - f) := by
  unfold own_min
  split
  · rfl
  · rename_i c
    rw [Int32.lt_iff_toInt_lt, (own_Bs h).1, (own_Bs h).2] at c
    apply Int32.toInt_inj.mp
    rw [(own_Bs h).1, (own_Bs h).2]
    have := h.2.2.1
    omega
theorem own_B6 (n : Nat) : (0 : Int32).toNatClampNeg + n ≤ (List.replicate n (Value.int (0 : Int32))).length := by simp
theorem own_B7 (us : List Value) (n : Nat) : us = (List.replicate n (Value.int (0 : Int32))).take (0 : Int32).toNatClampNeg ++ us ++ (List.replicate n (Value.int (0 : Int32))).drop ((0 : Int32).toNatClampNeg + n) := by
  have q : (0 : Int32).toNatClampNeg = 0 := rfl
  rw [q]
  simp
def own_cfa (n z : Int32) : Int32 := nar .byte ((((n - z).toUInt32 >>> ((31 : Int32) &&& 31).toUInt32).toInt32).toInt8.toInt32)
abbrev own_C (f k : Int32) (n : Nat) : Prop := 0 ≤ f.toInt ∧ 0 < k.toInt ∧ f.toInt + k.toInt ≤ n ∧ n ≤ 5 ∧ ¬ (f.toInt = 0 ∧ k.toInt = n)
abbrev own_D (f e : Int32) (n : Nat) : Prop := 0 ≤ f.toInt ∧ f.toInt < e.toInt ∧ e.toInt ≤ n ∧ n ≤ 5 ∧ ¬ (f.toInt = 0 ∧ e.toInt = n)
theorem own_fin {f : Int32} (h0 : 0 ≤ f.toInt) (h5 : f.toInt ≤ 5) : ∃ a : Fin 6, f = Int32.ofNat a.val := ⟨⟨f.toInt.toNat, by omega⟩, by
  apply Int32.toInt_inj.mp
  show f.toInt = (Int32.ofNat f.toInt.toNat).toInt
  rw [Int32.toInt_ofNat_of_lt (by omega)]
  omega⟩
theorem own_Cf : ∀ a b c : Fin 6, own_C (Int32.ofNat a.val) (Int32.ofNat b.val) c.val → ((own_B (Int32.ofNat a.val) ((Int32.ofNat a.val) + (Int32.ofNat b.val)) (Int32.ofNat c.val)) ∧ (¬ ((Int32.ofNat a.val) = (0 : Int32) ∧ ((Int32.ofNat a.val) + (Int32.ofNat b.val)) = (Int32.ofNat c.val))) ∧ ((((Int32.ofNat a.val) + (Int32.ofNat b.val)) - (Int32.ofNat a.val)) = (Int32.ofNat b.val)) ∧ (own_B ((Int32.ofNat a.val) <<< ((1 : Int32) &&& 31)) (((Int32.ofNat a.val) + (Int32.ofNat b.val)) <<< ((1 : Int32) &&& 31)) (Int32.ofNat (2 * c.val))) ∧ (¬ (((Int32.ofNat a.val) <<< ((1 : Int32) &&& 31)) = (0 : Int32) ∧ (((Int32.ofNat a.val) + (Int32.ofNat b.val)) <<< ((1 : Int32) &&& 31)) = (Int32.ofNat (2 * c.val)))) ∧ (((((Int32.ofNat a.val) + (Int32.ofNat b.val)) <<< ((1 : Int32) &&& 31)) - ((Int32.ofNat a.val) <<< ((1 : Int32) &&& 31))) = Int32.ofNat (2 * (Int32.ofNat b.val).toNatClampNeg)) ∧ (((Int32.ofNat a.val) <<< ((1 : Int32) &&& 31)).toNatClampNeg = 2 * (Int32.ofNat a.val).toNatClampNeg) ∧ (¬ ((((Int32.ofNat c.val) ||| (Int32.ofNat a.val)) ||| (Int32.ofNat b.val)) < (0 : Int32))) ∧ (¬ (((Int32.ofNat c.val) - (Int32.ofNat a.val)) < (Int32.ofNat b.val))) ∧ (¬ ((Int32.ofNat b.val) < (0 : Int32))) ∧ (¬ (((Int32.ofNat a.val) + (Int32.ofNat b.val)) < (0 : Int32))) ∧ (((Int32.ofNat a.val) + (Int32.ofNat b.val)) < (1073741823 : Int32)) ∧ (¬ ((Int32.ofNat b.val) = (0 : Int32))) ∧ ((Int32.ofNat a.val).toNatClampNeg + (Int32.ofNat b.val).toNatClampNeg ≤ c.val) ∧ ((Int32.ofNat b.val) = Int32.ofNat (Int32.ofNat b.val).toNatClampNeg) ∧ ((Int32.ofNat b.val).toNatClampNeg ≤ 10) ∧ ((Int32.ofNat (2 * (Int32.ofNat b.val).toNatClampNeg)).toNatClampNeg = 2 * (Int32.ofNat b.val).toNatClampNeg) ∧ (own_cfa (Int32.ofNat b.val) (Int32.ofNat (Int32.ofNat b.val).toNatClampNeg) = 0) ∧ (own_cfa (Int32.ofNat b.val) (Int32.ofNat (2 * (Int32.ofNat b.val).toNatClampNeg)) = 1)) := by decide +kernel
theorem own_Cx {f k : Int32} {n : Nat} (h : own_C f k n) : (own_B f (f + k) (Int32.ofNat n)) ∧ (¬ (f = (0 : Int32) ∧ (f + k) = (Int32.ofNat n))) ∧ (((f + k) - f) = k) ∧ (own_B (f <<< ((1 : Int32) &&& 31)) ((f + k) <<< ((1 : Int32) &&& 31)) (Int32.ofNat (2 * n))) ∧ (¬ ((f <<< ((1 : Int32) &&& 31)) = (0 : Int32) ∧ ((f + k) <<< ((1 : Int32) &&& 31)) = (Int32.ofNat (2 * n)))) ∧ ((((f + k) <<< ((1 : Int32) &&& 31)) - (f <<< ((1 : Int32) &&& 31))) = Int32.ofNat (2 * k.toNatClampNeg)) ∧ ((f <<< ((1 : Int32) &&& 31)).toNatClampNeg = 2 * f.toNatClampNeg) ∧ (¬ ((((Int32.ofNat n) ||| f) ||| k) < (0 : Int32))) ∧ (¬ (((Int32.ofNat n) - f) < k)) ∧ (¬ (k < (0 : Int32))) ∧ (¬ ((f + k) < (0 : Int32))) ∧ ((f + k) < (1073741823 : Int32)) ∧ (¬ (k = (0 : Int32))) ∧ (f.toNatClampNeg + k.toNatClampNeg ≤ n) ∧ (k = Int32.ofNat k.toNatClampNeg) ∧ (k.toNatClampNeg ≤ 10) ∧ ((Int32.ofNat (2 * k.toNatClampNeg)).toNatClampNeg = 2 * k.toNatClampNeg) ∧ (own_cfa k (Int32.ofNat k.toNatClampNeg) = 0) ∧ (own_cfa k (Int32.ofNat (2 * k.toNatClampNeg)) = 1) := by
  obtain ⟨a, rfl⟩ := own_fin (f := f) h.1 (by obtain ⟨h1, h2, h3, h4, -⟩ := h; omega)
  obtain ⟨b, rfl⟩ := own_fin (f := k) (by have := h.2.1; omega) (by obtain ⟨h1, h2, h3, h4, -⟩ := h; omega)
  exact own_Cf a b ⟨n, by have := h.2.2.2.1; omega⟩ h
theorem own_c0 {f k : Int32} {n : Nat} (h : own_C f k n) : own_B f (f + k) (Int32.ofNat n) := (own_Cx h).1
theorem own_c1 {f k : Int32} {n : Nat} (h : own_C f k n) : ¬ (f = (0 : Int32) ∧ (f + k) = (Int32.ofNat n)) := (own_Cx h).2.1
theorem own_c2 {f k : Int32} {n : Nat} (h : own_C f k n) : ((f + k) - f) = k := (own_Cx h).2.2.1
theorem own_c3 {f k : Int32} {n : Nat} (h : own_C f k n) : own_B (f <<< ((1 : Int32) &&& 31)) ((f + k) <<< ((1 : Int32) &&& 31)) (Int32.ofNat (2 * n)) := (own_Cx h).2.2.2.1
theorem own_c4 {f k : Int32} {n : Nat} (h : own_C f k n) : ¬ ((f <<< ((1 : Int32) &&& 31)) = (0 : Int32) ∧ ((f + k) <<< ((1 : Int32) &&& 31)) = (Int32.ofNat (2 * n))) := (own_Cx h).2.2.2.2.1
theorem own_c5 {f k : Int32} {n : Nat} (h : own_C f k n) : (((f + k) <<< ((1 : Int32) &&& 31)) - (f <<< ((1 : Int32) &&& 31))) = Int32.ofNat (2 * k.toNatClampNeg) := (own_Cx h).2.2.2.2.2.1
theorem own_c6 {f k : Int32} {n : Nat} (h : own_C f k n) : (f <<< ((1 : Int32) &&& 31)).toNatClampNeg = 2 * f.toNatClampNeg := (own_Cx h).2.2.2.2.2.2.1
theorem own_c7 {f k : Int32} {n : Nat} (h : own_C f k n) : ¬ ((((Int32.ofNat n) ||| f) ||| k) < (0 : Int32)) := (own_Cx h).2.2.2.2.2.2.2.1
theorem own_c8 {f k : Int32} {n : Nat} (h : own_C f k n) : ¬ (((Int32.ofNat n) - f) < k) := (own_Cx h).2.2.2.2.2.2.2.2.1
theorem own_c9 {f k : Int32} {n : Nat} (h : own_C f k n) : ¬ (k < (0 : Int32)) := (own_Cx h).2.2.2.2.2.2.2.2.2.1
theorem own_c10 {f k : Int32} {n : Nat} (h : own_C f k n) : ¬ ((f + k) < (0 : Int32)) := (own_Cx h).2.2.2.2.2.2.2.2.2.2.1
theorem own_c11 {f k : Int32} {n : Nat} (h : own_C f k n) : (f + k) < (1073741823 : Int32) := (own_Cx h).2.2.2.2.2.2.2.2.2.2.2.1
theorem own_c12 {f k : Int32} {n : Nat} (h : own_C f k n) : ¬ (k = (0 : Int32)) := (own_Cx h).2.2.2.2.2.2.2.2.2.2.2.2.1
theorem own_c13 {f k : Int32} {n : Nat} (h : own_C f k n) : f.toNatClampNeg + k.toNatClampNeg ≤ n := (own_Cx h).2.2.2.2.2.2.2.2.2.2.2.2.2.1
theorem own_c14 {f k : Int32} {n : Nat} (h : own_C f k n) : k = Int32.ofNat k.toNatClampNeg := (own_Cx h).2.2.2.2.2.2.2.2.2.2.2.2.2.2.1
theorem own_c15 {f k : Int32} {n : Nat} (h : own_C f k n) : k.toNatClampNeg ≤ 10 := (own_Cx h).2.2.2.2.2.2.2.2.2.2.2.2.2.2.2.1
theorem own_c16 {f k : Int32} {n : Nat} (h : own_C f k n) : (Int32.ofNat (2 * k.toNatClampNeg)).toNatClampNeg = 2 * k.toNatClampNeg := (own_Cx h).2.2.2.2.2.2.2.2.2.2.2.2.2.2.2.2.1
theorem own_c17 {f k : Int32} {n : Nat} (h : own_C f k n) : own_cfa k (Int32.ofNat k.toNatClampNeg) = 0 := (own_Cx h).2.2.2.2.2.2.2.2.2.2.2.2.2.2.2.2.2.1
theorem own_c18 {f k : Int32} {n : Nat} (h : own_C f k n) : own_cfa k (Int32.ofNat (2 * k.toNatClampNeg)) = 1 := (own_Cx h).2.2.2.2.2.2.2.2.2.2.2.2.2.2.2.2.2.2
theorem own_Df : ∀ a b c : Fin 6, own_D (Int32.ofNat a.val) (Int32.ofNat b.val) c.val → ((own_C (Int32.ofNat a.val) ((Int32.ofNat b.val) - (Int32.ofNat a.val)) c.val) ∧ (¬ ((Int32.ofNat a.val) < (0 : Int32))) ∧ (¬ ((Int32.ofNat b.val) < (Int32.ofNat a.val))) ∧ (¬ ((Int32.ofNat c.val) < (Int32.ofNat b.val))) ∧ (¬ ((Int32.ofNat a.val) = (0 : Int32) ∧ (Int32.ofNat b.val) = (Int32.ofNat c.val)))) := by decide +kernel
theorem own_Dx {f k : Int32} {n : Nat} (h : own_D f k n) : (own_C f (k - f) n) ∧ (¬ (f < (0 : Int32))) ∧ (¬ (k < f)) ∧ (¬ ((Int32.ofNat n) < k)) ∧ (¬ (f = (0 : Int32) ∧ k = (Int32.ofNat n))) := by
  obtain ⟨a, rfl⟩ := own_fin (f := f) h.1 (by obtain ⟨h1, h2, h3, h4, -⟩ := h; omega)
  obtain ⟨b, rfl⟩ := own_fin (f := k) (by have := h.1; have := h.2.1; omega) (by obtain ⟨h1, h2, h3, h4, -⟩ := h; omega)
  exact own_Df a b ⟨n, by have := h.2.2.2.1; omega⟩ h
theorem own_e0 {f k : Int32} {n : Nat} (h : own_D f k n) : own_C f (k - f) n := (own_Dx h).1
theorem own_e1 {f k : Int32} {n : Nat} (h : own_D f k n) : ¬ (f < (0 : Int32)) := (own_Dx h).2.1
theorem own_e2 {f k : Int32} {n : Nat} (h : own_D f k n) : ¬ (k < f) := (own_Dx h).2.2.1
theorem own_e3 {f k : Int32} {n : Nat} (h : own_D f k n) : ¬ ((Int32.ofNat n) < k) := (own_Dx h).2.2.2.1
theorem own_e4 {f k : Int32} {n : Nat} (h : own_D f k n) : ¬ (f = (0 : Int32) ∧ k = (Int32.ofNat n)) := (own_Dx h).2.2.2.2
def own_ds (cs : List Int32) (f n : Int32) : List Int32 := (cs.drop f.toNatClampNeg).take n.toNatClampNeg
theorem own_dl {cs : List Int32} {f k : Int32} (h : own_C f k cs.length) : (own_ds cs f k).length = k.toNatClampNeg := by
  unfold own_ds
  rw [List.length_take, List.length_drop]
  have := own_c13 h
  omega
theorem own_d5 {cs : List Int32} {f k : Int32} (h : own_C f k cs.length) : (own_ds cs f k).length ≤ 5 := by
  rw [own_dl h]
  have := own_c13 h
  have := h.2.2.2.1
  omega
theorem own_dz {cs : List Int32} {f k : Int32} (h : own_C f k cs.length) : ((f + k) - f) = Int32.ofNat (own_ds cs f k).length := by
  rw [own_dl h, own_c2 h]
  exact own_c14 h
theorem own_dm {cs : List Int32} {f k x : Int32} (q : x ∈ own_ds cs f k) : x ∈ cs := List.mem_of_mem_drop (List.mem_of_mem_take q)
theorem own_sl_eq {vs : List Value} {f n : Nat} (h : f + n ≤ vs.length) : own_sl vs f n = (vs.drop f).take n := by
  unfold own_sl
  apply List.ext_getElem
  · simp only [List.length_map, List.length_range, List.length_take, List.length_drop]
    omega
  · intro i h1 h2
    simp only [List.length_map, List.length_range] at h1
    simp only [List.getElem_map, List.getElem_range, List.getElem_take, List.getElem_drop]
    rw [List.getD_eq_getElem?_getD, List.getElem?_eq_getElem (by omega)]
    rfl
theorem own_sL {cs : List Int32} {f k : Int32} (h : own_C f k cs.length) : ((own_ds cs f k).map fun x => Value.int (own_b x)) = own_sl (cs.map fun x => Value.int (own_b x)) f.toNatClampNeg ((f + k) - f).toNatClampNeg := by
  rw [own_c2 h, own_sl_eq (by rw [List.length_map]; exact own_c13 h)]
  unfold own_ds
  rw [List.map_take, List.map_drop]
theorem own_uL : ∀ cs : List Int32, (own_u cs).length = 2 * cs.length
  | [] => rfl
  | x :: r => by
    show (own_u r).length + 1 + 1 = 2 * (r.length + 1)
    rw [own_uL r]
    omega
theorem own_ud : ∀ (f : Nat) (cs : List Int32), (own_u cs).drop (2 * f) = own_u (cs.drop f)
  | 0, _ => rfl
  | f + 1, [] => by simp [own_u]
  | f + 1, _ :: r => own_ud f r
theorem own_ut : ∀ (f : Nat) (cs : List Int32), (own_u cs).take (2 * f) = own_u (cs.take f)
  | 0, _ => rfl
  | f + 1, [] => by simp [own_u]
  | f + 1, x :: r => by
    show Value.int (own_h x) :: Value.int (own_l x) :: (own_u r).take (2 * f) = Value.int (own_h x) :: Value.int (own_l x) :: own_u (r.take f)
    rw [own_ut f r]
theorem own_sU {cs : List Int32} {f k : Int32} (h : own_C f k cs.length) : own_u (own_ds cs f k) = own_sl (own_u cs) (f <<< ((1 : Int32) &&& 31)).toNatClampNeg (((f + k) <<< ((1 : Int32) &&& 31)) - (f <<< ((1 : Int32) &&& 31))).toNatClampNeg := by
  rw [own_c5 h, own_c16 h, own_c6 h, own_sl_eq (by rw [own_uL]; have := own_c13 h; omega)]
  unfold own_ds
  rw [own_ud, own_ut]
theorem own_zU {cs : List Int32} {f k : Int32} (h : own_C f k cs.length) : (((f + k) <<< ((1 : Int32) &&& 31)) - (f <<< ((1 : Int32) &&& 31))) = Int32.ofNat (2 * (own_ds cs f k).length) := by
  rw [own_dl h]
  exact own_c5 h
theorem own_arvZ {Z : State} {h : Heap} {a : Addr} {k : ClassId} {ty : FieldType} {z z' : Int32} {vs ws : List Value} {dv : Value} (F : Arv Z h a k ty z vs dv) (q1 : z = z') (q : ws = vs) : Arv Z h a k ty z' ws dv := by
  subst q1 q
  exact F
def own_fb : List Int32 → Nat
  | [] => 0
  | x :: r => if (255 : Int32) < x then 0 else own_fb r + 1
theorem own_fb_le : ∀ ds : List Int32, own_fb ds ≤ ds.length
  | [] => Nat.le_refl 0
  | x :: r => by
    unfold own_fb
    split
    · exact Nat.zero_le _
    · exact Nat.succ_le_succ (own_fb_le r)
theorem own_fb_all : ∀ ds : List Int32, own_fb ds = ds.length → ∀ x ∈ ds, ¬ ((255 : Int32) < x)
  | [], _ => fun x q => by simp at q
  | y :: r, h => by
    unfold own_fb at h
    split at h
    · simp at h
    · rename_i c
      intro x q
      rcases List.mem_cons.mp q with rfl | q
      · exact c
      · exact own_fb_all r (by simpa using h) x q
theorem own_fb_big : ∀ ds : List Int32, own_fb ds ≠ ds.length → (255 : Int32) < ds.getD (own_fb ds) 0
  | [], h => absurd rfl h
  | y :: r, h => by
    by_cases c : (255 : Int32) < y
    · have e : own_fb (y :: r) = 0 := if_pos c
      rw [e]
      exact c
    · have e : own_fb (y :: r) = own_fb r + 1 := if_neg c
      rw [e] at h ⊢
      exact own_fb_big r (fun q => h (by rw [q]; rfl))
theorem own_on {i : Int32} (h : 0 ≤ i.toInt) : i = Int32.ofNat i.toNatClampNeg := by
  have r := rng32 i
  have e : i.toNatClampNeg = i.toInt.toNat := rfl
  apply Int32.toInt_inj.mp
  rw [Int32.toInt_ofNat_of_lt (by omega)]
  omega
theorem own_of5 {n : Nat} (h : n ≤ 5) : (Int32.ofNat n).toInt = n ∧ (Int32.ofNat n).toNatClampNeg = n := by
  have q := Int32.toInt_ofNat_of_lt (n := n) (by omega)
  have e : (Int32.ofNat n).toNatClampNeg = (Int32.ofNat n).toInt.toNat := rfl
  omega
theorem own_bj1 {ds : List Int32} (h : ds.length ≤ 5) : ¬ ((Int32.ofNat (own_fb ds)) < (0 : Int32)) := by
  have l := own_fb_le ds
  have q := (own_of5 (n := own_fb ds) (by omega)).1
  have k : (0 : Int32).toInt = 0 := rfl
  rw [Int32.lt_iff_toInt_lt]
  omega
theorem own_bj2 {ds : List Int32} (h : ds.length ≤ 5) (hb : ¬ (own_fb ds = ds.length)) : (Int32.ofNat (own_fb ds)) < (Int32.ofNat ds.length) := by
  have l := own_fb_le ds
  have q := (own_of5 (n := own_fb ds) (by omega)).1
  have q' := (own_of5 h).1
  rw [Int32.lt_iff_toInt_lt]
  omega
theorem own_bj3 {ds : List Int32} (h : ds.length ≤ 5) (hb : ¬ (own_fb ds = ds.length)) : (255 : Int32) < (own_at ds (Int32.ofNat (own_fb ds))) := by
  have l := own_fb_le ds
  unfold own_at
  rw [(own_of5 (n := own_fb ds) (by omega)).2]
  exact own_fb_big ds hb
theorem own_fL {cs : List Int32} {f k : Int32} (h : own_C f k cs.length) (hb : own_fb (own_ds cs f k) = (own_ds cs f k).length) : (Int32.ofNat (own_fb (own_ds cs f k))) = k := by
  rw [hb, own_dl h]
  exact (own_c14 h).symm
theorem own_fU {ds : List Int32} {k : Int32} (h : ds.length ≤ 5) (hk : k = Int32.ofNat ds.length) (hb : ¬ (own_fb ds = ds.length)) : ¬ ((Int32.ofNat (own_fb ds)) = k) := fun q => hb (by
  have l := own_fb_le ds
  have e1 := (own_of5 (n := own_fb ds) (by omega)).2
  have e2 := (own_of5 h).2
  rw [q, hk, e2] at e1
  exact e1.symm)
theorem own_dk {cs : List Int32} {f k : Int32} (h : own_C f k cs.length) : k = Int32.ofNat (own_ds cs f k).length := by
  rw [own_dl h]
  exact own_c14 h
def own_w (ds : List Int32) (vs : List Value) (i : Nat) : List Value := ((ds.take i).map fun x => Value.int (own_b x)) ++ vs.drop i
theorem own_w0 (ds : List Int32) (vs : List Value) : own_w ds vs (0 : Int32).toNatClampNeg = vs := by
  rw [show (0 : Int32).toNatClampNeg = 0 from rfl]
  simp [own_w]
theorem own_wst : ∀ (ds : List Int32) (vs : List Value) (i : Nat), vs.length = ds.length → i < ds.length → own_w ds vs (i + 1) = (own_w ds vs i).set i (.int (own_b (ds.getD i 0)))
  | [], _, _, _, h => absurd h (Nat.not_lt_zero _)
  | x :: r, [], _, h, _ => by simp at h
  | x :: r, v :: t, 0, _, _ => rfl
  | x :: r, v :: t, i + 1, h, h2 => by
    have q := own_wst r t i (by simpa using h) (by simpa using h2)
    show Value.int (own_b x) :: own_w r t (i + 1) = Value.int (own_b x) :: (own_w r t i).set i (.int (own_b (r.getD i 0)))
    rw [q]
theorem own_wl {ds : List Int32} {vs : List Value} {i : Nat} (h : vs.length = ds.length) (hi : i < ds.length) : i < (own_w ds vs i).length := by
  unfold own_w
  rw [List.length_append, List.length_map, List.length_take, List.length_drop]
  omega
theorem own_wn {ds : List Int32} {vs : List Value} (h : vs.length = ds.length) (hb : own_fb ds = ds.length) : (ds.map fun x => Value.int (own_b x)) = own_w ds vs (own_fb ds) := by
  unfold own_w
  rw [hb, List.take_length, List.drop_eq_nil_of_le (by omega), List.append_nil]
abbrev own_I (f n i s : Int32) : Prop := 0 ≤ i.toInt ∧ i.toInt ≤ n.toInt ∧ s.toInt = f.toInt + i.toInt
theorem own_lt {a b : Int32} (c : a < b) : a.toInt < b.toInt := Int32.lt_iff_toInt_lt.mp c
theorem own_nl {a b : Int32} (c : ¬ (a < b)) : b.toInt ≤ a.toInt := by rw [Int32.lt_iff_toInt_lt] at c; omega
theorem own_i1 {f n i s : Int32} {m : Nat} (hc : own_C f n m) (hI : own_I f n i s) : ¬ (s < (0 : Int32)) := by
  rw [Int32.lt_iff_toInt_lt]
  have k : (0 : Int32).toInt = 0 := rfl
  obtain ⟨a1, a2, a3⟩ := hI
  have := hc.1
  omega
theorem own_i3 {f n i s : Int32} {m : Nat} (hc : own_C f n m) (hI : own_I f n i s) (c : i < n) : s < (Int32.ofNat m) := by
  have c := own_lt c
  have q := (own_of5 (n := m) hc.2.2.2.1).1
  rw [Int32.lt_iff_toInt_lt]
  obtain ⟨a1, a2, a3⟩ := hI
  obtain ⟨b1, b2, b3, b4, -⟩ := hc
  omega
theorem own_ig {i : Int32} (h : 0 ≤ i.toInt) : ¬ (i < (0 : Int32)) := by
  rw [Int32.lt_iff_toInt_lt]
  have k : (0 : Int32).toInt = 0 := rfl
  omega
theorem own_il {cs : List Int32} {f n i s : Int32} (hc : own_C f n cs.length) (hI : own_I f n i s) (c : i < n) : i.toNatClampNeg < (own_ds cs f n).length := by
  have c := own_lt c
  rw [own_dl hc]
  have e : i.toNatClampNeg = i.toInt.toNat := rfl
  have e' : n.toNatClampNeg = n.toInt.toNat := rfl
  have := hI.1
  omega
theorem own_ia {cs : List Int32} {f n i s : Int32} (hc : own_C f n cs.length) (hI : own_I f n i s) (c : i < n) : own_at cs s = (own_ds cs f n).getD i.toNatClampNeg 0 := by
  have l := own_il hc hI c
  have l2 := l
  rw [own_dl hc] at l2
  have e : i.toNatClampNeg = i.toInt.toNat := rfl
  have e1 : f.toNatClampNeg = f.toInt.toNat := rfl
  have e2 : s.toNatClampNeg = s.toInt.toNat := rfl
  have es : s.toNatClampNeg = f.toNatClampNeg + i.toNatClampNeg := by
    have := hI.1
    have := hI.2.2
    have := hc.1
    omega
  unfold own_at own_ds
  rw [es, List.getD_eq_getElem?_getD, List.getD_eq_getElem?_getD, List.getElem?_take_of_lt l2, List.getElem?_drop]
theorem own_iu {f n i s : Int32} {m : Nat} (hc : own_C f n m) (hI : own_I f n i s) (c : i < n) : own_I f n (i + (1 : Int32)) (s + (1 : Int32)) ∧ (i + (1 : Int32)).toNatClampNeg = i.toNatClampNeg + 1 ∧ (i + (1 : Int32)).toInt = i.toInt + 1 := by
  have c := own_lt c
  have a := c_iadd i 1
  have b := c_iadd s 1
  have r1 := rng32 (i + 1)
  have r2 := rng32 (s + 1)
  have k : (1 : Int32).toInt = 1 := rfl
  have e : i.toNatClampNeg = i.toInt.toNat := rfl
  have e' : (i + (1 : Int32)).toNatClampNeg = (i + (1 : Int32)).toInt.toNat := rfl
  obtain ⟨a1, a2, a3⟩ := hI
  obtain ⟨b1, b2, b3, b4, -⟩ := hc
  rw [e, e']
  unfold own_I
  omega
theorem own_iK {f n i s : Int32} {m k : Nat} (hc : own_C f n m) (hI : own_I f n i s) (c : i < n) (hk : n.toInt ≤ i.toInt + ((k + 1 : Nat) : Int)) : n.toInt ≤ (i + (1 : Int32)).toInt + (k : Int) := by
  rw [(own_iu hc hI c).2.2]
  omega
theorem own_fbT {ds : List Int32} {i : Nat} (h : i < ds.length) : own_fb (ds.drop i) = if (255 : Int32) < ds.getD i 0 then 0 else own_fb (ds.drop (i + 1)) + 1 := by
  rw [List.drop_eq_getElem_cons h, List.getD_eq_getElem?_getD, List.getElem?_eq_getElem h]
  rfl
theorem own_iF {cs : List Int32} {f n i s : Int32} (hc : own_C f n cs.length) (hI : own_I f n i s) (hfb : own_fb (own_ds cs f n) = i.toNatClampNeg + own_fb ((own_ds cs f n).drop i.toNatClampNeg)) (c : i < n) (q : ¬ ((255 : Int32) < (own_at cs s))) : own_fb (own_ds cs f n) = (i + (1 : Int32)).toNatClampNeg + own_fb ((own_ds cs f n).drop (i + (1 : Int32)).toNatClampNeg) := by
  rw [own_ia hc hI c] at q
  rw [hfb, own_fbT (own_il hc hI c), if_neg q, (own_iu hc hI c).2.1]
  omega
theorem own_iX {cs : List Int32} {f n i s : Int32} (hc : own_C f n cs.length) (hI : own_I f n i s) (hfb : own_fb (own_ds cs f n) = i.toNatClampNeg + own_fb ((own_ds cs f n).drop i.toNatClampNeg)) (c : i < n) (q : (255 : Int32) < (own_at cs s)) : own_fb (own_ds cs f n) = i.toNatClampNeg := by
  rw [own_ia hc hI c] at q
  rw [hfb, own_fbT (own_il hc hI c), if_pos q]
  omega
theorem own_iE {cs : List Int32} {f n i s : Int32} (hc : own_C f n cs.length) (hI : own_I f n i s) (hfb : own_fb (own_ds cs f n) = i.toNatClampNeg + own_fb ((own_ds cs f n).drop i.toNatClampNeg)) (c : ¬ (i < n)) : own_fb (own_ds cs f n) = i.toNatClampNeg ∧ i = n := by
  have c := own_nl c
  have e : i = n := Int32.toInt_inj.mp (by have := hI.2.1; omega)
  have l := own_dl hc
  rw [List.drop_eq_nil_of_le (by rw [l, e]; exact Nat.le_refl _)] at hfb
  exact ⟨hfb, e⟩
theorem own_iw {cs : List Int32} {vs : List Value} {f n i s : Int32} (hc : own_C f n cs.length) (hl : vs.length = n.toNatClampNeg) (hI : own_I f n i s) (c : i < n) : own_w (own_ds cs f n) vs (i + (1 : Int32)).toNatClampNeg = (own_w (own_ds cs f n) vs i.toNatClampNeg).set i.toNatClampNeg (.int (nar .byte ((own_at cs s).toInt8.toInt32))) := by
  rw [(own_iu hc hI c).2.1, own_wst _ _ _ (by rw [hl, own_dl hc]) (own_il hc hI c), ← own_ia hc hI c]
  rfl
theorem own_I0 {f n : Int32} {m : Nat} (hc : own_C f n m) : own_I f n (0 : Int32) f := by
  have k : (0 : Int32).toInt = 0 := rfl
  have := hc.2.1
  unfold own_I
  omega
theorem own_I5 {f n : Int32} {m : Nat} (hc : own_C f n m) : n.toInt ≤ (0 : Int32).toInt + ((5 : Nat) : Int) := by
  have k : (0 : Int32).toInt = 0 := rfl
  obtain ⟨b1, b2, b3, b4, -⟩ := hc
  omega
theorem own_I2 (ds : List Int32) : own_fb ds = (0 : Int32).toNatClampNeg + own_fb (ds.drop (0 : Int32).toNatClampNeg) := by
  rw [show (0 : Int32).toNatClampNeg = 0 from rfl, Nat.zero_add]
  rfl
theorem own_i0 {i n : Int32} (hk : n.toInt ≤ i.toInt + ((0 : Nat) : Int)) : ¬ (i < n) := by
  rw [Int32.lt_iff_toInt_lt]
  omega
theorem own_ss (f : Int32) : f - f = (0 : Int32) := by
  apply Int32.toInt_inj.mp
  have a := c_isub f f
  have r := rng32 (f - f)
  have k : (0 : Int32).toInt = 0 := rfl
  omega
abbrev own_F0 (f : Int32) (n : Nat) : Prop := 0 ≤ f.toInt ∧ f.toInt ≤ n ∧ 0 < n ∧ n ≤ 5
theorem own_F3 {f : Int32} {n : Nat} (h : own_F0 f n) : ¬ ((Int32.ofNat n) < f) := by
  have q := (own_of5 (n := n) h.2.2.2).1
  rw [Int32.lt_iff_toInt_lt]
  have := h.2.1
  omega
theorem own_F4 {f : Int32} {n : Nat} (h : own_F0 f n) : ¬ (f = (0 : Int32) ∧ f = (Int32.ofNat n)) := fun ⟨a, b⟩ => by
  have q := (own_of5 (n := n) h.2.2.2).1
  rw [← b, a] at q
  have k : (0 : Int32).toInt = 0 := rfl
  have := h.2.2.1
  omega
theorem own_W1 {f : Int32} (h : f = (0 : Int32)) : ¬ (f < (0 : Int32)) := by rw [h]; decide
theorem own_W2 {f e : Int32} {n : Nat} (h : f = (0 : Int32)) (h2 : e = (Int32.ofNat n)) (hn : n ≤ 5) : ¬ (e < f) := by
  have q := (own_of5 hn).1
  rw [h, h2, Int32.lt_iff_toInt_lt]
  have k : (0 : Int32).toInt = 0 := rfl
  omega
theorem own_W3 {e : Int32} {n : Nat} (h2 : e = (Int32.ofNat n)) : ¬ ((Int32.ofNat n) < e) := by
  rw [h2, Int32.lt_iff_toInt_lt]
  omega
def own_wb (x : Int32) : Bool := decide (x = 32 ∨ x = 9 ∨ x = 10 ∨ x = 13 ∨ x = 12 ∨ x = 160)
def own_wi (x : Int32) : Int32 := if own_wb x = true then 1 else 0
theorem own_wi0 {x : Int32} (h : own_wi x = (0 : Int32)) : own_wb x = false := by
  unfold own_wi at h
  cases q : own_wb x
  · rfl
  · rw [q] at h; exact absurd h (by decide)
theorem own_wi1 {x : Int32} (h : ¬ (own_wi x = (0 : Int32))) : own_wb x = true := by
  unfold own_wi at h
  cases q : own_wb x
  · rw [q] at h; exact absurd rfl h
  · rfl
def own_F (w : List Bool) (e : Nat) : Nat → Nat → Nat
  | 0, i => i
  | k + 1, i => if i < e ∧ w.getD i false = true then own_F w e k (i + 1) else i
def own_L (w : List Bool) (f : Nat) : Nat → Nat → Nat
  | 0, e => e
  | k + 1, e => if f < e ∧ w.getD (e - 1) false = true then own_L w f k (e - 1) else e
def own_cut (s e : Nat) (xs : List Int32) : List Int32 := (xs.drop (own_F (xs.map own_wb) e 6 s)).take (own_L (xs.map own_wb) (own_F (xs.map own_wb) e 6 s) 6 e - own_F (xs.map own_wb) e 6 s)
theorem own_wg : ∀ (cs : List Int32) (i : Nat), (cs.map own_wb).getD i false = own_wb (cs.getD i 0)
  | [], _ => by simp [own_wb]
  | _ :: _, 0 => rfl
  | _ :: r, i + 1 => own_wg r i
abbrev own_T (s e : Int32) : Prop := 0 ≤ s.toInt ∧ s.toInt ≤ e.toInt ∧ e.toInt ≤ 5
theorem own_lt5 {cs : List Int32} {i : Int32} (h5 : cs.length = 5) (h : i.toInt < 5) : i < (Int32.ofNat cs.length) := by
  rw [h5, Int32.lt_iff_toInt_lt]
  exact h
theorem own_up {i e : Int32} (c : i < e) (h : own_T i e) : (i + (1 : Int32)).toInt = i.toInt + 1 := by
  have c := own_lt c
  have a := c_iadd i 1
  have r := rng32 (i + 1)
  have k : (1 : Int32).toInt = 1 := rfl
  obtain ⟨h1, h2, h3⟩ := h
  omega
theorem own_dn {i e : Int32} (c : i < e) (h : own_T i e) : (e - (1 : Int32)).toInt = e.toInt - 1 ∧ (e + (-1 : Int32)).toInt = e.toInt - 1 := by
  have c := own_lt c
  have a := c_isub e 1
  have r := rng32 (e - 1)
  have a' := c_iadd e (-1)
  have r' := rng32 (e + (-1))
  have k : (1 : Int32).toInt = 1 := rfl
  have k' : (-1 : Int32).toInt = -1 := rfl
  obtain ⟨h1, h2, h3⟩ := h
  omega
theorem own_dT {i e : Int32} (c : i < e) (h : own_T i e) : own_T i (e + (-1 : Int32)) := by
  have q := (own_dn c h).2
  have r := own_lt c
  obtain ⟨h1, h2, h3⟩ := h
  unfold own_T
  rw [q]
  omega
theorem own_dK {i e : Int32} {k : Nat} (c : i < e) (h : own_T i e) (hk : e.toInt ≤ i.toInt + ((k + 1 : Nat) : Int)) : (e + (-1 : Int32)).toInt ≤ i.toInt + (k : Int) := by
  rw [(own_dn c h).2]
  omega
theorem own_uT {i e : Int32} (c : i < e) (h : own_T i e) : own_T (i + (1 : Int32)) e := by
  have q := own_up c h
  have r := own_lt c
  obtain ⟨h1, h2, h3⟩ := h
  unfold own_T
  rw [q]
  omega
theorem own_uK {i e : Int32} {k : Nat} (c : i < e) (h : own_T i e) (hk : e.toInt ≤ i.toInt + ((k + 1 : Nat) : Int)) : e.toInt ≤ (i + (1 : Int32)).toInt + (k : Int) := by
  rw [own_up c h]
  omega
theorem own_T6 {i e : Int32} (h : own_T i e) : e.toInt ≤ i.toInt + ((6 : Nat) : Int) := by
  obtain ⟨h1, h2, h3⟩ := h
  omega
theorem own_g1 {i e : Int32} (c : i < e) (h : own_T i e) : ¬ ((e - (1 : Int32)) < (0 : Int32)) := by
  apply own_ig
  rw [(own_dn c h).1]
  have r := own_lt c
  have := h.1
  omega
theorem own_g2 {cs : List Int32} {i e : Int32} (h5 : cs.length = 5) (c : i < e) (h : own_T i e) : (e - (1 : Int32)) < (Int32.ofNat cs.length) := by
  apply own_lt5 h5
  rw [(own_dn c h).1]
  have := h.2.2
  omega
theorem own_g3 {cs : List Int32} {i e : Int32} (h5 : cs.length = 5) (c : i < e) (h : own_T i e) : i < (Int32.ofNat cs.length) := by
  apply own_lt5 h5
  have r := own_lt c
  have := h.2.2
  omega
theorem own_Fx {cs : List Int32} {i e : Int32} (h0 : 0 ≤ i.toInt) (c : ¬ (i < e) ∨ own_wi (own_at cs i) = (0 : Int32)) : ∀ k, own_F (cs.map own_wb) e.toInt.toNat k i.toInt.toNat = i.toInt.toNat
  | 0 => rfl
  | k + 1 => if_neg fun ⟨q1, q2⟩ => by
    rcases c with c | c
    · have := own_nl c
      omega
    · rw [own_wg] at q2
      have e1 : own_wb (cs.getD i.toInt.toNat 0) = false := own_wi0 c
      rw [e1] at q2
      exact absurd q2 (by decide)
theorem own_Fy {cs : List Int32} {i e : Int32} (h : own_T i e) (c : i < e) (q : ¬ (own_wi (own_at cs i) = (0 : Int32))) (k : Nat) : own_F (cs.map own_wb) e.toInt.toNat (k + 1) i.toInt.toNat = own_F (cs.map own_wb) e.toInt.toNat k (i + (1 : Int32)).toInt.toNat := by
  have u := own_up c h
  have c' := own_lt c
  have e2 : (i + (1 : Int32)).toInt.toNat = i.toInt.toNat + 1 := by have := h.1; omega
  have e1 : own_wb (cs.getD i.toInt.toNat 0) = true := own_wi1 q
  rw [e2]
  exact if_pos ⟨by have := h.1; omega, by rw [own_wg]; exact e1⟩
theorem own_Lx {cs : List Int32} {i e : Int32} (h : own_T i e) (c : ¬ (i < e) ∨ (i < e ∧ own_wi (own_at cs (e - (1 : Int32))) = (0 : Int32))) : ∀ k, own_L (cs.map own_wb) i.toInt.toNat k e.toInt.toNat = e.toInt.toNat
  | 0 => rfl
  | k + 1 => if_neg fun ⟨q1, q2⟩ => by
    rcases c with c | ⟨c, d⟩
    · have := own_nl c
      omega
    · rw [own_wg] at q2
      have u := (own_dn c h).1
      have c' := own_lt c
      have e2 : (e - (1 : Int32)).toInt.toNat = e.toInt.toNat - 1 := by have := h.1; omega
      have e1 : own_wb (cs.getD (e - (1 : Int32)).toInt.toNat 0) = false := own_wi0 d
      rw [e2] at e1
      rw [e1] at q2
      exact absurd q2 (by decide)
theorem own_Ly {cs : List Int32} {i e : Int32} (h : own_T i e) (c : i < e) (q : ¬ (own_wi (own_at cs (e - (1 : Int32))) = (0 : Int32))) (k : Nat) : own_L (cs.map own_wb) i.toInt.toNat (k + 1) e.toInt.toNat = own_L (cs.map own_wb) i.toInt.toNat k (e + (-1 : Int32)).toInt.toNat := by
  have u := own_dn c h
  have c' := own_lt c
  have e2 : (e - (1 : Int32)).toInt.toNat = e.toInt.toNat - 1 := by have := h.1; omega
  have e3 : (e + (-1 : Int32)).toInt.toNat = e.toInt.toNat - 1 := by have := h.1; omega
  have e1 : own_wb (cs.getD (e - (1 : Int32)).toInt.toNat 0) = true := own_wi1 q
  rw [e2] at e1
  rw [e3]
  exact if_pos ⟨by have := h.1; omega, by rw [own_wg]; exact e1⟩
theorem own_3 {cs : List Int32} {i e : Int32} (h5 : cs.length = 5) (h : own_T i e) : (i = (0 : Int32) ∧ e = (Int32.ofNat cs.length)) ∨ own_D i e cs.length ∨ (e = i ∧ own_F0 i cs.length) := by
  rw [h5]
  have k0 : (0 : Int32).toInt = 0 := rfl
  have k5 : (Int32.ofNat 5).toInt = 5 := rfl
  rw [← Int32.toInt_inj, ← Int32.toInt_inj, ← Int32.toInt_inj]
  unfold own_D own_F0
  obtain ⟨h1, h2, h3⟩ := h
  omega
theorem own_k1 {cs : List Int32} {s e i j : Int32} (hF : own_F (cs.map own_wb) e.toInt.toNat 6 s.toInt.toNat = i.toInt.toNat) (hL : own_L (cs.map own_wb) i.toInt.toNat 6 e.toInt.toNat = j.toInt.toNat) (h5 : cs.length = 5) (q : i = (0 : Int32) ∧ j = (Int32.ofNat cs.length)) : own_cut s.toInt.toNat e.toInt.toNat cs = cs := by
  unfold own_cut
  rw [hF, hL, q.1, q.2, h5]
  show (cs.drop 0).take 5 = cs
  rw [List.drop_zero, ← h5, List.take_length]
theorem own_k2 {cs : List Int32} {s e i j : Int32} (hF : own_F (cs.map own_wb) e.toInt.toNat 6 s.toInt.toNat = i.toInt.toNat) (hL : own_L (cs.map own_wb) i.toInt.toNat 6 e.toInt.toNat = j.toInt.toNat) (h : own_T i j) : own_cut s.toInt.toNat e.toInt.toNat cs = own_ds cs i (j - i) := by
  unfold own_cut own_ds
  rw [hF, hL]
  have a := c_isub j i
  have r := rng32 (j - i)
  obtain ⟨h1, h2, h3⟩ := h
  have q : (j - i).toNatClampNeg = j.toInt.toNat - i.toInt.toNat := by
    show (j - i).toInt.toNat = _
    omega
  rw [q]
  rfl
theorem own_k3 {cs : List Int32} {s e i j : Int32} (hF : own_F (cs.map own_wb) e.toInt.toNat 6 s.toInt.toNat = i.toInt.toNat) (hL : own_L (cs.map own_wb) i.toInt.toNat 6 e.toInt.toNat = j.toInt.toNat) (h : j = i) : own_cut s.toInt.toNat e.toInt.toNat cs = [] := by
  unfold own_cut
  rw [hF, hL, h, Nat.sub_self, List.take_zero]
theorem d_jdk_52_method_6_0 : decode jdk_52_method_6_code 0 = .ok (.aload_n 0, 1) := by decide +kernel
theorem d_jdk_52_method_6_1 : decode jdk_52_method_6_code 1 = .ok (.arraylength, 1) := by decide +kernel
theorem d_jdk_52_method_6_2 : decode jdk_52_method_6_code 2 = .ok (.iconst 1, 1) := by decide +kernel
theorem d_jdk_52_method_6_3 : decode jdk_52_method_6_code 3 = .ok (.ishr, 1) := by decide +kernel
theorem d_jdk_52_method_6_4 : decode jdk_52_method_6_code 4 = .ok (.ireturn, 1) := by decide +kernel
theorem ef_4 (m : MethodId) (x0 : Addr) : entryFrame m #[(.ref x0)] 1 = mkF m 0 #[.val (.ref x0)] [] := by first | (simp [entryFrame, mkF, argsToLocals, Value.category]; done) | rfl
theorem pn_2 : plainName "java/lang/StringUTF16" = true := by first | (simp [plainName, overriddenIn]; done) | decide +kernel
def Q_l16 (Z : State) (b : Addr) (k : ClassId) (cs : List Int32) (h0 : Heap) (n0 : Nat) (v : Option Value) (h : Heap) (L : List Loc) : Prop := v = some (.int (Int32.ofNat cs.length)) ∧ Fr n0 L ∧ h = h0
set_option maxRecDepth 65536 in
set_option maxHeartbeats 40000000 in
theorem rm_l16 (l : Launch) (Z : State) (a0 : Array Value) (hw : ∀ d ∈ tables_1, d.before a0 Z = true) (ws : List Jvm.Cond) (b : Addr) (k : ClassId) (cs : List Int32) (h0 : Heap) (n0 : Nat) (Z0 : n0 ≤ h0.size) (V_b : Arv Z h0 b k .byte (Int32.ofNat (2 * cs.length)) (own_u cs) (.int (0 : Int32))) (hn : cs.length ≤ 5) :
    MetFree l (⟨"java/lang/StringUTF16", "length", "([B)I"⟩ : MethodName) (head1 (Jvm.Cond.code (⟨"java/lang/StringUTF16", "length", "([B)I"⟩ : MethodName) jdk_52_method_6_code 1 (some .int) :: ws) ({ frames := 0, cells := 0, slots := 0, locals := 0 } : Room)) (fun aA U => aA = #[(.ref b)] ∧ Z.Warmed39 U.vm ∧ U.heap = h0) (fun _ _ _ _ _ => True) (fun _ U oO U' => ∃ vV LL, oO = .returned vV ∧ Q_l16 Z b k cs h0 n0 vV U'.heap LL ∧ FrameEnd U oO U' LL ({ frames := 0, cells := 0, slots := 0, locals := 0 } : Room).cells ({ frames := 0, cells := 0, slots := 0, locals := 0 } : Room).slots) := by
  refine MetFree.of_bodySF (plainFor_of_name pn_2) hisR ?_
  intro p e s m args below meth c s₁ Bd hml0 hP hK
  obtain ⟨rfl, hZ, hh⟩ := hP
  have hx := Bd.exec
  have hby := Bd.bytes
  have hml : c.maxLocals = 1 := hml0
  have hown : s.vm.findClass "java/lang/StringUTF16" = some m.cls := findClass_of_methodNamed Bd.named
  have hnm := (name_of_methodNamed Bd.named Bd.method).1
  have X0 : Stand p l e ({ frames := 0, cells := 0, slots := 0, locals := 0 } : Room) s m #[(.ref b)] below meth c s₁ [] 0 0 := Stand.of_body Bd
  have e0 : s₁.heap = h0 := by rw [← hh, Bd.state]; rfl
  have N0 := Fr.nil n0
  have hret := Bd.returns
  have hlk : meth.locks = false := Bd.notSynchronized
  refine own_start (ef_4 m b) ?_
  show own_Go p e below s (Q_l16 Z b k cs h0 n0) ({ frames := 0, cells := 0, slots := 0, locals := 0 } : Room).cells ({ frames := 0, cells := 0, slots := 0, locals := 0 } : Room).slots (s₁.setTop (mkF m 0 #[.val (.ref b)] []))
  refine g_aload_n X0 hx 1 (hb hby d_jdk_52_method_6_0) rfl rfl rfl ?_
  obtain ⟨cl14, Ar14, q14, S14, P14, H14, G14⟩ := id V_b
  refine own_arraylength X0 hx hZ e0 Ar14 S14 P14 2 (hb hby d_jdk_52_method_6_1) rfl ?_
  refine g_iconst X0 hx 3 (hb hby d_jdk_52_method_6_2) (1 : Int32) rfl rfl ?_
  refine g_ishr X0 hx 4 (hb hby d_jdk_52_method_6_3) rfl ?_
  refine own_retI X0 hx hlk hret (hb hby d_jdk_52_method_6_4) ?_ (by decide) (by decide)
  rw [e0]
  exact ⟨(congrArg some (congrArg Value.int (own_sh1 hn))), N0, rfl⟩
theorem d_jdk_52_method_5_0 : decode jdk_52_method_5_code 0 = .ok (.getstatic 44, 3) := by decide +kernel
theorem d_jdk_52_method_5_3 : decode jdk_52_method_5_code 3 = .ok (.ifCond .ne 25, 3) := by decide +kernel
theorem d_jdk_52_method_5_28 : decode jdk_52_method_5_code 28 = .ok (.iload_n 1, 1) := by decide +kernel
theorem d_jdk_52_method_5_29 : decode jdk_52_method_5_code 29 = .ok (.iconst 1, 1) := by decide +kernel
theorem d_jdk_52_method_5_30 : decode jdk_52_method_5_code 30 = .ok (.ishl, 1) := by decide +kernel
theorem d_jdk_52_method_5_31 : decode jdk_52_method_5_code 31 = .ok (.istore_n 1, 1) := by decide +kernel
theorem d_jdk_52_method_5_32 : decode jdk_52_method_5_code 32 = .ok (.aload_n 0, 1) := by decide +kernel
theorem d_jdk_52_method_5_33 : decode jdk_52_method_5_code 33 = .ok (.iload_n 1, 1) := by decide +kernel
theorem d_jdk_52_method_5_34 : decode jdk_52_method_5_code 34 = .ok (.iinc 1 1, 3) := by decide +kernel
theorem d_jdk_52_method_5_37 : decode jdk_52_method_5_code 37 = .ok (.baload, 1) := by decide +kernel
theorem d_jdk_52_method_5_38 : decode jdk_52_method_5_code 38 = .ok (.sipush 255, 3) := by decide +kernel
theorem d_jdk_52_method_5_41 : decode jdk_52_method_5_code 41 = .ok (.iand, 1) := by decide +kernel
theorem d_jdk_52_method_5_42 : decode jdk_52_method_5_code 42 = .ok (.getstatic 59, 3) := by decide +kernel
theorem d_jdk_52_method_5_45 : decode jdk_52_method_5_code 45 = .ok (.ishl, 1) := by decide +kernel
theorem d_jdk_52_method_5_46 : decode jdk_52_method_5_code 46 = .ok (.aload_n 0, 1) := by decide +kernel
theorem d_jdk_52_method_5_47 : decode jdk_52_method_5_code 47 = .ok (.iload_n 1, 1) := by decide +kernel
theorem d_jdk_52_method_5_48 : decode jdk_52_method_5_code 48 = .ok (.baload, 1) := by decide +kernel
theorem d_jdk_52_method_5_49 : decode jdk_52_method_5_code 49 = .ok (.sipush 255, 3) := by decide +kernel
theorem d_jdk_52_method_5_52 : decode jdk_52_method_5_code 52 = .ok (.iand, 1) := by decide +kernel
theorem d_jdk_52_method_5_53 : decode jdk_52_method_5_code 53 = .ok (.getstatic 63, 3) := by decide +kernel
theorem d_jdk_52_method_5_56 : decode jdk_52_method_5_code 56 = .ok (.ishl, 1) := by decide +kernel
theorem d_jdk_52_method_5_57 : decode jdk_52_method_5_code 57 = .ok (.ior, 1) := by decide +kernel
theorem d_jdk_52_method_5_58 : decode jdk_52_method_5_code 58 = .ok (.i2c, 1) := by decide +kernel
theorem d_jdk_52_method_5_59 : decode jdk_52_method_5_code 59 = .ok (.ireturn, 1) := by decide +kernel
theorem ef_5 (m : MethodId) (x0 : Addr) (x1 : Int32) : entryFrame m #[(.ref x0), (.int x1)] 2 = mkF m 0 #[.val (.ref x0), .val (.int x1)] [] := by first | (simp [entryFrame, mkF, argsToLocals, Value.category]; done) | rfl
def Q_gch (Z : State) (b : Addr) (k : ClassId) (jj : Int32) (cs : List Int32) (h0 : Heap) (n0 : Nat) (v : Option Value) (h : Heap) (L : List Loc) : Prop := v = some (.int (own_at cs jj)) ∧ Fr n0 L ∧ h = h0
set_option maxRecDepth 65536 in
set_option maxHeartbeats 40000000 in
theorem rm_gch (l : Launch) (Z : State) (a0 : Array Value) (hw : ∀ d ∈ tables_1, d.before a0 Z = true) (ws : List Jvm.Cond) (b : Addr) (k : ClassId) (jj : Int32) (cs : List Int32) (h0 : Heap) (n0 : Nat) (Z0 : n0 ≤ h0.size) (V_b : Arv Z h0 b k .byte (Int32.ofNat (2 * cs.length)) (own_u cs) (.int (0 : Int32))) (S__assertionsDisabled : Sta Z h0 "java/lang/StringUTF16" "$assertionsDisabled" "Z" (.int (1 : Int32))) (S_HI_BYTE_SHIFT : Sta Z h0 "java/lang/StringUTF16" "HI_BYTE_SHIFT" "I" (.int (0 : Int32))) (S_LO_BYTE_SHIFT : Sta Z h0 "java/lang/StringUTF16" "LO_BYTE_SHIFT" "I" (.int (8 : Int32))) (hn : cs.length ≤ 5) (g1 : ¬ (jj < (0 : Int32))) (g2 : jj < (Int32.ofNat cs.length)) (hr : ∀ x ∈ cs, 0 ≤ x.toInt ∧ x.toInt ≤ 65535) :
    MetFree l (⟨"java/lang/StringUTF16", "getChar", "([BI)C"⟩ : MethodName) (head1 (Jvm.Cond.code (⟨"java/lang/StringUTF16", "getChar", "([BI)C"⟩ : MethodName) jdk_52_method_5_code 2 (some .char) :: ws) ({ frames := 0, cells := 0, slots := 0, locals := 0 } : Room)) (fun aA U => aA = #[(.ref b), (.int jj)] ∧ Z.Warmed39 U.vm ∧ U.heap = h0) (fun _ _ _ _ _ => True) (fun _ U oO U' => ∃ vV LL, oO = .returned vV ∧ Q_gch Z b k jj cs h0 n0 vV U'.heap LL ∧ FrameEnd U oO U' LL ({ frames := 0, cells := 0, slots := 0, locals := 0 } : Room).cells ({ frames := 0, cells := 0, slots := 0, locals := 0 } : Room).slots) := by
  refine MetFree.of_bodySF (plainFor_of_name pn_2) hisR ?_
  intro p e s m args below meth c s₁ Bd hml0 hP hK
  obtain ⟨rfl, hZ, hh⟩ := hP
  have hx := Bd.exec
  have hby := Bd.bytes
  have hml : c.maxLocals = 2 := hml0
  have hown : s.vm.findClass "java/lang/StringUTF16" = some m.cls := findClass_of_methodNamed Bd.named
  have hnm := (name_of_methodNamed Bd.named Bd.method).1
  have X0 : Stand p l e ({ frames := 0, cells := 0, slots := 0, locals := 0 } : Room) s m #[(.ref b), (.int jj)] below meth c s₁ [] 0 0 := Stand.of_body Bd
  have e0 : s₁.heap = h0 := by rw [← hh, Bd.state]; rfl
  have N0 := Fr.nil n0
  have hret := Bd.returns
  have hlk : meth.locks = false := Bd.notSynchronized
  refine own_start (ef_5 m b jj) ?_
  show own_Go p e below s (Q_gch Z b k jj cs h0 n0) ({ frames := 0, cells := 0, slots := 0, locals := 0 } : Room).cells ({ frames := 0, cells := 0, slots := 0, locals := 0 } : Room).slots (s₁.setTop (mkF m 0 #[.val (.ref b), .val (.int jj)] []))
  refine own_getS X0 hx hZ hown (host := "") (Or.inl (hw _ (List.mem_of_getElem? (i := 146) rfl))) Via.refl e0 S__assertionsDisabled 3 (hb hby d_jdk_52_method_5_0) rfl fun T15 X15 e15 => ?_
  refine g_ifYes X15 hx 28 (hb hby d_jdk_52_method_5_3) (own_i0_ne_t (by decide)) (by decide) (by decide) ?_
  refine g_iload_n X15 hx 29 (hb hby d_jdk_52_method_5_28) rfl rfl ?_
  refine g_iconst X15 hx 30 (hb hby d_jdk_52_method_5_29) (1 : Int32) rfl rfl ?_
  refine g_ishl X15 hx 31 (hb hby d_jdk_52_method_5_30) rfl ?_
  refine g_istore_n X15 hx 32 (hb hby d_jdk_52_method_5_31) (l' := #[.val (.ref b), .val (.int (jj <<< ((1 : Int32) &&& 31)))]) rfl rfl ?_
  refine g_aload_n X15 hx 33 (hb hby d_jdk_52_method_5_32) rfl rfl rfl ?_
  refine g_iload_n X15 hx 34 (hb hby d_jdk_52_method_5_33) rfl rfl ?_
  refine g_iinc X15 hx 37 (hb hby d_jdk_52_method_5_34) (z := ((jj <<< ((1 : Int32) &&& 31)) + (1 : Int32))) rfl rfl (l' := #[.val (.ref b), .val (.int ((jj <<< ((1 : Int32) &&& 31)) + (1 : Int32)))]) rfl rfl ?_
  obtain ⟨cl16, Ar16, q16, S16, P16, H16, G16⟩ := id V_b
  have hin16 := inb_of (j := (jj <<< ((1 : Int32) &&& 31))) S16 (own_i2 hn g1 g2).1
  refine own_baloadB X15 hx hZ e15 Ar16 (v := (.int (own_h (own_at cs jj)))) hin16 (Has.at H16 hin16 (own_ldh hn g1 g2)) 38 (hb hby d_jdk_52_method_5_37) rfl ?_
  refine g_sipush X15 hx 41 (hb hby d_jdk_52_method_5_38) (255 : Int32) rfl rfl ?_
  refine g_iand X15 hx 42 (hb hby d_jdk_52_method_5_41) rfl ?_
  refine own_getS X15 hx hZ hown (host := "") (Or.inl (hw _ (List.mem_of_getElem? (i := 147) rfl))) Via.refl e15 S_HI_BYTE_SHIFT 45 (hb hby d_jdk_52_method_5_42) rfl fun T17 X17 e17 => ?_
  refine g_ishl X17 hx 46 (hb hby d_jdk_52_method_5_45) rfl ?_
  refine g_aload_n X17 hx 47 (hb hby d_jdk_52_method_5_46) rfl rfl rfl ?_
  refine g_iload_n X17 hx 48 (hb hby d_jdk_52_method_5_47) rfl rfl ?_
  obtain ⟨cl18, Ar18, q18, S18, P18, H18, G18⟩ := id V_b
  have hin18 := inb_of (j := ((jj <<< ((1 : Int32) &&& 31)) + (1 : Int32))) S18 (own_i2 hn g1 g2).2.2.1
  refine own_baloadB X17 hx hZ e17 Ar18 (v := (.int (own_l (own_at cs jj)))) hin18 (Has.at H18 hin18 (own_ldl hn g1 g2)) 49 (hb hby d_jdk_52_method_5_48) rfl ?_
  refine g_sipush X17 hx 52 (hb hby d_jdk_52_method_5_49) (255 : Int32) rfl rfl ?_
  refine g_iand X17 hx 53 (hb hby d_jdk_52_method_5_52) rfl ?_
  refine own_getS X17 hx hZ hown (host := "") (Or.inl (hw _ (List.mem_of_getElem? (i := 148) rfl))) Via.refl e17 S_LO_BYTE_SHIFT 56 (hb hby d_jdk_52_method_5_53) rfl fun T19 X19 e19 => ?_
  refine g_ishl X19 hx 57 (hb hby d_jdk_52_method_5_56) rfl ?_
  refine g_ior X19 hx 58 (hb hby d_jdk_52_method_5_57) rfl ?_
  refine g_i2c X19 hx 59 (hb hby d_jdk_52_method_5_58) rfl ?_
  refine own_retN X19 hx hlk (t := .char) hret (by simp) (hb hby d_jdk_52_method_5_59) ?_ (by decide) (by decide)
  rw [e19]
  exact ⟨(own_get (hr _ (own_at_mem (own_in hn g1 g2)))), N0, rfl⟩
theorem d_jdk_52_method_91_0 : decode jdk_52_method_91_code 0 = .ok (.iload_n 0, 1) := by decide +kernel
theorem d_jdk_52_method_91_1 : decode jdk_52_method_91_code 1 = .ok (.aload_n 1, 1) := by decide +kernel
theorem d_jdk_52_method_91_2 : decode jdk_52_method_91_code 2 = .ok (.invokestatic 48, 3) := by decide +kernel
theorem pd_2 : parseMethodDescriptor "([B)I" = some ⟨[(.array .byte)], some .int⟩ := by decide +kernel
theorem d_jdk_52_method_91_5 : decode jdk_52_method_91_code 5 = .ok (.invokestatic 414, 3) := by decide +kernel
theorem pd_3 : parseMethodDescriptor "(II)V" = some ⟨[.int, .int], none⟩ := by decide +kernel
theorem d_jdk_52_method_91_8 : decode jdk_52_method_91_code 8 = .ok (.return_, 1) := by decide +kernel
theorem ef_6 (m : MethodId) (x0 : Int32) (x1 : Addr) : entryFrame m #[(.int x0), (.ref x1)] 2 = mkF m 0 #[.val (.int x0), .val (.ref x1)] [] := by first | (simp [entryFrame, mkF, argsToLocals, Value.category]; done) | rfl
def Q_ci16 (Z : State) (jj : Int32) (b : Addr) (k : ClassId) (cs : List Int32) (fm : Value) (h0 : Heap) (n0 : Nat) (v : Option Value) (h : Heap) (L : List Loc) : Prop := v = none ∧ Fr n0 L ∧ h = h0
set_option maxRecDepth 65536 in
set_option maxHeartbeats 40000000 in
theorem rm_ci16 (l : Launch) (Z : State) (a0 : Array Value) (hw : ∀ d ∈ tables_1, d.before a0 Z = true) (ws : List Jvm.Cond) (jj : Int32) (b : Addr) (k : ClassId) (cs : List Int32) (fm : Value) (h0 : Heap) (n0 : Nat) (Z0 : n0 ≤ h0.size) (V_b : Arv Z h0 b k .byte (Int32.ofNat (2 * cs.length)) (own_u cs) (.int (0 : Int32))) (S_SIOOBE_FORMATTER : Sta Z h0 "jdk/internal/util/Preconditions" "SIOOBE_FORMATTER" "Ljava/util/function/BiFunction;" fm) (hn : cs.length ≤ 5) (g1 : ¬ (jj < (0 : Int32))) (g2 : jj < (Int32.ofNat cs.length)) (hfm : fm.isRef = true) :
    MetFree l (⟨"java/lang/StringUTF16", "checkIndex", "(I[B)V"⟩ : MethodName) (head1 (Jvm.Cond.code (⟨"java/lang/StringUTF16", "checkIndex", "(I[B)V"⟩ : MethodName) jdk_52_method_91_code 2 none :: ws) ({ frames := 2, cells := 0, slots := 0, locals := 27 } : Room)) (fun aA U => aA = #[(.int jj), (.ref b)] ∧ Z.Warmed39 U.vm ∧ U.heap = h0) (fun _ _ _ _ _ => True) (fun _ U oO U' => ∃ vV LL, oO = .returned vV ∧ Q_ci16 Z jj b k cs fm h0 n0 vV U'.heap LL ∧ FrameEnd U oO U' LL ({ frames := 2, cells := 0, slots := 0, locals := 27 } : Room).cells ({ frames := 2, cells := 0, slots := 0, locals := 27 } : Room).slots) := by
  refine MetFree.of_bodySF (plainFor_of_name pn_2) hisR ?_
  intro p e s m args below meth c s₁ Bd hml0 hP hK
  obtain ⟨rfl, hZ, hh⟩ := hP
  have hx := Bd.exec
  have hby := Bd.bytes
  have hml : c.maxLocals = 2 := hml0
  have hown : s.vm.findClass "java/lang/StringUTF16" = some m.cls := findClass_of_methodNamed Bd.named
  have hnm := (name_of_methodNamed Bd.named Bd.method).1
  have X0 : Stand p l e ({ frames := 2, cells := 0, slots := 0, locals := 27 } : Room) s m #[(.int jj), (.ref b)] below meth c s₁ [] 0 0 := Stand.of_body Bd
  have e0 : s₁.heap = h0 := by rw [← hh, Bd.state]; rfl
  have N0 := Fr.nil n0
  have hret := Bd.returns
  have hlk : meth.locks = false := Bd.notSynchronized
  refine own_start (ef_6 m jj b) ?_
  show own_Go p e below s (Q_ci16 Z jj b k cs fm h0 n0) ({ frames := 2, cells := 0, slots := 0, locals := 27 } : Room).cells ({ frames := 2, cells := 0, slots := 0, locals := 27 } : Room).slots (s₁.setTop (mkF m 0 #[.val (.int jj), .val (.ref b)] []))
  refine g_iload_n X0 hx 1 (hb hby d_jdk_52_method_91_0) rfl rfl ?_
  refine g_aload_n X0 hx 2 (hb hby d_jdk_52_method_91_1) rfl rfl rfl ?_
  refine own_callS X0 hx hZ hown (hw _ (List.mem_of_getElem? (i := 158) rfl)) (hw _ (List.mem_of_getElem? (i := 159) rfl)) (by decide) (rm_l16 l Z a0 hw [] b k cs h0 n0 Z0 V_b hn) (hw _ (List.mem_of_getElem? (i := 160) rfl)) (hw _ (List.mem_of_getElem? (i := 21) rfl)) e0 1 (by decide) (by decide) (by decide) (by decide) [(.ref b)] [(.int jj)] rfl pd_2 rfl 5 rfl (by rw [hml]; rfl) rfl (hb hby d_jdk_52_method_91_2) rfl fun T20 v20 L20 X20 hQ20 => ?_
  obtain ⟨rfl, Nq20, e20⟩ := hQ20
  have N20 := Fr.app N0 Nq20
  show own_GoE p e below _ (T20.setTop (mkF m 5 _ [(.int (Int32.ofNat cs.length)), (.int jj)]))
  refine own_callS X20 hx hZ hown (hw _ (List.mem_of_getElem? (i := 161) rfl)) (hw _ (List.mem_of_getElem? (i := 95) rfl)) (by decide) (rm_sci l Z a0 hw [] jj (Int32.ofNat cs.length) fm h0 n0 Z0 S_SIOOBE_FORMATTER g1 g2 hfm) (hw _ (List.mem_of_getElem? (i := 96) rfl)) (hw _ (List.mem_of_getElem? (i := 7) rfl)) e20 0 (by decide) (by decide) (by decide) (by decide) [(.int jj), (.int (Int32.ofNat cs.length))] [] rfl pd_3 rfl 8 rfl (by rw [hml]; rfl) rfl (hb hby d_jdk_52_method_91_5) rfl fun T21 v21 L21 X21 hQ21 => ?_
  obtain ⟨rfl, Nq21, e21⟩ := hQ21
  have N21 := Fr.app N20 Nq21
  show own_GoE p e below _ (T21.setTop (mkF m 8 _ []))
  refine own_retV X21 hx hlk hret (hb hby d_jdk_52_method_91_8) ?_ (by decide) (by decide)
  rw [e21]
  exact ⟨rfl, N21, rfl⟩
theorem d_jdk_52_method_83_0 : decode jdk_52_method_83_code 0 = .ok (.iload_n 1, 1) := by decide +kernel
theorem d_jdk_52_method_83_1 : decode jdk_52_method_83_code 1 = .ok (.aload_n 0, 1) := by decide +kernel
theorem d_jdk_52_method_83_2 : decode jdk_52_method_83_code 2 = .ok (.invokestatic 67, 3) := by decide +kernel
theorem pd_4 : parseMethodDescriptor "(I[B)V" = some ⟨[.int, (.array .byte)], none⟩ := by decide +kernel
theorem d_jdk_52_method_83_5 : decode jdk_52_method_83_code 5 = .ok (.aload_n 0, 1) := by decide +kernel
theorem d_jdk_52_method_83_6 : decode jdk_52_method_83_code 6 = .ok (.iload_n 1, 1) := by decide +kernel
theorem d_jdk_52_method_83_7 : decode jdk_52_method_83_code 7 = .ok (.invokestatic 71, 3) := by decide +kernel
theorem pd_5 : parseMethodDescriptor "([BI)C" = some ⟨[(.array .byte), .int], some .char⟩ := by decide +kernel
theorem d_jdk_52_method_83_10 : decode jdk_52_method_83_code 10 = .ok (.ireturn, 1) := by decide +kernel
def Q_chu (Z : State) (b : Addr) (k : ClassId) (jj : Int32) (cs : List Int32) (fm : Value) (h0 : Heap) (n0 : Nat) (v : Option Value) (h : Heap) (L : List Loc) : Prop := v = some (.int (own_at cs jj)) ∧ Fr n0 L ∧ h = h0
set_option maxRecDepth 65536 in
set_option maxHeartbeats 40000000 in
theorem rm_chu (l : Launch) (Z : State) (a0 : Array Value) (hw : ∀ d ∈ tables_1, d.before a0 Z = true) (ws : List Jvm.Cond) (b : Addr) (k : ClassId) (jj : Int32) (cs : List Int32) (fm : Value) (h0 : Heap) (n0 : Nat) (Z0 : n0 ≤ h0.size) (V_b : Arv Z h0 b k .byte (Int32.ofNat (2 * cs.length)) (own_u cs) (.int (0 : Int32))) (S__assertionsDisabled : Sta Z h0 "java/lang/StringUTF16" "$assertionsDisabled" "Z" (.int (1 : Int32))) (S_HI_BYTE_SHIFT : Sta Z h0 "java/lang/StringUTF16" "HI_BYTE_SHIFT" "I" (.int (0 : Int32))) (S_LO_BYTE_SHIFT : Sta Z h0 "java/lang/StringUTF16" "LO_BYTE_SHIFT" "I" (.int (8 : Int32))) (S_SIOOBE_FORMATTER : Sta Z h0 "jdk/internal/util/Preconditions" "SIOOBE_FORMATTER" "Ljava/util/function/BiFunction;" fm) (hn : cs.length ≤ 5) (g1 : ¬ (jj < (0 : Int32))) (g2 : jj < (Int32.ofNat cs.length)) (hr : ∀ x ∈ cs, 0 ≤ x.toInt ∧ x.toInt ≤ 65535) (hfm : fm.isRef = true) :
    MetFree l (⟨"java/lang/StringUTF16", "charAt", "([BI)C"⟩ : MethodName) (head1 (Jvm.Cond.code (⟨"java/lang/StringUTF16", "charAt", "([BI)C"⟩ : MethodName) jdk_52_method_83_code 2 (some .char) :: ws) ({ frames := 3, cells := 0, slots := 0, locals := 40 } : Room)) (fun aA U => aA = #[(.ref b), (.int jj)] ∧ Z.Warmed39 U.vm ∧ U.heap = h0) (fun _ _ _ _ _ => True) (fun _ U oO U' => ∃ vV LL, oO = .returned vV ∧ Q_chu Z b k jj cs fm h0 n0 vV U'.heap LL ∧ FrameEnd U oO U' LL ({ frames := 3, cells := 0, slots := 0, locals := 40 } : Room).cells ({ frames := 3, cells := 0, slots := 0, locals := 40 } : Room).slots) := by
  refine MetFree.of_bodySF (plainFor_of_name pn_2) hisR ?_
  intro p e s m args below meth c s₁ Bd hml0 hP hK
  obtain ⟨rfl, hZ, hh⟩ := hP
  have hx := Bd.exec
  have hby := Bd.bytes
  have hml : c.maxLocals = 2 := hml0
  have hown : s.vm.findClass "java/lang/StringUTF16" = some m.cls := findClass_of_methodNamed Bd.named
  have hnm := (name_of_methodNamed Bd.named Bd.method).1
  have X0 : Stand p l e ({ frames := 3, cells := 0, slots := 0, locals := 40 } : Room) s m #[(.ref b), (.int jj)] below meth c s₁ [] 0 0 := Stand.of_body Bd
  have e0 : s₁.heap = h0 := by rw [← hh, Bd.state]; rfl
  have N0 := Fr.nil n0
  have hret := Bd.returns
  have hlk : meth.locks = false := Bd.notSynchronized
  refine own_start (ef_5 m b jj) ?_
  show own_Go p e below s (Q_chu Z b k jj cs fm h0 n0) ({ frames := 3, cells := 0, slots := 0, locals := 40 } : Room).cells ({ frames := 3, cells := 0, slots := 0, locals := 40 } : Room).slots (s₁.setTop (mkF m 0 #[.val (.ref b), .val (.int jj)] []))
  refine g_iload_n X0 hx 1 (hb hby d_jdk_52_method_83_0) rfl rfl ?_
  refine g_aload_n X0 hx 2 (hb hby d_jdk_52_method_83_1) rfl rfl rfl ?_
  refine own_callS X0 hx hZ hown (hw _ (List.mem_of_getElem? (i := 155) rfl)) (hw _ (List.mem_of_getElem? (i := 156) rfl)) (by decide) (rm_ci16 l Z a0 hw [] jj b k cs fm h0 n0 Z0 V_b S_SIOOBE_FORMATTER hn g1 g2 hfm) (hw _ (List.mem_of_getElem? (i := 157) rfl)) (hw _ (List.mem_of_getElem? (i := 21) rfl)) e0 0 (by decide) (by decide) (by decide) (by decide) [(.int jj), (.ref b)] [] rfl pd_4 rfl 5 rfl (by rw [hml]; rfl) rfl (hb hby d_jdk_52_method_83_2) rfl fun T22 v22 L22 X22 hQ22 => ?_
  obtain ⟨rfl, Nq22, e22⟩ := hQ22
  have N22 := Fr.app N0 Nq22
  show own_GoE p e below _ (T22.setTop (mkF m 5 _ []))
  refine g_aload_n X22 hx 6 (hb hby d_jdk_52_method_83_5) rfl rfl rfl ?_
  refine g_iload_n X22 hx 7 (hb hby d_jdk_52_method_83_6) rfl rfl ?_
  refine own_callS X22 hx hZ hown (hw _ (List.mem_of_getElem? (i := 149) rfl)) (hw _ (List.mem_of_getElem? (i := 150) rfl)) (by decide) (rm_gch l Z a0 hw [] b k jj cs h0 n0 Z0 V_b S__assertionsDisabled S_HI_BYTE_SHIFT S_LO_BYTE_SHIFT hn g1 g2 hr) (hw _ (List.mem_of_getElem? (i := 151) rfl)) (hw _ (List.mem_of_getElem? (i := 21) rfl)) e22 0 (by decide) (by decide) (by decide) (by decide) [(.ref b), (.int jj)] [] rfl pd_5 rfl 10 rfl (by rw [hml]; rfl) rfl (hb hby d_jdk_52_method_83_7) rfl fun T23 v23 L23 X23 hQ23 => ?_
  obtain ⟨rfl, Nq23, e23⟩ := hQ23
  have N23 := Fr.app N22 Nq23
  show own_GoE p e below _ (T23.setTop (mkF m 10 _ [(.int (own_at cs jj))]))
  refine own_retN X23 hx hlk (t := .char) hret (by simp) (hb hby d_jdk_52_method_83_10) ?_ (by decide) (by decide)
  rw [e23]
  exact ⟨(congrArg some (congrArg Value.int (own_nc (hr _ (own_at_mem (own_in hn g1 g2)))))), N23, rfl⟩
theorem d_jdk_43_method_2_0 : decode jdk_43_method_2_code 0 = .ok (.iload_n 1, 1) := by decide +kernel
theorem d_jdk_43_method_2_1 : decode jdk_43_method_2_code 1 = .ok (.aload_n 0, 1) := by decide +kernel
theorem d_jdk_43_method_2_2 : decode jdk_43_method_2_code 2 = .ok (.arraylength, 1) := by decide +kernel
theorem d_jdk_43_method_2_3 : decode jdk_43_method_2_code 3 = .ok (.invokestatic 9, 3) := by decide +kernel
theorem d_jdk_43_method_2_6 : decode jdk_43_method_2_code 6 = .ok (.aload_n 0, 1) := by decide +kernel
theorem d_jdk_43_method_2_7 : decode jdk_43_method_2_code 7 = .ok (.iload_n 1, 1) := by decide +kernel
theorem d_jdk_43_method_2_8 : decode jdk_43_method_2_code 8 = .ok (.baload, 1) := by decide +kernel
theorem d_jdk_43_method_2_9 : decode jdk_43_method_2_code 9 = .ok (.sipush 255, 3) := by decide +kernel
theorem d_jdk_43_method_2_12 : decode jdk_43_method_2_code 12 = .ok (.iand, 1) := by decide +kernel
theorem d_jdk_43_method_2_13 : decode jdk_43_method_2_code 13 = .ok (.i2c, 1) := by decide +kernel
theorem d_jdk_43_method_2_14 : decode jdk_43_method_2_code 14 = .ok (.ireturn, 1) := by decide +kernel
theorem pn_3 : plainName "java/lang/StringLatin1" = true := by first | (simp [plainName, overriddenIn]; done) | decide +kernel
def Q_chl (Z : State) (b : Addr) (k : ClassId) (jj : Int32) (cs : List Int32) (fm : Value) (h0 : Heap) (n0 : Nat) (v : Option Value) (h : Heap) (L : List Loc) : Prop := v = some (.int (own_at cs jj)) ∧ Fr n0 L ∧ h = h0
set_option maxRecDepth 65536 in
set_option maxHeartbeats 40000000 in
theorem rm_chl (l : Launch) (Z : State) (a0 : Array Value) (hw : ∀ d ∈ tables_1, d.before a0 Z = true) (ws : List Jvm.Cond) (b : Addr) (k : ClassId) (jj : Int32) (cs : List Int32) (fm : Value) (h0 : Heap) (n0 : Nat) (Z0 : n0 ≤ h0.size) (V_b : Arv Z h0 b k .byte (Int32.ofNat cs.length) (cs.map fun x => Value.int (own_b x)) (.int (0 : Int32))) (S_SIOOBE_FORMATTER : Sta Z h0 "jdk/internal/util/Preconditions" "SIOOBE_FORMATTER" "Ljava/util/function/BiFunction;" fm) (hn : cs.length ≤ 5) (g1 : ¬ (jj < (0 : Int32))) (g2 : jj < (Int32.ofNat cs.length)) (hr : ∀ x ∈ cs, 0 ≤ x.toInt ∧ x.toInt ≤ 255) (hfm : fm.isRef = true) :
    MetFree l (⟨"java/lang/StringLatin1", "charAt", "([BI)C"⟩ : MethodName) (head1 (Jvm.Cond.code (⟨"java/lang/StringLatin1", "charAt", "([BI)C"⟩ : MethodName) jdk_43_method_2_code 2 (some .char) :: ws) ({ frames := 2, cells := 0, slots := 0, locals := 27 } : Room)) (fun aA U => aA = #[(.ref b), (.int jj)] ∧ Z.Warmed39 U.vm ∧ U.heap = h0) (fun _ _ _ _ _ => True) (fun _ U oO U' => ∃ vV LL, oO = .returned vV ∧ Q_chl Z b k jj cs fm h0 n0 vV U'.heap LL ∧ FrameEnd U oO U' LL ({ frames := 2, cells := 0, slots := 0, locals := 27 } : Room).cells ({ frames := 2, cells := 0, slots := 0, locals := 27 } : Room).slots) := by
  refine MetFree.of_bodySF (plainFor_of_name pn_3) hisR ?_
  intro p e s m args below meth c s₁ Bd hml0 hP hK
  obtain ⟨rfl, hZ, hh⟩ := hP
  have hx := Bd.exec
  have hby := Bd.bytes
  have hml : c.maxLocals = 2 := hml0
  have hown : s.vm.findClass "java/lang/StringLatin1" = some m.cls := findClass_of_methodNamed Bd.named
  have hnm := (name_of_methodNamed Bd.named Bd.method).1
  have X0 : Stand p l e ({ frames := 2, cells := 0, slots := 0, locals := 27 } : Room) s m #[(.ref b), (.int jj)] below meth c s₁ [] 0 0 := Stand.of_body Bd
  have e0 : s₁.heap = h0 := by rw [← hh, Bd.state]; rfl
  have N0 := Fr.nil n0
  have hret := Bd.returns
  have hlk : meth.locks = false := Bd.notSynchronized
  refine own_start (ef_5 m b jj) ?_
  show own_Go p e below s (Q_chl Z b k jj cs fm h0 n0) ({ frames := 2, cells := 0, slots := 0, locals := 27 } : Room).cells ({ frames := 2, cells := 0, slots := 0, locals := 27 } : Room).slots (s₁.setTop (mkF m 0 #[.val (.ref b), .val (.int jj)] []))
  refine g_iload_n X0 hx 1 (hb hby d_jdk_43_method_2_0) rfl rfl ?_
  refine g_aload_n X0 hx 2 (hb hby d_jdk_43_method_2_1) rfl rfl rfl ?_
  obtain ⟨cl24, Ar24, q24, S24, P24, H24, G24⟩ := id V_b
  refine own_arraylength X0 hx hZ e0 Ar24 S24 P24 3 (hb hby d_jdk_43_method_2_2) rfl ?_
  refine own_callS X0 hx hZ hown (hw _ (List.mem_of_getElem? (i := 94) rfl)) (hw _ (List.mem_of_getElem? (i := 95) rfl)) (by decide) (rm_sci l Z a0 hw [] jj (Int32.ofNat cs.length) fm h0 n0 Z0 S_SIOOBE_FORMATTER g1 g2 hfm) (hw _ (List.mem_of_getElem? (i := 96) rfl)) (hw _ (List.mem_of_getElem? (i := 7) rfl)) e0 0 (by decide) (by decide) (by decide) (by decide) [(.int jj), (.int (Int32.ofNat cs.length))] [] rfl pd_3 rfl 6 rfl (by rw [hml]; rfl) rfl (hb hby d_jdk_43_method_2_3) rfl fun T25 v25 L25 X25 hQ25 => ?_
  obtain ⟨rfl, Nq25, e25⟩ := hQ25
  have N25 := Fr.app N0 Nq25
  show own_GoE p e below _ (T25.setTop (mkF m 6 _ []))
  refine g_aload_n X25 hx 7 (hb hby d_jdk_43_method_2_6) rfl rfl rfl ?_
  refine g_iload_n X25 hx 8 (hb hby d_jdk_43_method_2_7) rfl rfl ?_
  obtain ⟨cl26, Ar26, q26, S26, P26, H26, G26⟩ := id V_b
  have hin26 := inb_of (j := jj) S26 ⟨g1, g2⟩
  refine own_baloadB X25 hx hZ e25 Ar26 (v := (.int (own_b (own_at cs jj)))) hin26 (Has.at H26 hin26 (own_gL (own_in hn g1 g2))) 9 (hb hby d_jdk_43_method_2_8) rfl ?_
  refine g_sipush X25 hx 12 (hb hby d_jdk_43_method_2_9) (255 : Int32) rfl rfl ?_
  refine g_iand X25 hx 13 (hb hby d_jdk_43_method_2_12) rfl ?_
  refine g_i2c X25 hx 14 (hb hby d_jdk_43_method_2_13) rfl ?_
  refine own_retN X25 hx hlk (t := .char) hret (by simp) (hb hby d_jdk_43_method_2_14) ?_ (by decide) (by decide)
  rw [e25]
  exact ⟨(own_getb (hr _ (own_at_mem (own_in hn g1 g2)))), N25, rfl⟩
theorem d_jdk_42_method_154_0 : decode jdk_42_method_154_code 0 = .ok (.getstatic 38, 3) := by decide +kernel
theorem d_jdk_42_method_154_3 : decode jdk_42_method_154_code 3 = .ok (.ifCond .eq 14, 3) := by decide +kernel
theorem d_jdk_42_method_154_6 : decode jdk_42_method_154_code 6 = .ok (.aload_n 0, 1) := by decide +kernel
theorem d_jdk_42_method_154_7 : decode jdk_42_method_154_code 7 = .ok (.getfield 15, 3) := by decide +kernel
theorem d_jdk_42_method_154_10 : decode jdk_42_method_154_code 10 = .ok (.ifCond .ne 7, 3) := by decide +kernel
theorem d_jdk_42_method_154_13 : decode jdk_42_method_154_code 13 = .ok (.iconst 1, 1) := by decide +kernel
theorem d_jdk_42_method_154_14 : decode jdk_42_method_154_code 14 = .ok (.goto 4, 3) := by decide +kernel
theorem d_jdk_42_method_154_18 : decode jdk_42_method_154_code 18 = .ok (.ireturn, 1) := by decide +kernel
def Q_islL (Z : State) (o : Addr) (zc : Int32) (h0 : Heap) (n0 : Nat) (v : Option Value) (h : Heap) (L : List Loc) : Prop := v = some (.int (1 : Int32)) ∧ Fr n0 L ∧ h = h0
set_option maxRecDepth 65536 in
set_option maxHeartbeats 40000000 in
theorem rm_islL (l : Launch) (Z : State) (a0 : Array Value) (hw : ∀ d ∈ tables_1, d.before a0 Z = true) (ws : List Jvm.Cond) (o : Addr) (zc : Int32) (h0 : Heap) (n0 : Nat) (Z0 : n0 ≤ h0.size) (F_o_coder : Fld Z h0 o "java/lang/String" "coder" "B" (.int (0 : Int32))) (S_COMPACT_STRINGS : Sta Z h0 "java/lang/String" "COMPACT_STRINGS" "Z" (.int zc)) (hz : ¬ (zc = (0 : Int32))) :
    MetFree l (⟨"java/lang/String", "isLatin1", "()Z"⟩ : MethodName) (head1 (Jvm.Cond.code (⟨"java/lang/String", "isLatin1", "()Z"⟩ : MethodName) jdk_42_method_154_code 1 (some .boolean) :: ws) ({ frames := 0, cells := 0, slots := 0, locals := 0 } : Room)) (fun aA U => aA = #[(.ref o)] ∧ Z.Warmed39 U.vm ∧ U.heap = h0) (fun _ _ _ _ _ => True) (fun _ U oO U' => ∃ vV LL, oO = .returned vV ∧ Q_islL Z o zc h0 n0 vV U'.heap LL ∧ FrameEnd U oO U' LL ({ frames := 0, cells := 0, slots := 0, locals := 0 } : Room).cells ({ frames := 0, cells := 0, slots := 0, locals := 0 } : Room).slots) := by
  refine MetFree.of_bodySF (plainFor_of_name pn_1) hisR ?_
  intro p e s m args below meth c s₁ Bd hml0 hP hK
  obtain ⟨rfl, hZ, hh⟩ := hP
  have hx := Bd.exec
  have hby := Bd.bytes
  have hml : c.maxLocals = 1 := hml0
  have hown : s.vm.findClass "java/lang/String" = some m.cls := findClass_of_methodNamed Bd.named
  have hnm := (name_of_methodNamed Bd.named Bd.method).1
  have X0 : Stand p l e ({ frames := 0, cells := 0, slots := 0, locals := 0 } : Room) s m #[(.ref o)] below meth c s₁ [] 0 0 := Stand.of_body Bd
  have e0 : s₁.heap = h0 := by rw [← hh, Bd.state]; rfl
  have N0 := Fr.nil n0
  have hret := Bd.returns
  have hlk : meth.locks = false := Bd.notSynchronized
  refine own_start (ef_4 m o) ?_
  show own_Go p e below s (Q_islL Z o zc h0 n0) ({ frames := 0, cells := 0, slots := 0, locals := 0 } : Room).cells ({ frames := 0, cells := 0, slots := 0, locals := 0 } : Room).slots (s₁.setTop (mkF m 0 #[.val (.ref o)] []))
  refine own_getS X0 hx hZ hown (host := "") (Or.inl (hw _ (List.mem_of_getElem? (i := 18) rfl))) Via.refl e0 S_COMPACT_STRINGS 3 (hb hby d_jdk_42_method_154_0) rfl fun T27 X27 e27 => ?_
  refine g_ifNo X27 hx 6 (hb hby d_jdk_42_method_154_3) (own_i0_eq_f hz) rfl ?_
  refine g_aload_n X27 hx 7 (hb hby d_jdk_42_method_154_6) rfl rfl rfl ?_
  refine own_getF X27 hx hZ hown (host := "") (Or.inl (hw _ (List.mem_of_getElem? (i := 30) rfl))) Via.refl e27 F_o_coder 10 (hb hby d_jdk_42_method_154_7) rfl fun T29 X29 e29 => ?_
  refine g_ifNo X29 hx 13 (hb hby d_jdk_42_method_154_10) (own_i0_ne_f (by decide)) rfl ?_
  refine g_iconst X29 hx 14 (hb hby d_jdk_42_method_154_13) (1 : Int32) rfl rfl ?_
  refine g_goto X29 hx 18 (hb hby d_jdk_42_method_154_14) (by decide) (by decide) ?_
  refine own_retN X29 hx hlk (t := .boolean) hret (by simp) (hb hby d_jdk_42_method_154_18) ?_ (by decide) (by decide)
  rw [e29]
  exact ⟨(own_rb rfl), N0, rfl⟩
theorem d_jdk_42_method_152_0 : decode jdk_42_method_152_code 0 = .ok (.getstatic 38, 3) := by decide +kernel
theorem d_jdk_42_method_152_3 : decode jdk_42_method_152_code 3 = .ok (.ifCond .eq 10, 3) := by decide +kernel
theorem d_jdk_42_method_152_6 : decode jdk_42_method_152_code 6 = .ok (.aload_n 0, 1) := by decide +kernel
theorem d_jdk_42_method_152_7 : decode jdk_42_method_152_code 7 = .ok (.getfield 15, 3) := by decide +kernel
theorem d_jdk_42_method_152_10 : decode jdk_42_method_152_code 10 = .ok (.goto 4, 3) := by decide +kernel
theorem d_jdk_42_method_152_14 : decode jdk_42_method_152_code 14 = .ok (.ireturn, 1) := by decide +kernel
def Q_codL (Z : State) (o : Addr) (zc : Int32) (h0 : Heap) (n0 : Nat) (v : Option Value) (h : Heap) (L : List Loc) : Prop := v = some (.int (0 : Int32)) ∧ Fr n0 L ∧ h = h0
set_option maxRecDepth 65536 in
set_option maxHeartbeats 40000000 in
theorem rm_codL (l : Launch) (Z : State) (a0 : Array Value) (hw : ∀ d ∈ tables_1, d.before a0 Z = true) (ws : List Jvm.Cond) (o : Addr) (zc : Int32) (h0 : Heap) (n0 : Nat) (Z0 : n0 ≤ h0.size) (F_o_coder : Fld Z h0 o "java/lang/String" "coder" "B" (.int (0 : Int32))) (S_COMPACT_STRINGS : Sta Z h0 "java/lang/String" "COMPACT_STRINGS" "Z" (.int zc)) (hz : ¬ (zc = (0 : Int32))) :
    MetFree l (⟨"java/lang/String", "coder", "()B"⟩ : MethodName) (head1 (Jvm.Cond.code (⟨"java/lang/String", "coder", "()B"⟩ : MethodName) jdk_42_method_152_code 1 (some .byte) :: ws) ({ frames := 0, cells := 0, slots := 0, locals := 0 } : Room)) (fun aA U => aA = #[(.ref o)] ∧ Z.Warmed39 U.vm ∧ U.heap = h0) (fun _ _ _ _ _ => True) (fun _ U oO U' => ∃ vV LL, oO = .returned vV ∧ Q_codL Z o zc h0 n0 vV U'.heap LL ∧ FrameEnd U oO U' LL ({ frames := 0, cells := 0, slots := 0, locals := 0 } : Room).cells ({ frames := 0, cells := 0, slots := 0, locals := 0 } : Room).slots) := by
  refine MetFree.of_bodySF (plainFor_of_name pn_1) hisR ?_
  intro p e s m args below meth c s₁ Bd hml0 hP hK
  obtain ⟨rfl, hZ, hh⟩ := hP
  have hx := Bd.exec
  have hby := Bd.bytes
  have hml : c.maxLocals = 1 := hml0
  have hown : s.vm.findClass "java/lang/String" = some m.cls := findClass_of_methodNamed Bd.named
  have hnm := (name_of_methodNamed Bd.named Bd.method).1
  have X0 : Stand p l e ({ frames := 0, cells := 0, slots := 0, locals := 0 } : Room) s m #[(.ref o)] below meth c s₁ [] 0 0 := Stand.of_body Bd
  have e0 : s₁.heap = h0 := by rw [← hh, Bd.state]; rfl
  have N0 := Fr.nil n0
  have hret := Bd.returns
  have hlk : meth.locks = false := Bd.notSynchronized
  refine own_start (ef_4 m o) ?_
  show own_Go p e below s (Q_codL Z o zc h0 n0) ({ frames := 0, cells := 0, slots := 0, locals := 0 } : Room).cells ({ frames := 0, cells := 0, slots := 0, locals := 0 } : Room).slots (s₁.setTop (mkF m 0 #[.val (.ref o)] []))
  refine own_getS X0 hx hZ hown (host := "") (Or.inl (hw _ (List.mem_of_getElem? (i := 18) rfl))) Via.refl e0 S_COMPACT_STRINGS 3 (hb hby d_jdk_42_method_152_0) rfl fun T30 X30 e30 => ?_
  refine g_ifNo X30 hx 6 (hb hby d_jdk_42_method_152_3) (own_i0_eq_f hz) rfl ?_
  refine g_aload_n X30 hx 7 (hb hby d_jdk_42_method_152_6) rfl rfl rfl ?_
  refine own_getF X30 hx hZ hown (host := "") (Or.inl (hw _ (List.mem_of_getElem? (i := 30) rfl))) Via.refl e30 F_o_coder 10 (hb hby d_jdk_42_method_152_7) rfl fun T32 X32 e32 => ?_
  refine g_goto X32 hx 14 (hb hby d_jdk_42_method_152_10) (by decide) (by decide) ?_
  refine own_retN X32 hx hlk (t := .byte) hret (by simp) (hb hby d_jdk_42_method_152_14) ?_ (by decide) (by decide)
  rw [e32]
  exact ⟨(by first | rfl | decide +kernel), N0, rfl⟩
theorem d_jdk_42_method_154_17 : decode jdk_42_method_154_code 17 = .ok (.iconst 0, 1) := by decide +kernel
def Q_islU (Z : State) (o : Addr) (zc : Int32) (h0 : Heap) (n0 : Nat) (v : Option Value) (h : Heap) (L : List Loc) : Prop := v = some (.int (0 : Int32)) ∧ Fr n0 L ∧ h = h0
set_option maxRecDepth 65536 in
set_option maxHeartbeats 40000000 in
theorem rm_islU (l : Launch) (Z : State) (a0 : Array Value) (hw : ∀ d ∈ tables_1, d.before a0 Z = true) (ws : List Jvm.Cond) (o : Addr) (zc : Int32) (h0 : Heap) (n0 : Nat) (Z0 : n0 ≤ h0.size) (F_o_coder : Fld Z h0 o "java/lang/String" "coder" "B" (.int (1 : Int32))) (S_COMPACT_STRINGS : Sta Z h0 "java/lang/String" "COMPACT_STRINGS" "Z" (.int zc)) (hz : ¬ (zc = (0 : Int32))) :
    MetFree l (⟨"java/lang/String", "isLatin1", "()Z"⟩ : MethodName) (head1 (Jvm.Cond.code (⟨"java/lang/String", "isLatin1", "()Z"⟩ : MethodName) jdk_42_method_154_code 1 (some .boolean) :: ws) ({ frames := 0, cells := 0, slots := 0, locals := 0 } : Room)) (fun aA U => aA = #[(.ref o)] ∧ Z.Warmed39 U.vm ∧ U.heap = h0) (fun _ _ _ _ _ => True) (fun _ U oO U' => ∃ vV LL, oO = .returned vV ∧ Q_islU Z o zc h0 n0 vV U'.heap LL ∧ FrameEnd U oO U' LL ({ frames := 0, cells := 0, slots := 0, locals := 0 } : Room).cells ({ frames := 0, cells := 0, slots := 0, locals := 0 } : Room).slots) := by
  refine MetFree.of_bodySF (plainFor_of_name pn_1) hisR ?_
  intro p e s m args below meth c s₁ Bd hml0 hP hK
  obtain ⟨rfl, hZ, hh⟩ := hP
  have hx := Bd.exec
  have hby := Bd.bytes
  have hml : c.maxLocals = 1 := hml0
  have hown : s.vm.findClass "java/lang/String" = some m.cls := findClass_of_methodNamed Bd.named
  have hnm := (name_of_methodNamed Bd.named Bd.method).1
  have X0 : Stand p l e ({ frames := 0, cells := 0, slots := 0, locals := 0 } : Room) s m #[(.ref o)] below meth c s₁ [] 0 0 := Stand.of_body Bd
  have e0 : s₁.heap = h0 := by rw [← hh, Bd.state]; rfl
  have N0 := Fr.nil n0
  have hret := Bd.returns
  have hlk : meth.locks = false := Bd.notSynchronized
  refine own_start (ef_4 m o) ?_
  show own_Go p e below s (Q_islU Z o zc h0 n0) ({ frames := 0, cells := 0, slots := 0, locals := 0 } : Room).cells ({ frames := 0, cells := 0, slots := 0, locals := 0 } : Room).slots (s₁.setTop (mkF m 0 #[.val (.ref o)] []))
  refine own_getS X0 hx hZ hown (host := "") (Or.inl (hw _ (List.mem_of_getElem? (i := 18) rfl))) Via.refl e0 S_COMPACT_STRINGS 3 (hb hby d_jdk_42_method_154_0) rfl fun T33 X33 e33 => ?_
  refine g_ifNo X33 hx 6 (hb hby d_jdk_42_method_154_3) (own_i0_eq_f hz) rfl ?_
  refine g_aload_n X33 hx 7 (hb hby d_jdk_42_method_154_6) rfl rfl rfl ?_
  refine own_getF X33 hx hZ hown (host := "") (Or.inl (hw _ (List.mem_of_getElem? (i := 30) rfl))) Via.refl e33 F_o_coder 10 (hb hby d_jdk_42_method_154_7) rfl fun T35 X35 e35 => ?_
  refine g_ifYes X35 hx 17 (hb hby d_jdk_42_method_154_10) (own_i0_ne_t (by decide)) (by decide) (by decide) ?_
  refine g_iconst X35 hx 18 (hb hby d_jdk_42_method_154_17) (0 : Int32) rfl rfl ?_
  refine own_retN X35 hx hlk (t := .boolean) hret (by simp) (hb hby d_jdk_42_method_154_18) ?_ (by decide) (by decide)
  rw [e35]
  exact ⟨(own_rb rfl), N0, rfl⟩
def Q_codU (Z : State) (o : Addr) (zc : Int32) (h0 : Heap) (n0 : Nat) (v : Option Value) (h : Heap) (L : List Loc) : Prop := v = some (.int (1 : Int32)) ∧ Fr n0 L ∧ h = h0
set_option maxRecDepth 65536 in
set_option maxHeartbeats 40000000 in
theorem rm_codU (l : Launch) (Z : State) (a0 : Array Value) (hw : ∀ d ∈ tables_1, d.before a0 Z = true) (ws : List Jvm.Cond) (o : Addr) (zc : Int32) (h0 : Heap) (n0 : Nat) (Z0 : n0 ≤ h0.size) (F_o_coder : Fld Z h0 o "java/lang/String" "coder" "B" (.int (1 : Int32))) (S_COMPACT_STRINGS : Sta Z h0 "java/lang/String" "COMPACT_STRINGS" "Z" (.int zc)) (hz : ¬ (zc = (0 : Int32))) :
    MetFree l (⟨"java/lang/String", "coder", "()B"⟩ : MethodName) (head1 (Jvm.Cond.code (⟨"java/lang/String", "coder", "()B"⟩ : MethodName) jdk_42_method_152_code 1 (some .byte) :: ws) ({ frames := 0, cells := 0, slots := 0, locals := 0 } : Room)) (fun aA U => aA = #[(.ref o)] ∧ Z.Warmed39 U.vm ∧ U.heap = h0) (fun _ _ _ _ _ => True) (fun _ U oO U' => ∃ vV LL, oO = .returned vV ∧ Q_codU Z o zc h0 n0 vV U'.heap LL ∧ FrameEnd U oO U' LL ({ frames := 0, cells := 0, slots := 0, locals := 0 } : Room).cells ({ frames := 0, cells := 0, slots := 0, locals := 0 } : Room).slots) := by
  refine MetFree.of_bodySF (plainFor_of_name pn_1) hisR ?_
  intro p e s m args below meth c s₁ Bd hml0 hP hK
  obtain ⟨rfl, hZ, hh⟩ := hP
  have hx := Bd.exec
  have hby := Bd.bytes
  have hml : c.maxLocals = 1 := hml0
  have hown : s.vm.findClass "java/lang/String" = some m.cls := findClass_of_methodNamed Bd.named
  have hnm := (name_of_methodNamed Bd.named Bd.method).1
  have X0 : Stand p l e ({ frames := 0, cells := 0, slots := 0, locals := 0 } : Room) s m #[(.ref o)] below meth c s₁ [] 0 0 := Stand.of_body Bd
  have e0 : s₁.heap = h0 := by rw [← hh, Bd.state]; rfl
  have N0 := Fr.nil n0
  have hret := Bd.returns
  have hlk : meth.locks = false := Bd.notSynchronized
  refine own_start (ef_4 m o) ?_
  show own_Go p e below s (Q_codU Z o zc h0 n0) ({ frames := 0, cells := 0, slots := 0, locals := 0 } : Room).cells ({ frames := 0, cells := 0, slots := 0, locals := 0 } : Room).slots (s₁.setTop (mkF m 0 #[.val (.ref o)] []))
  refine own_getS X0 hx hZ hown (host := "") (Or.inl (hw _ (List.mem_of_getElem? (i := 18) rfl))) Via.refl e0 S_COMPACT_STRINGS 3 (hb hby d_jdk_42_method_152_0) rfl fun T36 X36 e36 => ?_
  refine g_ifNo X36 hx 6 (hb hby d_jdk_42_method_152_3) (own_i0_eq_f hz) rfl ?_
  refine g_aload_n X36 hx 7 (hb hby d_jdk_42_method_152_6) rfl rfl rfl ?_
  refine own_getF X36 hx hZ hown (host := "") (Or.inl (hw _ (List.mem_of_getElem? (i := 30) rfl))) Via.refl e36 F_o_coder 10 (hb hby d_jdk_42_method_152_7) rfl fun T38 X38 e38 => ?_
  refine g_goto X38 hx 14 (hb hby d_jdk_42_method_152_10) (by decide) (by decide) ?_
  refine own_retN X38 hx hlk (t := .byte) hret (by simp) (hb hby d_jdk_42_method_152_14) ?_ (by decide) (by decide)
  rw [e38]
  exact ⟨(by first | rfl | decide +kernel), N0, rfl⟩
theorem d_jdk_42_method_54_0 : decode jdk_42_method_54_code 0 = .ok (.aload_n 0, 1) := by decide +kernel
theorem d_jdk_42_method_54_1 : decode jdk_42_method_54_code 1 = .ok (.getfield 9, 3) := by decide +kernel
theorem d_jdk_42_method_54_4 : decode jdk_42_method_54_code 4 = .ok (.arraylength, 1) := by decide +kernel
theorem d_jdk_42_method_54_5 : decode jdk_42_method_54_code 5 = .ok (.aload_n 0, 1) := by decide +kernel
theorem d_jdk_42_method_54_6 : decode jdk_42_method_54_code 6 = .ok (.invokevirtual 335, 3) := by decide +kernel
theorem pd_6 : parseMethodDescriptor "()B" = some ⟨[], some .byte⟩ := by decide +kernel
theorem d_jdk_42_method_54_9 : decode jdk_42_method_54_code 9 = .ok (.ishr, 1) := by decide +kernel
theorem d_jdk_42_method_54_10 : decode jdk_42_method_54_code 10 = .ok (.ireturn, 1) := by decide +kernel
def Q_lnL (Z : State) (o : Addr) (b : Addr) (k : ClassId) (cs : List Int32) (zc : Int32) (h0 : Heap) (n0 : Nat) (v : Option Value) (h : Heap) (L : List Loc) : Prop := v = some (.int (Int32.ofNat cs.length)) ∧ Fr n0 L ∧ h = h0
set_option maxRecDepth 65536 in
set_option maxHeartbeats 40000000 in
theorem rm_lnL (l : Launch) (Z : State) (a0 : Array Value) (hw : ∀ d ∈ tables_1, d.before a0 Z = true) (ws : List Jvm.Cond) (o : Addr) (b : Addr) (k : ClassId) (cs : List Int32) (zc : Int32) (h0 : Heap) (n0 : Nat) (Z0 : n0 ≤ h0.size) (E_o : Exa Z h0 o "java/lang/String") (F_o_coder : Fld Z h0 o "java/lang/String" "coder" "B" (.int (0 : Int32))) (F_o_value : Fld Z h0 o "java/lang/String" "value" "[B" (.ref b)) (V_b : Arv Z h0 b k .byte (Int32.ofNat cs.length) (cs.map fun x => Value.int (own_b x)) (.int (0 : Int32))) (S_COMPACT_STRINGS : Sta Z h0 "java/lang/String" "COMPACT_STRINGS" "Z" (.int zc)) (hz : ¬ (zc = (0 : Int32))) (hn : cs.length ≤ 5) :
    MetFree l (⟨"java/lang/String", "length", "()I"⟩ : MethodName) (head1 (Jvm.Cond.code (⟨"java/lang/String", "length", "()I"⟩ : MethodName) jdk_42_method_54_code 1 (some .int) :: ws) ({ frames := 1, cells := 0, slots := 0, locals := 13 } : Room)) (fun aA U => aA = #[(.ref o)] ∧ Z.Warmed39 U.vm ∧ U.heap = h0) (fun _ _ _ _ _ => True) (fun _ U oO U' => ∃ vV LL, oO = .returned vV ∧ Q_lnL Z o b k cs zc h0 n0 vV U'.heap LL ∧ FrameEnd U oO U' LL ({ frames := 1, cells := 0, slots := 0, locals := 13 } : Room).cells ({ frames := 1, cells := 0, slots := 0, locals := 13 } : Room).slots) := by
  refine MetFree.of_bodySF (plainFor_of_name pn_1) hisR ?_
  intro p e s m args below meth c s₁ Bd hml0 hP hK
  obtain ⟨rfl, hZ, hh⟩ := hP
  have hx := Bd.exec
  have hby := Bd.bytes
  have hml : c.maxLocals = 1 := hml0
  have hown : s.vm.findClass "java/lang/String" = some m.cls := findClass_of_methodNamed Bd.named
  have hnm := (name_of_methodNamed Bd.named Bd.method).1
  have X0 : Stand p l e ({ frames := 1, cells := 0, slots := 0, locals := 13 } : Room) s m #[(.ref o)] below meth c s₁ [] 0 0 := Stand.of_body Bd
  have e0 : s₁.heap = h0 := by rw [← hh, Bd.state]; rfl
  have N0 := Fr.nil n0
  have hret := Bd.returns
  have hlk : meth.locks = false := Bd.notSynchronized
  refine own_start (ef_4 m o) ?_
  show own_Go p e below s (Q_lnL Z o b k cs zc h0 n0) ({ frames := 1, cells := 0, slots := 0, locals := 13 } : Room).cells ({ frames := 1, cells := 0, slots := 0, locals := 13 } : Room).slots (s₁.setTop (mkF m 0 #[.val (.ref o)] []))
  refine g_aload_n X0 hx 1 (hb hby d_jdk_42_method_54_0) rfl rfl rfl ?_
  refine own_getF X0 hx hZ hown (host := "") (Or.inl (hw _ (List.mem_of_getElem? (i := 32) rfl))) Via.refl e0 F_o_value 4 (hb hby d_jdk_42_method_54_1) rfl fun T39 X39 e39 => ?_
  obtain ⟨cl40, Ar40, q40, S40, P40, H40, G40⟩ := id V_b
  refine own_arraylength X39 hx hZ e39 Ar40 S40 P40 5 (hb hby d_jdk_42_method_54_4) rfl ?_
  refine g_aload_n X39 hx 6 (hb hby d_jdk_42_method_54_5) rfl rfl rfl ?_
  refine own_callV X39 hx hZ hown (hw _ (List.mem_of_getElem? (i := 49) rfl)) (hw _ (List.mem_of_getElem? (i := 50) rfl)) (own_nf hZ (hw _ (List.mem_of_getElem? (i := 52) rfl))) (hw _ (List.mem_of_getElem? (i := 52) rfl)) (hw _ (List.mem_of_getElem? (i := 51) rfl)) (by decide) (rm_codL l Z a0 hw [] o zc h0 n0 Z0 F_o_coder S_COMPACT_STRINGS hz) (hw _ (List.mem_of_getElem? (i := 53) rfl)) (hw _ (List.mem_of_getElem? (i := 7) rfl)) e39 1 (by decide) (by decide) (by decide) (by decide) E_o [] [(.int (Int32.ofNat cs.length))] rfl pd_6 rfl 9 rfl (by rw [hml]; rfl) rfl (hb hby d_jdk_42_method_54_6) rfl fun T41 v41 L41 X41 hQ41 => ?_
  obtain ⟨rfl, Nq41, e41⟩ := hQ41
  have N41 := Fr.app N0 Nq41
  show own_GoE p e below _ (T41.setTop (mkF m 9 _ [(.int (0 : Int32)), (.int (Int32.ofNat cs.length))]))
  refine g_ishr X41 hx 10 (hb hby d_jdk_42_method_54_9) rfl ?_
  refine own_retI X41 hx hlk hret (hb hby d_jdk_42_method_54_10) ?_ (by decide) (by decide)
  rw [e41]
  exact ⟨(congrArg some (congrArg Value.int (own_sh0 _))), N41, rfl⟩
def Q_lnU (Z : State) (o : Addr) (b : Addr) (k : ClassId) (cs : List Int32) (zc : Int32) (h0 : Heap) (n0 : Nat) (v : Option Value) (h : Heap) (L : List Loc) : Prop := v = some (.int (Int32.ofNat cs.length)) ∧ Fr n0 L ∧ h = h0
set_option maxRecDepth 65536 in
set_option maxHeartbeats 40000000 in
theorem rm_lnU (l : Launch) (Z : State) (a0 : Array Value) (hw : ∀ d ∈ tables_1, d.before a0 Z = true) (ws : List Jvm.Cond) (o : Addr) (b : Addr) (k : ClassId) (cs : List Int32) (zc : Int32) (h0 : Heap) (n0 : Nat) (Z0 : n0 ≤ h0.size) (E_o : Exa Z h0 o "java/lang/String") (F_o_coder : Fld Z h0 o "java/lang/String" "coder" "B" (.int (1 : Int32))) (F_o_value : Fld Z h0 o "java/lang/String" "value" "[B" (.ref b)) (V_b : Arv Z h0 b k .byte (Int32.ofNat (2 * cs.length)) (own_u cs) (.int (0 : Int32))) (S_COMPACT_STRINGS : Sta Z h0 "java/lang/String" "COMPACT_STRINGS" "Z" (.int zc)) (hz : ¬ (zc = (0 : Int32))) (hn : cs.length ≤ 5) :
    MetFree l (⟨"java/lang/String", "length", "()I"⟩ : MethodName) (head1 (Jvm.Cond.code (⟨"java/lang/String", "length", "()I"⟩ : MethodName) jdk_42_method_54_code 1 (some .int) :: ws) ({ frames := 1, cells := 0, slots := 0, locals := 13 } : Room)) (fun aA U => aA = #[(.ref o)] ∧ Z.Warmed39 U.vm ∧ U.heap = h0) (fun _ _ _ _ _ => True) (fun _ U oO U' => ∃ vV LL, oO = .returned vV ∧ Q_lnU Z o b k cs zc h0 n0 vV U'.heap LL ∧ FrameEnd U oO U' LL ({ frames := 1, cells := 0, slots := 0, locals := 13 } : Room).cells ({ frames := 1, cells := 0, slots := 0, locals := 13 } : Room).slots) := by
  refine MetFree.of_bodySF (plainFor_of_name pn_1) hisR ?_
  intro p e s m args below meth c s₁ Bd hml0 hP hK
  obtain ⟨rfl, hZ, hh⟩ := hP
  have hx := Bd.exec
  have hby := Bd.bytes
  have hml : c.maxLocals = 1 := hml0
  have hown : s.vm.findClass "java/lang/String" = some m.cls := findClass_of_methodNamed Bd.named
  have hnm := (name_of_methodNamed Bd.named Bd.method).1
  have X0 : Stand p l e ({ frames := 1, cells := 0, slots := 0, locals := 13 } : Room) s m #[(.ref o)] below meth c s₁ [] 0 0 := Stand.of_body Bd
  have e0 : s₁.heap = h0 := by rw [← hh, Bd.state]; rfl
  have N0 := Fr.nil n0
  have hret := Bd.returns
  have hlk : meth.locks = false := Bd.notSynchronized
  refine own_start (ef_4 m o) ?_
  show own_Go p e below s (Q_lnU Z o b k cs zc h0 n0) ({ frames := 1, cells := 0, slots := 0, locals := 13 } : Room).cells ({ frames := 1, cells := 0, slots := 0, locals := 13 } : Room).slots (s₁.setTop (mkF m 0 #[.val (.ref o)] []))
  refine g_aload_n X0 hx 1 (hb hby d_jdk_42_method_54_0) rfl rfl rfl ?_
  refine own_getF X0 hx hZ hown (host := "") (Or.inl (hw _ (List.mem_of_getElem? (i := 32) rfl))) Via.refl e0 F_o_value 4 (hb hby d_jdk_42_method_54_1) rfl fun T42 X42 e42 => ?_
  obtain ⟨cl43, Ar43, q43, S43, P43, H43, G43⟩ := id V_b
  refine own_arraylength X42 hx hZ e42 Ar43 S43 P43 5 (hb hby d_jdk_42_method_54_4) rfl ?_
  refine g_aload_n X42 hx 6 (hb hby d_jdk_42_method_54_5) rfl rfl rfl ?_
  refine own_callV X42 hx hZ hown (hw _ (List.mem_of_getElem? (i := 49) rfl)) (hw _ (List.mem_of_getElem? (i := 50) rfl)) (own_nf hZ (hw _ (List.mem_of_getElem? (i := 52) rfl))) (hw _ (List.mem_of_getElem? (i := 52) rfl)) (hw _ (List.mem_of_getElem? (i := 51) rfl)) (by decide) (rm_codU l Z a0 hw [] o zc h0 n0 Z0 F_o_coder S_COMPACT_STRINGS hz) (hw _ (List.mem_of_getElem? (i := 53) rfl)) (hw _ (List.mem_of_getElem? (i := 7) rfl)) e42 1 (by decide) (by decide) (by decide) (by decide) E_o [] [(.int (Int32.ofNat (2 * cs.length)))] rfl pd_6 rfl 9 rfl (by rw [hml]; rfl) rfl (hb hby d_jdk_42_method_54_6) rfl fun T44 v44 L44 X44 hQ44 => ?_
  obtain ⟨rfl, Nq44, e44⟩ := hQ44
  have N44 := Fr.app N0 Nq44
  show own_GoE p e below _ (T44.setTop (mkF m 9 _ [(.int (1 : Int32)), (.int (Int32.ofNat (2 * cs.length)))]))
  refine g_ishr X44 hx 10 (hb hby d_jdk_42_method_54_9) rfl ?_
  refine own_retI X44 hx hlk hret (hb hby d_jdk_42_method_54_10) ?_ (by decide) (by decide)
  rw [e44]
  exact ⟨(congrArg some (congrArg Value.int (own_sh1 hn))), N44, rfl⟩
def Q_lnS (Z : State) (o : Addr) (cs : List Int32) (zc : Int32) (h0 : Heap) (n0 : Nat) (v : Option Value) (h : Heap) (L : List Loc) : Prop := v = some (.int (Int32.ofNat cs.length)) ∧ Fr n0 L ∧ h = h0
theorem rm_lnS (l : Launch) (Z : State) (a0 : Array Value) (hw : ∀ d ∈ tables_1, d.before a0 Z = true) (ws : List Jvm.Cond) (o : Addr) (cs : List Int32) (zc : Int32) (h0 : Heap) (n0 : Nat) (Z0 : n0 ≤ h0.size) (S_COMPACT_STRINGS : Sta Z h0 "java/lang/String" "COMPACT_STRINGS" "Z" (.int zc)) (STR : own_Str Z h0 o cs) (hz : ¬ (zc = (0 : Int32))) (hn : cs.length ≤ 5) :
    MetFree l (⟨"java/lang/String", "length", "()I"⟩ : MethodName) (head1 (Jvm.Cond.code (⟨"java/lang/String", "length", "()I"⟩ : MethodName) jdk_42_method_54_code 1 (some .int) :: ws) ({ frames := 1, cells := 0, slots := 0, locals := 13 } : Room)) (fun aA U => aA = #[(.ref o)] ∧ Z.Warmed39 U.vm ∧ U.heap = h0) (fun _ _ _ _ _ => True) (fun _ U oO U' => ∃ vV LL, oO = .returned vV ∧ Q_lnS Z o cs zc h0 n0 vV U'.heap LL ∧ FrameEnd U oO U' LL ({ frames := 1, cells := 0, slots := 0, locals := 13 } : Room).cells ({ frames := 1, cells := 0, slots := 0, locals := 13 } : Room).slots) := by
  rcases STR with ⟨b, k, E1, C1, V1, A1, R1⟩ | ⟨b, k, E1, C1, V1, A1, R1⟩
  · exact rm_lnL l Z a0 hw ws o b k cs zc h0 n0 Z0 E1 C1 V1 A1 S_COMPACT_STRINGS hz hn
  · exact rm_lnU l Z a0 hw ws o b k cs zc h0 n0 Z0 E1 C1 V1 A1 S_COMPACT_STRINGS hz hn
theorem d_jdk_42_method_56_0 : decode jdk_42_method_56_code 0 = .ok (.aload_n 0, 1) := by decide +kernel
theorem d_jdk_42_method_56_1 : decode jdk_42_method_56_code 1 = .ok (.invokevirtual 492, 3) := by decide +kernel
theorem pd_7 : parseMethodDescriptor "()Z" = some ⟨[], some .boolean⟩ := by decide +kernel
theorem d_jdk_42_method_56_4 : decode jdk_42_method_56_code 4 = .ok (.ifCond .eq 12, 3) := by decide +kernel
theorem d_jdk_42_method_56_7 : decode jdk_42_method_56_code 7 = .ok (.aload_n 0, 1) := by decide +kernel
theorem d_jdk_42_method_56_8 : decode jdk_42_method_56_code 8 = .ok (.getfield 9, 3) := by decide +kernel
theorem d_jdk_42_method_56_11 : decode jdk_42_method_56_code 11 = .ok (.iload_n 1, 1) := by decide +kernel
theorem d_jdk_42_method_56_12 : decode jdk_42_method_56_code 12 = .ok (.invokestatic 495, 3) := by decide +kernel
theorem d_jdk_42_method_56_15 : decode jdk_42_method_56_code 15 = .ok (.ireturn, 1) := by decide +kernel
def Q_chL (Z : State) (o : Addr) (b : Addr) (k : ClassId) (jj : Int32) (cs : List Int32) (zc : Int32) (fm : Value) (h0 : Heap) (n0 : Nat) (v : Option Value) (h : Heap) (L : List Loc) : Prop := v = some (.int (own_at cs jj)) ∧ Fr n0 L ∧ h = h0
set_option maxRecDepth 65536 in
set_option maxHeartbeats 40000000 in
theorem rm_chL (l : Launch) (Z : State) (a0 : Array Value) (hw : ∀ d ∈ tables_1, d.before a0 Z = true) (ws : List Jvm.Cond) (o : Addr) (b : Addr) (k : ClassId) (jj : Int32) (cs : List Int32) (zc : Int32) (fm : Value) (h0 : Heap) (n0 : Nat) (Z0 : n0 ≤ h0.size) (E_o : Exa Z h0 o "java/lang/String") (F_o_coder : Fld Z h0 o "java/lang/String" "coder" "B" (.int (0 : Int32))) (F_o_value : Fld Z h0 o "java/lang/String" "value" "[B" (.ref b)) (V_b : Arv Z h0 b k .byte (Int32.ofNat cs.length) (cs.map fun x => Value.int (own_b x)) (.int (0 : Int32))) (S_COMPACT_STRINGS : Sta Z h0 "java/lang/String" "COMPACT_STRINGS" "Z" (.int zc)) (S_SIOOBE_FORMATTER : Sta Z h0 "jdk/internal/util/Preconditions" "SIOOBE_FORMATTER" "Ljava/util/function/BiFunction;" fm) (S__assertionsDisabled : Sta Z h0 "java/lang/StringUTF16" "$assertionsDisabled" "Z" (.int (1 : Int32))) (S_HI_BYTE_SHIFT : Sta Z h0 "java/lang/StringUTF16" "HI_BYTE_SHIFT" "I" (.int (0 : Int32))) (S_LO_BYTE_SHIFT : Sta Z h0 "java/lang/StringUTF16" "LO_BYTE_SHIFT" "I" (.int (8 : Int32))) (hz : ¬ (zc = (0 : Int32))) (hn : cs.length ≤ 5) (g1 : ¬ (jj < (0 : Int32))) (g2 : jj < (Int32.ofNat cs.length)) (hr : ∀ x ∈ cs, 0 ≤ x.toInt ∧ x.toInt ≤ 255) (hfm : fm.isRef = true) :
    MetFree l (⟨"java/lang/String", "charAt", "(I)C"⟩ : MethodName) (head1 (Jvm.Cond.code (⟨"java/lang/String", "charAt", "(I)C"⟩ : MethodName) jdk_42_method_56_code 2 (some .char) :: ws) ({ frames := 4, cells := 0, slots := 0, locals := 53 } : Room)) (fun aA U => aA = #[(.ref o), (.int jj)] ∧ Z.Warmed39 U.vm ∧ U.heap = h0) (fun _ _ _ _ _ => True) (fun _ U oO U' => ∃ vV LL, oO = .returned vV ∧ Q_chL Z o b k jj cs zc fm h0 n0 vV U'.heap LL ∧ FrameEnd U oO U' LL ({ frames := 4, cells := 0, slots := 0, locals := 53 } : Room).cells ({ frames := 4, cells := 0, slots := 0, locals := 53 } : Room).slots) := by
  refine MetFree.of_bodySF (plainFor_of_name pn_1) hisR ?_
  intro p e s m args below meth c s₁ Bd hml0 hP hK
  obtain ⟨rfl, hZ, hh⟩ := hP
  have hx := Bd.exec
  have hby := Bd.bytes
  have hml : c.maxLocals = 2 := hml0
  have hown : s.vm.findClass "java/lang/String" = some m.cls := findClass_of_methodNamed Bd.named
  have hnm := (name_of_methodNamed Bd.named Bd.method).1
  have X0 : Stand p l e ({ frames := 4, cells := 0, slots := 0, locals := 53 } : Room) s m #[(.ref o), (.int jj)] below meth c s₁ [] 0 0 := Stand.of_body Bd
  have e0 : s₁.heap = h0 := by rw [← hh, Bd.state]; rfl
  have N0 := Fr.nil n0
  have hret := Bd.returns
  have hlk : meth.locks = false := Bd.notSynchronized
  refine own_start (ef_5 m o jj) ?_
  show own_Go p e below s (Q_chL Z o b k jj cs zc fm h0 n0) ({ frames := 4, cells := 0, slots := 0, locals := 53 } : Room).cells ({ frames := 4, cells := 0, slots := 0, locals := 53 } : Room).slots (s₁.setTop (mkF m 0 #[.val (.ref o), .val (.int jj)] []))
  refine g_aload_n X0 hx 1 (hb hby d_jdk_42_method_56_0) rfl rfl rfl ?_
  refine own_callV X0 hx hZ hown (hw _ (List.mem_of_getElem? (i := 62) rfl)) (hw _ (List.mem_of_getElem? (i := 63) rfl)) (own_nf hZ (hw _ (List.mem_of_getElem? (i := 65) rfl))) (hw _ (List.mem_of_getElem? (i := 65) rfl)) (hw _ (List.mem_of_getElem? (i := 64) rfl)) (by decide) (rm_islL l Z a0 hw [] o zc h0 n0 Z0 F_o_coder S_COMPACT_STRINGS hz) (hw _ (List.mem_of_getElem? (i := 66) rfl)) (hw _ (List.mem_of_getElem? (i := 7) rfl)) e0 0 (by decide) (by decide) (by decide) (by decide) E_o [] [] rfl pd_7 rfl 4 rfl (by rw [hml]; rfl) rfl (hb hby d_jdk_42_method_56_1) rfl fun T45 v45 L45 X45 hQ45 => ?_
  obtain ⟨rfl, Nq45, e45⟩ := hQ45
  have N45 := Fr.app N0 Nq45
  show own_GoE p e below _ (T45.setTop (mkF m 4 _ [(.int (1 : Int32))]))
  refine g_ifNo X45 hx 7 (hb hby d_jdk_42_method_56_4) (own_i0_eq_f (by decide)) rfl ?_
  refine g_aload_n X45 hx 8 (hb hby d_jdk_42_method_56_7) rfl rfl rfl ?_
  refine own_getF X45 hx hZ hown (host := "") (Or.inl (hw _ (List.mem_of_getElem? (i := 32) rfl))) Via.refl e45 F_o_value 11 (hb hby d_jdk_42_method_56_8) rfl fun T46 X46 e46 => ?_
  refine g_iload_n X46 hx 12 (hb hby d_jdk_42_method_56_11) rfl rfl ?_
  refine own_callS X46 hx hZ hown (hw _ (List.mem_of_getElem? (i := 91) rfl)) (hw _ (List.mem_of_getElem? (i := 92) rfl)) (by decide) (rm_chl l Z a0 hw [] b k jj cs fm h0 n0 Z0 V_b S_SIOOBE_FORMATTER hn g1 g2 hr hfm) (hw _ (List.mem_of_getElem? (i := 93) rfl)) (hw _ (List.mem_of_getElem? (i := 69) rfl)) e46 0 (by decide) (by decide) (by decide) (by decide) [(.ref b), (.int jj)] [] rfl pd_5 rfl 15 rfl (by rw [hml]; rfl) rfl (hb hby d_jdk_42_method_56_12) rfl fun T47 v47 L47 X47 hQ47 => ?_
  obtain ⟨rfl, Nq47, e47⟩ := hQ47
  have N47 := Fr.app N45 Nq47
  show own_GoE p e below _ (T47.setTop (mkF m 15 _ [(.int (own_at cs jj))]))
  refine own_retN X47 hx hlk (t := .char) hret (by simp) (hb hby d_jdk_42_method_56_15) ?_ (by decide) (by decide)
  rw [e47]
  exact ⟨(congrArg some (congrArg Value.int (own_nc (own_r16 (hr _ (own_at_mem (own_in hn g1 g2))))))), N47, rfl⟩
theorem d_jdk_42_method_56_16 : decode jdk_42_method_56_code 16 = .ok (.aload_n 0, 1) := by decide +kernel
theorem d_jdk_42_method_56_17 : decode jdk_42_method_56_code 17 = .ok (.getfield 9, 3) := by decide +kernel
theorem d_jdk_42_method_56_20 : decode jdk_42_method_56_code 20 = .ok (.iload_n 1, 1) := by decide +kernel
theorem d_jdk_42_method_56_21 : decode jdk_42_method_56_code 21 = .ok (.invokestatic 498, 3) := by decide +kernel
theorem d_jdk_42_method_56_24 : decode jdk_42_method_56_code 24 = .ok (.ireturn, 1) := by decide +kernel
def Q_chU (Z : State) (o : Addr) (b : Addr) (k : ClassId) (jj : Int32) (cs : List Int32) (zc : Int32) (fm : Value) (h0 : Heap) (n0 : Nat) (v : Option Value) (h : Heap) (L : List Loc) : Prop := v = some (.int (own_at cs jj)) ∧ Fr n0 L ∧ h = h0
set_option maxRecDepth 65536 in
set_option maxHeartbeats 40000000 in
theorem rm_chU (l : Launch) (Z : State) (a0 : Array Value) (hw : ∀ d ∈ tables_1, d.before a0 Z = true) (ws : List Jvm.Cond) (o : Addr) (b : Addr) (k : ClassId) (jj : Int32) (cs : List Int32) (zc : Int32) (fm : Value) (h0 : Heap) (n0 : Nat) (Z0 : n0 ≤ h0.size) (E_o : Exa Z h0 o "java/lang/String") (F_o_coder : Fld Z h0 o "java/lang/String" "coder" "B" (.int (1 : Int32))) (F_o_value : Fld Z h0 o "java/lang/String" "value" "[B" (.ref b)) (V_b : Arv Z h0 b k .byte (Int32.ofNat (2 * cs.length)) (own_u cs) (.int (0 : Int32))) (S_COMPACT_STRINGS : Sta Z h0 "java/lang/String" "COMPACT_STRINGS" "Z" (.int zc)) (S_SIOOBE_FORMATTER : Sta Z h0 "jdk/internal/util/Preconditions" "SIOOBE_FORMATTER" "Ljava/util/function/BiFunction;" fm) (S__assertionsDisabled : Sta Z h0 "java/lang/StringUTF16" "$assertionsDisabled" "Z" (.int (1 : Int32))) (S_HI_BYTE_SHIFT : Sta Z h0 "java/lang/StringUTF16" "HI_BYTE_SHIFT" "I" (.int (0 : Int32))) (S_LO_BYTE_SHIFT : Sta Z h0 "java/lang/StringUTF16" "LO_BYTE_SHIFT" "I" (.int (8 : Int32))) (hz : ¬ (zc = (0 : Int32))) (hn : cs.length ≤ 5) (g1 : ¬ (jj < (0 : Int32))) (g2 : jj < (Int32.ofNat cs.length)) (hr : ∀ x ∈ cs, 0 ≤ x.toInt ∧ x.toInt ≤ 65535) (hfm : fm.isRef = true) :
    MetFree l (⟨"java/lang/String", "charAt", "(I)C"⟩ : MethodName) (head1 (Jvm.Cond.code (⟨"java/lang/String", "charAt", "(I)C"⟩ : MethodName) jdk_42_method_56_code 2 (some .char) :: ws) ({ frames := 4, cells := 0, slots := 0, locals := 53 } : Room)) (fun aA U => aA = #[(.ref o), (.int jj)] ∧ Z.Warmed39 U.vm ∧ U.heap = h0) (fun _ _ _ _ _ => True) (fun _ U oO U' => ∃ vV LL, oO = .returned vV ∧ Q_chU Z o b k jj cs zc fm h0 n0 vV U'.heap LL ∧ FrameEnd U oO U' LL ({ frames := 4, cells := 0, slots := 0, locals := 53 } : Room).cells ({ frames := 4, cells := 0, slots := 0, locals := 53 } : Room).slots) := by
  refine MetFree.of_bodySF (plainFor_of_name pn_1) hisR ?_
  intro p e s m args below meth c s₁ Bd hml0 hP hK
  obtain ⟨rfl, hZ, hh⟩ := hP
  have hx := Bd.exec
  have hby := Bd.bytes
  have hml : c.maxLocals = 2 := hml0
  have hown : s.vm.findClass "java/lang/String" = some m.cls := findClass_of_methodNamed Bd.named
  have hnm := (name_of_methodNamed Bd.named Bd.method).1
  have X0 : Stand p l e ({ frames := 4, cells := 0, slots := 0, locals := 53 } : Room) s m #[(.ref o), (.int jj)] below meth c s₁ [] 0 0 := Stand.of_body Bd
  have e0 : s₁.heap = h0 := by rw [← hh, Bd.state]; rfl
  have N0 := Fr.nil n0
  have hret := Bd.returns
  have hlk : meth.locks = false := Bd.notSynchronized
  refine own_start (ef_5 m o jj) ?_
  show own_Go p e below s (Q_chU Z o b k jj cs zc fm h0 n0) ({ frames := 4, cells := 0, slots := 0, locals := 53 } : Room).cells ({ frames := 4, cells := 0, slots := 0, locals := 53 } : Room).slots (s₁.setTop (mkF m 0 #[.val (.ref o), .val (.int jj)] []))
  refine g_aload_n X0 hx 1 (hb hby d_jdk_42_method_56_0) rfl rfl rfl ?_
  refine own_callV X0 hx hZ hown (hw _ (List.mem_of_getElem? (i := 62) rfl)) (hw _ (List.mem_of_getElem? (i := 63) rfl)) (own_nf hZ (hw _ (List.mem_of_getElem? (i := 65) rfl))) (hw _ (List.mem_of_getElem? (i := 65) rfl)) (hw _ (List.mem_of_getElem? (i := 64) rfl)) (by decide) (rm_islU l Z a0 hw [] o zc h0 n0 Z0 F_o_coder S_COMPACT_STRINGS hz) (hw _ (List.mem_of_getElem? (i := 66) rfl)) (hw _ (List.mem_of_getElem? (i := 7) rfl)) e0 0 (by decide) (by decide) (by decide) (by decide) E_o [] [] rfl pd_7 rfl 4 rfl (by rw [hml]; rfl) rfl (hb hby d_jdk_42_method_56_1) rfl fun T48 v48 L48 X48 hQ48 => ?_
  obtain ⟨rfl, Nq48, e48⟩ := hQ48
  have N48 := Fr.app N0 Nq48
  show own_GoE p e below _ (T48.setTop (mkF m 4 _ [(.int (0 : Int32))]))
  refine g_ifYes X48 hx 16 (hb hby d_jdk_42_method_56_4) (own_i0_eq_t (by decide)) (by decide) (by decide) ?_
  refine g_aload_n X48 hx 17 (hb hby d_jdk_42_method_56_16) rfl rfl rfl ?_
  refine own_getF X48 hx hZ hown (host := "") (Or.inl (hw _ (List.mem_of_getElem? (i := 32) rfl))) Via.refl e48 F_o_value 20 (hb hby d_jdk_42_method_56_17) rfl fun T49 X49 e49 => ?_
  refine g_iload_n X49 hx 21 (hb hby d_jdk_42_method_56_20) rfl rfl ?_
  refine own_callS X49 hx hZ hown (hw _ (List.mem_of_getElem? (i := 152) rfl)) (hw _ (List.mem_of_getElem? (i := 153) rfl)) (by decide) (rm_chu l Z a0 hw [] b k jj cs fm h0 n0 Z0 V_b S__assertionsDisabled S_HI_BYTE_SHIFT S_LO_BYTE_SHIFT S_SIOOBE_FORMATTER hn g1 g2 hr hfm) (hw _ (List.mem_of_getElem? (i := 154) rfl)) (hw _ (List.mem_of_getElem? (i := 21) rfl)) e49 0 (by decide) (by decide) (by decide) (by decide) [(.ref b), (.int jj)] [] rfl pd_5 rfl 24 rfl (by rw [hml]; rfl) rfl (hb hby d_jdk_42_method_56_21) rfl fun T50 v50 L50 X50 hQ50 => ?_
  obtain ⟨rfl, Nq50, e50⟩ := hQ50
  have N50 := Fr.app N48 Nq50
  show own_GoE p e below _ (T50.setTop (mkF m 24 _ [(.int (own_at cs jj))]))
  refine own_retN X50 hx hlk (t := .char) hret (by simp) (hb hby d_jdk_42_method_56_24) ?_ (by decide) (by decide)
  rw [e50]
  exact ⟨(congrArg some (congrArg Value.int (own_nc (hr _ (own_at_mem (own_in hn g1 g2)))))), N50, rfl⟩
def Q_chS (Z : State) (o : Addr) (jj : Int32) (cs : List Int32) (zc : Int32) (fm : Value) (h0 : Heap) (n0 : Nat) (v : Option Value) (h : Heap) (L : List Loc) : Prop := v = some (.int (own_at cs jj)) ∧ Fr n0 L ∧ h = h0
theorem rm_chS (l : Launch) (Z : State) (a0 : Array Value) (hw : ∀ d ∈ tables_1, d.before a0 Z = true) (ws : List Jvm.Cond) (o : Addr) (jj : Int32) (cs : List Int32) (zc : Int32) (fm : Value) (h0 : Heap) (n0 : Nat) (Z0 : n0 ≤ h0.size) (S_COMPACT_STRINGS : Sta Z h0 "java/lang/String" "COMPACT_STRINGS" "Z" (.int zc)) (S_SIOOBE_FORMATTER : Sta Z h0 "jdk/internal/util/Preconditions" "SIOOBE_FORMATTER" "Ljava/util/function/BiFunction;" fm) (S__assertionsDisabled : Sta Z h0 "java/lang/StringUTF16" "$assertionsDisabled" "Z" (.int (1 : Int32))) (S_HI_BYTE_SHIFT : Sta Z h0 "java/lang/StringUTF16" "HI_BYTE_SHIFT" "I" (.int (0 : Int32))) (S_LO_BYTE_SHIFT : Sta Z h0 "java/lang/StringUTF16" "LO_BYTE_SHIFT" "I" (.int (8 : Int32))) (STR : own_Str Z h0 o cs) (hz : ¬ (zc = (0 : Int32))) (hn : cs.length ≤ 5) (g1 : ¬ (jj < (0 : Int32))) (g2 : jj < (Int32.ofNat cs.length)) (hfm : fm.isRef = true) :
    MetFree l (⟨"java/lang/String", "charAt", "(I)C"⟩ : MethodName) (head1 (Jvm.Cond.code (⟨"java/lang/String", "charAt", "(I)C"⟩ : MethodName) jdk_42_method_56_code 2 (some .char) :: ws) ({ frames := 4, cells := 0, slots := 0, locals := 53 } : Room)) (fun aA U => aA = #[(.ref o), (.int jj)] ∧ Z.Warmed39 U.vm ∧ U.heap = h0) (fun _ _ _ _ _ => True) (fun _ U oO U' => ∃ vV LL, oO = .returned vV ∧ Q_chS Z o jj cs zc fm h0 n0 vV U'.heap LL ∧ FrameEnd U oO U' LL ({ frames := 4, cells := 0, slots := 0, locals := 53 } : Room).cells ({ frames := 4, cells := 0, slots := 0, locals := 53 } : Room).slots) := by
  rcases STR with ⟨b, k, E1, C1, V1, A1, R1⟩ | ⟨b, k, E1, C1, V1, A1, R1⟩
  · exact rm_chL l Z a0 hw ws o b k jj cs zc fm h0 n0 Z0 E1 C1 V1 A1 S_COMPACT_STRINGS S_SIOOBE_FORMATTER S__assertionsDisabled S_HI_BYTE_SHIFT S_LO_BYTE_SHIFT hz hn g1 g2 R1 hfm
  · exact rm_chU l Z a0 hw ws o b k jj cs zc fm h0 n0 Z0 E1 C1 V1 A1 S_COMPACT_STRINGS S_SIOOBE_FORMATTER S__assertionsDisabled S_HI_BYTE_SHIFT S_LO_BYTE_SHIFT hz hn g1 g2 R1 hfm
theorem d_jdk_42_method_55_0 : decode jdk_42_method_55_code 0 = .ok (.aload_n 0, 1) := by decide +kernel
theorem d_jdk_42_method_55_1 : decode jdk_42_method_55_code 1 = .ok (.getfield 9, 3) := by decide +kernel
theorem d_jdk_42_method_55_4 : decode jdk_42_method_55_code 4 = .ok (.arraylength, 1) := by decide +kernel
theorem d_jdk_42_method_55_5 : decode jdk_42_method_55_code 5 = .ok (.ifCond .ne 7, 3) := by decide +kernel
theorem d_jdk_42_method_55_8 : decode jdk_42_method_55_code 8 = .ok (.iconst 1, 1) := by decide +kernel
theorem d_jdk_42_method_55_9 : decode jdk_42_method_55_code 9 = .ok (.goto 4, 3) := by decide +kernel
theorem d_jdk_42_method_55_13 : decode jdk_42_method_55_code 13 = .ok (.ireturn, 1) := by decide +kernel
def Q_ieL (Z : State) (o : Addr) (b : Addr) (k : ClassId) (cs : List Int32) (h0 : Heap) (n0 : Nat) (v : Option Value) (h : Heap) (L : List Loc) : Prop := v = some (.int (1 : Int32)) ∧ Fr n0 L ∧ h = h0
set_option maxRecDepth 65536 in
set_option maxHeartbeats 40000000 in
theorem rm_ieL (l : Launch) (Z : State) (a0 : Array Value) (hw : ∀ d ∈ tables_1, d.before a0 Z = true) (ws : List Jvm.Cond) (o : Addr) (b : Addr) (k : ClassId) (cs : List Int32) (h0 : Heap) (n0 : Nat) (Z0 : n0 ≤ h0.size) (E_o : Exa Z h0 o "java/lang/String") (F_o_coder : Fld Z h0 o "java/lang/String" "coder" "B" (.int (0 : Int32))) (F_o_value : Fld Z h0 o "java/lang/String" "value" "[B" (.ref b)) (V_b : Arv Z h0 b k .byte (Int32.ofNat cs.length) (cs.map fun x => Value.int (own_b x)) (.int (0 : Int32))) (he : cs.length = 0) :
    MetFree l (⟨"java/lang/String", "isEmpty", "()Z"⟩ : MethodName) (head1 (Jvm.Cond.code (⟨"java/lang/String", "isEmpty", "()Z"⟩ : MethodName) jdk_42_method_55_code 1 (some .boolean) :: ws) ({ frames := 0, cells := 0, slots := 0, locals := 0 } : Room)) (fun aA U => aA = #[(.ref o)] ∧ Z.Warmed39 U.vm ∧ U.heap = h0) (fun _ _ _ _ _ => True) (fun _ U oO U' => ∃ vV LL, oO = .returned vV ∧ Q_ieL Z o b k cs h0 n0 vV U'.heap LL ∧ FrameEnd U oO U' LL ({ frames := 0, cells := 0, slots := 0, locals := 0 } : Room).cells ({ frames := 0, cells := 0, slots := 0, locals := 0 } : Room).slots) := by
  refine MetFree.of_bodySF (plainFor_of_name pn_1) hisR ?_
  intro p e s m args below meth c s₁ Bd hml0 hP hK
  obtain ⟨rfl, hZ, hh⟩ := hP
  have hx := Bd.exec
  have hby := Bd.bytes
  have hml : c.maxLocals = 1 := hml0
  have hown : s.vm.findClass "java/lang/String" = some m.cls := findClass_of_methodNamed Bd.named
  have hnm := (name_of_methodNamed Bd.named Bd.method).1
  have X0 : Stand p l e ({ frames := 0, cells := 0, slots := 0, locals := 0 } : Room) s m #[(.ref o)] below meth c s₁ [] 0 0 := Stand.of_body Bd
  have e0 : s₁.heap = h0 := by rw [← hh, Bd.state]; rfl
  have N0 := Fr.nil n0
  have hret := Bd.returns
  have hlk : meth.locks = false := Bd.notSynchronized
  refine own_start (ef_4 m o) ?_
  show own_Go p e below s (Q_ieL Z o b k cs h0 n0) ({ frames := 0, cells := 0, slots := 0, locals := 0 } : Room).cells ({ frames := 0, cells := 0, slots := 0, locals := 0 } : Room).slots (s₁.setTop (mkF m 0 #[.val (.ref o)] []))
  refine g_aload_n X0 hx 1 (hb hby d_jdk_42_method_55_0) rfl rfl rfl ?_
  refine own_getF X0 hx hZ hown (host := "") (Or.inl (hw _ (List.mem_of_getElem? (i := 32) rfl))) Via.refl e0 F_o_value 4 (hb hby d_jdk_42_method_55_1) rfl fun T51 X51 e51 => ?_
  obtain ⟨cl52, Ar52, q52, S52, P52, H52, G52⟩ := id V_b
  refine own_arraylength X51 hx hZ e51 Ar52 S52 P52 5 (hb hby d_jdk_42_method_55_4) rfl ?_
  have c53 : (Int32.ofNat cs.length) = (0 : Int32) := by rw [he]; rfl
  refine g_ifNo X51 hx 8 (hb hby d_jdk_42_method_55_5) (own_i0_ne_f c53) rfl ?_
  refine g_iconst X51 hx 9 (hb hby d_jdk_42_method_55_8) (1 : Int32) rfl rfl ?_
  refine g_goto X51 hx 13 (hb hby d_jdk_42_method_55_9) (by decide) (by decide) ?_
  refine own_retN X51 hx hlk (t := .boolean) hret (by simp) (hb hby d_jdk_42_method_55_13) ?_ (by decide) (by decide)
  rw [e51]
  exact ⟨(own_rb rfl), N0, rfl⟩
def Q_ieU (Z : State) (o : Addr) (b : Addr) (k : ClassId) (cs : List Int32) (h0 : Heap) (n0 : Nat) (v : Option Value) (h : Heap) (L : List Loc) : Prop := v = some (.int (1 : Int32)) ∧ Fr n0 L ∧ h = h0
set_option maxRecDepth 65536 in
set_option maxHeartbeats 40000000 in
theorem rm_ieU (l : Launch) (Z : State) (a0 : Array Value) (hw : ∀ d ∈ tables_1, d.before a0 Z = true) (ws : List Jvm.Cond) (o : Addr) (b : Addr) (k : ClassId) (cs : List Int32) (h0 : Heap) (n0 : Nat) (Z0 : n0 ≤ h0.size) (E_o : Exa Z h0 o "java/lang/String") (F_o_coder : Fld Z h0 o "java/lang/String" "coder" "B" (.int (1 : Int32))) (F_o_value : Fld Z h0 o "java/lang/String" "value" "[B" (.ref b)) (V_b : Arv Z h0 b k .byte (Int32.ofNat (2 * cs.length)) (own_u cs) (.int (0 : Int32))) (he : cs.length = 0) :
    MetFree l (⟨"java/lang/String", "isEmpty", "()Z"⟩ : MethodName) (head1 (Jvm.Cond.code (⟨"java/lang/String", "isEmpty", "()Z"⟩ : MethodName) jdk_42_method_55_code 1 (some .boolean) :: ws) ({ frames := 0, cells := 0, slots := 0, locals := 0 } : Room)) (fun aA U => aA = #[(.ref o)] ∧ Z.Warmed39 U.vm ∧ U.heap = h0) (fun _ _ _ _ _ => True) (fun _ U oO U' => ∃ vV LL, oO = .returned vV ∧ Q_ieU Z o b k cs h0 n0 vV U'.heap LL ∧ FrameEnd U oO U' LL ({ frames := 0, cells := 0, slots := 0, locals := 0 } : Room).cells ({ frames := 0, cells := 0, slots := 0, locals := 0 } : Room).slots) := by
  refine MetFree.of_bodySF (plainFor_of_name pn_1) hisR ?_
  intro p e s m args below meth c s₁ Bd hml0 hP hK
  obtain ⟨rfl, hZ, hh⟩ := hP
  have hx := Bd.exec
  have hby := Bd.bytes
  have hml : c.maxLocals = 1 := hml0
  have hown : s.vm.findClass "java/lang/String" = some m.cls := findClass_of_methodNamed Bd.named
  have hnm := (name_of_methodNamed Bd.named Bd.method).1
  have X0 : Stand p l e ({ frames := 0, cells := 0, slots := 0, locals := 0 } : Room) s m #[(.ref o)] below meth c s₁ [] 0 0 := Stand.of_body Bd
  have e0 : s₁.heap = h0 := by rw [← hh, Bd.state]; rfl
  have N0 := Fr.nil n0
  have hret := Bd.returns
  have hlk : meth.locks = false := Bd.notSynchronized
  refine own_start (ef_4 m o) ?_
  show own_Go p e below s (Q_ieU Z o b k cs h0 n0) ({ frames := 0, cells := 0, slots := 0, locals := 0 } : Room).cells ({ frames := 0, cells := 0, slots := 0, locals := 0 } : Room).slots (s₁.setTop (mkF m 0 #[.val (.ref o)] []))
  refine g_aload_n X0 hx 1 (hb hby d_jdk_42_method_55_0) rfl rfl rfl ?_
  refine own_getF X0 hx hZ hown (host := "") (Or.inl (hw _ (List.mem_of_getElem? (i := 32) rfl))) Via.refl e0 F_o_value 4 (hb hby d_jdk_42_method_55_1) rfl fun T54 X54 e54 => ?_
  obtain ⟨cl55, Ar55, q55, S55, P55, H55, G55⟩ := id V_b
  refine own_arraylength X54 hx hZ e54 Ar55 S55 P55 5 (hb hby d_jdk_42_method_55_4) rfl ?_
  have c56 : (Int32.ofNat (2 * cs.length)) = (0 : Int32) := by rw [he]; rfl
  refine g_ifNo X54 hx 8 (hb hby d_jdk_42_method_55_5) (own_i0_ne_f c56) rfl ?_
  refine g_iconst X54 hx 9 (hb hby d_jdk_42_method_55_8) (1 : Int32) rfl rfl ?_
  refine g_goto X54 hx 13 (hb hby d_jdk_42_method_55_9) (by decide) (by decide) ?_
  refine own_retN X54 hx hlk (t := .boolean) hret (by simp) (hb hby d_jdk_42_method_55_13) ?_ (by decide) (by decide)
  rw [e54]
  exact ⟨(own_rb rfl), N0, rfl⟩
def Q_ieS (Z : State) (o : Addr) (cs : List Int32) (h0 : Heap) (n0 : Nat) (v : Option Value) (h : Heap) (L : List Loc) : Prop := v = some (.int (1 : Int32)) ∧ Fr n0 L ∧ h = h0
theorem rm_ieS (l : Launch) (Z : State) (a0 : Array Value) (hw : ∀ d ∈ tables_1, d.before a0 Z = true) (ws : List Jvm.Cond) (o : Addr) (cs : List Int32) (h0 : Heap) (n0 : Nat) (Z0 : n0 ≤ h0.size) (STR : own_Str Z h0 o cs) (he : cs.length = 0) :
    MetFree l (⟨"java/lang/String", "isEmpty", "()Z"⟩ : MethodName) (head1 (Jvm.Cond.code (⟨"java/lang/String", "isEmpty", "()Z"⟩ : MethodName) jdk_42_method_55_code 1 (some .boolean) :: ws) ({ frames := 0, cells := 0, slots := 0, locals := 0 } : Room)) (fun aA U => aA = #[(.ref o)] ∧ Z.Warmed39 U.vm ∧ U.heap = h0) (fun _ _ _ _ _ => True) (fun _ U oO U' => ∃ vV LL, oO = .returned vV ∧ Q_ieS Z o cs h0 n0 vV U'.heap LL ∧ FrameEnd U oO U' LL ({ frames := 0, cells := 0, slots := 0, locals := 0 } : Room).cells ({ frames := 0, cells := 0, slots := 0, locals := 0 } : Room).slots) := by
  rcases STR with ⟨b, k, E1, C1, V1, A1, R1⟩ | ⟨b, k, E1, C1, V1, A1, R1⟩
  · exact rm_ieL l Z a0 hw ws o b k cs h0 n0 Z0 E1 C1 V1 A1 he
  · exact rm_ieU l Z a0 hw ws o b k cs h0 n0 Z0 E1 C1 V1 A1 he
theorem d_jdk_29_method_69_0 : decode jdk_29_method_69_code 0 = .ok (.iload_n 0, 1) := by decide +kernel
theorem d_jdk_29_method_69_1 : decode jdk_29_method_69_code 1 = .ok (.iload_n 1, 1) := by decide +kernel
theorem d_jdk_29_method_69_2 : decode jdk_29_method_69_code 2 = .ok (.if_icmp .gt 7, 3) := by decide +kernel
theorem d_jdk_29_method_69_9 : decode jdk_29_method_69_code 9 = .ok (.iload_n 1, 1) := by decide +kernel
theorem d_jdk_29_method_69_10 : decode jdk_29_method_69_code 10 = .ok (.ireturn, 1) := by decide +kernel
theorem d_jdk_29_method_69_5 : decode jdk_29_method_69_code 5 = .ok (.iload_n 0, 1) := by decide +kernel
theorem d_jdk_29_method_69_6 : decode jdk_29_method_69_code 6 = .ok (.goto 4, 3) := by decide +kernel
theorem pf_4 : plainFor (⟨"java/lang/Math", "min", "(II)I"⟩ : MethodName) = true := by decide +kernel
def Q_mnS (Z : State) (ma : Int32) (mb : Int32) (h0 : Heap) (n0 : Nat) (v : Option Value) (h : Heap) (L : List Loc) : Prop := v = some (.int (own_min ma mb)) ∧ Fr n0 L ∧ h = h0
set_option maxRecDepth 65536 in
set_option maxHeartbeats 40000000 in
theorem rm_mnS (l : Launch) (Z : State) (a0 : Array Value) (hw : ∀ d ∈ tables_1, d.before a0 Z = true) (ws : List Jvm.Cond) (ma : Int32) (mb : Int32) (h0 : Heap) (n0 : Nat) (Z0 : n0 ≤ h0.size) :
    MetFree l (⟨"java/lang/Math", "min", "(II)I"⟩ : MethodName) (head1 (Jvm.Cond.code (⟨"java/lang/Math", "min", "(II)I"⟩ : MethodName) jdk_29_method_69_code 2 (some .int) :: ws) ({ frames := 0, cells := 0, slots := 0, locals := 0 } : Room)) (fun aA U => aA = #[(.int ma), (.int mb)] ∧ Z.Warmed39 U.vm ∧ U.heap = h0) (fun _ _ _ _ _ => True) (fun _ U oO U' => ∃ vV LL, oO = .returned vV ∧ Q_mnS Z ma mb h0 n0 vV U'.heap LL ∧ FrameEnd U oO U' LL ({ frames := 0, cells := 0, slots := 0, locals := 0 } : Room).cells ({ frames := 0, cells := 0, slots := 0, locals := 0 } : Room).slots) := by
  refine MetFree.of_bodySF pf_4 hisR ?_
  intro p e s m args below meth c s₁ Bd hml0 hP hK
  obtain ⟨rfl, hZ, hh⟩ := hP
  have hx := Bd.exec
  have hby := Bd.bytes
  have hml : c.maxLocals = 2 := hml0
  have hown : s.vm.findClass "java/lang/Math" = some m.cls := findClass_of_methodNamed Bd.named
  have hnm := (name_of_methodNamed Bd.named Bd.method).1
  have X0 : Stand p l e ({ frames := 0, cells := 0, slots := 0, locals := 0 } : Room) s m #[(.int ma), (.int mb)] below meth c s₁ [] 0 0 := Stand.of_body Bd
  have e0 : s₁.heap = h0 := by rw [← hh, Bd.state]; rfl
  have N0 := Fr.nil n0
  have hret := Bd.returns
  have hlk : meth.locks = false := Bd.notSynchronized
  refine own_start (ef_1 m ma mb) ?_
  show own_Go p e below s (Q_mnS Z ma mb h0 n0) ({ frames := 0, cells := 0, slots := 0, locals := 0 } : Room).cells ({ frames := 0, cells := 0, slots := 0, locals := 0 } : Room).slots (s₁.setTop (mkF m 0 #[.val (.int ma), .val (.int mb)] []))
  refine g_iload_n X0 hx 1 (hb hby d_jdk_29_method_69_0) rfl rfl ?_
  refine g_iload_n X0 hx 2 (hb hby d_jdk_29_method_69_1) rfl rfl ?_
  by_cases c57 : mb < ma
  · refine g_icmpYes X0 hx 9 (hb hby d_jdk_29_method_69_2) (own_ii_gt_t c57) (by decide) (by decide) ?_
    refine g_iload_n X0 hx 10 (hb hby d_jdk_29_method_69_9) rfl rfl ?_
    refine own_retI X0 hx hlk hret (hb hby d_jdk_29_method_69_10) ?_ (by decide) (by decide)
    rw [e0]
    exact ⟨(congrArg some (congrArg Value.int (by simp [own_min, c57]))), N0, rfl⟩
  · refine g_icmpNo X0 hx 5 (hb hby d_jdk_29_method_69_2) (own_ii_gt_f c57) rfl ?_
    refine g_iload_n X0 hx 6 (hb hby d_jdk_29_method_69_5) rfl rfl ?_
    refine g_goto X0 hx 10 (hb hby d_jdk_29_method_69_6) (by decide) (by decide) ?_
    refine own_retI X0 hx hlk hret (hb hby d_jdk_29_method_69_10) ?_ (by decide) (by decide)
    rw [e0]
    exact ⟨(congrArg some (congrArg Value.int (by simp [own_min, c57]))), N0, rfl⟩
theorem d_jdk_29_method_65_0 : decode jdk_29_method_65_code 0 = .ok (.iload_n 0, 1) := by decide +kernel
theorem d_jdk_29_method_65_1 : decode jdk_29_method_65_code 1 = .ok (.iload_n 1, 1) := by decide +kernel
theorem d_jdk_29_method_65_2 : decode jdk_29_method_65_code 2 = .ok (.if_icmp .lt 7, 3) := by decide +kernel
theorem d_jdk_29_method_65_9 : decode jdk_29_method_65_code 9 = .ok (.iload_n 1, 1) := by decide +kernel
theorem d_jdk_29_method_65_10 : decode jdk_29_method_65_code 10 = .ok (.ireturn, 1) := by decide +kernel
theorem d_jdk_29_method_65_5 : decode jdk_29_method_65_code 5 = .ok (.iload_n 0, 1) := by decide +kernel
theorem d_jdk_29_method_65_6 : decode jdk_29_method_65_code 6 = .ok (.goto 4, 3) := by decide +kernel
theorem pf_5 : plainFor (⟨"java/lang/Math", "max", "(II)I"⟩ : MethodName) = true := by decide +kernel
def Q_mxS (Z : State) (ma : Int32) (mb : Int32) (h0 : Heap) (n0 : Nat) (v : Option Value) (h : Heap) (L : List Loc) : Prop := v = some (.int (own_max ma mb)) ∧ Fr n0 L ∧ h = h0
set_option maxRecDepth 65536 in
set_option maxHeartbeats 40000000 in
theorem rm_mxS (l : Launch) (Z : State) (a0 : Array Value) (hw : ∀ d ∈ tables_1, d.before a0 Z = true) (ws : List Jvm.Cond) (ma : Int32) (mb : Int32) (h0 : Heap) (n0 : Nat) (Z0 : n0 ≤ h0.size) :
    MetFree l (⟨"java/lang/Math", "max", "(II)I"⟩ : MethodName) (head1 (Jvm.Cond.code (⟨"java/lang/Math", "max", "(II)I"⟩ : MethodName) jdk_29_method_65_code 2 (some .int) :: ws) ({ frames := 0, cells := 0, slots := 0, locals := 0 } : Room)) (fun aA U => aA = #[(.int ma), (.int mb)] ∧ Z.Warmed39 U.vm ∧ U.heap = h0) (fun _ _ _ _ _ => True) (fun _ U oO U' => ∃ vV LL, oO = .returned vV ∧ Q_mxS Z ma mb h0 n0 vV U'.heap LL ∧ FrameEnd U oO U' LL ({ frames := 0, cells := 0, slots := 0, locals := 0 } : Room).cells ({ frames := 0, cells := 0, slots := 0, locals := 0 } : Room).slots) := by
  refine MetFree.of_bodySF pf_5 hisR ?_
  intro p e s m args below meth c s₁ Bd hml0 hP hK
  obtain ⟨rfl, hZ, hh⟩ := hP
  have hx := Bd.exec
  have hby := Bd.bytes
  have hml : c.maxLocals = 2 := hml0
  have hown : s.vm.findClass "java/lang/Math" = some m.cls := findClass_of_methodNamed Bd.named
  have hnm := (name_of_methodNamed Bd.named Bd.method).1
  have X0 : Stand p l e ({ frames := 0, cells := 0, slots := 0, locals := 0 } : Room) s m #[(.int ma), (.int mb)] below meth c s₁ [] 0 0 := Stand.of_body Bd
  have e0 : s₁.heap = h0 := by rw [← hh, Bd.state]; rfl
  have N0 := Fr.nil n0
  have hret := Bd.returns
  have hlk : meth.locks = false := Bd.notSynchronized
  refine own_start (ef_1 m ma mb) ?_
  show own_Go p e below s (Q_mxS Z ma mb h0 n0) ({ frames := 0, cells := 0, slots := 0, locals := 0 } : Room).cells ({ frames := 0, cells := 0, slots := 0, locals := 0 } : Room).slots (s₁.setTop (mkF m 0 #[.val (.int ma), .val (.int mb)] []))
  refine g_iload_n X0 hx 1 (hb hby d_jdk_29_method_65_0) rfl rfl ?_
  refine g_iload_n X0 hx 2 (hb hby d_jdk_29_method_65_1) rfl rfl ?_
  by_cases c58 : ma < mb
  · refine g_icmpYes X0 hx 9 (hb hby d_jdk_29_method_65_2) (own_ii_lt_t c58) (by decide) (by decide) ?_
    refine g_iload_n X0 hx 10 (hb hby d_jdk_29_method_65_9) rfl rfl ?_
    refine own_retI X0 hx hlk hret (hb hby d_jdk_29_method_65_10) ?_ (by decide) (by decide)
    rw [e0]
    exact ⟨(congrArg some (congrArg Value.int (by simp [own_max, c58]))), N0, rfl⟩
  · refine g_icmpNo X0 hx 5 (hb hby d_jdk_29_method_65_2) (own_ii_lt_f c58) rfl ?_
    refine g_iload_n X0 hx 6 (hb hby d_jdk_29_method_65_5) rfl rfl ?_
    refine g_goto X0 hx 10 (hb hby d_jdk_29_method_65_6) (by decide) (by decide) ?_
    refine own_retI X0 hx hlk hret (hb hby d_jdk_29_method_65_10) ?_ (by decide) (by decide)
    rw [e0]
    exact ⟨(congrArg some (congrArg Value.int (by simp [own_max, c58]))), N0, rfl⟩
theorem d_jdk_65_method_131_0 : decode jdk_65_method_131_code 0 = .ok (.iload_n 1, 1) := by decide +kernel
theorem d_jdk_65_method_131_1 : decode jdk_65_method_131_code 1 = .ok (.iload_n 0, 1) := by decide +kernel
theorem d_jdk_65_method_131_2 : decode jdk_65_method_131_code 2 = .ok (.if_icmp .ge 35, 3) := by decide +kernel
theorem d_jdk_65_method_131_37 : decode jdk_65_method_131_code 37 = .ok (.return_, 1) := by decide +kernel
theorem pn_6 : plainName "java/util/Arrays" = true := by first | (simp [plainName, overriddenIn]; done) | decide +kernel
def Q_ckl (Z : State) (ff : Int32) (ee : Int32) (h0 : Heap) (n0 : Nat) (v : Option Value) (h : Heap) (L : List Loc) : Prop := v = none ∧ Fr n0 L ∧ h = h0
set_option maxRecDepth 65536 in
set_option maxHeartbeats 40000000 in
theorem rm_ckl (l : Launch) (Z : State) (a0 : Array Value) (hw : ∀ d ∈ tables_1, d.before a0 Z = true) (ws : List Jvm.Cond) (ff : Int32) (ee : Int32) (h0 : Heap) (n0 : Nat) (Z0 : n0 ≤ h0.size) (g1 : ¬ (ee < ff)) :
    MetFree l (⟨"java/util/Arrays", "checkLength", "(II)V"⟩ : MethodName) (head1 (Jvm.Cond.code (⟨"java/util/Arrays", "checkLength", "(II)V"⟩ : MethodName) jdk_65_method_131_code 2 none :: ws) ({ frames := 0, cells := 0, slots := 0, locals := 0 } : Room)) (fun aA U => aA = #[(.int ff), (.int ee)] ∧ Z.Warmed39 U.vm ∧ U.heap = h0) (fun _ _ _ _ _ => True) (fun _ U oO U' => ∃ vV LL, oO = .returned vV ∧ Q_ckl Z ff ee h0 n0 vV U'.heap LL ∧ FrameEnd U oO U' LL ({ frames := 0, cells := 0, slots := 0, locals := 0 } : Room).cells ({ frames := 0, cells := 0, slots := 0, locals := 0 } : Room).slots) := by
  refine MetFree.of_bodySF (plainFor_of_name pn_6) hisR ?_
  intro p e s m args below meth c s₁ Bd hml0 hP hK
  obtain ⟨rfl, hZ, hh⟩ := hP
  have hx := Bd.exec
  have hby := Bd.bytes
  have hml : c.maxLocals = 2 := hml0
  have hown : s.vm.findClass "java/util/Arrays" = some m.cls := findClass_of_methodNamed Bd.named
  have hnm := (name_of_methodNamed Bd.named Bd.method).1
  have X0 : Stand p l e ({ frames := 0, cells := 0, slots := 0, locals := 0 } : Room) s m #[(.int ff), (.int ee)] below meth c s₁ [] 0 0 := Stand.of_body Bd
  have e0 : s₁.heap = h0 := by rw [← hh, Bd.state]; rfl
  have N0 := Fr.nil n0
  have hret := Bd.returns
  have hlk : meth.locks = false := Bd.notSynchronized
  refine own_start (ef_1 m ff ee) ?_
  show own_Go p e below s (Q_ckl Z ff ee h0 n0) ({ frames := 0, cells := 0, slots := 0, locals := 0 } : Room).cells ({ frames := 0, cells := 0, slots := 0, locals := 0 } : Room).slots (s₁.setTop (mkF m 0 #[.val (.int ff), .val (.int ee)] []))
  refine g_iload_n X0 hx 1 (hb hby d_jdk_65_method_131_0) rfl rfl ?_
  refine g_iload_n X0 hx 2 (hb hby d_jdk_65_method_131_1) rfl rfl ?_
  refine g_icmpYes X0 hx 37 (hb hby d_jdk_65_method_131_2) (own_ii_ge_t g1) (by decide) (by decide) ?_
  refine own_retV X0 hx hlk hret (hb hby d_jdk_65_method_131_37) ?_ (by decide) (by decide)
  rw [e0]
  exact ⟨rfl, N0, rfl⟩
theorem d_jdk_65_method_133_0 : decode jdk_65_method_133_code 0 = .ok (.iload_n 1, 1) := by decide +kernel
theorem d_jdk_65_method_133_1 : decode jdk_65_method_133_code 1 = .ok (.iload_n 2, 1) := by decide +kernel
theorem d_jdk_65_method_133_2 : decode jdk_65_method_133_code 2 = .ok (.invokestatic 343, 3) := by decide +kernel
theorem d_jdk_65_method_133_5 : decode jdk_65_method_133_code 5 = .ok (.iload_n 2, 1) := by decide +kernel
theorem d_jdk_65_method_133_6 : decode jdk_65_method_133_code 6 = .ok (.iload_n 1, 1) := by decide +kernel
theorem d_jdk_65_method_133_7 : decode jdk_65_method_133_code 7 = .ok (.isub, 1) := by decide +kernel
theorem d_jdk_65_method_133_8 : decode jdk_65_method_133_code 8 = .ok (.istore_n 3, 1) := by decide +kernel
theorem d_jdk_65_method_133_9 : decode jdk_65_method_133_code 9 = .ok (.iload_n 3, 1) := by decide +kernel
theorem d_jdk_65_method_133_10 : decode jdk_65_method_133_code 10 = .ok (.newarray .byte, 2) := by decide +kernel
theorem d_jdk_65_method_133_12 : decode jdk_65_method_133_code 12 = .ok (.astore 4, 2) := by decide +kernel
theorem d_jdk_65_method_133_14 : decode jdk_65_method_133_code 14 = .ok (.aload_n 0, 1) := by decide +kernel
theorem d_jdk_65_method_133_15 : decode jdk_65_method_133_code 15 = .ok (.iload_n 1, 1) := by decide +kernel
theorem d_jdk_65_method_133_16 : decode jdk_65_method_133_code 16 = .ok (.aload 4, 2) := by decide +kernel
theorem d_jdk_65_method_133_18 : decode jdk_65_method_133_code 18 = .ok (.iconst 0, 1) := by decide +kernel
theorem d_jdk_65_method_133_19 : decode jdk_65_method_133_code 19 = .ok (.aload_n 0, 1) := by decide +kernel
theorem d_jdk_65_method_133_20 : decode jdk_65_method_133_code 20 = .ok (.arraylength, 1) := by decide +kernel
theorem d_jdk_65_method_133_21 : decode jdk_65_method_133_code 21 = .ok (.iload_n 1, 1) := by decide +kernel
theorem d_jdk_65_method_133_22 : decode jdk_65_method_133_code 22 = .ok (.isub, 1) := by decide +kernel
theorem d_jdk_65_method_133_23 : decode jdk_65_method_133_code 23 = .ok (.iload_n 3, 1) := by decide +kernel
theorem d_jdk_65_method_133_24 : decode jdk_65_method_133_code 24 = .ok (.invokestatic 304, 3) := by decide +kernel
theorem pd_8 : parseMethodDescriptor "(II)I" = some ⟨[.int, .int], some .int⟩ := by decide +kernel
theorem d_jdk_65_method_133_27 : decode jdk_65_method_133_code 27 = .ok (.invokestatic 150, 3) := by decide +kernel
theorem d_jdk_65_method_133_30 : decode jdk_65_method_133_code 30 = .ok (.aload 4, 2) := by decide +kernel
theorem d_jdk_65_method_133_32 : decode jdk_65_method_133_code 32 = .ok (.areturn, 1) := by decide +kernel
theorem ef_7 (m : MethodId) (x0 : Addr) (x1 : Int32) (x2 : Int32) : entryFrame m #[(.ref x0), (.int x1), (.int x2)] 5 = mkF m 0 #[.val (.ref x0), .val (.int x1), .val (.int x2), .unset, .unset] [] := by first | (simp [entryFrame, mkF, argsToLocals, Value.category]; done) | rfl
def Q_crb (Z : State) (b : Addr) (k : ClassId) (ff : Int32) (ee : Int32) (vs : List Value) (zz : Int32) (h0 : Heap) (n0 : Nat) (v : Option Value) (h : Heap) (L : List Loc) : Prop := ∃ rb : Addr, ∃ kr : ClassId, v = some (.ref rb) ∧ Fr n0 L ∧ Keep h0 h [] ∧ n0 ≤ rb ∧ h0.size ≤ rb ∧ Arv Z h rb kr .byte (ee - ff) (own_sl vs ff.toNatClampNeg (ee - ff).toNatClampNeg) (.int (0 : Int32))
set_option maxRecDepth 65536 in
set_option maxHeartbeats 40000000 in
theorem rm_crb (l : Launch) (Z : State) (a0 : Array Value) (hw : ∀ d ∈ tables_1, d.before a0 Z = true) (ws : List Jvm.Cond) (b : Addr) (k : ClassId) (ff : Int32) (ee : Int32) (vs : List Value) (zz : Int32) (h0 : Heap) (n0 : Nat) (Z0 : n0 ≤ h0.size) (V_b : Arv Z h0 b k .byte zz vs (.int (0 : Int32))) (hB : own_B ff ee zz) :
    MetFree l (⟨"java/util/Arrays", "copyOfRangeByte", "([BII)[B"⟩ : MethodName) (head1 (Jvm.Cond.code (⟨"java/util/Arrays", "copyOfRangeByte", "([BII)[B"⟩ : MethodName) jdk_65_method_133_code 5 (some (.array .byte)) :: ws) ({ frames := 1, cells := 1, slots := 10, locals := 18 } : Room)) (fun aA U => aA = #[(.ref b), (.int ff), (.int ee)] ∧ Z.Warmed39 U.vm ∧ U.heap = h0) (fun _ _ _ _ _ => True) (fun _ U oO U' => ∃ vV LL, oO = .returned vV ∧ Q_crb Z b k ff ee vs zz h0 n0 vV U'.heap LL ∧ FrameEnd U oO U' LL ({ frames := 1, cells := 1, slots := 10, locals := 18 } : Room).cells ({ frames := 1, cells := 1, slots := 10, locals := 18 } : Room).slots) := by
  refine MetFree.of_bodySF (plainFor_of_name pn_6) hisR ?_
  intro p e s m args below meth c s₁ Bd hml0 hP hK
  obtain ⟨rfl, hZ, hh⟩ := hP
  have hx := Bd.exec
  have hby := Bd.bytes
  have hml : c.maxLocals = 5 := hml0
  have hown : s.vm.findClass "java/util/Arrays" = some m.cls := findClass_of_methodNamed Bd.named
  have hnm := (name_of_methodNamed Bd.named Bd.method).1
  have X0 : Stand p l e ({ frames := 1, cells := 1, slots := 10, locals := 18 } : Room) s m #[(.ref b), (.int ff), (.int ee)] below meth c s₁ [] 0 0 := Stand.of_body Bd
  have e0 : s₁.heap = h0 := by rw [← hh, Bd.state]; rfl
  have N0 := Fr.nil n0
  have hret := Bd.returns
  have hlk : meth.locks = false := Bd.notSynchronized
  refine own_start (ef_7 m b ff ee) ?_
  show own_Go p e below s (Q_crb Z b k ff ee vs zz h0 n0) ({ frames := 1, cells := 1, slots := 10, locals := 18 } : Room).cells ({ frames := 1, cells := 1, slots := 10, locals := 18 } : Room).slots (s₁.setTop (mkF m 0 #[.val (.ref b), .val (.int ff), .val (.int ee), .unset, .unset] []))
  refine g_iload_n X0 hx 1 (hb hby d_jdk_65_method_133_0) rfl rfl ?_
  refine g_iload_n X0 hx 2 (hb hby d_jdk_65_method_133_1) rfl rfl ?_
  refine own_callS X0 hx hZ hown (hw _ (List.mem_of_getElem? (i := 111) rfl)) (hw _ (List.mem_of_getElem? (i := 112) rfl)) (by decide) (rm_ckl l Z a0 hw [] ff ee h0 n0 Z0 (own_B4 hB)) (hw _ (List.mem_of_getElem? (i := 113) rfl)) (hw _ (List.mem_of_getElem? (i := 106) rfl)) e0 0 (by decide) (by decide) (by decide) (by decide) [(.int ff), (.int ee)] [] rfl pd_3 rfl 5 rfl (by rw [hml]; rfl) rfl (hb hby d_jdk_65_method_133_2) rfl fun T60 v60 L60 X60 hQ60 => ?_
  obtain ⟨rfl, Nq60, e60⟩ := hQ60
  have N60 := Fr.app N0 Nq60
  show own_GoE p e below _ (T60.setTop (mkF m 5 _ []))
  refine g_iload_n X60 hx 6 (hb hby d_jdk_65_method_133_5) rfl rfl ?_
  refine g_iload_n X60 hx 7 (hb hby d_jdk_65_method_133_6) rfl rfl ?_
  refine g_isub X60 hx 8 (hb hby d_jdk_65_method_133_7) rfl ?_
  refine g_istore_n X60 hx 9 (hb hby d_jdk_65_method_133_8) (l' := #[.val (.ref b), .val (.int ff), .val (.int ee), .val (.int (ee - ff)), .unset]) rfl rfl ?_
  refine g_iload_n X60 hx 10 (hb hby d_jdk_65_method_133_9) rfl rfl ?_
  refine own_newP X60 hx hZ (hw _ (List.mem_of_getElem? (i := 23) rfl)) e60 12 (hb hby d_jdk_65_method_133_10) rfl (own_B1 hB) 10 (own_B2 hB) (by decide) (by decide) (by decide) fun T61 h61 k61 b61 X61 e61 g61 E61 A61 => ?_
  have ne62 : b ≠ b61 := Nat.ne_of_lt (Nat.lt_of_lt_of_le V_b.lt (Nat.le_of_eq g61.symm))
  have g_b61 : n0 ≤ b61 := Nat.le_trans Z0 (Nat.le_of_eq g61.symm)
  have sz_b61 : h0.size ≤ b61 := Nat.le_trans (Keep.refl h0 []).1 (Nat.le_of_eq g61.symm)
  have K63 : Keep h0 h61 [] := (Keep.refl h0 []).ext E61
  have z64 : n0 ≤ h61.size := (Nat.le_trans Z0 E61.1)
  have V61 : Arv Z h61 b61 k61 .byte (ee - ff) (List.replicate (ee - ff).toNatClampNeg (.int (0 : Int32))) (.int (0 : Int32)) := (Arv.new A61 (own_B1 hB)).pad (pad_rep [] (.int (0 : Int32)) _)
  refine g_astore X61 hx 14 (hb hby d_jdk_65_method_133_12) rfl (l' := #[.val (.ref b), .val (.int ff), .val (.int ee), .val (.int (ee - ff)), .val (.ref b61)]) rfl rfl ?_
  refine g_aload_n X61 hx 15 (hb hby d_jdk_65_method_133_14) rfl rfl rfl ?_
  refine g_iload_n X61 hx 16 (hb hby d_jdk_65_method_133_15) rfl rfl ?_
  refine g_aload X61 hx 18 (hb hby d_jdk_65_method_133_16) rfl rfl rfl ?_
  refine g_iconst X61 hx 19 (hb hby d_jdk_65_method_133_18) (0 : Int32) rfl rfl ?_
  refine g_aload_n X61 hx 20 (hb hby d_jdk_65_method_133_19) rfl rfl rfl ?_
  have f65 : Arv Z h61 b k .byte zz vs (.int (0 : Int32)) := (V_b.keep K63 nin0)
  obtain ⟨cl66, Ar66, q66, S66, P66, H66, G66⟩ := id f65
  refine own_arraylength X61 hx hZ e61 Ar66 S66 P66 21 (hb hby d_jdk_65_method_133_20) rfl ?_
  refine g_iload_n X61 hx 22 (hb hby d_jdk_65_method_133_21) rfl rfl ?_
  refine g_isub X61 hx 23 (hb hby d_jdk_65_method_133_22) rfl ?_
  refine g_iload_n X61 hx 24 (hb hby d_jdk_65_method_133_23) rfl rfl ?_
  refine own_callS X61 hx hZ hown (hw _ (List.mem_of_getElem? (i := 114) rfl)) (hw _ (List.mem_of_getElem? (i := 78) rfl)) (by decide) (rm_mnS l Z a0 hw [] (zz - ff) (ee - ff) h61 n0 z64 ) (hw _ (List.mem_of_getElem? (i := 80) rfl)) (hw _ (List.mem_of_getElem? (i := 79) rfl)) e61 4 (by decide) (by decide) (by decide) (by decide) [(.int (zz - ff)), (.int (ee - ff))] [(.int (0 : Int32)), (.ref b61), (.int ff), (.ref b)] rfl pd_8 rfl 27 rfl (by rw [hml]; rfl) rfl (hb hby d_jdk_65_method_133_24) rfl fun T67 v67 L67 X67 hQ67 => ?_
  obtain ⟨rfl, Nq67, e67⟩ := hQ67
  have N67 := Fr.app N60 Nq67
  show own_GoE p e below _ (T67.setTop (mkF m 27 _ [(.int (own_min (zz - ff) (ee - ff))), (.int (0 : Int32)), (.ref b61), (.int ff), (.ref b)]))
  rw [own_B5 hB]
  refine own_cpA X67 hx hZ hown (hw _ (List.mem_of_getElem? (i := 115) rfl)) (hw _ (List.mem_of_getElem? (i := 118) rfl)) (hw _ (List.mem_of_getElem? (i := 116) rfl)) (hw _ (List.mem_of_getElem? (i := 117) rfl)) e67 (own_sl vs ff.toNatClampNeg (ee - ff).toNatClampNeg) f65 V61 (Or.inl ⟨rfl, rfl⟩) (own_B0 hB) (by decide) (own_B1 hB) (own_B3 hB) (by rw [show (0 : Int32).toNatClampNeg = 0 from rfl, Nat.zero_add]; exact Nat.le_refl _) rfl (own_B6 _) N67 g_b61 30 (by rw [hml]; rfl) (hb hby d_jdk_65_method_133_27) rfl (by decide) 0 rfl (by decide) fun T68 h68 L68 X68 e68 N68 Kc68 Vc68 => ?_
  have V68 : Arv Z h68 b61 k61 .byte (ee - ff) (own_sl vs ff.toNatClampNeg (ee - ff).toNatClampNeg) (.int (0 : Int32)) := own_arvL Vc68 (own_B7 _ _)
  have K69 : Keep h0 h68 [] := K63.trans Kc68 (allS (Or.inr sz_b61) all0)
  have z70 : n0 ≤ h68.size := (Nat.le_trans z64 Kc68.1)
  refine g_aload X68 hx 32 (hb hby d_jdk_65_method_133_30) rfl rfl rfl ?_
  refine own_retA X68 hx hlk hret rfl rfl (hb hby d_jdk_65_method_133_32) ?_ (by decide) (by decide)
  rw [e68]
  exact ⟨b61, k61, rfl, N68, K69, g_b61, sz_b61, V68⟩
theorem d_jdk_65_method_132_0 : decode jdk_65_method_132_code 0 = .ok (.iload_n 1, 1) := by decide +kernel
theorem d_jdk_65_method_132_1 : decode jdk_65_method_132_code 1 = .ok (.ifCond .ne 9, 3) := by decide +kernel
theorem d_jdk_65_method_132_4 : decode jdk_65_method_132_code 4 = .ok (.iload_n 2, 1) := by decide +kernel
theorem d_jdk_65_method_132_5 : decode jdk_65_method_132_code 5 = .ok (.aload_n 0, 1) := by decide +kernel
theorem d_jdk_65_method_132_6 : decode jdk_65_method_132_code 6 = .ok (.arraylength, 1) := by decide +kernel
theorem d_jdk_65_method_132_7 : decode jdk_65_method_132_code 7 = .ok (.if_icmp .eq 10, 3) := by decide +kernel
theorem d_jdk_65_method_132_10 : decode jdk_65_method_132_code 10 = .ok (.aload_n 0, 1) := by decide +kernel
theorem d_jdk_65_method_132_11 : decode jdk_65_method_132_code 11 = .ok (.iload_n 1, 1) := by decide +kernel
theorem d_jdk_65_method_132_12 : decode jdk_65_method_132_code 12 = .ok (.iload_n 2, 1) := by decide +kernel
theorem d_jdk_65_method_132_13 : decode jdk_65_method_132_code 13 = .ok (.invokestatic 339, 3) := by decide +kernel
theorem pd_9 : parseMethodDescriptor "([BII)[B" = some ⟨[(.array .byte), .int, .int], some (.array .byte)⟩ := by decide +kernel
theorem d_jdk_65_method_132_16 : decode jdk_65_method_132_code 16 = .ok (.areturn, 1) := by decide +kernel
theorem ef_8 (m : MethodId) (x0 : Addr) (x1 : Int32) (x2 : Int32) : entryFrame m #[(.ref x0), (.int x1), (.int x2)] 3 = mkF m 0 #[.val (.ref x0), .val (.int x1), .val (.int x2)] [] := by first | (simp [entryFrame, mkF, argsToLocals, Value.category]; done) | rfl
def Q_cr (Z : State) (b : Addr) (k : ClassId) (ff : Int32) (ee : Int32) (vs : List Value) (zz : Int32) (h0 : Heap) (n0 : Nat) (v : Option Value) (h : Heap) (L : List Loc) : Prop := ∃ rb : Addr, ∃ kr : ClassId, v = some (.ref rb) ∧ Fr n0 L ∧ Keep h0 h [] ∧ n0 ≤ rb ∧ h0.size ≤ rb ∧ Arv Z h rb kr .byte (ee - ff) (own_sl vs ff.toNatClampNeg (ee - ff).toNatClampNeg) (.int (0 : Int32))
set_option maxRecDepth 65536 in
set_option maxHeartbeats 40000000 in
theorem rm_cr (l : Launch) (Z : State) (a0 : Array Value) (hw : ∀ d ∈ tables_1, d.before a0 Z = true) (ws : List Jvm.Cond) (b : Addr) (k : ClassId) (ff : Int32) (ee : Int32) (vs : List Value) (zz : Int32) (h0 : Heap) (n0 : Nat) (Z0 : n0 ≤ h0.size) (V_b : Arv Z h0 b k .byte zz vs (.int (0 : Int32))) (hB : own_B ff ee zz) (hx0 : ¬ (ff = (0 : Int32) ∧ ee = zz)) :
    MetFree l (⟨"java/util/Arrays", "copyOfRange", "([BII)[B"⟩ : MethodName) (head1 (Jvm.Cond.code (⟨"java/util/Arrays", "copyOfRange", "([BII)[B"⟩ : MethodName) jdk_65_method_132_code 3 (some (.array .byte)) :: ws) ({ frames := 2, cells := 1, slots := 10, locals := 34 } : Room)) (fun aA U => aA = #[(.ref b), (.int ff), (.int ee)] ∧ Z.Warmed39 U.vm ∧ U.heap = h0) (fun _ _ _ _ _ => True) (fun _ U oO U' => ∃ vV LL, oO = .returned vV ∧ Q_cr Z b k ff ee vs zz h0 n0 vV U'.heap LL ∧ FrameEnd U oO U' LL ({ frames := 2, cells := 1, slots := 10, locals := 34 } : Room).cells ({ frames := 2, cells := 1, slots := 10, locals := 34 } : Room).slots) := by
  refine MetFree.of_bodySF (plainFor_of_name pn_6) hisR ?_
  intro p e s m args below meth c s₁ Bd hml0 hP hK
  obtain ⟨rfl, hZ, hh⟩ := hP
  have hx := Bd.exec
  have hby := Bd.bytes
  have hml : c.maxLocals = 3 := hml0
  have hown : s.vm.findClass "java/util/Arrays" = some m.cls := findClass_of_methodNamed Bd.named
  have hnm := (name_of_methodNamed Bd.named Bd.method).1
  have X0 : Stand p l e ({ frames := 2, cells := 1, slots := 10, locals := 34 } : Room) s m #[(.ref b), (.int ff), (.int ee)] below meth c s₁ [] 0 0 := Stand.of_body Bd
  have e0 : s₁.heap = h0 := by rw [← hh, Bd.state]; rfl
  have N0 := Fr.nil n0
  have hret := Bd.returns
  have hlk : meth.locks = false := Bd.notSynchronized
  refine own_start (ef_8 m b ff ee) ?_
  show own_Go p e below s (Q_cr Z b k ff ee vs zz h0 n0) ({ frames := 2, cells := 1, slots := 10, locals := 34 } : Room).cells ({ frames := 2, cells := 1, slots := 10, locals := 34 } : Room).slots (s₁.setTop (mkF m 0 #[.val (.ref b), .val (.int ff), .val (.int ee)] []))
  refine g_iload_n X0 hx 1 (hb hby d_jdk_65_method_132_0) rfl rfl ?_
  by_cases c71 : ff = (0 : Int32)
  · refine g_ifNo X0 hx 4 (hb hby d_jdk_65_method_132_1) (own_i0_ne_f c71) rfl ?_
    refine g_iload_n X0 hx 5 (hb hby d_jdk_65_method_132_4) rfl rfl ?_
    refine g_aload_n X0 hx 6 (hb hby d_jdk_65_method_132_5) rfl rfl rfl ?_
    obtain ⟨cl72, Ar72, q72, S72, P72, H72, G72⟩ := id V_b
    refine own_arraylength X0 hx hZ e0 Ar72 S72 P72 7 (hb hby d_jdk_65_method_132_6) rfl ?_
    have c73 : ¬ (ee = zz) := fun q => hx0 ⟨c71, q⟩
    refine g_icmpNo X0 hx 10 (hb hby d_jdk_65_method_132_7) (own_ii_eq_f c73) rfl ?_
    refine g_aload_n X0 hx 11 (hb hby d_jdk_65_method_132_10) rfl rfl rfl ?_
    refine g_iload_n X0 hx 12 (hb hby d_jdk_65_method_132_11) rfl rfl ?_
    refine g_iload_n X0 hx 13 (hb hby d_jdk_65_method_132_12) rfl rfl ?_
    refine own_callS X0 hx hZ hown (hw _ (List.mem_of_getElem? (i := 108) rfl)) (hw _ (List.mem_of_getElem? (i := 109) rfl)) (by decide) (rm_crb l Z a0 hw [] b k ff ee vs zz h0 n0 Z0 V_b hB) (hw _ (List.mem_of_getElem? (i := 110) rfl)) (hw _ (List.mem_of_getElem? (i := 106) rfl)) e0 0 (by decide) (by decide) (by decide) (by decide) [(.ref b), (.int ff), (.int ee)] [] rfl pd_9 rfl 16 rfl (by rw [hml]; rfl) rfl (hb hby d_jdk_65_method_132_13) rfl fun T74 v74 L74 X74 hQ74 => ?_
    obtain ⟨rb_74, kr_74, rfl, Nq74, Kq74, g_rb_74, sz_rb_74, v74_0⟩ := hQ74
    have ne75 : b ≠ rb_74 := Nat.ne_of_lt (Nat.lt_of_lt_of_le V_b.lt sz_rb_74)
    have N74 := Fr.app N0 Nq74
    have sq_rb_74 : h0.size ≤ rb_74 := Nat.le_trans (Keep.refl h0 []).1 sz_rb_74
    have K76 : Keep h0 T74.heap [] := (Keep.refl h0 []).trans Kq74 all0
    have z77 : n0 ≤ T74.heap.size := (Nat.le_trans Z0 Kq74.1)
    show own_GoE p e below _ (T74.setTop (mkF m 16 _ [(.ref rb_74)]))
    refine own_retA X74 hx hlk hret rfl rfl (hb hby d_jdk_65_method_132_16) ?_ (by decide) (by decide)
    exact ⟨rb_74, kr_74, rfl, N74, K76, g_rb_74, sq_rb_74, v74_0⟩
  · refine g_ifYes X0 hx 10 (hb hby d_jdk_65_method_132_1) (own_i0_ne_t c71) (by decide) (by decide) ?_
    refine g_aload_n X0 hx 11 (hb hby d_jdk_65_method_132_10) rfl rfl rfl ?_
    refine g_iload_n X0 hx 12 (hb hby d_jdk_65_method_132_11) rfl rfl ?_
    refine g_iload_n X0 hx 13 (hb hby d_jdk_65_method_132_12) rfl rfl ?_
    refine own_callS X0 hx hZ hown (hw _ (List.mem_of_getElem? (i := 108) rfl)) (hw _ (List.mem_of_getElem? (i := 109) rfl)) (by decide) (rm_crb l Z a0 hw [] b k ff ee vs zz h0 n0 Z0 V_b hB) (hw _ (List.mem_of_getElem? (i := 110) rfl)) (hw _ (List.mem_of_getElem? (i := 106) rfl)) e0 0 (by decide) (by decide) (by decide) (by decide) [(.ref b), (.int ff), (.int ee)] [] rfl pd_9 rfl 16 rfl (by rw [hml]; rfl) rfl (hb hby d_jdk_65_method_132_13) rfl fun T78 v78 L78 X78 hQ78 => ?_
    obtain ⟨rb_78, kr_78, rfl, Nq78, Kq78, g_rb_78, sz_rb_78, v78_0⟩ := hQ78
    have ne79 : b ≠ rb_78 := Nat.ne_of_lt (Nat.lt_of_lt_of_le V_b.lt sz_rb_78)
    have N78 := Fr.app N0 Nq78
    have sq_rb_78 : h0.size ≤ rb_78 := Nat.le_trans (Keep.refl h0 []).1 sz_rb_78
    have K80 : Keep h0 T78.heap [] := (Keep.refl h0 []).trans Kq78 all0
    have z81 : n0 ≤ T78.heap.size := (Nat.le_trans Z0 Kq78.1)
    show own_GoE p e below _ (T78.setTop (mkF m 16 _ [(.ref rb_78)]))
    refine own_retA X78 hx hlk hret rfl rfl (hb hby d_jdk_65_method_132_16) ?_ (by decide) (by decide)
    exact ⟨rb_78, kr_78, rfl, N78, K80, g_rb_78, sq_rb_78, v78_0⟩
theorem d_jdk_52_method_21_0 : decode jdk_52_method_21_code 0 = .ok (.iconst 0, 1) := by decide +kernel
theorem d_jdk_52_method_21_1 : decode jdk_52_method_21_code 1 = .ok (.istore 5, 2) := by decide +kernel
theorem d_jdk_52_method_21_3 : decode jdk_52_method_21_code 3 = .ok (.iload 5, 2) := by decide +kernel
theorem d_jdk_52_method_21_5 : decode jdk_52_method_21_code 5 = .ok (.iload 4, 2) := by decide +kernel
theorem d_jdk_52_method_21_7 : decode jdk_52_method_21_code 7 = .ok (.if_icmp .ge 37, 3) := by decide +kernel
theorem d_jdk_52_method_21_10 : decode jdk_52_method_21_code 10 = .ok (.aload_n 0, 1) := by decide +kernel
theorem d_jdk_52_method_21_11 : decode jdk_52_method_21_code 11 = .ok (.iload_n 1, 1) := by decide +kernel
theorem d_jdk_52_method_21_12 : decode jdk_52_method_21_code 12 = .ok (.caload, 1) := by decide +kernel
theorem d_jdk_52_method_21_13 : decode jdk_52_method_21_code 13 = .ok (.istore 6, 2) := by decide +kernel
theorem d_jdk_52_method_21_15 : decode jdk_52_method_21_code 15 = .ok (.iload 6, 2) := by decide +kernel
theorem d_jdk_52_method_21_17 : decode jdk_52_method_21_code 17 = .ok (.sipush 255, 3) := by decide +kernel
theorem d_jdk_52_method_21_20 : decode jdk_52_method_21_code 20 = .ok (.if_icmp .le 6, 3) := by decide +kernel
theorem d_jdk_52_method_21_23 : decode jdk_52_method_21_code 23 = .ok (.iload 5, 2) := by decide +kernel
theorem d_jdk_52_method_21_25 : decode jdk_52_method_21_code 25 = .ok (.ireturn, 1) := by decide +kernel
theorem d_jdk_52_method_21_26 : decode jdk_52_method_21_code 26 = .ok (.aload_n 2, 1) := by decide +kernel
theorem d_jdk_52_method_21_27 : decode jdk_52_method_21_code 27 = .ok (.iload_n 3, 1) := by decide +kernel
theorem d_jdk_52_method_21_28 : decode jdk_52_method_21_code 28 = .ok (.iload 6, 2) := by decide +kernel
theorem d_jdk_52_method_21_30 : decode jdk_52_method_21_code 30 = .ok (.i2b, 1) := by decide +kernel
theorem d_jdk_52_method_21_31 : decode jdk_52_method_21_code 31 = .ok (.bastore, 1) := by decide +kernel
theorem d_jdk_52_method_21_32 : decode jdk_52_method_21_code 32 = .ok (.iinc 1 1, 3) := by decide +kernel
theorem d_jdk_52_method_21_35 : decode jdk_52_method_21_code 35 = .ok (.iinc 3 1, 3) := by decide +kernel
theorem d_jdk_52_method_21_38 : decode jdk_52_method_21_code 38 = .ok (.iinc 5 1, 3) := by decide +kernel
theorem d_jdk_52_method_21_41 : decode jdk_52_method_21_code 41 = .ok (.goto (-38), 3) := by decide +kernel
theorem d_jdk_52_method_21_44 : decode jdk_52_method_21_code 44 = .ok (.iload 4, 2) := by decide +kernel
theorem d_jdk_52_method_21_46 : decode jdk_52_method_21_code 46 = .ok (.ireturn, 1) := by decide +kernel
theorem ef_9 (m : MethodId) (x0 : Addr) (x1 : Int32) (x2 : Addr) (x3 : Int32) (x4 : Int32) : entryFrame m #[(.ref x0), (.int x1), (.ref x2), (.int x3), (.int x4)] 7 = mkF m 0 #[.val (.ref x0), .val (.int x1), .val (.ref x2), .val (.int x3), .val (.int x4), .unset, .unset] [] := by first | (simp [entryFrame, mkF, argsToLocals, Value.category]; done) | rfl
def Q_c1 (Z : State) (ca : Addr) (kc : ClassId) (bb : Addr) (kb : ClassId) (x0 : Int32) (x1 : Int32) (x2 : Int32) (x3 : Int32) (x4 : Int32) (h0 : Heap) (n0 : Nat) (v : Option Value) (h : Heap) (L : List Loc) : Prop := v = some (.int (Int32.ofNat (own_fb [x0, x1, x2, x3, x4]))) ∧ Fr n0 L ∧ Keep h0 h [bb] ∧ Arv Z h bb kb .byte (5 : Int32) (own_w [x0, x1, x2, x3, x4] [Value.int (0 : Int32), Value.int (0 : Int32), Value.int (0 : Int32), Value.int (0 : Int32), Value.int (0 : Int32)] (own_fb [x0, x1, x2, x3, x4])) (.int (0 : Int32))
set_option maxRecDepth 65536 in
set_option maxHeartbeats 40000000 in
theorem rm_c1 (l : Launch) (Z : State) (a0 : Array Value) (hw : ∀ d ∈ tables_1, d.before a0 Z = true) (ws : List Jvm.Cond) (ca : Addr) (kc : ClassId) (bb : Addr) (kb : ClassId) (x0 : Int32) (x1 : Int32) (x2 : Int32) (x3 : Int32) (x4 : Int32) (h0 : Heap) (n0 : Nat) (Z0 : n0 ≤ h0.size) (V_ca : Arv Z h0 ca kc .char (5 : Int32) [(.int x0), (.int x1), (.int x2), (.int x3), (.int x4)] (.int (0 : Int32))) (V_bb : Arv Z h0 bb kb .byte (5 : Int32) [(.int (0 : Int32)), (.int (0 : Int32)), (.int (0 : Int32)), (.int (0 : Int32)), (.int (0 : Int32))] (.int (0 : Int32))) (ne_ca_bb : ca ≠ bb) (g_bb : n0 ≤ bb) :
    MetFree l (⟨"java/lang/StringUTF16", "compress", "([CI[BII)I"⟩ : MethodName) (head1 (Jvm.Cond.code (⟨"java/lang/StringUTF16", "compress", "([CI[BII)I"⟩ : MethodName) jdk_52_method_21_code 7 (some .int) :: ws) ({ frames := 0, cells := 0, slots := 0, locals := 0 } : Room)) (fun aA U => aA = #[(.ref ca), (.int (0 : Int32)), (.ref bb), (.int (0 : Int32)), (.int (5 : Int32))] ∧ Z.Warmed39 U.vm ∧ U.heap = h0) (fun _ _ _ _ _ => True) (fun _ U oO U' => ∃ vV LL, oO = .returned vV ∧ Q_c1 Z ca kc bb kb x0 x1 x2 x3 x4 h0 n0 vV U'.heap LL ∧ FrameEnd U oO U' LL ({ frames := 0, cells := 0, slots := 0, locals := 0 } : Room).cells ({ frames := 0, cells := 0, slots := 0, locals := 0 } : Room).slots) := by
  refine MetFree.of_bodySF (plainFor_of_name pn_2) hisR ?_
  intro p e s m args below meth c s₁ Bd hml0 hP hK
  obtain ⟨rfl, hZ, hh⟩ := hP
  have hx := Bd.exec
  have hby := Bd.bytes
  have hml : c.maxLocals = 7 := hml0
  have hown : s.vm.findClass "java/lang/StringUTF16" = some m.cls := findClass_of_methodNamed Bd.named
  have hnm := (name_of_methodNamed Bd.named Bd.method).1
  have X0 : Stand p l e ({ frames := 0, cells := 0, slots := 0, locals := 0 } : Room) s m #[(.ref ca), (.int (0 : Int32)), (.ref bb), (.int (0 : Int32)), (.int (5 : Int32))] below meth c s₁ [] 0 0 := Stand.of_body Bd
  have e0 : s₁.heap = h0 := by rw [← hh, Bd.state]; rfl
  have N0 := Fr.nil n0
  have hret := Bd.returns
  have hlk : meth.locks = false := Bd.notSynchronized
  refine own_start (ef_9 m ca (0 : Int32) bb (0 : Int32) (5 : Int32)) ?_
  show own_Go p e below s (Q_c1 Z ca kc bb kb x0 x1 x2 x3 x4 h0 n0) ({ frames := 0, cells := 0, slots := 0, locals := 0 } : Room).cells ({ frames := 0, cells := 0, slots := 0, locals := 0 } : Room).slots (s₁.setTop (mkF m 0 #[.val (.ref ca), .val (.int (0 : Int32)), .val (.ref bb), .val (.int (0 : Int32)), .val (.int (5 : Int32)), .unset, .unset] []))
  refine g_iconst X0 hx 1 (hb hby d_jdk_52_method_21_0) (0 : Int32) rfl rfl ?_
  refine g_istore X0 hx 3 (hb hby d_jdk_52_method_21_1) (l' := #[.val (.ref ca), .val (.int (0 : Int32)), .val (.ref bb), .val (.int (0 : Int32)), .val (.int (5 : Int32)), .val (.int (0 : Int32)), .unset]) rfl rfl ?_
  refine g_iload X0 hx 5 (hb hby d_jdk_52_method_21_3) rfl rfl ?_
  refine g_iload X0 hx 7 (hb hby d_jdk_52_method_21_5) rfl rfl ?_
  refine g_icmpNo X0 hx 10 (hb hby d_jdk_52_method_21_7) (own_ii_ge_f (by decide)) rfl ?_
  refine g_aload_n X0 hx 11 (hb hby d_jdk_52_method_21_10) rfl rfl rfl ?_
  refine g_iload_n X0 hx 12 (hb hby d_jdk_52_method_21_11) rfl rfl ?_
  obtain ⟨cl82, Ar82, q82, S82, P82, H82, G82⟩ := id V_ca
  have hin82 := inb_of (j := (0 : Int32)) S82 ⟨by decide, by decide⟩
  refine own_caload X0 hx hZ e0 Ar82 (v := (.int x0)) hin82 (Has.at H82 hin82 rfl) 13 (hb hby d_jdk_52_method_21_12) rfl ?_
  refine g_istore X0 hx 15 (hb hby d_jdk_52_method_21_13) (l' := #[.val (.ref ca), .val (.int (0 : Int32)), .val (.ref bb), .val (.int (0 : Int32)), .val (.int (5 : Int32)), .val (.int (0 : Int32)), .val (.int x0)]) rfl rfl ?_
  refine g_iload X0 hx 17 (hb hby d_jdk_52_method_21_15) rfl rfl ?_
  refine g_sipush X0 hx 20 (hb hby d_jdk_52_method_21_17) (255 : Int32) rfl rfl ?_
  by_cases c83 : (255 : Int32) < x0
  · refine g_icmpNo X0 hx 23 (hb hby d_jdk_52_method_21_20) (own_ii_le_f c83) rfl ?_
    refine g_iload X0 hx 25 (hb hby d_jdk_52_method_21_23) rfl rfl ?_
    have hj84 : own_fb [x0, x1, x2, x3, x4] = 0 := by simp [own_fb, c83]
    have V85 : Arv Z h0 bb kb .byte (5 : Int32) (own_w [x0, x1, x2, x3, x4] [Value.int (0 : Int32), Value.int (0 : Int32), Value.int (0 : Int32), Value.int (0 : Int32), Value.int (0 : Int32)] (own_fb [x0, x1, x2, x3, x4])) (.int (0 : Int32)) := own_arvL V_bb (by rw [hj84]; rfl)
    refine own_retI X0 hx hlk hret (hb hby d_jdk_52_method_21_25) ?_ (by decide) (by decide)
    rw [e0]
    exact ⟨(congrArg some (congrArg Value.int (by rw [hj84]; rfl))), N0, (Keep.refl h0 [bb]), V85⟩
  · refine g_icmpYes X0 hx 26 (hb hby d_jdk_52_method_21_20) (own_ii_le_t c83) (by decide) (by decide) ?_
    refine g_aload_n X0 hx 27 (hb hby d_jdk_52_method_21_26) rfl rfl rfl ?_
    refine g_iload_n X0 hx 28 (hb hby d_jdk_52_method_21_27) rfl rfl ?_
    refine g_iload X0 hx 30 (hb hby d_jdk_52_method_21_28) rfl rfl ?_
    refine g_i2b X0 hx 31 (hb hby d_jdk_52_method_21_30) rfl ?_
    obtain ⟨cl86, Ar86, q86, S86, P86, H86, G86⟩ := id V_bb
    have hin86 := inb_of (j := (0 : Int32)) S86 ⟨by decide, by decide⟩
    refine own_stB X0 hx hZ e0 Ar86 hin86 32 (hb hby d_jdk_52_method_21_31) rfl fun T86 h86 X86 e86 W86 => ?_
    have V86 : Arv Z h86 bb kb .byte (5 : Int32) [(.int (nar .byte (x0.toInt8.toInt32))), (.int (0 : Int32)), (.int (0 : Int32)), (.int (0 : Int32)), (.int (0 : Int32))] (.int (0 : Int32)) := Arv.set Ar86 q86 S86 P86 H86 G86 (v := (.int (nar .byte (x0.toInt8.toInt32)))) (fits_nar_byte _) W86 0 rfl (Nat.le_of_ble_eq_true rfl)
    have N86 := Fr.snoc X86 N0 g_bb
    have z87 : n0 ≤ h86.size := (Nat.le_trans Z0 (Keep.of_wr W86).1)
    have K88 : Keep h0 h86 [bb] := (Keep.refl h0 [bb]).wr W86 (Or.inl (List.mem_of_getElem? (i := 0) rfl))
    refine g_iinc X86 hx 35 (hb hby d_jdk_52_method_21_32) (z := (1 : Int32)) rfl rfl (l' := #[.val (.ref ca), .val (.int (1 : Int32)), .val (.ref bb), .val (.int (0 : Int32)), .val (.int (5 : Int32)), .val (.int (0 : Int32)), .val (.int x0)]) rfl rfl ?_
    refine g_iinc X86 hx 38 (hb hby d_jdk_52_method_21_35) (z := (1 : Int32)) rfl rfl (l' := #[.val (.ref ca), .val (.int (1 : Int32)), .val (.ref bb), .val (.int (1 : Int32)), .val (.int (5 : Int32)), .val (.int (0 : Int32)), .val (.int x0)]) rfl rfl ?_
    refine g_iinc X86 hx 41 (hb hby d_jdk_52_method_21_38) (z := (1 : Int32)) rfl rfl (l' := #[.val (.ref ca), .val (.int (1 : Int32)), .val (.ref bb), .val (.int (1 : Int32)), .val (.int (5 : Int32)), .val (.int (1 : Int32)), .val (.int x0)]) rfl rfl ?_
    refine g_goto X86 hx 3 (hb hby d_jdk_52_method_21_41) (by decide) (by decide) ?_
    refine g_iload X86 hx 5 (hb hby d_jdk_52_method_21_3) rfl rfl ?_
    refine g_iload X86 hx 7 (hb hby d_jdk_52_method_21_5) rfl rfl ?_
    refine g_icmpNo X86 hx 10 (hb hby d_jdk_52_method_21_7) (own_ii_ge_f (by decide)) rfl ?_
    refine g_aload_n X86 hx 11 (hb hby d_jdk_52_method_21_10) rfl rfl rfl ?_
    refine g_iload_n X86 hx 12 (hb hby d_jdk_52_method_21_11) rfl rfl ?_
    have f89 : Arv Z h86 ca kc .char (5 : Int32) [(.int x0), (.int x1), (.int x2), (.int x3), (.int x4)] (.int (0 : Int32)) := (V_ca.other W86 ne_ca_bb)
    obtain ⟨cl90, Ar90, q90, S90, P90, H90, G90⟩ := id f89
    have hin90 := inb_of (j := (1 : Int32)) S90 ⟨by decide, by decide⟩
    refine own_caload X86 hx hZ e86 Ar90 (v := (.int x1)) hin90 (Has.at H90 hin90 rfl) 13 (hb hby d_jdk_52_method_21_12) rfl ?_
    refine g_istore X86 hx 15 (hb hby d_jdk_52_method_21_13) (l' := #[.val (.ref ca), .val (.int (1 : Int32)), .val (.ref bb), .val (.int (1 : Int32)), .val (.int (5 : Int32)), .val (.int (1 : Int32)), .val (.int x1)]) rfl rfl ?_
    refine g_iload X86 hx 17 (hb hby d_jdk_52_method_21_15) rfl rfl ?_
    refine g_sipush X86 hx 20 (hb hby d_jdk_52_method_21_17) (255 : Int32) rfl rfl ?_
    by_cases c91 : (255 : Int32) < x1
    · refine g_icmpNo X86 hx 23 (hb hby d_jdk_52_method_21_20) (own_ii_le_f c91) rfl ?_
      refine g_iload X86 hx 25 (hb hby d_jdk_52_method_21_23) rfl rfl ?_
      have hj92 : own_fb [x0, x1, x2, x3, x4] = 1 := by simp [own_fb, c83, c91]
      have V93 : Arv Z h86 bb kb .byte (5 : Int32) (own_w [x0, x1, x2, x3, x4] [Value.int (0 : Int32), Value.int (0 : Int32), Value.int (0 : Int32), Value.int (0 : Int32), Value.int (0 : Int32)] (own_fb [x0, x1, x2, x3, x4])) (.int (0 : Int32)) := own_arvL V86 (by rw [hj92]; rfl)
      refine own_retI X86 hx hlk hret (hb hby d_jdk_52_method_21_25) ?_ (by decide) (by decide)
      rw [e86]
      exact ⟨(congrArg some (congrArg Value.int (by rw [hj92]; rfl))), N86, K88, V93⟩
    · refine g_icmpYes X86 hx 26 (hb hby d_jdk_52_method_21_20) (own_ii_le_t c91) (by decide) (by decide) ?_
      refine g_aload_n X86 hx 27 (hb hby d_jdk_52_method_21_26) rfl rfl rfl ?_
      refine g_iload_n X86 hx 28 (hb hby d_jdk_52_method_21_27) rfl rfl ?_
      refine g_iload X86 hx 30 (hb hby d_jdk_52_method_21_28) rfl rfl ?_
      refine g_i2b X86 hx 31 (hb hby d_jdk_52_method_21_30) rfl ?_
      obtain ⟨cl94, Ar94, q94, S94, P94, H94, G94⟩ := id V86
      have hin94 := inb_of (j := (1 : Int32)) S94 ⟨by decide, by decide⟩
      refine own_stB X86 hx hZ e86 Ar94 hin94 32 (hb hby d_jdk_52_method_21_31) rfl fun T94 h94 X94 e94 W94 => ?_
      have V94 : Arv Z h94 bb kb .byte (5 : Int32) [(.int (nar .byte (x0.toInt8.toInt32))), (.int (nar .byte (x1.toInt8.toInt32))), (.int (0 : Int32)), (.int (0 : Int32)), (.int (0 : Int32))] (.int (0 : Int32)) := Arv.set Ar94 q94 S94 P94 H94 G94 (v := (.int (nar .byte (x1.toInt8.toInt32)))) (fits_nar_byte _) W94 1 rfl (Nat.le_of_ble_eq_true rfl)
      have N94 := Fr.snoc X94 N86 g_bb
      have z95 : n0 ≤ h94.size := (Nat.le_trans z87 (Keep.of_wr W94).1)
      have K96 : Keep h0 h94 [bb] := K88.wr W94 (Or.inl (List.mem_of_getElem? (i := 0) rfl))
      refine g_iinc X94 hx 35 (hb hby d_jdk_52_method_21_32) (z := (2 : Int32)) rfl rfl (l' := #[.val (.ref ca), .val (.int (2 : Int32)), .val (.ref bb), .val (.int (1 : Int32)), .val (.int (5 : Int32)), .val (.int (1 : Int32)), .val (.int x1)]) rfl rfl ?_
      refine g_iinc X94 hx 38 (hb hby d_jdk_52_method_21_35) (z := (2 : Int32)) rfl rfl (l' := #[.val (.ref ca), .val (.int (2 : Int32)), .val (.ref bb), .val (.int (2 : Int32)), .val (.int (5 : Int32)), .val (.int (1 : Int32)), .val (.int x1)]) rfl rfl ?_
      refine g_iinc X94 hx 41 (hb hby d_jdk_52_method_21_38) (z := (2 : Int32)) rfl rfl (l' := #[.val (.ref ca), .val (.int (2 : Int32)), .val (.ref bb), .val (.int (2 : Int32)), .val (.int (5 : Int32)), .val (.int (2 : Int32)), .val (.int x1)]) rfl rfl ?_
      refine g_goto X94 hx 3 (hb hby d_jdk_52_method_21_41) (by decide) (by decide) ?_
      refine g_iload X94 hx 5 (hb hby d_jdk_52_method_21_3) rfl rfl ?_
      refine g_iload X94 hx 7 (hb hby d_jdk_52_method_21_5) rfl rfl ?_
      refine g_icmpNo X94 hx 10 (hb hby d_jdk_52_method_21_7) (own_ii_ge_f (by decide)) rfl ?_
      refine g_aload_n X94 hx 11 (hb hby d_jdk_52_method_21_10) rfl rfl rfl ?_
      refine g_iload_n X94 hx 12 (hb hby d_jdk_52_method_21_11) rfl rfl ?_
      have f97 : Arv Z h94 ca kc .char (5 : Int32) [(.int x0), (.int x1), (.int x2), (.int x3), (.int x4)] (.int (0 : Int32)) := (f89.other W94 ne_ca_bb)
      obtain ⟨cl98, Ar98, q98, S98, P98, H98, G98⟩ := id f97
      have hin98 := inb_of (j := (2 : Int32)) S98 ⟨by decide, by decide⟩
      refine own_caload X94 hx hZ e94 Ar98 (v := (.int x2)) hin98 (Has.at H98 hin98 rfl) 13 (hb hby d_jdk_52_method_21_12) rfl ?_
      refine g_istore X94 hx 15 (hb hby d_jdk_52_method_21_13) (l' := #[.val (.ref ca), .val (.int (2 : Int32)), .val (.ref bb), .val (.int (2 : Int32)), .val (.int (5 : Int32)), .val (.int (2 : Int32)), .val (.int x2)]) rfl rfl ?_
      refine g_iload X94 hx 17 (hb hby d_jdk_52_method_21_15) rfl rfl ?_
      refine g_sipush X94 hx 20 (hb hby d_jdk_52_method_21_17) (255 : Int32) rfl rfl ?_
      by_cases c99 : (255 : Int32) < x2
      · refine g_icmpNo X94 hx 23 (hb hby d_jdk_52_method_21_20) (own_ii_le_f c99) rfl ?_
        refine g_iload X94 hx 25 (hb hby d_jdk_52_method_21_23) rfl rfl ?_
        have hj100 : own_fb [x0, x1, x2, x3, x4] = 2 := by simp [own_fb, c83, c91, c99]
        have V101 : Arv Z h94 bb kb .byte (5 : Int32) (own_w [x0, x1, x2, x3, x4] [Value.int (0 : Int32), Value.int (0 : Int32), Value.int (0 : Int32), Value.int (0 : Int32), Value.int (0 : Int32)] (own_fb [x0, x1, x2, x3, x4])) (.int (0 : Int32)) := own_arvL V94 (by rw [hj100]; rfl)
        refine own_retI X94 hx hlk hret (hb hby d_jdk_52_method_21_25) ?_ (by decide) (by decide)
        rw [e94]
        exact ⟨(congrArg some (congrArg Value.int (by rw [hj100]; rfl))), N94, K96, V101⟩
      · refine g_icmpYes X94 hx 26 (hb hby d_jdk_52_method_21_20) (own_ii_le_t c99) (by decide) (by decide) ?_
        refine g_aload_n X94 hx 27 (hb hby d_jdk_52_method_21_26) rfl rfl rfl ?_
        refine g_iload_n X94 hx 28 (hb hby d_jdk_52_method_21_27) rfl rfl ?_
        refine g_iload X94 hx 30 (hb hby d_jdk_52_method_21_28) rfl rfl ?_
        refine g_i2b X94 hx 31 (hb hby d_jdk_52_method_21_30) rfl ?_
        obtain ⟨cl102, Ar102, q102, S102, P102, H102, G102⟩ := id V94
        have hin102 := inb_of (j := (2 : Int32)) S102 ⟨by decide, by decide⟩
        refine own_stB X94 hx hZ e94 Ar102 hin102 32 (hb hby d_jdk_52_method_21_31) rfl fun T102 h102 X102 e102 W102 => ?_
        have V102 : Arv Z h102 bb kb .byte (5 : Int32) [(.int (nar .byte (x0.toInt8.toInt32))), (.int (nar .byte (x1.toInt8.toInt32))), (.int (nar .byte (x2.toInt8.toInt32))), (.int (0 : Int32)), (.int (0 : Int32))] (.int (0 : Int32)) := Arv.set Ar102 q102 S102 P102 H102 G102 (v := (.int (nar .byte (x2.toInt8.toInt32)))) (fits_nar_byte _) W102 2 rfl (Nat.le_of_ble_eq_true rfl)
        have N102 := Fr.snoc X102 N94 g_bb
        have z103 : n0 ≤ h102.size := (Nat.le_trans z95 (Keep.of_wr W102).1)
        have K104 : Keep h0 h102 [bb] := K96.wr W102 (Or.inl (List.mem_of_getElem? (i := 0) rfl))
        refine g_iinc X102 hx 35 (hb hby d_jdk_52_method_21_32) (z := (3 : Int32)) rfl rfl (l' := #[.val (.ref ca), .val (.int (3 : Int32)), .val (.ref bb), .val (.int (2 : Int32)), .val (.int (5 : Int32)), .val (.int (2 : Int32)), .val (.int x2)]) rfl rfl ?_
        refine g_iinc X102 hx 38 (hb hby d_jdk_52_method_21_35) (z := (3 : Int32)) rfl rfl (l' := #[.val (.ref ca), .val (.int (3 : Int32)), .val (.ref bb), .val (.int (3 : Int32)), .val (.int (5 : Int32)), .val (.int (2 : Int32)), .val (.int x2)]) rfl rfl ?_
        refine g_iinc X102 hx 41 (hb hby d_jdk_52_method_21_38) (z := (3 : Int32)) rfl rfl (l' := #[.val (.ref ca), .val (.int (3 : Int32)), .val (.ref bb), .val (.int (3 : Int32)), .val (.int (5 : Int32)), .val (.int (3 : Int32)), .val (.int x2)]) rfl rfl ?_
        refine g_goto X102 hx 3 (hb hby d_jdk_52_method_21_41) (by decide) (by decide) ?_
        refine g_iload X102 hx 5 (hb hby d_jdk_52_method_21_3) rfl rfl ?_
        refine g_iload X102 hx 7 (hb hby d_jdk_52_method_21_5) rfl rfl ?_
        refine g_icmpNo X102 hx 10 (hb hby d_jdk_52_method_21_7) (own_ii_ge_f (by decide)) rfl ?_
        refine g_aload_n X102 hx 11 (hb hby d_jdk_52_method_21_10) rfl rfl rfl ?_
        refine g_iload_n X102 hx 12 (hb hby d_jdk_52_method_21_11) rfl rfl ?_
        have f105 : Arv Z h102 ca kc .char (5 : Int32) [(.int x0), (.int x1), (.int x2), (.int x3), (.int x4)] (.int (0 : Int32)) := (f97.other W102 ne_ca_bb)
        obtain ⟨cl106, Ar106, q106, S106, P106, H106, G106⟩ := id f105
        have hin106 := inb_of (j := (3 : Int32)) S106 ⟨by decide, by decide⟩
        refine own_caload X102 hx hZ e102 Ar106 (v := (.int x3)) hin106 (Has.at H106 hin106 rfl) 13 (hb hby d_jdk_52_method_21_12) rfl ?_
        refine g_istore X102 hx 15 (hb hby d_jdk_52_method_21_13) (l' := #[.val (.ref ca), .val (.int (3 : Int32)), .val (.ref bb), .val (.int (3 : Int32)), .val (.int (5 : Int32)), .val (.int (3 : Int32)), .val (.int x3)]) rfl rfl ?_
        refine g_iload X102 hx 17 (hb hby d_jdk_52_method_21_15) rfl rfl ?_
        refine g_sipush X102 hx 20 (hb hby d_jdk_52_method_21_17) (255 : Int32) rfl rfl ?_
        by_cases c107 : (255 : Int32) < x3
        · refine g_icmpNo X102 hx 23 (hb hby d_jdk_52_method_21_20) (own_ii_le_f c107) rfl ?_
          refine g_iload X102 hx 25 (hb hby d_jdk_52_method_21_23) rfl rfl ?_
          have hj108 : own_fb [x0, x1, x2, x3, x4] = 3 := by simp [own_fb, c83, c91, c99, c107]
          have V109 : Arv Z h102 bb kb .byte (5 : Int32) (own_w [x0, x1, x2, x3, x4] [Value.int (0 : Int32), Value.int (0 : Int32), Value.int (0 : Int32), Value.int (0 : Int32), Value.int (0 : Int32)] (own_fb [x0, x1, x2, x3, x4])) (.int (0 : Int32)) := own_arvL V102 (by rw [hj108]; rfl)
          refine own_retI X102 hx hlk hret (hb hby d_jdk_52_method_21_25) ?_ (by decide) (by decide)
          rw [e102]
          exact ⟨(congrArg some (congrArg Value.int (by rw [hj108]; rfl))), N102, K104, V109⟩
        · refine g_icmpYes X102 hx 26 (hb hby d_jdk_52_method_21_20) (own_ii_le_t c107) (by decide) (by decide) ?_
          refine g_aload_n X102 hx 27 (hb hby d_jdk_52_method_21_26) rfl rfl rfl ?_
          refine g_iload_n X102 hx 28 (hb hby d_jdk_52_method_21_27) rfl rfl ?_
          refine g_iload X102 hx 30 (hb hby d_jdk_52_method_21_28) rfl rfl ?_
          refine g_i2b X102 hx 31 (hb hby d_jdk_52_method_21_30) rfl ?_
          obtain ⟨cl110, Ar110, q110, S110, P110, H110, G110⟩ := id V102
          have hin110 := inb_of (j := (3 : Int32)) S110 ⟨by decide, by decide⟩
          refine own_stB X102 hx hZ e102 Ar110 hin110 32 (hb hby d_jdk_52_method_21_31) rfl fun T110 h110 X110 e110 W110 => ?_
          have V110 : Arv Z h110 bb kb .byte (5 : Int32) [(.int (nar .byte (x0.toInt8.toInt32))), (.int (nar .byte (x1.toInt8.toInt32))), (.int (nar .byte (x2.toInt8.toInt32))), (.int (nar .byte (x3.toInt8.toInt32))), (.int (0 : Int32))] (.int (0 : Int32)) := Arv.set Ar110 q110 S110 P110 H110 G110 (v := (.int (nar .byte (x3.toInt8.toInt32)))) (fits_nar_byte _) W110 3 rfl (Nat.le_of_ble_eq_true rfl)
          have N110 := Fr.snoc X110 N102 g_bb
          have z111 : n0 ≤ h110.size := (Nat.le_trans z103 (Keep.of_wr W110).1)
          have K112 : Keep h0 h110 [bb] := K104.wr W110 (Or.inl (List.mem_of_getElem? (i := 0) rfl))
          refine g_iinc X110 hx 35 (hb hby d_jdk_52_method_21_32) (z := (4 : Int32)) rfl rfl (l' := #[.val (.ref ca), .val (.int (4 : Int32)), .val (.ref bb), .val (.int (3 : Int32)), .val (.int (5 : Int32)), .val (.int (3 : Int32)), .val (.int x3)]) rfl rfl ?_
          refine g_iinc X110 hx 38 (hb hby d_jdk_52_method_21_35) (z := (4 : Int32)) rfl rfl (l' := #[.val (.ref ca), .val (.int (4 : Int32)), .val (.ref bb), .val (.int (4 : Int32)), .val (.int (5 : Int32)), .val (.int (3 : Int32)), .val (.int x3)]) rfl rfl ?_
          refine g_iinc X110 hx 41 (hb hby d_jdk_52_method_21_38) (z := (4 : Int32)) rfl rfl (l' := #[.val (.ref ca), .val (.int (4 : Int32)), .val (.ref bb), .val (.int (4 : Int32)), .val (.int (5 : Int32)), .val (.int (4 : Int32)), .val (.int x3)]) rfl rfl ?_
          refine g_goto X110 hx 3 (hb hby d_jdk_52_method_21_41) (by decide) (by decide) ?_
          refine g_iload X110 hx 5 (hb hby d_jdk_52_method_21_3) rfl rfl ?_
          refine g_iload X110 hx 7 (hb hby d_jdk_52_method_21_5) rfl rfl ?_
          refine g_icmpNo X110 hx 10 (hb hby d_jdk_52_method_21_7) (own_ii_ge_f (by decide)) rfl ?_
          refine g_aload_n X110 hx 11 (hb hby d_jdk_52_method_21_10) rfl rfl rfl ?_
          refine g_iload_n X110 hx 12 (hb hby d_jdk_52_method_21_11) rfl rfl ?_
          have f113 : Arv Z h110 ca kc .char (5 : Int32) [(.int x0), (.int x1), (.int x2), (.int x3), (.int x4)] (.int (0 : Int32)) := (f105.other W110 ne_ca_bb)
          obtain ⟨cl114, Ar114, q114, S114, P114, H114, G114⟩ := id f113
          have hin114 := inb_of (j := (4 : Int32)) S114 ⟨by decide, by decide⟩
          refine own_caload X110 hx hZ e110 Ar114 (v := (.int x4)) hin114 (Has.at H114 hin114 rfl) 13 (hb hby d_jdk_52_method_21_12) rfl ?_
          refine g_istore X110 hx 15 (hb hby d_jdk_52_method_21_13) (l' := #[.val (.ref ca), .val (.int (4 : Int32)), .val (.ref bb), .val (.int (4 : Int32)), .val (.int (5 : Int32)), .val (.int (4 : Int32)), .val (.int x4)]) rfl rfl ?_
          refine g_iload X110 hx 17 (hb hby d_jdk_52_method_21_15) rfl rfl ?_
          refine g_sipush X110 hx 20 (hb hby d_jdk_52_method_21_17) (255 : Int32) rfl rfl ?_
          by_cases c115 : (255 : Int32) < x4
          · refine g_icmpNo X110 hx 23 (hb hby d_jdk_52_method_21_20) (own_ii_le_f c115) rfl ?_
            refine g_iload X110 hx 25 (hb hby d_jdk_52_method_21_23) rfl rfl ?_
            have hj116 : own_fb [x0, x1, x2, x3, x4] = 4 := by simp [own_fb, c83, c91, c99, c107, c115]
            have V117 : Arv Z h110 bb kb .byte (5 : Int32) (own_w [x0, x1, x2, x3, x4] [Value.int (0 : Int32), Value.int (0 : Int32), Value.int (0 : Int32), Value.int (0 : Int32), Value.int (0 : Int32)] (own_fb [x0, x1, x2, x3, x4])) (.int (0 : Int32)) := own_arvL V110 (by rw [hj116]; rfl)
            refine own_retI X110 hx hlk hret (hb hby d_jdk_52_method_21_25) ?_ (by decide) (by decide)
            rw [e110]
            exact ⟨(congrArg some (congrArg Value.int (by rw [hj116]; rfl))), N110, K112, V117⟩
          · refine g_icmpYes X110 hx 26 (hb hby d_jdk_52_method_21_20) (own_ii_le_t c115) (by decide) (by decide) ?_
            refine g_aload_n X110 hx 27 (hb hby d_jdk_52_method_21_26) rfl rfl rfl ?_
            refine g_iload_n X110 hx 28 (hb hby d_jdk_52_method_21_27) rfl rfl ?_
            refine g_iload X110 hx 30 (hb hby d_jdk_52_method_21_28) rfl rfl ?_
            refine g_i2b X110 hx 31 (hb hby d_jdk_52_method_21_30) rfl ?_
            obtain ⟨cl118, Ar118, q118, S118, P118, H118, G118⟩ := id V110
            have hin118 := inb_of (j := (4 : Int32)) S118 ⟨by decide, by decide⟩
            refine own_stB X110 hx hZ e110 Ar118 hin118 32 (hb hby d_jdk_52_method_21_31) rfl fun T118 h118 X118 e118 W118 => ?_
            have V118 : Arv Z h118 bb kb .byte (5 : Int32) [(.int (nar .byte (x0.toInt8.toInt32))), (.int (nar .byte (x1.toInt8.toInt32))), (.int (nar .byte (x2.toInt8.toInt32))), (.int (nar .byte (x3.toInt8.toInt32))), (.int (nar .byte (x4.toInt8.toInt32)))] (.int (0 : Int32)) := Arv.set Ar118 q118 S118 P118 H118 G118 (v := (.int (nar .byte (x4.toInt8.toInt32)))) (fits_nar_byte _) W118 4 rfl (Nat.le_of_ble_eq_true rfl)
            have N118 := Fr.snoc X118 N110 g_bb
            have z119 : n0 ≤ h118.size := (Nat.le_trans z111 (Keep.of_wr W118).1)
            have K120 : Keep h0 h118 [bb] := K112.wr W118 (Or.inl (List.mem_of_getElem? (i := 0) rfl))
            refine g_iinc X118 hx 35 (hb hby d_jdk_52_method_21_32) (z := (5 : Int32)) rfl rfl (l' := #[.val (.ref ca), .val (.int (5 : Int32)), .val (.ref bb), .val (.int (4 : Int32)), .val (.int (5 : Int32)), .val (.int (4 : Int32)), .val (.int x4)]) rfl rfl ?_
            refine g_iinc X118 hx 38 (hb hby d_jdk_52_method_21_35) (z := (5 : Int32)) rfl rfl (l' := #[.val (.ref ca), .val (.int (5 : Int32)), .val (.ref bb), .val (.int (5 : Int32)), .val (.int (5 : Int32)), .val (.int (4 : Int32)), .val (.int x4)]) rfl rfl ?_
            refine g_iinc X118 hx 41 (hb hby d_jdk_52_method_21_38) (z := (5 : Int32)) rfl rfl (l' := #[.val (.ref ca), .val (.int (5 : Int32)), .val (.ref bb), .val (.int (5 : Int32)), .val (.int (5 : Int32)), .val (.int (5 : Int32)), .val (.int x4)]) rfl rfl ?_
            refine g_goto X118 hx 3 (hb hby d_jdk_52_method_21_41) (by decide) (by decide) ?_
            refine g_iload X118 hx 5 (hb hby d_jdk_52_method_21_3) rfl rfl ?_
            refine g_iload X118 hx 7 (hb hby d_jdk_52_method_21_5) rfl rfl ?_
            refine g_icmpYes X118 hx 44 (hb hby d_jdk_52_method_21_7) (own_ii_ge_t (by decide)) (by decide) (by decide) ?_
            refine g_iload X118 hx 46 (hb hby d_jdk_52_method_21_44) rfl rfl ?_
            have hj121 : own_fb [x0, x1, x2, x3, x4] = 5 := by simp [own_fb, c83, c91, c99, c107, c115]
            have V122 : Arv Z h118 bb kb .byte (5 : Int32) (own_w [x0, x1, x2, x3, x4] [Value.int (0 : Int32), Value.int (0 : Int32), Value.int (0 : Int32), Value.int (0 : Int32), Value.int (0 : Int32)] (own_fb [x0, x1, x2, x3, x4])) (.int (0 : Int32)) := own_arvL V118 (by rw [hj121]; rfl)
            refine own_retI X118 hx hlk hret (hb hby d_jdk_52_method_21_46) ?_ (by decide) (by decide)
            rw [e118]
            exact ⟨(congrArg some (congrArg Value.int (by rw [hj121]; rfl))), N118, K120, V122⟩
theorem d_jdk_52_method_3_0 : decode jdk_52_method_3_code 0 = .ok (.iload_n 0, 1) := by decide +kernel
theorem d_jdk_52_method_3_1 : decode jdk_52_method_3_code 1 = .ok (.ifCond .ge 11, 3) := by decide +kernel
theorem d_jdk_52_method_3_12 : decode jdk_52_method_3_code 12 = .ok (.iload_n 0, 1) := by decide +kernel
theorem d_jdk_52_method_3_13 : decode jdk_52_method_3_code 13 = .ok (.ldc 20, 2) := by decide +kernel
theorem d_jdk_52_method_3_15 : decode jdk_52_method_3_code 15 = .ok (.if_icmp .lt 40, 3) := by decide +kernel
theorem d_jdk_52_method_3_55 : decode jdk_52_method_3_code 55 = .ok (.iload_n 0, 1) := by decide +kernel
theorem d_jdk_52_method_3_56 : decode jdk_52_method_3_code 56 = .ok (.iconst 1, 1) := by decide +kernel
theorem d_jdk_52_method_3_57 : decode jdk_52_method_3_code 57 = .ok (.ishl, 1) := by decide +kernel
theorem d_jdk_52_method_3_58 : decode jdk_52_method_3_code 58 = .ok (.ireturn, 1) := by decide +kernel
theorem ef_10 (m : MethodId) (x0 : Int32) : entryFrame m #[(.int x0)] 1 = mkF m 0 #[.val (.int x0)] [] := by first | (simp [entryFrame, mkF, argsToLocals, Value.category]; done) | rfl
def Q_nbl (Z : State) (ii : Int32) (h0 : Heap) (n0 : Nat) (v : Option Value) (h : Heap) (L : List Loc) : Prop := v = some (.int (ii <<< ((1 : Int32) &&& 31))) ∧ Fr n0 L ∧ h = h0
set_option maxRecDepth 65536 in
set_option maxHeartbeats 40000000 in
theorem rm_nbl (l : Launch) (Z : State) (a0 : Array Value) (hw : ∀ d ∈ tables_1, d.before a0 Z = true) (ws : List Jvm.Cond) (ii : Int32) (h0 : Heap) (n0 : Nat) (Z0 : n0 ≤ h0.size) (g1 : ¬ (ii < (0 : Int32))) (g2 : ii < (1073741823 : Int32)) :
    MetFree l (⟨"java/lang/StringUTF16", "newBytesLength", "(I)I"⟩ : MethodName) (head1 (Jvm.Cond.code (⟨"java/lang/StringUTF16", "newBytesLength", "(I)I"⟩ : MethodName) jdk_52_method_3_code 1 (some .int) :: ws) ({ frames := 0, cells := 0, slots := 0, locals := 0 } : Room)) (fun aA U => aA = #[(.int ii)] ∧ Z.Warmed39 U.vm ∧ U.heap = h0) (fun _ _ _ _ _ => True) (fun _ U oO U' => ∃ vV LL, oO = .returned vV ∧ Q_nbl Z ii h0 n0 vV U'.heap LL ∧ FrameEnd U oO U' LL ({ frames := 0, cells := 0, slots := 0, locals := 0 } : Room).cells ({ frames := 0, cells := 0, slots := 0, locals := 0 } : Room).slots) := by
  refine MetFree.of_bodySF (plainFor_of_name pn_2) hisR ?_
  intro p e s m args below meth c s₁ Bd hml0 hP hK
  obtain ⟨rfl, hZ, hh⟩ := hP
  have hx := Bd.exec
  have hby := Bd.bytes
  have hml : c.maxLocals = 1 := hml0
  have hown : s.vm.findClass "java/lang/StringUTF16" = some m.cls := findClass_of_methodNamed Bd.named
  have hnm := (name_of_methodNamed Bd.named Bd.method).1
  have X0 : Stand p l e ({ frames := 0, cells := 0, slots := 0, locals := 0 } : Room) s m #[(.int ii)] below meth c s₁ [] 0 0 := Stand.of_body Bd
  have e0 : s₁.heap = h0 := by rw [← hh, Bd.state]; rfl
  have N0 := Fr.nil n0
  have hret := Bd.returns
  have hlk : meth.locks = false := Bd.notSynchronized
  refine own_start (ef_10 m ii) ?_
  show own_Go p e below s (Q_nbl Z ii h0 n0) ({ frames := 0, cells := 0, slots := 0, locals := 0 } : Room).cells ({ frames := 0, cells := 0, slots := 0, locals := 0 } : Room).slots (s₁.setTop (mkF m 0 #[.val (.int ii)] []))
  refine g_iload_n X0 hx 1 (hb hby d_jdk_52_method_3_0) rfl rfl ?_
  refine g_ifYes X0 hx 12 (hb hby d_jdk_52_method_3_1) (own_i0_ge_t g1) (by decide) (by decide) ?_
  refine g_iload_n X0 hx 13 (hb hby d_jdk_52_method_3_12) rfl rfl ?_
  refine g_ldc X0 hx hown 15 (z := (1073741823 : Int32)) (mvT hZ (hw _ (List.mem_of_getElem? (i := 142) rfl))) (hb hby d_jdk_52_method_3_13) rfl ?_
  refine g_icmpYes X0 hx 55 (hb hby d_jdk_52_method_3_15) (own_ii_lt_t g2) (by decide) (by decide) ?_
  refine g_iload_n X0 hx 56 (hb hby d_jdk_52_method_3_55) rfl rfl ?_
  refine g_iconst X0 hx 57 (hb hby d_jdk_52_method_3_56) (1 : Int32) rfl rfl ?_
  refine g_ishl X0 hx 58 (hb hby d_jdk_52_method_3_57) rfl ?_
  refine own_retI X0 hx hlk hret (hb hby d_jdk_52_method_3_58) ?_ (by decide) (by decide)
  rw [e0]
  exact ⟨rfl, N0, rfl⟩
theorem d_jdk_52_method_2_0 : decode jdk_52_method_2_code 0 = .ok (.iload_n 0, 1) := by decide +kernel
theorem d_jdk_52_method_2_1 : decode jdk_52_method_2_code 1 = .ok (.invokestatic 11, 3) := by decide +kernel
theorem pd_10 : parseMethodDescriptor "(I)I" = some ⟨[.int], some .int⟩ := by decide +kernel
theorem d_jdk_52_method_2_4 : decode jdk_52_method_2_code 4 = .ok (.newarray .byte, 2) := by decide +kernel
theorem d_jdk_52_method_2_6 : decode jdk_52_method_2_code 6 = .ok (.areturn, 1) := by decide +kernel
def Q_nbf (Z : State)  (h0 : Heap) (n0 : Nat) (v : Option Value) (h : Heap) (L : List Loc) : Prop := ∃ vb : Addr, ∃ kv : ClassId, v = some (.ref vb) ∧ Fr n0 L ∧ Keep h0 h [] ∧ n0 ≤ vb ∧ h0.size ≤ vb ∧ Arv Z h vb kv .byte (10 : Int32) [(.int (0 : Int32)), (.int (0 : Int32)), (.int (0 : Int32)), (.int (0 : Int32)), (.int (0 : Int32)), (.int (0 : Int32)), (.int (0 : Int32)), (.int (0 : Int32)), (.int (0 : Int32)), (.int (0 : Int32))] (.int (0 : Int32))
set_option maxRecDepth 65536 in
set_option maxHeartbeats 40000000 in
theorem rm_nbf (l : Launch) (Z : State) (a0 : Array Value) (hw : ∀ d ∈ tables_1, d.before a0 Z = true) (ws : List Jvm.Cond)  (h0 : Heap) (n0 : Nat) (Z0 : n0 ≤ h0.size) :
    MetFree l (⟨"java/lang/StringUTF16", "newBytesFor", "(I)[B"⟩ : MethodName) (head1 (Jvm.Cond.code (⟨"java/lang/StringUTF16", "newBytesFor", "(I)[B"⟩ : MethodName) jdk_52_method_2_code 1 (some (.array .byte)) :: ws) ({ frames := 1, cells := 1, slots := 10, locals := 12 } : Room)) (fun aA U => aA = #[(.int (5 : Int32))] ∧ Z.Warmed39 U.vm ∧ U.heap = h0) (fun _ _ _ _ _ => True) (fun _ U oO U' => ∃ vV LL, oO = .returned vV ∧ Q_nbf Z  h0 n0 vV U'.heap LL ∧ FrameEnd U oO U' LL ({ frames := 1, cells := 1, slots := 10, locals := 12 } : Room).cells ({ frames := 1, cells := 1, slots := 10, locals := 12 } : Room).slots) := by
  refine MetFree.of_bodySF (plainFor_of_name pn_2) hisR ?_
  intro p e s m args below meth c s₁ Bd hml0 hP hK
  obtain ⟨rfl, hZ, hh⟩ := hP
  have hx := Bd.exec
  have hby := Bd.bytes
  have hml : c.maxLocals = 1 := hml0
  have hown : s.vm.findClass "java/lang/StringUTF16" = some m.cls := findClass_of_methodNamed Bd.named
  have hnm := (name_of_methodNamed Bd.named Bd.method).1
  have X0 : Stand p l e ({ frames := 1, cells := 1, slots := 10, locals := 12 } : Room) s m #[(.int (5 : Int32))] below meth c s₁ [] 0 0 := Stand.of_body Bd
  have e0 : s₁.heap = h0 := by rw [← hh, Bd.state]; rfl
  have N0 := Fr.nil n0
  have hret := Bd.returns
  have hlk : meth.locks = false := Bd.notSynchronized
  refine own_start (ef_10 m (5 : Int32)) ?_
  show own_Go p e below s (Q_nbf Z  h0 n0) ({ frames := 1, cells := 1, slots := 10, locals := 12 } : Room).cells ({ frames := 1, cells := 1, slots := 10, locals := 12 } : Room).slots (s₁.setTop (mkF m 0 #[.val (.int (5 : Int32))] []))
  refine g_iload_n X0 hx 1 (hb hby d_jdk_52_method_2_0) rfl rfl ?_
  refine own_callS X0 hx hZ hown (hw _ (List.mem_of_getElem? (i := 139) rfl)) (hw _ (List.mem_of_getElem? (i := 140) rfl)) (by decide) (rm_nbl l Z a0 hw [] (5 : Int32) h0 n0 Z0 (by decide) (by decide)) (hw _ (List.mem_of_getElem? (i := 141) rfl)) (hw _ (List.mem_of_getElem? (i := 21) rfl)) e0 0 (by decide) (by decide) (by decide) (by decide) [(.int (5 : Int32))] [] rfl pd_10 rfl 4 rfl (by rw [hml]; rfl) rfl (hb hby d_jdk_52_method_2_1) rfl fun T125 v125 L125 X125 hQ125 => ?_
  obtain ⟨rfl, Nq125, e125⟩ := hQ125
  have N125 := Fr.app N0 Nq125
  show own_GoE p e below _ (T125.setTop (mkF m 4 _ [(.int ((5 : Int32) <<< ((1 : Int32) &&& 31)))]))
  show own_Go p e below s _ _ _ (T125.setTop (mkF m 4 _ [.int (10 : Int32)]))
  refine own_newP X125 hx hZ (hw _ (List.mem_of_getElem? (i := 23) rfl)) e125 6 (hb hby d_jdk_52_method_2_4) rfl (by decide) 10 (by decide) (by decide) (by decide) (by decide) fun T126 h126 k126 b126 X126 e126 g126 E126 A126 => ?_
  have g_b126 : n0 ≤ b126 := Nat.le_trans Z0 (Nat.le_of_eq g126.symm)
  have sz_b126 : h0.size ≤ b126 := Nat.le_trans (Keep.refl h0 []).1 (Nat.le_of_eq g126.symm)
  have K127 : Keep h0 h126 [] := (Keep.refl h0 []).ext E126
  have z128 : n0 ≤ h126.size := (Nat.le_trans Z0 E126.1)
  have V126 : Arv Z h126 b126 k126 .byte (10 : Int32) [(.int (0 : Int32)), (.int (0 : Int32)), (.int (0 : Int32)), (.int (0 : Int32)), (.int (0 : Int32)), (.int (0 : Int32)), (.int (0 : Int32)), (.int (0 : Int32)), (.int (0 : Int32)), (.int (0 : Int32))] (.int (0 : Int32)) := (Arv.new A126 (by decide)).pad (pad_rep [] (.int (0 : Int32)) 10)
  refine own_retA X126 hx hlk hret rfl rfl (hb hby d_jdk_52_method_2_6) ?_ (by decide) (by decide)
  rw [e126]
  exact ⟨b126, k126, rfl, N125, K127, g_b126, sz_b126, V126⟩
theorem d_jdk_52_method_4_0 : decode jdk_52_method_4_code 0 = .ok (.getstatic 44, 3) := by decide +kernel
theorem d_jdk_52_method_4_3 : decode jdk_52_method_4_code 3 = .ok (.ifCond .ne 25, 3) := by decide +kernel
theorem d_jdk_52_method_4_28 : decode jdk_52_method_4_code 28 = .ok (.iload_n 1, 1) := by decide +kernel
theorem d_jdk_52_method_4_29 : decode jdk_52_method_4_code 29 = .ok (.iconst 1, 1) := by decide +kernel
theorem d_jdk_52_method_4_30 : decode jdk_52_method_4_code 30 = .ok (.ishl, 1) := by decide +kernel
theorem d_jdk_52_method_4_31 : decode jdk_52_method_4_code 31 = .ok (.istore_n 1, 1) := by decide +kernel
theorem d_jdk_52_method_4_32 : decode jdk_52_method_4_code 32 = .ok (.aload_n 0, 1) := by decide +kernel
theorem d_jdk_52_method_4_33 : decode jdk_52_method_4_code 33 = .ok (.iload_n 1, 1) := by decide +kernel
theorem d_jdk_52_method_4_34 : decode jdk_52_method_4_code 34 = .ok (.iinc 1 1, 3) := by decide +kernel
theorem d_jdk_52_method_4_37 : decode jdk_52_method_4_code 37 = .ok (.iload_n 2, 1) := by decide +kernel
theorem d_jdk_52_method_4_38 : decode jdk_52_method_4_code 38 = .ok (.getstatic 59, 3) := by decide +kernel
theorem d_jdk_52_method_4_41 : decode jdk_52_method_4_code 41 = .ok (.ishr, 1) := by decide +kernel
theorem d_jdk_52_method_4_42 : decode jdk_52_method_4_code 42 = .ok (.i2b, 1) := by decide +kernel
theorem d_jdk_52_method_4_43 : decode jdk_52_method_4_code 43 = .ok (.bastore, 1) := by decide +kernel
theorem d_jdk_52_method_4_44 : decode jdk_52_method_4_code 44 = .ok (.aload_n 0, 1) := by decide +kernel
theorem d_jdk_52_method_4_45 : decode jdk_52_method_4_code 45 = .ok (.iload_n 1, 1) := by decide +kernel
theorem d_jdk_52_method_4_46 : decode jdk_52_method_4_code 46 = .ok (.iload_n 2, 1) := by decide +kernel
theorem d_jdk_52_method_4_47 : decode jdk_52_method_4_code 47 = .ok (.getstatic 63, 3) := by decide +kernel
theorem d_jdk_52_method_4_50 : decode jdk_52_method_4_code 50 = .ok (.ishr, 1) := by decide +kernel
theorem d_jdk_52_method_4_51 : decode jdk_52_method_4_code 51 = .ok (.i2b, 1) := by decide +kernel
theorem d_jdk_52_method_4_52 : decode jdk_52_method_4_code 52 = .ok (.bastore, 1) := by decide +kernel
theorem d_jdk_52_method_4_53 : decode jdk_52_method_4_code 53 = .ok (.return_, 1) := by decide +kernel
def Q_pch0 (Z : State) (bb : Addr) (kb : ClassId) (xc : Int32) (y0 : Int32) (y1 : Int32) (y2 : Int32) (y3 : Int32) (y4 : Int32) (y5 : Int32) (y6 : Int32) (y7 : Int32) (y8 : Int32) (y9 : Int32) (h0 : Heap) (n0 : Nat) (v : Option Value) (h : Heap) (L : List Loc) : Prop := v = none ∧ Fr n0 L ∧ Keep h0 h [bb] ∧ Arv Z h bb kb .byte (10 : Int32) [(.int (own_h xc)), (.int (own_l xc)), (.int y2), (.int y3), (.int y4), (.int y5), (.int y6), (.int y7), (.int y8), (.int y9)] (.int (0 : Int32))
set_option maxRecDepth 65536 in
set_option maxHeartbeats 40000000 in
theorem rm_pch0 (l : Launch) (Z : State) (a0 : Array Value) (hw : ∀ d ∈ tables_1, d.before a0 Z = true) (ws : List Jvm.Cond) (bb : Addr) (kb : ClassId) (xc : Int32) (y0 : Int32) (y1 : Int32) (y2 : Int32) (y3 : Int32) (y4 : Int32) (y5 : Int32) (y6 : Int32) (y7 : Int32) (y8 : Int32) (y9 : Int32) (h0 : Heap) (n0 : Nat) (Z0 : n0 ≤ h0.size) (V_bb : Arv Z h0 bb kb .byte (10 : Int32) [(.int y0), (.int y1), (.int y2), (.int y3), (.int y4), (.int y5), (.int y6), (.int y7), (.int y8), (.int y9)] (.int (0 : Int32))) (S__assertionsDisabled : Sta Z h0 "java/lang/StringUTF16" "$assertionsDisabled" "Z" (.int (1 : Int32))) (S_HI_BYTE_SHIFT : Sta Z h0 "java/lang/StringUTF16" "HI_BYTE_SHIFT" "I" (.int (0 : Int32))) (S_LO_BYTE_SHIFT : Sta Z h0 "java/lang/StringUTF16" "LO_BYTE_SHIFT" "I" (.int (8 : Int32))) (g_bb : n0 ≤ bb) :
    MetFree l (⟨"java/lang/StringUTF16", "putChar", "([BII)V"⟩ : MethodName) (head1 (Jvm.Cond.code (⟨"java/lang/StringUTF16", "putChar", "([BII)V"⟩ : MethodName) jdk_52_method_4_code 3 none :: ws) ({ frames := 0, cells := 0, slots := 0, locals := 0 } : Room)) (fun aA U => aA = #[(.ref bb), (.int (0 : Int32)), (.int xc)] ∧ Z.Warmed39 U.vm ∧ U.heap = h0) (fun _ _ _ _ _ => True) (fun _ U oO U' => ∃ vV LL, oO = .returned vV ∧ Q_pch0 Z bb kb xc y0 y1 y2 y3 y4 y5 y6 y7 y8 y9 h0 n0 vV U'.heap LL ∧ FrameEnd U oO U' LL ({ frames := 0, cells := 0, slots := 0, locals := 0 } : Room).cells ({ frames := 0, cells := 0, slots := 0, locals := 0 } : Room).slots) := by
  refine MetFree.of_bodySF (plainFor_of_name pn_2) hisR ?_
  intro p e s m args below meth c s₁ Bd hml0 hP hK
  obtain ⟨rfl, hZ, hh⟩ := hP
  have hx := Bd.exec
  have hby := Bd.bytes
  have hml : c.maxLocals = 3 := hml0
  have hown : s.vm.findClass "java/lang/StringUTF16" = some m.cls := findClass_of_methodNamed Bd.named
  have hnm := (name_of_methodNamed Bd.named Bd.method).1
  have X0 : Stand p l e ({ frames := 0, cells := 0, slots := 0, locals := 0 } : Room) s m #[(.ref bb), (.int (0 : Int32)), (.int xc)] below meth c s₁ [] 0 0 := Stand.of_body Bd
  have e0 : s₁.heap = h0 := by rw [← hh, Bd.state]; rfl
  have N0 := Fr.nil n0
  have hret := Bd.returns
  have hlk : meth.locks = false := Bd.notSynchronized
  refine own_start (ef_8 m bb (0 : Int32) xc) ?_
  show own_Go p e below s (Q_pch0 Z bb kb xc y0 y1 y2 y3 y4 y5 y6 y7 y8 y9 h0 n0) ({ frames := 0, cells := 0, slots := 0, locals := 0 } : Room).cells ({ frames := 0, cells := 0, slots := 0, locals := 0 } : Room).slots (s₁.setTop (mkF m 0 #[.val (.ref bb), .val (.int (0 : Int32)), .val (.int xc)] []))
  refine own_getS X0 hx hZ hown (host := "") (Or.inl (hw _ (List.mem_of_getElem? (i := 146) rfl))) Via.refl e0 S__assertionsDisabled 3 (hb hby d_jdk_52_method_4_0) rfl fun T129 X129 e129 => ?_
  refine g_ifYes X129 hx 28 (hb hby d_jdk_52_method_4_3) (own_i0_ne_t (by decide)) (by decide) (by decide) ?_
  refine g_iload_n X129 hx 29 (hb hby d_jdk_52_method_4_28) rfl rfl ?_
  refine g_iconst X129 hx 30 (hb hby d_jdk_52_method_4_29) (1 : Int32) rfl rfl ?_
  refine g_ishl X129 hx 31 (hb hby d_jdk_52_method_4_30) rfl ?_
  show own_GoE p e below _ (T129.setTop (mkF m 31 _ [(.int (0 : Int32))]))
  refine g_istore_n X129 hx 32 (hb hby d_jdk_52_method_4_31) (l' := #[.val (.ref bb), .val (.int (0 : Int32)), .val (.int xc)]) rfl rfl ?_
  refine g_aload_n X129 hx 33 (hb hby d_jdk_52_method_4_32) rfl rfl rfl ?_
  refine g_iload_n X129 hx 34 (hb hby d_jdk_52_method_4_33) rfl rfl ?_
  refine g_iinc X129 hx 37 (hb hby d_jdk_52_method_4_34) (z := (1 : Int32)) rfl rfl (l' := #[.val (.ref bb), .val (.int (1 : Int32)), .val (.int xc)]) rfl rfl ?_
  refine g_iload_n X129 hx 38 (hb hby d_jdk_52_method_4_37) rfl rfl ?_
  refine own_getS X129 hx hZ hown (host := "") (Or.inl (hw _ (List.mem_of_getElem? (i := 147) rfl))) Via.refl e129 S_HI_BYTE_SHIFT 41 (hb hby d_jdk_52_method_4_38) rfl fun T130 X130 e130 => ?_
  refine g_ishr X130 hx 42 (hb hby d_jdk_52_method_4_41) rfl ?_
  refine g_i2b X130 hx 43 (hb hby d_jdk_52_method_4_42) rfl ?_
  obtain ⟨cl131, Ar131, q131, S131, P131, H131, G131⟩ := id V_bb
  have hin131 := inb_of (j := (0 : Int32)) S131 ⟨by decide, by decide⟩
  refine own_stB X130 hx hZ e130 Ar131 hin131 44 (hb hby d_jdk_52_method_4_43) rfl fun T131 h131 X131 e131 W131 => ?_
  have V131 : Arv Z h131 bb kb .byte (10 : Int32) [(.int (nar .byte ((xc >>> ((0 : Int32) &&& 31)).toInt8.toInt32))), (.int y1), (.int y2), (.int y3), (.int y4), (.int y5), (.int y6), (.int y7), (.int y8), (.int y9)] (.int (0 : Int32)) := Arv.set Ar131 q131 S131 P131 H131 G131 (v := (.int (nar .byte ((xc >>> ((0 : Int32) &&& 31)).toInt8.toInt32)))) (fits_nar_byte _) W131 0 rfl (Nat.le_of_ble_eq_true rfl)
  have N131 := Fr.snoc X131 N0 g_bb
  have z132 : n0 ≤ h131.size := (Nat.le_trans Z0 (Keep.of_wr W131).1)
  have K133 : Keep h0 h131 [bb] := (Keep.refl h0 [bb]).wr W131 (Or.inl (List.mem_of_getElem? (i := 0) rfl))
  refine g_aload_n X131 hx 45 (hb hby d_jdk_52_method_4_44) rfl rfl rfl ?_
  refine g_iload_n X131 hx 46 (hb hby d_jdk_52_method_4_45) rfl rfl ?_
  refine g_iload_n X131 hx 47 (hb hby d_jdk_52_method_4_46) rfl rfl ?_
  have f134 : Sta Z h131 "java/lang/StringUTF16" "LO_BYTE_SHIFT" "I" (.int (8 : Int32)) := (Sta.wr W131 S_LO_BYTE_SHIFT)
  refine own_getS X131 hx hZ hown (host := "") (Or.inl (hw _ (List.mem_of_getElem? (i := 148) rfl))) Via.refl e131 f134 50 (hb hby d_jdk_52_method_4_47) rfl fun T135 X135 e135 => ?_
  refine g_ishr X135 hx 51 (hb hby d_jdk_52_method_4_50) rfl ?_
  refine g_i2b X135 hx 52 (hb hby d_jdk_52_method_4_51) rfl ?_
  obtain ⟨cl136, Ar136, q136, S136, P136, H136, G136⟩ := id V131
  have hin136 := inb_of (j := (1 : Int32)) S136 ⟨by decide, by decide⟩
  refine own_stB X135 hx hZ e135 Ar136 hin136 53 (hb hby d_jdk_52_method_4_52) rfl fun T136 h136 X136 e136 W136 => ?_
  have V136 : Arv Z h136 bb kb .byte (10 : Int32) [(.int (nar .byte ((xc >>> ((0 : Int32) &&& 31)).toInt8.toInt32))), (.int (nar .byte ((xc >>> ((8 : Int32) &&& 31)).toInt8.toInt32))), (.int y2), (.int y3), (.int y4), (.int y5), (.int y6), (.int y7), (.int y8), (.int y9)] (.int (0 : Int32)) := Arv.set Ar136 q136 S136 P136 H136 G136 (v := (.int (nar .byte ((xc >>> ((8 : Int32) &&& 31)).toInt8.toInt32)))) (fits_nar_byte _) W136 1 rfl (Nat.le_of_ble_eq_true rfl)
  have N136 := Fr.snoc X136 N131 g_bb
  have z137 : n0 ≤ h136.size := (Nat.le_trans z132 (Keep.of_wr W136).1)
  have K138 : Keep h0 h136 [bb] := K133.wr W136 (Or.inl (List.mem_of_getElem? (i := 0) rfl))
  refine own_retV X136 hx hlk hret (hb hby d_jdk_52_method_4_53) ?_ (by decide) (by decide)
  rw [e136]
  exact ⟨rfl, N136, K138, (own_arvL V136 (by rw [(by first | rfl | (simp []; done) : (own_h xc) = (nar .byte ((xc >>> ((0 : Int32) &&& 31)).toInt8.toInt32))), (by first | rfl | (simp []; done) : (own_l xc) = (nar .byte ((xc >>> ((8 : Int32) &&& 31)).toInt8.toInt32)))]))⟩
def Q_pch1 (Z : State) (bb : Addr) (kb : ClassId) (xc : Int32) (y0 : Int32) (y1 : Int32) (y2 : Int32) (y3 : Int32) (y4 : Int32) (y5 : Int32) (y6 : Int32) (y7 : Int32) (y8 : Int32) (y9 : Int32) (h0 : Heap) (n0 : Nat) (v : Option Value) (h : Heap) (L : List Loc) : Prop := v = none ∧ Fr n0 L ∧ Keep h0 h [bb] ∧ Arv Z h bb kb .byte (10 : Int32) [(.int y0), (.int y1), (.int (own_h xc)), (.int (own_l xc)), (.int y4), (.int y5), (.int y6), (.int y7), (.int y8), (.int y9)] (.int (0 : Int32))
set_option maxRecDepth 65536 in
set_option maxHeartbeats 40000000 in
theorem rm_pch1 (l : Launch) (Z : State) (a0 : Array Value) (hw : ∀ d ∈ tables_1, d.before a0 Z = true) (ws : List Jvm.Cond) (bb : Addr) (kb : ClassId) (xc : Int32) (y0 : Int32) (y1 : Int32) (y2 : Int32) (y3 : Int32) (y4 : Int32) (y5 : Int32) (y6 : Int32) (y7 : Int32) (y8 : Int32) (y9 : Int32) (h0 : Heap) (n0 : Nat) (Z0 : n0 ≤ h0.size) (V_bb : Arv Z h0 bb kb .byte (10 : Int32) [(.int y0), (.int y1), (.int y2), (.int y3), (.int y4), (.int y5), (.int y6), (.int y7), (.int y8), (.int y9)] (.int (0 : Int32))) (S__assertionsDisabled : Sta Z h0 "java/lang/StringUTF16" "$assertionsDisabled" "Z" (.int (1 : Int32))) (S_HI_BYTE_SHIFT : Sta Z h0 "java/lang/StringUTF16" "HI_BYTE_SHIFT" "I" (.int (0 : Int32))) (S_LO_BYTE_SHIFT : Sta Z h0 "java/lang/StringUTF16" "LO_BYTE_SHIFT" "I" (.int (8 : Int32))) (g_bb : n0 ≤ bb) :
    MetFree l (⟨"java/lang/StringUTF16", "putChar", "([BII)V"⟩ : MethodName) (head1 (Jvm.Cond.code (⟨"java/lang/StringUTF16", "putChar", "([BII)V"⟩ : MethodName) jdk_52_method_4_code 3 none :: ws) ({ frames := 0, cells := 0, slots := 0, locals := 0 } : Room)) (fun aA U => aA = #[(.ref bb), (.int (1 : Int32)), (.int xc)] ∧ Z.Warmed39 U.vm ∧ U.heap = h0) (fun _ _ _ _ _ => True) (fun _ U oO U' => ∃ vV LL, oO = .returned vV ∧ Q_pch1 Z bb kb xc y0 y1 y2 y3 y4 y5 y6 y7 y8 y9 h0 n0 vV U'.heap LL ∧ FrameEnd U oO U' LL ({ frames := 0, cells := 0, slots := 0, locals := 0 } : Room).cells ({ frames := 0, cells := 0, slots := 0, locals := 0 } : Room).slots) := by
  refine MetFree.of_bodySF (plainFor_of_name pn_2) hisR ?_
  intro p e s m args below meth c s₁ Bd hml0 hP hK
  obtain ⟨rfl, hZ, hh⟩ := hP
  have hx := Bd.exec
  have hby := Bd.bytes
  have hml : c.maxLocals = 3 := hml0
  have hown : s.vm.findClass "java/lang/StringUTF16" = some m.cls := findClass_of_methodNamed Bd.named
  have hnm := (name_of_methodNamed Bd.named Bd.method).1
  have X0 : Stand p l e ({ frames := 0, cells := 0, slots := 0, locals := 0 } : Room) s m #[(.ref bb), (.int (1 : Int32)), (.int xc)] below meth c s₁ [] 0 0 := Stand.of_body Bd
  have e0 : s₁.heap = h0 := by rw [← hh, Bd.state]; rfl
  have N0 := Fr.nil n0
  have hret := Bd.returns
  have hlk : meth.locks = false := Bd.notSynchronized
  refine own_start (ef_8 m bb (1 : Int32) xc) ?_
  show own_Go p e below s (Q_pch1 Z bb kb xc y0 y1 y2 y3 y4 y5 y6 y7 y8 y9 h0 n0) ({ frames := 0, cells := 0, slots := 0, locals := 0 } : Room).cells ({ frames := 0, cells := 0, slots := 0, locals := 0 } : Room).slots (s₁.setTop (mkF m 0 #[.val (.ref bb), .val (.int (1 : Int32)), .val (.int xc)] []))
  refine own_getS X0 hx hZ hown (host := "") (Or.inl (hw _ (List.mem_of_getElem? (i := 146) rfl))) Via.refl e0 S__assertionsDisabled 3 (hb hby d_jdk_52_method_4_0) rfl fun T139 X139 e139 => ?_
  refine g_ifYes X139 hx 28 (hb hby d_jdk_52_method_4_3) (own_i0_ne_t (by decide)) (by decide) (by decide) ?_
  refine g_iload_n X139 hx 29 (hb hby d_jdk_52_method_4_28) rfl rfl ?_
  refine g_iconst X139 hx 30 (hb hby d_jdk_52_method_4_29) (1 : Int32) rfl rfl ?_
  refine g_ishl X139 hx 31 (hb hby d_jdk_52_method_4_30) rfl ?_
  show own_GoE p e below _ (T139.setTop (mkF m 31 _ [(.int (2 : Int32))]))
  refine g_istore_n X139 hx 32 (hb hby d_jdk_52_method_4_31) (l' := #[.val (.ref bb), .val (.int (2 : Int32)), .val (.int xc)]) rfl rfl ?_
  refine g_aload_n X139 hx 33 (hb hby d_jdk_52_method_4_32) rfl rfl rfl ?_
  refine g_iload_n X139 hx 34 (hb hby d_jdk_52_method_4_33) rfl rfl ?_
  refine g_iinc X139 hx 37 (hb hby d_jdk_52_method_4_34) (z := (3 : Int32)) rfl rfl (l' := #[.val (.ref bb), .val (.int (3 : Int32)), .val (.int xc)]) rfl rfl ?_
  refine g_iload_n X139 hx 38 (hb hby d_jdk_52_method_4_37) rfl rfl ?_
  refine own_getS X139 hx hZ hown (host := "") (Or.inl (hw _ (List.mem_of_getElem? (i := 147) rfl))) Via.refl e139 S_HI_BYTE_SHIFT 41 (hb hby d_jdk_52_method_4_38) rfl fun T140 X140 e140 => ?_
  refine g_ishr X140 hx 42 (hb hby d_jdk_52_method_4_41) rfl ?_
  refine g_i2b X140 hx 43 (hb hby d_jdk_52_method_4_42) rfl ?_
  obtain ⟨cl141, Ar141, q141, S141, P141, H141, G141⟩ := id V_bb
  have hin141 := inb_of (j := (2 : Int32)) S141 ⟨by decide, by decide⟩
  refine own_stB X140 hx hZ e140 Ar141 hin141 44 (hb hby d_jdk_52_method_4_43) rfl fun T141 h141 X141 e141 W141 => ?_
  have V141 : Arv Z h141 bb kb .byte (10 : Int32) [(.int y0), (.int y1), (.int (nar .byte ((xc >>> ((0 : Int32) &&& 31)).toInt8.toInt32))), (.int y3), (.int y4), (.int y5), (.int y6), (.int y7), (.int y8), (.int y9)] (.int (0 : Int32)) := Arv.set Ar141 q141 S141 P141 H141 G141 (v := (.int (nar .byte ((xc >>> ((0 : Int32) &&& 31)).toInt8.toInt32)))) (fits_nar_byte _) W141 2 rfl (Nat.le_of_ble_eq_true rfl)
  have N141 := Fr.snoc X141 N0 g_bb
  have z142 : n0 ≤ h141.size := (Nat.le_trans Z0 (Keep.of_wr W141).1)
  have K143 : Keep h0 h141 [bb] := (Keep.refl h0 [bb]).wr W141 (Or.inl (List.mem_of_getElem? (i := 0) rfl))
  refine g_aload_n X141 hx 45 (hb hby d_jdk_52_method_4_44) rfl rfl rfl ?_
  refine g_iload_n X141 hx 46 (hb hby d_jdk_52_method_4_45) rfl rfl ?_
  refine g_iload_n X141 hx 47 (hb hby d_jdk_52_method_4_46) rfl rfl ?_
  have f144 : Sta Z h141 "java/lang/StringUTF16" "LO_BYTE_SHIFT" "I" (.int (8 : Int32)) := (Sta.wr W141 S_LO_BYTE_SHIFT)
  refine own_getS X141 hx hZ hown (host := "") (Or.inl (hw _ (List.mem_of_getElem? (i := 148) rfl))) Via.refl e141 f144 50 (hb hby d_jdk_52_method_4_47) rfl fun T145 X145 e145 => ?_
  refine g_ishr X145 hx 51 (hb hby d_jdk_52_method_4_50) rfl ?_
  refine g_i2b X145 hx 52 (hb hby d_jdk_52_method_4_51) rfl ?_
  obtain ⟨cl146, Ar146, q146, S146, P146, H146, G146⟩ := id V141
  have hin146 := inb_of (j := (3 : Int32)) S146 ⟨by decide, by decide⟩
  refine own_stB X145 hx hZ e145 Ar146 hin146 53 (hb hby d_jdk_52_method_4_52) rfl fun T146 h146 X146 e146 W146 => ?_
  have V146 : Arv Z h146 bb kb .byte (10 : Int32) [(.int y0), (.int y1), (.int (nar .byte ((xc >>> ((0 : Int32) &&& 31)).toInt8.toInt32))), (.int (nar .byte ((xc >>> ((8 : Int32) &&& 31)).toInt8.toInt32))), (.int y4), (.int y5), (.int y6), (.int y7), (.int y8), (.int y9)] (.int (0 : Int32)) := Arv.set Ar146 q146 S146 P146 H146 G146 (v := (.int (nar .byte ((xc >>> ((8 : Int32) &&& 31)).toInt8.toInt32)))) (fits_nar_byte _) W146 3 rfl (Nat.le_of_ble_eq_true rfl)
  have N146 := Fr.snoc X146 N141 g_bb
  have z147 : n0 ≤ h146.size := (Nat.le_trans z142 (Keep.of_wr W146).1)
  have K148 : Keep h0 h146 [bb] := K143.wr W146 (Or.inl (List.mem_of_getElem? (i := 0) rfl))
  refine own_retV X146 hx hlk hret (hb hby d_jdk_52_method_4_53) ?_ (by decide) (by decide)
  rw [e146]
  exact ⟨rfl, N146, K148, (own_arvL V146 (by rw [(by first | rfl | (simp []; done) : (own_h xc) = (nar .byte ((xc >>> ((0 : Int32) &&& 31)).toInt8.toInt32))), (by first | rfl | (simp []; done) : (own_l xc) = (nar .byte ((xc >>> ((8 : Int32) &&& 31)).toInt8.toInt32)))]))⟩
def Q_pch2 (Z : State) (bb : Addr) (kb : ClassId) (xc : Int32) (y0 : Int32) (y1 : Int32) (y2 : Int32) (y3 : Int32) (y4 : Int32) (y5 : Int32) (y6 : Int32) (y7 : Int32) (y8 : Int32) (y9 : Int32) (h0 : Heap) (n0 : Nat) (v : Option Value) (h : Heap) (L : List Loc) : Prop := v = none ∧ Fr n0 L ∧ Keep h0 h [bb] ∧ Arv Z h bb kb .byte (10 : Int32) [(.int y0), (.int y1), (.int y2), (.int y3), (.int (own_h xc)), (.int (own_l xc)), (.int y6), (.int y7), (.int y8), (.int y9)] (.int (0 : Int32))
set_option maxRecDepth 65536 in
set_option maxHeartbeats 40000000 in
theorem rm_pch2 (l : Launch) (Z : State) (a0 : Array Value) (hw : ∀ d ∈ tables_1, d.before a0 Z = true) (ws : List Jvm.Cond) (bb : Addr) (kb : ClassId) (xc : Int32) (y0 : Int32) (y1 : Int32) (y2 : Int32) (y3 : Int32) (y4 : Int32) (y5 : Int32) (y6 : Int32) (y7 : Int32) (y8 : Int32) (y9 : Int32) (h0 : Heap) (n0 : Nat) (Z0 : n0 ≤ h0.size) (V_bb : Arv Z h0 bb kb .byte (10 : Int32) [(.int y0), (.int y1), (.int y2), (.int y3), (.int y4), (.int y5), (.int y6), (.int y7), (.int y8), (.int y9)] (.int (0 : Int32))) (S__assertionsDisabled : Sta Z h0 "java/lang/StringUTF16" "$assertionsDisabled" "Z" (.int (1 : Int32))) (S_HI_BYTE_SHIFT : Sta Z h0 "java/lang/StringUTF16" "HI_BYTE_SHIFT" "I" (.int (0 : Int32))) (S_LO_BYTE_SHIFT : Sta Z h0 "java/lang/StringUTF16" "LO_BYTE_SHIFT" "I" (.int (8 : Int32))) (g_bb : n0 ≤ bb) :
    MetFree l (⟨"java/lang/StringUTF16", "putChar", "([BII)V"⟩ : MethodName) (head1 (Jvm.Cond.code (⟨"java/lang/StringUTF16", "putChar", "([BII)V"⟩ : MethodName) jdk_52_method_4_code 3 none :: ws) ({ frames := 0, cells := 0, slots := 0, locals := 0 } : Room)) (fun aA U => aA = #[(.ref bb), (.int (2 : Int32)), (.int xc)] ∧ Z.Warmed39 U.vm ∧ U.heap = h0) (fun _ _ _ _ _ => True) (fun _ U oO U' => ∃ vV LL, oO = .returned vV ∧ Q_pch2 Z bb kb xc y0 y1 y2 y3 y4 y5 y6 y7 y8 y9 h0 n0 vV U'.heap LL ∧ FrameEnd U oO U' LL ({ frames := 0, cells := 0, slots := 0, locals := 0 } : Room).cells ({ frames := 0, cells := 0, slots := 0, locals := 0 } : Room).slots) := by
  refine MetFree.of_bodySF (plainFor_of_name pn_2) hisR ?_
  intro p e s m args below meth c s₁ Bd hml0 hP hK
  obtain ⟨rfl, hZ, hh⟩ := hP
  have hx := Bd.exec
  have hby := Bd.bytes
  have hml : c.maxLocals = 3 := hml0
  have hown : s.vm.findClass "java/lang/StringUTF16" = some m.cls := findClass_of_methodNamed Bd.named
  have hnm := (name_of_methodNamed Bd.named Bd.method).1
  have X0 : Stand p l e ({ frames := 0, cells := 0, slots := 0, locals := 0 } : Room) s m #[(.ref bb), (.int (2 : Int32)), (.int xc)] below meth c s₁ [] 0 0 := Stand.of_body Bd
  have e0 : s₁.heap = h0 := by rw [← hh, Bd.state]; rfl
  have N0 := Fr.nil n0
  have hret := Bd.returns
  have hlk : meth.locks = false := Bd.notSynchronized
  refine own_start (ef_8 m bb (2 : Int32) xc) ?_
  show own_Go p e below s (Q_pch2 Z bb kb xc y0 y1 y2 y3 y4 y5 y6 y7 y8 y9 h0 n0) ({ frames := 0, cells := 0, slots := 0, locals := 0 } : Room).cells ({ frames := 0, cells := 0, slots := 0, locals := 0 } : Room).slots (s₁.setTop (mkF m 0 #[.val (.ref bb), .val (.int (2 : Int32)), .val (.int xc)] []))
  refine own_getS X0 hx hZ hown (host := "") (Or.inl (hw _ (List.mem_of_getElem? (i := 146) rfl))) Via.refl e0 S__assertionsDisabled 3 (hb hby d_jdk_52_method_4_0) rfl fun T149 X149 e149 => ?_
  refine g_ifYes X149 hx 28 (hb hby d_jdk_52_method_4_3) (own_i0_ne_t (by decide)) (by decide) (by decide) ?_
  refine g_iload_n X149 hx 29 (hb hby d_jdk_52_method_4_28) rfl rfl ?_
  refine g_iconst X149 hx 30 (hb hby d_jdk_52_method_4_29) (1 : Int32) rfl rfl ?_
  refine g_ishl X149 hx 31 (hb hby d_jdk_52_method_4_30) rfl ?_
  show own_GoE p e below _ (T149.setTop (mkF m 31 _ [(.int (4 : Int32))]))
  refine g_istore_n X149 hx 32 (hb hby d_jdk_52_method_4_31) (l' := #[.val (.ref bb), .val (.int (4 : Int32)), .val (.int xc)]) rfl rfl ?_
  refine g_aload_n X149 hx 33 (hb hby d_jdk_52_method_4_32) rfl rfl rfl ?_
  refine g_iload_n X149 hx 34 (hb hby d_jdk_52_method_4_33) rfl rfl ?_
  refine g_iinc X149 hx 37 (hb hby d_jdk_52_method_4_34) (z := (5 : Int32)) rfl rfl (l' := #[.val (.ref bb), .val (.int (5 : Int32)), .val (.int xc)]) rfl rfl ?_
  refine g_iload_n X149 hx 38 (hb hby d_jdk_52_method_4_37) rfl rfl ?_
  refine own_getS X149 hx hZ hown (host := "") (Or.inl (hw _ (List.mem_of_getElem? (i := 147) rfl))) Via.refl e149 S_HI_BYTE_SHIFT 41 (hb hby d_jdk_52_method_4_38) rfl fun T150 X150 e150 => ?_
  refine g_ishr X150 hx 42 (hb hby d_jdk_52_method_4_41) rfl ?_
  refine g_i2b X150 hx 43 (hb hby d_jdk_52_method_4_42) rfl ?_
  obtain ⟨cl151, Ar151, q151, S151, P151, H151, G151⟩ := id V_bb
  have hin151 := inb_of (j := (4 : Int32)) S151 ⟨by decide, by decide⟩
  refine own_stB X150 hx hZ e150 Ar151 hin151 44 (hb hby d_jdk_52_method_4_43) rfl fun T151 h151 X151 e151 W151 => ?_
  have V151 : Arv Z h151 bb kb .byte (10 : Int32) [(.int y0), (.int y1), (.int y2), (.int y3), (.int (nar .byte ((xc >>> ((0 : Int32) &&& 31)).toInt8.toInt32))), (.int y5), (.int y6), (.int y7), (.int y8), (.int y9)] (.int (0 : Int32)) := Arv.set Ar151 q151 S151 P151 H151 G151 (v := (.int (nar .byte ((xc >>> ((0 : Int32) &&& 31)).toInt8.toInt32)))) (fits_nar_byte _) W151 4 rfl (Nat.le_of_ble_eq_true rfl)
  have N151 := Fr.snoc X151 N0 g_bb
  have z152 : n0 ≤ h151.size := (Nat.le_trans Z0 (Keep.of_wr W151).1)
  have K153 : Keep h0 h151 [bb] := (Keep.refl h0 [bb]).wr W151 (Or.inl (List.mem_of_getElem? (i := 0) rfl))
  refine g_aload_n X151 hx 45 (hb hby d_jdk_52_method_4_44) rfl rfl rfl ?_
  refine g_iload_n X151 hx 46 (hb hby d_jdk_52_method_4_45) rfl rfl ?_
  refine g_iload_n X151 hx 47 (hb hby d_jdk_52_method_4_46) rfl rfl ?_
  have f154 : Sta Z h151 "java/lang/StringUTF16" "LO_BYTE_SHIFT" "I" (.int (8 : Int32)) := (Sta.wr W151 S_LO_BYTE_SHIFT)
  refine own_getS X151 hx hZ hown (host := "") (Or.inl (hw _ (List.mem_of_getElem? (i := 148) rfl))) Via.refl e151 f154 50 (hb hby d_jdk_52_method_4_47) rfl fun T155 X155 e155 => ?_
  refine g_ishr X155 hx 51 (hb hby d_jdk_52_method_4_50) rfl ?_
  refine g_i2b X155 hx 52 (hb hby d_jdk_52_method_4_51) rfl ?_
  obtain ⟨cl156, Ar156, q156, S156, P156, H156, G156⟩ := id V151
  have hin156 := inb_of (j := (5 : Int32)) S156 ⟨by decide, by decide⟩
  refine own_stB X155 hx hZ e155 Ar156 hin156 53 (hb hby d_jdk_52_method_4_52) rfl fun T156 h156 X156 e156 W156 => ?_
  have V156 : Arv Z h156 bb kb .byte (10 : Int32) [(.int y0), (.int y1), (.int y2), (.int y3), (.int (nar .byte ((xc >>> ((0 : Int32) &&& 31)).toInt8.toInt32))), (.int (nar .byte ((xc >>> ((8 : Int32) &&& 31)).toInt8.toInt32))), (.int y6), (.int y7), (.int y8), (.int y9)] (.int (0 : Int32)) := Arv.set Ar156 q156 S156 P156 H156 G156 (v := (.int (nar .byte ((xc >>> ((8 : Int32) &&& 31)).toInt8.toInt32)))) (fits_nar_byte _) W156 5 rfl (Nat.le_of_ble_eq_true rfl)
  have N156 := Fr.snoc X156 N151 g_bb
  have z157 : n0 ≤ h156.size := (Nat.le_trans z152 (Keep.of_wr W156).1)
  have K158 : Keep h0 h156 [bb] := K153.wr W156 (Or.inl (List.mem_of_getElem? (i := 0) rfl))
  refine own_retV X156 hx hlk hret (hb hby d_jdk_52_method_4_53) ?_ (by decide) (by decide)
  rw [e156]
  exact ⟨rfl, N156, K158, (own_arvL V156 (by rw [(by first | rfl | (simp []; done) : (own_h xc) = (nar .byte ((xc >>> ((0 : Int32) &&& 31)).toInt8.toInt32))), (by first | rfl | (simp []; done) : (own_l xc) = (nar .byte ((xc >>> ((8 : Int32) &&& 31)).toInt8.toInt32)))]))⟩
def Q_pch3 (Z : State) (bb : Addr) (kb : ClassId) (xc : Int32) (y0 : Int32) (y1 : Int32) (y2 : Int32) (y3 : Int32) (y4 : Int32) (y5 : Int32) (y6 : Int32) (y7 : Int32) (y8 : Int32) (y9 : Int32) (h0 : Heap) (n0 : Nat) (v : Option Value) (h : Heap) (L : List Loc) : Prop := v = none ∧ Fr n0 L ∧ Keep h0 h [bb] ∧ Arv Z h bb kb .byte (10 : Int32) [(.int y0), (.int y1), (.int y2), (.int y3), (.int y4), (.int y5), (.int (own_h xc)), (.int (own_l xc)), (.int y8), (.int y9)] (.int (0 : Int32))
set_option maxRecDepth 65536 in
set_option maxHeartbeats 40000000 in
theorem rm_pch3 (l : Launch) (Z : State) (a0 : Array Value) (hw : ∀ d ∈ tables_1, d.before a0 Z = true) (ws : List Jvm.Cond) (bb : Addr) (kb : ClassId) (xc : Int32) (y0 : Int32) (y1 : Int32) (y2 : Int32) (y3 : Int32) (y4 : Int32) (y5 : Int32) (y6 : Int32) (y7 : Int32) (y8 : Int32) (y9 : Int32) (h0 : Heap) (n0 : Nat) (Z0 : n0 ≤ h0.size) (V_bb : Arv Z h0 bb kb .byte (10 : Int32) [(.int y0), (.int y1), (.int y2), (.int y3), (.int y4), (.int y5), (.int y6), (.int y7), (.int y8), (.int y9)] (.int (0 : Int32))) (S__assertionsDisabled : Sta Z h0 "java/lang/StringUTF16" "$assertionsDisabled" "Z" (.int (1 : Int32))) (S_HI_BYTE_SHIFT : Sta Z h0 "java/lang/StringUTF16" "HI_BYTE_SHIFT" "I" (.int (0 : Int32))) (S_LO_BYTE_SHIFT : Sta Z h0 "java/lang/StringUTF16" "LO_BYTE_SHIFT" "I" (.int (8 : Int32))) (g_bb : n0 ≤ bb) :
    MetFree l (⟨"java/lang/StringUTF16", "putChar", "([BII)V"⟩ : MethodName) (head1 (Jvm.Cond.code (⟨"java/lang/StringUTF16", "putChar", "([BII)V"⟩ : MethodName) jdk_52_method_4_code 3 none :: ws) ({ frames := 0, cells := 0, slots := 0, locals := 0 } : Room)) (fun aA U => aA = #[(.ref bb), (.int (3 : Int32)), (.int xc)] ∧ Z.Warmed39 U.vm ∧ U.heap = h0) (fun _ _ _ _ _ => True) (fun _ U oO U' => ∃ vV LL, oO = .returned vV ∧ Q_pch3 Z bb kb xc y0 y1 y2 y3 y4 y5 y6 y7 y8 y9 h0 n0 vV U'.heap LL ∧ FrameEnd U oO U' LL ({ frames := 0, cells := 0, slots := 0, locals := 0 } : Room).cells ({ frames := 0, cells := 0, slots := 0, locals := 0 } : Room).slots) := by
  refine MetFree.of_bodySF (plainFor_of_name pn_2) hisR ?_
  intro p e s m args below meth c s₁ Bd hml0 hP hK
  obtain ⟨rfl, hZ, hh⟩ := hP
  have hx := Bd.exec
  have hby := Bd.bytes
  have hml : c.maxLocals = 3 := hml0
  have hown : s.vm.findClass "java/lang/StringUTF16" = some m.cls := findClass_of_methodNamed Bd.named
  have hnm := (name_of_methodNamed Bd.named Bd.method).1
  have X0 : Stand p l e ({ frames := 0, cells := 0, slots := 0, locals := 0 } : Room) s m #[(.ref bb), (.int (3 : Int32)), (.int xc)] below meth c s₁ [] 0 0 := Stand.of_body Bd
  have e0 : s₁.heap = h0 := by rw [← hh, Bd.state]; rfl
  have N0 := Fr.nil n0
  have hret := Bd.returns
  have hlk : meth.locks = false := Bd.notSynchronized
  refine own_start (ef_8 m bb (3 : Int32) xc) ?_
  show own_Go p e below s (Q_pch3 Z bb kb xc y0 y1 y2 y3 y4 y5 y6 y7 y8 y9 h0 n0) ({ frames := 0, cells := 0, slots := 0, locals := 0 } : Room).cells ({ frames := 0, cells := 0, slots := 0, locals := 0 } : Room).slots (s₁.setTop (mkF m 0 #[.val (.ref bb), .val (.int (3 : Int32)), .val (.int xc)] []))
  refine own_getS X0 hx hZ hown (host := "") (Or.inl (hw _ (List.mem_of_getElem? (i := 146) rfl))) Via.refl e0 S__assertionsDisabled 3 (hb hby d_jdk_52_method_4_0) rfl fun T159 X159 e159 => ?_
  refine g_ifYes X159 hx 28 (hb hby d_jdk_52_method_4_3) (own_i0_ne_t (by decide)) (by decide) (by decide) ?_
  refine g_iload_n X159 hx 29 (hb hby d_jdk_52_method_4_28) rfl rfl ?_
  refine g_iconst X159 hx 30 (hb hby d_jdk_52_method_4_29) (1 : Int32) rfl rfl ?_
  refine g_ishl X159 hx 31 (hb hby d_jdk_52_method_4_30) rfl ?_
  show own_GoE p e below _ (T159.setTop (mkF m 31 _ [(.int (6 : Int32))]))
  refine g_istore_n X159 hx 32 (hb hby d_jdk_52_method_4_31) (l' := #[.val (.ref bb), .val (.int (6 : Int32)), .val (.int xc)]) rfl rfl ?_
  refine g_aload_n X159 hx 33 (hb hby d_jdk_52_method_4_32) rfl rfl rfl ?_
  refine g_iload_n X159 hx 34 (hb hby d_jdk_52_method_4_33) rfl rfl ?_
  refine g_iinc X159 hx 37 (hb hby d_jdk_52_method_4_34) (z := (7 : Int32)) rfl rfl (l' := #[.val (.ref bb), .val (.int (7 : Int32)), .val (.int xc)]) rfl rfl ?_
  refine g_iload_n X159 hx 38 (hb hby d_jdk_52_method_4_37) rfl rfl ?_
  refine own_getS X159 hx hZ hown (host := "") (Or.inl (hw _ (List.mem_of_getElem? (i := 147) rfl))) Via.refl e159 S_HI_BYTE_SHIFT 41 (hb hby d_jdk_52_method_4_38) rfl fun T160 X160 e160 => ?_
  refine g_ishr X160 hx 42 (hb hby d_jdk_52_method_4_41) rfl ?_
  refine g_i2b X160 hx 43 (hb hby d_jdk_52_method_4_42) rfl ?_
  obtain ⟨cl161, Ar161, q161, S161, P161, H161, G161⟩ := id V_bb
  have hin161 := inb_of (j := (6 : Int32)) S161 ⟨by decide, by decide⟩
  refine own_stB X160 hx hZ e160 Ar161 hin161 44 (hb hby d_jdk_52_method_4_43) rfl fun T161 h161 X161 e161 W161 => ?_
  have V161 : Arv Z h161 bb kb .byte (10 : Int32) [(.int y0), (.int y1), (.int y2), (.int y3), (.int y4), (.int y5), (.int (nar .byte ((xc >>> ((0 : Int32) &&& 31)).toInt8.toInt32))), (.int y7), (.int y8), (.int y9)] (.int (0 : Int32)) := Arv.set Ar161 q161 S161 P161 H161 G161 (v := (.int (nar .byte ((xc >>> ((0 : Int32) &&& 31)).toInt8.toInt32)))) (fits_nar_byte _) W161 6 rfl (Nat.le_of_ble_eq_true rfl)
  have N161 := Fr.snoc X161 N0 g_bb
  have z162 : n0 ≤ h161.size := (Nat.le_trans Z0 (Keep.of_wr W161).1)
  have K163 : Keep h0 h161 [bb] := (Keep.refl h0 [bb]).wr W161 (Or.inl (List.mem_of_getElem? (i := 0) rfl))
  refine g_aload_n X161 hx 45 (hb hby d_jdk_52_method_4_44) rfl rfl rfl ?_
  refine g_iload_n X161 hx 46 (hb hby d_jdk_52_method_4_45) rfl rfl ?_
  refine g_iload_n X161 hx 47 (hb hby d_jdk_52_method_4_46) rfl rfl ?_
  have f164 : Sta Z h161 "java/lang/StringUTF16" "LO_BYTE_SHIFT" "I" (.int (8 : Int32)) := (Sta.wr W161 S_LO_BYTE_SHIFT)
  refine own_getS X161 hx hZ hown (host := "") (Or.inl (hw _ (List.mem_of_getElem? (i := 148) rfl))) Via.refl e161 f164 50 (hb hby d_jdk_52_method_4_47) rfl fun T165 X165 e165 => ?_
  refine g_ishr X165 hx 51 (hb hby d_jdk_52_method_4_50) rfl ?_
  refine g_i2b X165 hx 52 (hb hby d_jdk_52_method_4_51) rfl ?_
  obtain ⟨cl166, Ar166, q166, S166, P166, H166, G166⟩ := id V161
  have hin166 := inb_of (j := (7 : Int32)) S166 ⟨by decide, by decide⟩
  refine own_stB X165 hx hZ e165 Ar166 hin166 53 (hb hby d_jdk_52_method_4_52) rfl fun T166 h166 X166 e166 W166 => ?_
  have V166 : Arv Z h166 bb kb .byte (10 : Int32) [(.int y0), (.int y1), (.int y2), (.int y3), (.int y4), (.int y5), (.int (nar .byte ((xc >>> ((0 : Int32) &&& 31)).toInt8.toInt32))), (.int (nar .byte ((xc >>> ((8 : Int32) &&& 31)).toInt8.toInt32))), (.int y8), (.int y9)] (.int (0 : Int32)) := Arv.set Ar166 q166 S166 P166 H166 G166 (v := (.int (nar .byte ((xc >>> ((8 : Int32) &&& 31)).toInt8.toInt32)))) (fits_nar_byte _) W166 7 rfl (Nat.le_of_ble_eq_true rfl)
  have N166 := Fr.snoc X166 N161 g_bb
  have z167 : n0 ≤ h166.size := (Nat.le_trans z162 (Keep.of_wr W166).1)
  have K168 : Keep h0 h166 [bb] := K163.wr W166 (Or.inl (List.mem_of_getElem? (i := 0) rfl))
  refine own_retV X166 hx hlk hret (hb hby d_jdk_52_method_4_53) ?_ (by decide) (by decide)
  rw [e166]
  exact ⟨rfl, N166, K168, (own_arvL V166 (by rw [(by first | rfl | (simp []; done) : (own_h xc) = (nar .byte ((xc >>> ((0 : Int32) &&& 31)).toInt8.toInt32))), (by first | rfl | (simp []; done) : (own_l xc) = (nar .byte ((xc >>> ((8 : Int32) &&& 31)).toInt8.toInt32)))]))⟩
def Q_pch4 (Z : State) (bb : Addr) (kb : ClassId) (xc : Int32) (y0 : Int32) (y1 : Int32) (y2 : Int32) (y3 : Int32) (y4 : Int32) (y5 : Int32) (y6 : Int32) (y7 : Int32) (y8 : Int32) (y9 : Int32) (h0 : Heap) (n0 : Nat) (v : Option Value) (h : Heap) (L : List Loc) : Prop := v = none ∧ Fr n0 L ∧ Keep h0 h [bb] ∧ Arv Z h bb kb .byte (10 : Int32) [(.int y0), (.int y1), (.int y2), (.int y3), (.int y4), (.int y5), (.int y6), (.int y7), (.int (own_h xc)), (.int (own_l xc))] (.int (0 : Int32))
set_option maxRecDepth 65536 in
set_option maxHeartbeats 40000000 in
theorem rm_pch4 (l : Launch) (Z : State) (a0 : Array Value) (hw : ∀ d ∈ tables_1, d.before a0 Z = true) (ws : List Jvm.Cond) (bb : Addr) (kb : ClassId) (xc : Int32) (y0 : Int32) (y1 : Int32) (y2 : Int32) (y3 : Int32) (y4 : Int32) (y5 : Int32) (y6 : Int32) (y7 : Int32) (y8 : Int32) (y9 : Int32) (h0 : Heap) (n0 : Nat) (Z0 : n0 ≤ h0.size) (V_bb : Arv Z h0 bb kb .byte (10 : Int32) [(.int y0), (.int y1), (.int y2), (.int y3), (.int y4), (.int y5), (.int y6), (.int y7), (.int y8), (.int y9)] (.int (0 : Int32))) (S__assertionsDisabled : Sta Z h0 "java/lang/StringUTF16" "$assertionsDisabled" "Z" (.int (1 : Int32))) (S_HI_BYTE_SHIFT : Sta Z h0 "java/lang/StringUTF16" "HI_BYTE_SHIFT" "I" (.int (0 : Int32))) (S_LO_BYTE_SHIFT : Sta Z h0 "java/lang/StringUTF16" "LO_BYTE_SHIFT" "I" (.int (8 : Int32))) (g_bb : n0 ≤ bb) :
    MetFree l (⟨"java/lang/StringUTF16", "putChar", "([BII)V"⟩ : MethodName) (head1 (Jvm.Cond.code (⟨"java/lang/StringUTF16", "putChar", "([BII)V"⟩ : MethodName) jdk_52_method_4_code 3 none :: ws) ({ frames := 0, cells := 0, slots := 0, locals := 0 } : Room)) (fun aA U => aA = #[(.ref bb), (.int (4 : Int32)), (.int xc)] ∧ Z.Warmed39 U.vm ∧ U.heap = h0) (fun _ _ _ _ _ => True) (fun _ U oO U' => ∃ vV LL, oO = .returned vV ∧ Q_pch4 Z bb kb xc y0 y1 y2 y3 y4 y5 y6 y7 y8 y9 h0 n0 vV U'.heap LL ∧ FrameEnd U oO U' LL ({ frames := 0, cells := 0, slots := 0, locals := 0 } : Room).cells ({ frames := 0, cells := 0, slots := 0, locals := 0 } : Room).slots) := by
  refine MetFree.of_bodySF (plainFor_of_name pn_2) hisR ?_
  intro p e s m args below meth c s₁ Bd hml0 hP hK
  obtain ⟨rfl, hZ, hh⟩ := hP
  have hx := Bd.exec
  have hby := Bd.bytes
  have hml : c.maxLocals = 3 := hml0
  have hown : s.vm.findClass "java/lang/StringUTF16" = some m.cls := findClass_of_methodNamed Bd.named
  have hnm := (name_of_methodNamed Bd.named Bd.method).1
  have X0 : Stand p l e ({ frames := 0, cells := 0, slots := 0, locals := 0 } : Room) s m #[(.ref bb), (.int (4 : Int32)), (.int xc)] below meth c s₁ [] 0 0 := Stand.of_body Bd
  have e0 : s₁.heap = h0 := by rw [← hh, Bd.state]; rfl
  have N0 := Fr.nil n0
  have hret := Bd.returns
  have hlk : meth.locks = false := Bd.notSynchronized
  refine own_start (ef_8 m bb (4 : Int32) xc) ?_
  show own_Go p e below s (Q_pch4 Z bb kb xc y0 y1 y2 y3 y4 y5 y6 y7 y8 y9 h0 n0) ({ frames := 0, cells := 0, slots := 0, locals := 0 } : Room).cells ({ frames := 0, cells := 0, slots := 0, locals := 0 } : Room).slots (s₁.setTop (mkF m 0 #[.val (.ref bb), .val (.int (4 : Int32)), .val (.int xc)] []))
  refine own_getS X0 hx hZ hown (host := "") (Or.inl (hw _ (List.mem_of_getElem? (i := 146) rfl))) Via.refl e0 S__assertionsDisabled 3 (hb hby d_jdk_52_method_4_0) rfl fun T169 X169 e169 => ?_
  refine g_ifYes X169 hx 28 (hb hby d_jdk_52_method_4_3) (own_i0_ne_t (by decide)) (by decide) (by decide) ?_
  refine g_iload_n X169 hx 29 (hb hby d_jdk_52_method_4_28) rfl rfl ?_
  refine g_iconst X169 hx 30 (hb hby d_jdk_52_method_4_29) (1 : Int32) rfl rfl ?_
  refine g_ishl X169 hx 31 (hb hby d_jdk_52_method_4_30) rfl ?_
  show own_GoE p e below _ (T169.setTop (mkF m 31 _ [(.int (8 : Int32))]))
  refine g_istore_n X169 hx 32 (hb hby d_jdk_52_method_4_31) (l' := #[.val (.ref bb), .val (.int (8 : Int32)), .val (.int xc)]) rfl rfl ?_
  refine g_aload_n X169 hx 33 (hb hby d_jdk_52_method_4_32) rfl rfl rfl ?_
  refine g_iload_n X169 hx 34 (hb hby d_jdk_52_method_4_33) rfl rfl ?_
  refine g_iinc X169 hx 37 (hb hby d_jdk_52_method_4_34) (z := (9 : Int32)) rfl rfl (l' := #[.val (.ref bb), .val (.int (9 : Int32)), .val (.int xc)]) rfl rfl ?_
  refine g_iload_n X169 hx 38 (hb hby d_jdk_52_method_4_37) rfl rfl ?_
  refine own_getS X169 hx hZ hown (host := "") (Or.inl (hw _ (List.mem_of_getElem? (i := 147) rfl))) Via.refl e169 S_HI_BYTE_SHIFT 41 (hb hby d_jdk_52_method_4_38) rfl fun T170 X170 e170 => ?_
  refine g_ishr X170 hx 42 (hb hby d_jdk_52_method_4_41) rfl ?_
  refine g_i2b X170 hx 43 (hb hby d_jdk_52_method_4_42) rfl ?_
  obtain ⟨cl171, Ar171, q171, S171, P171, H171, G171⟩ := id V_bb
  have hin171 := inb_of (j := (8 : Int32)) S171 ⟨by decide, by decide⟩
  refine own_stB X170 hx hZ e170 Ar171 hin171 44 (hb hby d_jdk_52_method_4_43) rfl fun T171 h171 X171 e171 W171 => ?_
  have V171 : Arv Z h171 bb kb .byte (10 : Int32) [(.int y0), (.int y1), (.int y2), (.int y3), (.int y4), (.int y5), (.int y6), (.int y7), (.int (nar .byte ((xc >>> ((0 : Int32) &&& 31)).toInt8.toInt32))), (.int y9)] (.int (0 : Int32)) := Arv.set Ar171 q171 S171 P171 H171 G171 (v := (.int (nar .byte ((xc >>> ((0 : Int32) &&& 31)).toInt8.toInt32)))) (fits_nar_byte _) W171 8 rfl (Nat.le_of_ble_eq_true rfl)
  have N171 := Fr.snoc X171 N0 g_bb
  have z172 : n0 ≤ h171.size := (Nat.le_trans Z0 (Keep.of_wr W171).1)
  have K173 : Keep h0 h171 [bb] := (Keep.refl h0 [bb]).wr W171 (Or.inl (List.mem_of_getElem? (i := 0) rfl))
  refine g_aload_n X171 hx 45 (hb hby d_jdk_52_method_4_44) rfl rfl rfl ?_
  refine g_iload_n X171 hx 46 (hb hby d_jdk_52_method_4_45) rfl rfl ?_
  refine g_iload_n X171 hx 47 (hb hby d_jdk_52_method_4_46) rfl rfl ?_
  have f174 : Sta Z h171 "java/lang/StringUTF16" "LO_BYTE_SHIFT" "I" (.int (8 : Int32)) := (Sta.wr W171 S_LO_BYTE_SHIFT)
  refine own_getS X171 hx hZ hown (host := "") (Or.inl (hw _ (List.mem_of_getElem? (i := 148) rfl))) Via.refl e171 f174 50 (hb hby d_jdk_52_method_4_47) rfl fun T175 X175 e175 => ?_
  refine g_ishr X175 hx 51 (hb hby d_jdk_52_method_4_50) rfl ?_
  refine g_i2b X175 hx 52 (hb hby d_jdk_52_method_4_51) rfl ?_
  obtain ⟨cl176, Ar176, q176, S176, P176, H176, G176⟩ := id V171
  have hin176 := inb_of (j := (9 : Int32)) S176 ⟨by decide, by decide⟩
  refine own_stB X175 hx hZ e175 Ar176 hin176 53 (hb hby d_jdk_52_method_4_52) rfl fun T176 h176 X176 e176 W176 => ?_
  have V176 : Arv Z h176 bb kb .byte (10 : Int32) [(.int y0), (.int y1), (.int y2), (.int y3), (.int y4), (.int y5), (.int y6), (.int y7), (.int (nar .byte ((xc >>> ((0 : Int32) &&& 31)).toInt8.toInt32))), (.int (nar .byte ((xc >>> ((8 : Int32) &&& 31)).toInt8.toInt32)))] (.int (0 : Int32)) := Arv.set Ar176 q176 S176 P176 H176 G176 (v := (.int (nar .byte ((xc >>> ((8 : Int32) &&& 31)).toInt8.toInt32)))) (fits_nar_byte _) W176 9 rfl (Nat.le_of_ble_eq_true rfl)
  have N176 := Fr.snoc X176 N171 g_bb
  have z177 : n0 ≤ h176.size := (Nat.le_trans z172 (Keep.of_wr W176).1)
  have K178 : Keep h0 h176 [bb] := K173.wr W176 (Or.inl (List.mem_of_getElem? (i := 0) rfl))
  refine own_retV X176 hx hlk hret (hb hby d_jdk_52_method_4_53) ?_ (by decide) (by decide)
  rw [e176]
  exact ⟨rfl, N176, K178, (own_arvL V176 (by rw [(by first | rfl | (simp []; done) : (own_h xc) = (nar .byte ((xc >>> ((0 : Int32) &&& 31)).toInt8.toInt32))), (by first | rfl | (simp []; done) : (own_l xc) = (nar .byte ((xc >>> ((8 : Int32) &&& 31)).toInt8.toInt32)))]))⟩
theorem d_jdk_52_method_14_0 : decode jdk_52_method_14_code 0 = .ok (.iload_n 2, 1) := by decide +kernel
theorem d_jdk_52_method_14_1 : decode jdk_52_method_14_code 1 = .ok (.invokestatic 107, 3) := by decide +kernel
theorem pd_11 : parseMethodDescriptor "(I)[B" = some ⟨[.int], some (.array .byte)⟩ := by decide +kernel
theorem d_jdk_52_method_14_4 : decode jdk_52_method_14_code 4 = .ok (.astore_n 3, 1) := by decide +kernel
theorem d_jdk_52_method_14_5 : decode jdk_52_method_14_code 5 = .ok (.iconst 0, 1) := by decide +kernel
theorem d_jdk_52_method_14_6 : decode jdk_52_method_14_code 6 = .ok (.istore 4, 2) := by decide +kernel
theorem d_jdk_52_method_14_8 : decode jdk_52_method_14_code 8 = .ok (.iload 4, 2) := by decide +kernel
theorem d_jdk_52_method_14_10 : decode jdk_52_method_14_code 10 = .ok (.iload_n 2, 1) := by decide +kernel
theorem d_jdk_52_method_14_11 : decode jdk_52_method_14_code 11 = .ok (.if_icmp .ge 21, 3) := by decide +kernel
theorem d_jdk_52_method_14_14 : decode jdk_52_method_14_code 14 = .ok (.aload_n 3, 1) := by decide +kernel
theorem d_jdk_52_method_14_15 : decode jdk_52_method_14_code 15 = .ok (.iload 4, 2) := by decide +kernel
theorem d_jdk_52_method_14_17 : decode jdk_52_method_14_code 17 = .ok (.aload_n 0, 1) := by decide +kernel
theorem d_jdk_52_method_14_18 : decode jdk_52_method_14_code 18 = .ok (.iload_n 1, 1) := by decide +kernel
theorem d_jdk_52_method_14_19 : decode jdk_52_method_14_code 19 = .ok (.caload, 1) := by decide +kernel
theorem d_jdk_52_method_14_20 : decode jdk_52_method_14_code 20 = .ok (.invokestatic 111, 3) := by decide +kernel
theorem pd_12 : parseMethodDescriptor "([BII)V" = some ⟨[(.array .byte), .int, .int], none⟩ := by decide +kernel
theorem d_jdk_52_method_14_23 : decode jdk_52_method_14_code 23 = .ok (.iinc 1 1, 3) := by decide +kernel
theorem d_jdk_52_method_14_26 : decode jdk_52_method_14_code 26 = .ok (.iinc 4 1, 3) := by decide +kernel
theorem d_jdk_52_method_14_29 : decode jdk_52_method_14_code 29 = .ok (.goto (-21), 3) := by decide +kernel
theorem d_jdk_52_method_14_32 : decode jdk_52_method_14_code 32 = .ok (.aload_n 3, 1) := by decide +kernel
theorem d_jdk_52_method_14_33 : decode jdk_52_method_14_code 33 = .ok (.areturn, 1) := by decide +kernel
def Q_tby (Z : State) (ca : Addr) (kc : ClassId) (x0 : Int32) (x1 : Int32) (x2 : Int32) (x3 : Int32) (x4 : Int32) (h0 : Heap) (n0 : Nat) (v : Option Value) (h : Heap) (L : List Loc) : Prop := ∃ vb : Addr, ∃ kv : ClassId, v = some (.ref vb) ∧ Fr n0 L ∧ Keep h0 h [] ∧ n0 ≤ vb ∧ h0.size ≤ vb ∧ Arv Z h vb kv .byte (10 : Int32) [(.int (own_h x0)), (.int (own_l x0)), (.int (own_h x1)), (.int (own_l x1)), (.int (own_h x2)), (.int (own_l x2)), (.int (own_h x3)), (.int (own_l x3)), (.int (own_h x4)), (.int (own_l x4))] (.int (0 : Int32))
set_option maxRecDepth 65536 in
set_option maxHeartbeats 40000000 in
theorem rm_tby (l : Launch) (Z : State) (a0 : Array Value) (hw : ∀ d ∈ tables_1, d.before a0 Z = true) (ws : List Jvm.Cond) (ca : Addr) (kc : ClassId) (x0 : Int32) (x1 : Int32) (x2 : Int32) (x3 : Int32) (x4 : Int32) (h0 : Heap) (n0 : Nat) (Z0 : n0 ≤ h0.size) (V_ca : Arv Z h0 ca kc .char (5 : Int32) [(.int x0), (.int x1), (.int x2), (.int x3), (.int x4)] (.int (0 : Int32))) (S__assertionsDisabled : Sta Z h0 "java/lang/StringUTF16" "$assertionsDisabled" "Z" (.int (1 : Int32))) (S_HI_BYTE_SHIFT : Sta Z h0 "java/lang/StringUTF16" "HI_BYTE_SHIFT" "I" (.int (0 : Int32))) (S_LO_BYTE_SHIFT : Sta Z h0 "java/lang/StringUTF16" "LO_BYTE_SHIFT" "I" (.int (8 : Int32))) :
    MetFree l (⟨"java/lang/StringUTF16", "toBytes", "([CII)[B"⟩ : MethodName) (head1 (Jvm.Cond.code (⟨"java/lang/StringUTF16", "toBytes", "([CII)[B"⟩ : MethodName) jdk_52_method_14_code 5 (some (.array .byte)) :: ws) ({ frames := 2, cells := 1, slots := 10, locals := 24 } : Room)) (fun aA U => aA = #[(.ref ca), (.int (0 : Int32)), (.int (5 : Int32))] ∧ Z.Warmed39 U.vm ∧ U.heap = h0) (fun _ _ _ _ _ => True) (fun _ U oO U' => ∃ vV LL, oO = .returned vV ∧ Q_tby Z ca kc x0 x1 x2 x3 x4 h0 n0 vV U'.heap LL ∧ FrameEnd U oO U' LL ({ frames := 2, cells := 1, slots := 10, locals := 24 } : Room).cells ({ frames := 2, cells := 1, slots := 10, locals := 24 } : Room).slots) := by
  refine MetFree.of_bodySF (plainFor_of_name pn_2) hisR ?_
  intro p e s m args below meth c s₁ Bd hml0 hP hK
  obtain ⟨rfl, hZ, hh⟩ := hP
  have hx := Bd.exec
  have hby := Bd.bytes
  have hml : c.maxLocals = 5 := hml0
  have hown : s.vm.findClass "java/lang/StringUTF16" = some m.cls := findClass_of_methodNamed Bd.named
  have hnm := (name_of_methodNamed Bd.named Bd.method).1
  have X0 : Stand p l e ({ frames := 2, cells := 1, slots := 10, locals := 24 } : Room) s m #[(.ref ca), (.int (0 : Int32)), (.int (5 : Int32))] below meth c s₁ [] 0 0 := Stand.of_body Bd
  have e0 : s₁.heap = h0 := by rw [← hh, Bd.state]; rfl
  have N0 := Fr.nil n0
  have hret := Bd.returns
  have hlk : meth.locks = false := Bd.notSynchronized
  refine own_start (ef_7 m ca (0 : Int32) (5 : Int32)) ?_
  show own_Go p e below s (Q_tby Z ca kc x0 x1 x2 x3 x4 h0 n0) ({ frames := 2, cells := 1, slots := 10, locals := 24 } : Room).cells ({ frames := 2, cells := 1, slots := 10, locals := 24 } : Room).slots (s₁.setTop (mkF m 0 #[.val (.ref ca), .val (.int (0 : Int32)), .val (.int (5 : Int32)), .unset, .unset] []))
  refine g_iload_n X0 hx 1 (hb hby d_jdk_52_method_14_0) rfl rfl ?_
  refine own_callS X0 hx hZ hown (hw _ (List.mem_of_getElem? (i := 136) rfl)) (hw _ (List.mem_of_getElem? (i := 137) rfl)) (by decide) (rm_nbf l Z a0 hw []  h0 n0 Z0 ) (hw _ (List.mem_of_getElem? (i := 138) rfl)) (hw _ (List.mem_of_getElem? (i := 21) rfl)) e0 0 (by decide) (by decide) (by decide) (by decide) [(.int (5 : Int32))] [] rfl pd_11 rfl 4 rfl (by rw [hml]; rfl) rfl (hb hby d_jdk_52_method_14_1) rfl fun T179 v179 L179 X179 hQ179 => ?_
  obtain ⟨vb_179, kv_179, rfl, Nq179, Kq179, g_vb_179, sz_vb_179, v179_0⟩ := hQ179
  have ne180 : ca ≠ vb_179 := Nat.ne_of_lt (Nat.lt_of_lt_of_le V_ca.lt sz_vb_179)
  have N179 := Fr.app N0 Nq179
  have sq_vb_179 : h0.size ≤ vb_179 := Nat.le_trans (Keep.refl h0 []).1 sz_vb_179
  have K181 : Keep h0 T179.heap [] := (Keep.refl h0 []).trans Kq179 all0
  have z182 : n0 ≤ T179.heap.size := (Nat.le_trans Z0 Kq179.1)
  show own_GoE p e below _ (T179.setTop (mkF m 4 _ [(.ref vb_179)]))
  refine g_astore_n X179 hx 5 (hb hby d_jdk_52_method_14_4) rfl (l' := #[.val (.ref ca), .val (.int (0 : Int32)), .val (.int (5 : Int32)), .val (.ref vb_179), .unset]) rfl rfl ?_
  refine g_iconst X179 hx 6 (hb hby d_jdk_52_method_14_5) (0 : Int32) rfl rfl ?_
  refine g_istore X179 hx 8 (hb hby d_jdk_52_method_14_6) (l' := #[.val (.ref ca), .val (.int (0 : Int32)), .val (.int (5 : Int32)), .val (.ref vb_179), .val (.int (0 : Int32))]) rfl rfl ?_
  refine g_iload X179 hx 10 (hb hby d_jdk_52_method_14_8) rfl rfl ?_
  refine g_iload_n X179 hx 11 (hb hby d_jdk_52_method_14_10) rfl rfl ?_
  refine g_icmpNo X179 hx 14 (hb hby d_jdk_52_method_14_11) (own_ii_ge_f (by decide)) rfl ?_
  refine g_aload_n X179 hx 15 (hb hby d_jdk_52_method_14_14) rfl rfl rfl ?_
  refine g_iload X179 hx 17 (hb hby d_jdk_52_method_14_15) rfl rfl ?_
  refine g_aload_n X179 hx 18 (hb hby d_jdk_52_method_14_17) rfl rfl rfl ?_
  refine g_iload_n X179 hx 19 (hb hby d_jdk_52_method_14_18) rfl rfl ?_
  have f183 : Arv Z T179.heap ca kc .char (5 : Int32) [(.int x0), (.int x1), (.int x2), (.int x3), (.int x4)] (.int (0 : Int32)) := (V_ca.keep K181 nin0)
  obtain ⟨cl184, Ar184, q184, S184, P184, H184, G184⟩ := id f183
  have hin184 := inb_of (j := (0 : Int32)) S184 ⟨by decide, by decide⟩
  refine own_caload X179 hx hZ rfl Ar184 (v := (.int x0)) hin184 (Has.at H184 hin184 rfl) 20 (hb hby d_jdk_52_method_14_19) rfl ?_
  have f186 : Sta Z T179.heap "java/lang/StringUTF16" "$assertionsDisabled" "Z" (.int (1 : Int32)) := (own_Sta_keep K181 S__assertionsDisabled all0)
  have f187 : Sta Z T179.heap "java/lang/StringUTF16" "HI_BYTE_SHIFT" "I" (.int (0 : Int32)) := (own_Sta_keep K181 S_HI_BYTE_SHIFT all0)
  have f188 : Sta Z T179.heap "java/lang/StringUTF16" "LO_BYTE_SHIFT" "I" (.int (8 : Int32)) := (own_Sta_keep K181 S_LO_BYTE_SHIFT all0)
  refine own_callS X179 hx hZ hown (hw _ (List.mem_of_getElem? (i := 143) rfl)) (hw _ (List.mem_of_getElem? (i := 144) rfl)) (by decide) (rm_pch0 l Z a0 hw [] vb_179 kv_179 x0 (0 : Int32) (0 : Int32) (0 : Int32) (0 : Int32) (0 : Int32) (0 : Int32) (0 : Int32) (0 : Int32) (0 : Int32) (0 : Int32) T179.heap n0 z182 v179_0 f186 f187 f188 g_vb_179) (hw _ (List.mem_of_getElem? (i := 145) rfl)) (hw _ (List.mem_of_getElem? (i := 21) rfl)) rfl 0 (by decide) (by decide) (by decide) (by decide) [(.ref vb_179), (.int (0 : Int32)), (.int x0)] [] rfl pd_12 rfl 23 rfl (by rw [hml]; rfl) rfl (hb hby d_jdk_52_method_14_20) rfl fun T185 v185 L185 X185 hQ185 => ?_
  obtain ⟨rfl, Nq185, Kq185, v185_0⟩ := hQ185
  have N185 := Fr.app N179 Nq185
  have K189 : Keep h0 T185.heap [] := K181.trans Kq185 (allS (Or.inr sq_vb_179) all0)
  have z190 : n0 ≤ T185.heap.size := (Nat.le_trans z182 Kq185.1)
  show own_GoE p e below _ (T185.setTop (mkF m 23 _ []))
  refine g_iinc X185 hx 26 (hb hby d_jdk_52_method_14_23) (z := (1 : Int32)) rfl rfl (l' := #[.val (.ref ca), .val (.int (1 : Int32)), .val (.int (5 : Int32)), .val (.ref vb_179), .val (.int (0 : Int32))]) rfl rfl ?_
  refine g_iinc X185 hx 29 (hb hby d_jdk_52_method_14_26) (z := (1 : Int32)) rfl rfl (l' := #[.val (.ref ca), .val (.int (1 : Int32)), .val (.int (5 : Int32)), .val (.ref vb_179), .val (.int (1 : Int32))]) rfl rfl ?_
  refine g_goto X185 hx 8 (hb hby d_jdk_52_method_14_29) (by decide) (by decide) ?_
  refine g_iload X185 hx 10 (hb hby d_jdk_52_method_14_8) rfl rfl ?_
  refine g_iload_n X185 hx 11 (hb hby d_jdk_52_method_14_10) rfl rfl ?_
  refine g_icmpNo X185 hx 14 (hb hby d_jdk_52_method_14_11) (own_ii_ge_f (by decide)) rfl ?_
  refine g_aload_n X185 hx 15 (hb hby d_jdk_52_method_14_14) rfl rfl rfl ?_
  refine g_iload X185 hx 17 (hb hby d_jdk_52_method_14_15) rfl rfl ?_
  refine g_aload_n X185 hx 18 (hb hby d_jdk_52_method_14_17) rfl rfl rfl ?_
  refine g_iload_n X185 hx 19 (hb hby d_jdk_52_method_14_18) rfl rfl ?_
  have f191 : Arv Z T185.heap ca kc .char (5 : Int32) [(.int x0), (.int x1), (.int x2), (.int x3), (.int x4)] (.int (0 : Int32)) := (f183.keep Kq185 (ninS ne180 nin0))
  obtain ⟨cl192, Ar192, q192, S192, P192, H192, G192⟩ := id f191
  have hin192 := inb_of (j := (1 : Int32)) S192 ⟨by decide, by decide⟩
  refine own_caload X185 hx hZ rfl Ar192 (v := (.int x1)) hin192 (Has.at H192 hin192 rfl) 20 (hb hby d_jdk_52_method_14_19) rfl ?_
  have f194 : Sta Z T185.heap "java/lang/StringUTF16" "$assertionsDisabled" "Z" (.int (1 : Int32)) := (own_Sta_keep Kq185 f186 (allS (own_plainA v179_0) all0))
  have f195 : Sta Z T185.heap "java/lang/StringUTF16" "HI_BYTE_SHIFT" "I" (.int (0 : Int32)) := (own_Sta_keep Kq185 f187 (allS (own_plainA v179_0) all0))
  have f196 : Sta Z T185.heap "java/lang/StringUTF16" "LO_BYTE_SHIFT" "I" (.int (8 : Int32)) := (own_Sta_keep Kq185 f188 (allS (own_plainA v179_0) all0))
  refine own_callS X185 hx hZ hown (hw _ (List.mem_of_getElem? (i := 143) rfl)) (hw _ (List.mem_of_getElem? (i := 144) rfl)) (by decide) (rm_pch1 l Z a0 hw [] vb_179 kv_179 x1 (own_h x0) (own_l x0) (0 : Int32) (0 : Int32) (0 : Int32) (0 : Int32) (0 : Int32) (0 : Int32) (0 : Int32) (0 : Int32) T185.heap n0 z190 v185_0 f194 f195 f196 g_vb_179) (hw _ (List.mem_of_getElem? (i := 145) rfl)) (hw _ (List.mem_of_getElem? (i := 21) rfl)) rfl 0 (by decide) (by decide) (by decide) (by decide) [(.ref vb_179), (.int (1 : Int32)), (.int x1)] [] rfl pd_12 rfl 23 rfl (by rw [hml]; rfl) rfl (hb hby d_jdk_52_method_14_20) rfl fun T193 v193 L193 X193 hQ193 => ?_
  obtain ⟨rfl, Nq193, Kq193, v193_0⟩ := hQ193
  have N193 := Fr.app N185 Nq193
  have K197 : Keep h0 T193.heap [] := K189.trans Kq193 (allS (Or.inr sq_vb_179) all0)
  have z198 : n0 ≤ T193.heap.size := (Nat.le_trans z190 Kq193.1)
  show own_GoE p e below _ (T193.setTop (mkF m 23 _ []))
  refine g_iinc X193 hx 26 (hb hby d_jdk_52_method_14_23) (z := (2 : Int32)) rfl rfl (l' := #[.val (.ref ca), .val (.int (2 : Int32)), .val (.int (5 : Int32)), .val (.ref vb_179), .val (.int (1 : Int32))]) rfl rfl ?_
  refine g_iinc X193 hx 29 (hb hby d_jdk_52_method_14_26) (z := (2 : Int32)) rfl rfl (l' := #[.val (.ref ca), .val (.int (2 : Int32)), .val (.int (5 : Int32)), .val (.ref vb_179), .val (.int (2 : Int32))]) rfl rfl ?_
  refine g_goto X193 hx 8 (hb hby d_jdk_52_method_14_29) (by decide) (by decide) ?_
  refine g_iload X193 hx 10 (hb hby d_jdk_52_method_14_8) rfl rfl ?_
  refine g_iload_n X193 hx 11 (hb hby d_jdk_52_method_14_10) rfl rfl ?_
  refine g_icmpNo X193 hx 14 (hb hby d_jdk_52_method_14_11) (own_ii_ge_f (by decide)) rfl ?_
  refine g_aload_n X193 hx 15 (hb hby d_jdk_52_method_14_14) rfl rfl rfl ?_
  refine g_iload X193 hx 17 (hb hby d_jdk_52_method_14_15) rfl rfl ?_
  refine g_aload_n X193 hx 18 (hb hby d_jdk_52_method_14_17) rfl rfl rfl ?_
  refine g_iload_n X193 hx 19 (hb hby d_jdk_52_method_14_18) rfl rfl ?_
  have f199 : Arv Z T193.heap ca kc .char (5 : Int32) [(.int x0), (.int x1), (.int x2), (.int x3), (.int x4)] (.int (0 : Int32)) := (f191.keep Kq193 (ninS ne180 nin0))
  obtain ⟨cl200, Ar200, q200, S200, P200, H200, G200⟩ := id f199
  have hin200 := inb_of (j := (2 : Int32)) S200 ⟨by decide, by decide⟩
  refine own_caload X193 hx hZ rfl Ar200 (v := (.int x2)) hin200 (Has.at H200 hin200 rfl) 20 (hb hby d_jdk_52_method_14_19) rfl ?_
  have f202 : Sta Z T193.heap "java/lang/StringUTF16" "$assertionsDisabled" "Z" (.int (1 : Int32)) := (own_Sta_keep Kq193 f194 (allS (own_plainA v185_0) all0))
  have f203 : Sta Z T193.heap "java/lang/StringUTF16" "HI_BYTE_SHIFT" "I" (.int (0 : Int32)) := (own_Sta_keep Kq193 f195 (allS (own_plainA v185_0) all0))
  have f204 : Sta Z T193.heap "java/lang/StringUTF16" "LO_BYTE_SHIFT" "I" (.int (8 : Int32)) := (own_Sta_keep Kq193 f196 (allS (own_plainA v185_0) all0))
  refine own_callS X193 hx hZ hown (hw _ (List.mem_of_getElem? (i := 143) rfl)) (hw _ (List.mem_of_getElem? (i := 144) rfl)) (by decide) (rm_pch2 l Z a0 hw [] vb_179 kv_179 x2 (own_h x0) (own_l x0) (own_h x1) (own_l x1) (0 : Int32) (0 : Int32) (0 : Int32) (0 : Int32) (0 : Int32) (0 : Int32) T193.heap n0 z198 v193_0 f202 f203 f204 g_vb_179) (hw _ (List.mem_of_getElem? (i := 145) rfl)) (hw _ (List.mem_of_getElem? (i := 21) rfl)) rfl 0 (by decide) (by decide) (by decide) (by decide) [(.ref vb_179), (.int (2 : Int32)), (.int x2)] [] rfl pd_12 rfl 23 rfl (by rw [hml]; rfl) rfl (hb hby d_jdk_52_method_14_20) rfl fun T201 v201 L201 X201 hQ201 => ?_
  obtain ⟨rfl, Nq201, Kq201, v201_0⟩ := hQ201
  have N201 := Fr.app N193 Nq201
  have K205 : Keep h0 T201.heap [] := K197.trans Kq201 (allS (Or.inr sq_vb_179) all0)
  have z206 : n0 ≤ T201.heap.size := (Nat.le_trans z198 Kq201.1)
  show own_GoE p e below _ (T201.setTop (mkF m 23 _ []))
  refine g_iinc X201 hx 26 (hb hby d_jdk_52_method_14_23) (z := (3 : Int32)) rfl rfl (l' := #[.val (.ref ca), .val (.int (3 : Int32)), .val (.int (5 : Int32)), .val (.ref vb_179), .val (.int (2 : Int32))]) rfl rfl ?_
  refine g_iinc X201 hx 29 (hb hby d_jdk_52_method_14_26) (z := (3 : Int32)) rfl rfl (l' := #[.val (.ref ca), .val (.int (3 : Int32)), .val (.int (5 : Int32)), .val (.ref vb_179), .val (.int (3 : Int32))]) rfl rfl ?_
  refine g_goto X201 hx 8 (hb hby d_jdk_52_method_14_29) (by decide) (by decide) ?_
  refine g_iload X201 hx 10 (hb hby d_jdk_52_method_14_8) rfl rfl ?_
  refine g_iload_n X201 hx 11 (hb hby d_jdk_52_method_14_10) rfl rfl ?_
  refine g_icmpNo X201 hx 14 (hb hby d_jdk_52_method_14_11) (own_ii_ge_f (by decide)) rfl ?_
  refine g_aload_n X201 hx 15 (hb hby d_jdk_52_method_14_14) rfl rfl rfl ?_
  refine g_iload X201 hx 17 (hb hby d_jdk_52_method_14_15) rfl rfl ?_
  refine g_aload_n X201 hx 18 (hb hby d_jdk_52_method_14_17) rfl rfl rfl ?_
  refine g_iload_n X201 hx 19 (hb hby d_jdk_52_method_14_18) rfl rfl ?_
  have f207 : Arv Z T201.heap ca kc .char (5 : Int32) [(.int x0), (.int x1), (.int x2), (.int x3), (.int x4)] (.int (0 : Int32)) := (f199.keep Kq201 (ninS ne180 nin0))
  obtain ⟨cl208, Ar208, q208, S208, P208, H208, G208⟩ := id f207
  have hin208 := inb_of (j := (3 : Int32)) S208 ⟨by decide, by decide⟩
  refine own_caload X201 hx hZ rfl Ar208 (v := (.int x3)) hin208 (Has.at H208 hin208 rfl) 20 (hb hby d_jdk_52_method_14_19) rfl ?_
  have f210 : Sta Z T201.heap "java/lang/StringUTF16" "$assertionsDisabled" "Z" (.int (1 : Int32)) := (own_Sta_keep Kq201 f202 (allS (own_plainA v193_0) all0))
  have f211 : Sta Z T201.heap "java/lang/StringUTF16" "HI_BYTE_SHIFT" "I" (.int (0 : Int32)) := (own_Sta_keep Kq201 f203 (allS (own_plainA v193_0) all0))
  have f212 : Sta Z T201.heap "java/lang/StringUTF16" "LO_BYTE_SHIFT" "I" (.int (8 : Int32)) := (own_Sta_keep Kq201 f204 (allS (own_plainA v193_0) all0))
  refine own_callS X201 hx hZ hown (hw _ (List.mem_of_getElem? (i := 143) rfl)) (hw _ (List.mem_of_getElem? (i := 144) rfl)) (by decide) (rm_pch3 l Z a0 hw [] vb_179 kv_179 x3 (own_h x0) (own_l x0) (own_h x1) (own_l x1) (own_h x2) (own_l x2) (0 : Int32) (0 : Int32) (0 : Int32) (0 : Int32) T201.heap n0 z206 v201_0 f210 f211 f212 g_vb_179) (hw _ (List.mem_of_getElem? (i := 145) rfl)) (hw _ (List.mem_of_getElem? (i := 21) rfl)) rfl 0 (by decide) (by decide) (by decide) (by decide) [(.ref vb_179), (.int (3 : Int32)), (.int x3)] [] rfl pd_12 rfl 23 rfl (by rw [hml]; rfl) rfl (hb hby d_jdk_52_method_14_20) rfl fun T209 v209 L209 X209 hQ209 => ?_
  obtain ⟨rfl, Nq209, Kq209, v209_0⟩ := hQ209
  have N209 := Fr.app N201 Nq209
  have K213 : Keep h0 T209.heap [] := K205.trans Kq209 (allS (Or.inr sq_vb_179) all0)
  have z214 : n0 ≤ T209.heap.size := (Nat.le_trans z206 Kq209.1)
  show own_GoE p e below _ (T209.setTop (mkF m 23 _ []))
  refine g_iinc X209 hx 26 (hb hby d_jdk_52_method_14_23) (z := (4 : Int32)) rfl rfl (l' := #[.val (.ref ca), .val (.int (4 : Int32)), .val (.int (5 : Int32)), .val (.ref vb_179), .val (.int (3 : Int32))]) rfl rfl ?_
  refine g_iinc X209 hx 29 (hb hby d_jdk_52_method_14_26) (z := (4 : Int32)) rfl rfl (l' := #[.val (.ref ca), .val (.int (4 : Int32)), .val (.int (5 : Int32)), .val (.ref vb_179), .val (.int (4 : Int32))]) rfl rfl ?_
  refine g_goto X209 hx 8 (hb hby d_jdk_52_method_14_29) (by decide) (by decide) ?_
  refine g_iload X209 hx 10 (hb hby d_jdk_52_method_14_8) rfl rfl ?_
  refine g_iload_n X209 hx 11 (hb hby d_jdk_52_method_14_10) rfl rfl ?_
  refine g_icmpNo X209 hx 14 (hb hby d_jdk_52_method_14_11) (own_ii_ge_f (by decide)) rfl ?_
  refine g_aload_n X209 hx 15 (hb hby d_jdk_52_method_14_14) rfl rfl rfl ?_
  refine g_iload X209 hx 17 (hb hby d_jdk_52_method_14_15) rfl rfl ?_
  refine g_aload_n X209 hx 18 (hb hby d_jdk_52_method_14_17) rfl rfl rfl ?_
  refine g_iload_n X209 hx 19 (hb hby d_jdk_52_method_14_18) rfl rfl ?_
  have f215 : Arv Z T209.heap ca kc .char (5 : Int32) [(.int x0), (.int x1), (.int x2), (.int x3), (.int x4)] (.int (0 : Int32)) := (f207.keep Kq209 (ninS ne180 nin0))
  obtain ⟨cl216, Ar216, q216, S216, P216, H216, G216⟩ := id f215
  have hin216 := inb_of (j := (4 : Int32)) S216 ⟨by decide, by decide⟩
  refine own_caload X209 hx hZ rfl Ar216 (v := (.int x4)) hin216 (Has.at H216 hin216 rfl) 20 (hb hby d_jdk_52_method_14_19) rfl ?_
  have f218 : Sta Z T209.heap "java/lang/StringUTF16" "$assertionsDisabled" "Z" (.int (1 : Int32)) := (own_Sta_keep Kq209 f210 (allS (own_plainA v201_0) all0))
  have f219 : Sta Z T209.heap "java/lang/StringUTF16" "HI_BYTE_SHIFT" "I" (.int (0 : Int32)) := (own_Sta_keep Kq209 f211 (allS (own_plainA v201_0) all0))
  have f220 : Sta Z T209.heap "java/lang/StringUTF16" "LO_BYTE_SHIFT" "I" (.int (8 : Int32)) := (own_Sta_keep Kq209 f212 (allS (own_plainA v201_0) all0))
  refine own_callS X209 hx hZ hown (hw _ (List.mem_of_getElem? (i := 143) rfl)) (hw _ (List.mem_of_getElem? (i := 144) rfl)) (by decide) (rm_pch4 l Z a0 hw [] vb_179 kv_179 x4 (own_h x0) (own_l x0) (own_h x1) (own_l x1) (own_h x2) (own_l x2) (own_h x3) (own_l x3) (0 : Int32) (0 : Int32) T209.heap n0 z214 v209_0 f218 f219 f220 g_vb_179) (hw _ (List.mem_of_getElem? (i := 145) rfl)) (hw _ (List.mem_of_getElem? (i := 21) rfl)) rfl 0 (by decide) (by decide) (by decide) (by decide) [(.ref vb_179), (.int (4 : Int32)), (.int x4)] [] rfl pd_12 rfl 23 rfl (by rw [hml]; rfl) rfl (hb hby d_jdk_52_method_14_20) rfl fun T217 v217 L217 X217 hQ217 => ?_
  obtain ⟨rfl, Nq217, Kq217, v217_0⟩ := hQ217
  have N217 := Fr.app N209 Nq217
  have K221 : Keep h0 T217.heap [] := K213.trans Kq217 (allS (Or.inr sq_vb_179) all0)
  have z222 : n0 ≤ T217.heap.size := (Nat.le_trans z214 Kq217.1)
  show own_GoE p e below _ (T217.setTop (mkF m 23 _ []))
  refine g_iinc X217 hx 26 (hb hby d_jdk_52_method_14_23) (z := (5 : Int32)) rfl rfl (l' := #[.val (.ref ca), .val (.int (5 : Int32)), .val (.int (5 : Int32)), .val (.ref vb_179), .val (.int (4 : Int32))]) rfl rfl ?_
  refine g_iinc X217 hx 29 (hb hby d_jdk_52_method_14_26) (z := (5 : Int32)) rfl rfl (l' := #[.val (.ref ca), .val (.int (5 : Int32)), .val (.int (5 : Int32)), .val (.ref vb_179), .val (.int (5 : Int32))]) rfl rfl ?_
  refine g_goto X217 hx 8 (hb hby d_jdk_52_method_14_29) (by decide) (by decide) ?_
  refine g_iload X217 hx 10 (hb hby d_jdk_52_method_14_8) rfl rfl ?_
  refine g_iload_n X217 hx 11 (hb hby d_jdk_52_method_14_10) rfl rfl ?_
  refine g_icmpYes X217 hx 32 (hb hby d_jdk_52_method_14_11) (own_ii_ge_t (by decide)) (by decide) (by decide) ?_
  refine g_aload_n X217 hx 33 (hb hby d_jdk_52_method_14_32) rfl rfl rfl ?_
  refine own_retA X217 hx hlk hret rfl rfl (hb hby d_jdk_52_method_14_33) ?_ (by decide) (by decide)
  exact ⟨vb_179, kv_179, rfl, N217, K221, g_vb_179, sq_vb_179, v217_0⟩
theorem d_jdk_52_method_16_0 : decode jdk_52_method_16_code 0 = .ok (.iload_n 2, 1) := by decide +kernel
theorem d_jdk_52_method_16_1 : decode jdk_52_method_16_code 1 = .ok (.newarray .byte, 2) := by decide +kernel
theorem d_jdk_52_method_16_3 : decode jdk_52_method_16_code 3 = .ok (.astore_n 3, 1) := by decide +kernel
theorem d_jdk_52_method_16_4 : decode jdk_52_method_16_code 4 = .ok (.aload_n 0, 1) := by decide +kernel
theorem d_jdk_52_method_16_5 : decode jdk_52_method_16_code 5 = .ok (.iload_n 1, 1) := by decide +kernel
theorem d_jdk_52_method_16_6 : decode jdk_52_method_16_code 6 = .ok (.aload_n 3, 1) := by decide +kernel
theorem d_jdk_52_method_16_7 : decode jdk_52_method_16_code 7 = .ok (.iconst 0, 1) := by decide +kernel
theorem d_jdk_52_method_16_8 : decode jdk_52_method_16_code 8 = .ok (.iload_n 2, 1) := by decide +kernel
theorem d_jdk_52_method_16_9 : decode jdk_52_method_16_code 9 = .ok (.invokestatic 115, 3) := by decide +kernel
theorem pd_13 : parseMethodDescriptor "([CI[BII)I" = some ⟨[(.array .char), .int, (.array .byte), .int, .int], some .int⟩ := by decide +kernel
theorem d_jdk_52_method_16_12 : decode jdk_52_method_16_code 12 = .ok (.istore 4, 2) := by decide +kernel
theorem d_jdk_52_method_16_14 : decode jdk_52_method_16_code 14 = .ok (.iload 4, 2) := by decide +kernel
theorem d_jdk_52_method_16_16 : decode jdk_52_method_16_code 16 = .ok (.iload_n 2, 1) := by decide +kernel
theorem d_jdk_52_method_16_17 : decode jdk_52_method_16_code 17 = .ok (.if_icmp .eq 40, 3) := by decide +kernel
theorem d_jdk_52_method_16_57 : decode jdk_52_method_16_code 57 = .ok (.aload_n 3, 1) := by decide +kernel
theorem d_jdk_52_method_16_58 : decode jdk_52_method_16_code 58 = .ok (.areturn, 1) := by decide +kernel
theorem ef_11 (m : MethodId) (x0 : Addr) (x1 : Int32) (x2 : Int32) : entryFrame m #[(.ref x0), (.int x1), (.int x2)] 6 = mkF m 0 #[.val (.ref x0), .val (.int x1), .val (.int x2), .unset, .unset, .unset] [] := by first | (simp [entryFrame, mkF, argsToLocals, Value.category]; done) | rfl
def Q_c2L (Z : State) (ca : Addr) (kc : ClassId) (x0 : Int32) (x1 : Int32) (x2 : Int32) (x3 : Int32) (x4 : Int32) (h0 : Heap) (n0 : Nat) (v : Option Value) (h : Heap) (L : List Loc) : Prop := ∃ vb : Addr, ∃ kv : ClassId, v = some (.ref vb) ∧ Fr n0 L ∧ Keep h0 h [] ∧ n0 ≤ vb ∧ h0.size ≤ vb ∧ Arv Z h vb kv .byte (Int32.ofNat [x0, x1, x2, x3, x4].length) ([x0, x1, x2, x3, x4].map fun x => Value.int (own_b x)) (.int (0 : Int32))
set_option maxRecDepth 65536 in
set_option maxHeartbeats 40000000 in
theorem rm_c2L (l : Launch) (Z : State) (a0 : Array Value) (hw : ∀ d ∈ tables_1, d.before a0 Z = true) (ws : List Jvm.Cond) (ca : Addr) (kc : ClassId) (x0 : Int32) (x1 : Int32) (x2 : Int32) (x3 : Int32) (x4 : Int32) (h0 : Heap) (n0 : Nat) (Z0 : n0 ≤ h0.size) (V_ca : Arv Z h0 ca kc .char (5 : Int32) [(.int x0), (.int x1), (.int x2), (.int x3), (.int x4)] (.int (0 : Int32))) (S__assertionsDisabled : Sta Z h0 "java/lang/StringUTF16" "$assertionsDisabled" "Z" (.int (1 : Int32))) (S_HI_BYTE_SHIFT : Sta Z h0 "java/lang/StringUTF16" "HI_BYTE_SHIFT" "I" (.int (0 : Int32))) (S_LO_BYTE_SHIFT : Sta Z h0 "java/lang/StringUTF16" "LO_BYTE_SHIFT" "I" (.int (8 : Int32))) (hfb : own_fb [x0, x1, x2, x3, x4] = 5) :
    MetFree l (⟨"java/lang/StringUTF16", "compress", "([CII)[B"⟩ : MethodName) (head1 (Jvm.Cond.code (⟨"java/lang/StringUTF16", "compress", "([CII)[B"⟩ : MethodName) jdk_52_method_16_code 6 (some (.array .byte)) :: ws) ({ frames := 1, cells := 1, slots := 5, locals := 18 } : Room)) (fun aA U => aA = #[(.ref ca), (.int (0 : Int32)), (.int (5 : Int32))] ∧ Z.Warmed39 U.vm ∧ U.heap = h0) (fun _ _ _ _ _ => True) (fun _ U oO U' => ∃ vV LL, oO = .returned vV ∧ Q_c2L Z ca kc x0 x1 x2 x3 x4 h0 n0 vV U'.heap LL ∧ FrameEnd U oO U' LL ({ frames := 1, cells := 1, slots := 5, locals := 18 } : Room).cells ({ frames := 1, cells := 1, slots := 5, locals := 18 } : Room).slots) := by
  refine MetFree.of_bodySF (plainFor_of_name pn_2) hisR ?_
  intro p e s m args below meth c s₁ Bd hml0 hP hK
  obtain ⟨rfl, hZ, hh⟩ := hP
  have hx := Bd.exec
  have hby := Bd.bytes
  have hml : c.maxLocals = 6 := hml0
  have hown : s.vm.findClass "java/lang/StringUTF16" = some m.cls := findClass_of_methodNamed Bd.named
  have hnm := (name_of_methodNamed Bd.named Bd.method).1
  have X0 : Stand p l e ({ frames := 1, cells := 1, slots := 5, locals := 18 } : Room) s m #[(.ref ca), (.int (0 : Int32)), (.int (5 : Int32))] below meth c s₁ [] 0 0 := Stand.of_body Bd
  have e0 : s₁.heap = h0 := by rw [← hh, Bd.state]; rfl
  have N0 := Fr.nil n0
  have hret := Bd.returns
  have hlk : meth.locks = false := Bd.notSynchronized
  refine own_start (ef_11 m ca (0 : Int32) (5 : Int32)) ?_
  show own_Go p e below s (Q_c2L Z ca kc x0 x1 x2 x3 x4 h0 n0) ({ frames := 1, cells := 1, slots := 5, locals := 18 } : Room).cells ({ frames := 1, cells := 1, slots := 5, locals := 18 } : Room).slots (s₁.setTop (mkF m 0 #[.val (.ref ca), .val (.int (0 : Int32)), .val (.int (5 : Int32)), .unset, .unset, .unset] []))
  refine g_iload_n X0 hx 1 (hb hby d_jdk_52_method_16_0) rfl rfl ?_
  refine own_newP X0 hx hZ (hw _ (List.mem_of_getElem? (i := 23) rfl)) e0 3 (hb hby d_jdk_52_method_16_1) rfl (by decide) 5 (by decide) (by decide) (by decide) (by decide) fun T223 h223 k223 b223 X223 e223 g223 E223 A223 => ?_
  have ne224 : ca ≠ b223 := Nat.ne_of_lt (Nat.lt_of_lt_of_le V_ca.lt (Nat.le_of_eq g223.symm))
  have g_b223 : n0 ≤ b223 := Nat.le_trans Z0 (Nat.le_of_eq g223.symm)
  have sz_b223 : h0.size ≤ b223 := Nat.le_trans (Keep.refl h0 []).1 (Nat.le_of_eq g223.symm)
  have K225 : Keep h0 h223 [] := (Keep.refl h0 []).ext E223
  have z226 : n0 ≤ h223.size := (Nat.le_trans Z0 E223.1)
  have V223 : Arv Z h223 b223 k223 .byte (5 : Int32) [(.int (0 : Int32)), (.int (0 : Int32)), (.int (0 : Int32)), (.int (0 : Int32)), (.int (0 : Int32))] (.int (0 : Int32)) := (Arv.new A223 (by decide)).pad (pad_rep [] (.int (0 : Int32)) 5)
  refine g_astore_n X223 hx 4 (hb hby d_jdk_52_method_16_3) rfl (l' := #[.val (.ref ca), .val (.int (0 : Int32)), .val (.int (5 : Int32)), .val (.ref b223), .unset, .unset]) rfl rfl ?_
  refine g_aload_n X223 hx 5 (hb hby d_jdk_52_method_16_4) rfl rfl rfl ?_
  refine g_iload_n X223 hx 6 (hb hby d_jdk_52_method_16_5) rfl rfl ?_
  refine g_aload_n X223 hx 7 (hb hby d_jdk_52_method_16_6) rfl rfl rfl ?_
  refine g_iconst X223 hx 8 (hb hby d_jdk_52_method_16_7) (0 : Int32) rfl rfl ?_
  refine g_iload_n X223 hx 9 (hb hby d_jdk_52_method_16_8) rfl rfl ?_
  have f228 : Arv Z h223 ca kc .char (5 : Int32) [(.int x0), (.int x1), (.int x2), (.int x3), (.int x4)] (.int (0 : Int32)) := (V_ca.keep K225 nin0)
  refine own_callS X223 hx hZ hown (hw _ (List.mem_of_getElem? (i := 24) rfl)) (hw _ (List.mem_of_getElem? (i := 25) rfl)) (by decide) (rm_c1 l Z a0 hw [] ca kc b223 k223 x0 x1 x2 x3 x4 h223 n0 z226 f228 V223 ne224 g_b223) (hw _ (List.mem_of_getElem? (i := 26) rfl)) (hw _ (List.mem_of_getElem? (i := 21) rfl)) e223 0 (by decide) (by decide) (by decide) (by decide) [(.ref ca), (.int (0 : Int32)), (.ref b223), (.int (0 : Int32)), (.int (5 : Int32))] [] rfl pd_13 rfl 12 rfl (by rw [hml]; rfl) rfl (hb hby d_jdk_52_method_16_9) rfl fun T227 v227 L227 X227 hQ227 => ?_
  obtain ⟨rfl, Nq227, Kq227, v227_0⟩ := hQ227
  have N227 := Fr.app N0 Nq227
  have K229 : Keep h0 T227.heap [] := K225.trans Kq227 (allS (Or.inr sz_b223) all0)
  have z230 : n0 ≤ T227.heap.size := (Nat.le_trans z226 Kq227.1)
  show own_GoE p e below _ (T227.setTop (mkF m 12 _ [(.int (Int32.ofNat (own_fb [x0, x1, x2, x3, x4])))]))
  refine g_istore X227 hx 14 (hb hby d_jdk_52_method_16_12) (l' := #[.val (.ref ca), .val (.int (0 : Int32)), .val (.int (5 : Int32)), .val (.ref b223), .val (.int (Int32.ofNat (own_fb [x0, x1, x2, x3, x4]))), .unset]) rfl rfl ?_
  refine g_iload X227 hx 16 (hb hby d_jdk_52_method_16_14) rfl rfl ?_
  refine g_iload_n X227 hx 17 (hb hby d_jdk_52_method_16_16) rfl rfl ?_
  have c231 : (Int32.ofNat (own_fb [x0, x1, x2, x3, x4])) = (5 : Int32) := by rw [hfb]; rfl
  refine g_icmpYes X227 hx 57 (hb hby d_jdk_52_method_16_17) (own_ii_eq_t c231) (by decide) (by decide) ?_
  refine g_aload_n X227 hx 58 (hb hby d_jdk_52_method_16_57) rfl rfl rfl ?_
  have V232 : Arv Z T227.heap b223 k223 .byte (Int32.ofNat [x0, x1, x2, x3, x4].length) ([x0, x1, x2, x3, x4].map fun x => Value.int (own_b x)) (.int (0 : Int32)) := own_arvZ v227_0 rfl (by rw [hfb]; rfl)
  refine own_retA X227 hx hlk hret rfl rfl (hb hby d_jdk_52_method_16_58) ?_ (by decide) (by decide)
  exact ⟨b223, k223, rfl, N227, K229, g_b223, sz_b223, V232⟩
theorem d_jdk_52_method_16_20 : decode jdk_52_method_16_code 20 = .ok (.aload_n 0, 1) := by decide +kernel
theorem d_jdk_52_method_16_21 : decode jdk_52_method_16_code 21 = .ok (.iload_n 1, 1) := by decide +kernel
theorem d_jdk_52_method_16_22 : decode jdk_52_method_16_code 22 = .ok (.iload_n 2, 1) := by decide +kernel
theorem d_jdk_52_method_16_23 : decode jdk_52_method_16_code 23 = .ok (.invokestatic 119, 3) := by decide +kernel
theorem pd_14 : parseMethodDescriptor "([CII)[B" = some ⟨[(.array .char), .int, .int], some (.array .byte)⟩ := by decide +kernel
theorem d_jdk_52_method_16_26 : decode jdk_52_method_16_code 26 = .ok (.astore 5, 2) := by decide +kernel
theorem d_jdk_52_method_16_28 : decode jdk_52_method_16_code 28 = .ok (.aload 5, 2) := by decide +kernel
theorem d_jdk_52_method_16_30 : decode jdk_52_method_16_code 30 = .ok (.iload 4, 2) := by decide +kernel
theorem d_jdk_52_method_16_32 : decode jdk_52_method_16_code 32 = .ok (.invokestatic 71, 3) := by decide +kernel
theorem d_jdk_52_method_16_35 : decode jdk_52_method_16_code 35 = .ok (.sipush 255, 3) := by decide +kernel
theorem d_jdk_52_method_16_38 : decode jdk_52_method_16_code 38 = .ok (.if_icmp .gt 16, 3) := by decide +kernel
theorem d_jdk_52_method_16_54 : decode jdk_52_method_16_code 54 = .ok (.aload 5, 2) := by decide +kernel
theorem d_jdk_52_method_16_56 : decode jdk_52_method_16_code 56 = .ok (.areturn, 1) := by decide +kernel
def Q_c2U (Z : State) (ca : Addr) (kc : ClassId) (x0 : Int32) (x1 : Int32) (x2 : Int32) (x3 : Int32) (x4 : Int32) (h0 : Heap) (n0 : Nat) (v : Option Value) (h : Heap) (L : List Loc) : Prop := ∃ vb : Addr, ∃ kv : ClassId, v = some (.ref vb) ∧ Fr n0 L ∧ Keep h0 h [] ∧ n0 ≤ vb ∧ h0.size ≤ vb ∧ Arv Z h vb kv .byte (Int32.ofNat (2 * [x0, x1, x2, x3, x4].length)) (own_u [x0, x1, x2, x3, x4]) (.int (0 : Int32))
set_option maxRecDepth 65536 in
set_option maxHeartbeats 40000000 in
theorem rm_c2U (l : Launch) (Z : State) (a0 : Array Value) (hw : ∀ d ∈ tables_1, d.before a0 Z = true) (ws : List Jvm.Cond) (ca : Addr) (kc : ClassId) (x0 : Int32) (x1 : Int32) (x2 : Int32) (x3 : Int32) (x4 : Int32) (h0 : Heap) (n0 : Nat) (Z0 : n0 ≤ h0.size) (V_ca : Arv Z h0 ca kc .char (5 : Int32) [(.int x0), (.int x1), (.int x2), (.int x3), (.int x4)] (.int (0 : Int32))) (S__assertionsDisabled : Sta Z h0 "java/lang/StringUTF16" "$assertionsDisabled" "Z" (.int (1 : Int32))) (S_HI_BYTE_SHIFT : Sta Z h0 "java/lang/StringUTF16" "HI_BYTE_SHIFT" "I" (.int (0 : Int32))) (S_LO_BYTE_SHIFT : Sta Z h0 "java/lang/StringUTF16" "LO_BYTE_SHIFT" "I" (.int (8 : Int32))) (hfb : ¬ (own_fb [x0, x1, x2, x3, x4] = 5)) (hr : ∀ x ∈ [x0, x1, x2, x3, x4], 0 ≤ x.toInt ∧ x.toInt ≤ 65535) :
    MetFree l (⟨"java/lang/StringUTF16", "compress", "([CII)[B"⟩ : MethodName) (head1 (Jvm.Cond.code (⟨"java/lang/StringUTF16", "compress", "([CII)[B"⟩ : MethodName) jdk_52_method_16_code 6 (some (.array .byte)) :: ws) ({ frames := 3, cells := 2, slots := 15, locals := 40 } : Room)) (fun aA U => aA = #[(.ref ca), (.int (0 : Int32)), (.int (5 : Int32))] ∧ Z.Warmed39 U.vm ∧ U.heap = h0) (fun _ _ _ _ _ => True) (fun _ U oO U' => ∃ vV LL, oO = .returned vV ∧ Q_c2U Z ca kc x0 x1 x2 x3 x4 h0 n0 vV U'.heap LL ∧ FrameEnd U oO U' LL ({ frames := 3, cells := 2, slots := 15, locals := 40 } : Room).cells ({ frames := 3, cells := 2, slots := 15, locals := 40 } : Room).slots) := by
  refine MetFree.of_bodySF (plainFor_of_name pn_2) hisR ?_
  intro p e s m args below meth c s₁ Bd hml0 hP hK
  obtain ⟨rfl, hZ, hh⟩ := hP
  have hx := Bd.exec
  have hby := Bd.bytes
  have hml : c.maxLocals = 6 := hml0
  have hown : s.vm.findClass "java/lang/StringUTF16" = some m.cls := findClass_of_methodNamed Bd.named
  have hnm := (name_of_methodNamed Bd.named Bd.method).1
  have X0 : Stand p l e ({ frames := 3, cells := 2, slots := 15, locals := 40 } : Room) s m #[(.ref ca), (.int (0 : Int32)), (.int (5 : Int32))] below meth c s₁ [] 0 0 := Stand.of_body Bd
  have e0 : s₁.heap = h0 := by rw [← hh, Bd.state]; rfl
  have N0 := Fr.nil n0
  have hret := Bd.returns
  have hlk : meth.locks = false := Bd.notSynchronized
  refine own_start (ef_11 m ca (0 : Int32) (5 : Int32)) ?_
  show own_Go p e below s (Q_c2U Z ca kc x0 x1 x2 x3 x4 h0 n0) ({ frames := 3, cells := 2, slots := 15, locals := 40 } : Room).cells ({ frames := 3, cells := 2, slots := 15, locals := 40 } : Room).slots (s₁.setTop (mkF m 0 #[.val (.ref ca), .val (.int (0 : Int32)), .val (.int (5 : Int32)), .unset, .unset, .unset] []))
  refine g_iload_n X0 hx 1 (hb hby d_jdk_52_method_16_0) rfl rfl ?_
  refine own_newP X0 hx hZ (hw _ (List.mem_of_getElem? (i := 23) rfl)) e0 3 (hb hby d_jdk_52_method_16_1) rfl (by decide) 5 (by decide) (by decide) (by decide) (by decide) fun T233 h233 k233 b233 X233 e233 g233 E233 A233 => ?_
  have ne234 : ca ≠ b233 := Nat.ne_of_lt (Nat.lt_of_lt_of_le V_ca.lt (Nat.le_of_eq g233.symm))
  have g_b233 : n0 ≤ b233 := Nat.le_trans Z0 (Nat.le_of_eq g233.symm)
  have sz_b233 : h0.size ≤ b233 := Nat.le_trans (Keep.refl h0 []).1 (Nat.le_of_eq g233.symm)
  have K235 : Keep h0 h233 [] := (Keep.refl h0 []).ext E233
  have z236 : n0 ≤ h233.size := (Nat.le_trans Z0 E233.1)
  have V233 : Arv Z h233 b233 k233 .byte (5 : Int32) [(.int (0 : Int32)), (.int (0 : Int32)), (.int (0 : Int32)), (.int (0 : Int32)), (.int (0 : Int32))] (.int (0 : Int32)) := (Arv.new A233 (by decide)).pad (pad_rep [] (.int (0 : Int32)) 5)
  refine g_astore_n X233 hx 4 (hb hby d_jdk_52_method_16_3) rfl (l' := #[.val (.ref ca), .val (.int (0 : Int32)), .val (.int (5 : Int32)), .val (.ref b233), .unset, .unset]) rfl rfl ?_
  refine g_aload_n X233 hx 5 (hb hby d_jdk_52_method_16_4) rfl rfl rfl ?_
  refine g_iload_n X233 hx 6 (hb hby d_jdk_52_method_16_5) rfl rfl ?_
  refine g_aload_n X233 hx 7 (hb hby d_jdk_52_method_16_6) rfl rfl rfl ?_
  refine g_iconst X233 hx 8 (hb hby d_jdk_52_method_16_7) (0 : Int32) rfl rfl ?_
  refine g_iload_n X233 hx 9 (hb hby d_jdk_52_method_16_8) rfl rfl ?_
  have f238 : Arv Z h233 ca kc .char (5 : Int32) [(.int x0), (.int x1), (.int x2), (.int x3), (.int x4)] (.int (0 : Int32)) := (V_ca.keep K235 nin0)
  refine own_callS X233 hx hZ hown (hw _ (List.mem_of_getElem? (i := 24) rfl)) (hw _ (List.mem_of_getElem? (i := 25) rfl)) (by decide) (rm_c1 l Z a0 hw [] ca kc b233 k233 x0 x1 x2 x3 x4 h233 n0 z236 f238 V233 ne234 g_b233) (hw _ (List.mem_of_getElem? (i := 26) rfl)) (hw _ (List.mem_of_getElem? (i := 21) rfl)) e233 0 (by decide) (by decide) (by decide) (by decide) [(.ref ca), (.int (0 : Int32)), (.ref b233), (.int (0 : Int32)), (.int (5 : Int32))] [] rfl pd_13 rfl 12 rfl (by rw [hml]; rfl) rfl (hb hby d_jdk_52_method_16_9) rfl fun T237 v237 L237 X237 hQ237 => ?_
  obtain ⟨rfl, Nq237, Kq237, v237_0⟩ := hQ237
  have N237 := Fr.app N0 Nq237
  have K239 : Keep h0 T237.heap [] := K235.trans Kq237 (allS (Or.inr sz_b233) all0)
  have z240 : n0 ≤ T237.heap.size := (Nat.le_trans z236 Kq237.1)
  show own_GoE p e below _ (T237.setTop (mkF m 12 _ [(.int (Int32.ofNat (own_fb [x0, x1, x2, x3, x4])))]))
  refine g_istore X237 hx 14 (hb hby d_jdk_52_method_16_12) (l' := #[.val (.ref ca), .val (.int (0 : Int32)), .val (.int (5 : Int32)), .val (.ref b233), .val (.int (Int32.ofNat (own_fb [x0, x1, x2, x3, x4]))), .unset]) rfl rfl ?_
  refine g_iload X237 hx 16 (hb hby d_jdk_52_method_16_14) rfl rfl ?_
  refine g_iload_n X237 hx 17 (hb hby d_jdk_52_method_16_16) rfl rfl ?_
  have c241 : ¬ ((Int32.ofNat (own_fb [x0, x1, x2, x3, x4])) = (5 : Int32)) := own_fU (Nat.le_refl _) rfl hfb
  refine g_icmpNo X237 hx 20 (hb hby d_jdk_52_method_16_17) (own_ii_eq_f c241) rfl ?_
  refine g_aload_n X237 hx 21 (hb hby d_jdk_52_method_16_20) rfl rfl rfl ?_
  refine g_iload_n X237 hx 22 (hb hby d_jdk_52_method_16_21) rfl rfl ?_
  refine g_iload_n X237 hx 23 (hb hby d_jdk_52_method_16_22) rfl rfl ?_
  have f243 : Arv Z T237.heap ca kc .char (5 : Int32) [(.int x0), (.int x1), (.int x2), (.int x3), (.int x4)] (.int (0 : Int32)) := (f238.keep Kq237 (ninS ne234 nin0))
  have f244 : Sta Z T237.heap "java/lang/StringUTF16" "$assertionsDisabled" "Z" (.int (1 : Int32)) := (own_Sta_keep K239 S__assertionsDisabled all0)
  have f245 : Sta Z T237.heap "java/lang/StringUTF16" "HI_BYTE_SHIFT" "I" (.int (0 : Int32)) := (own_Sta_keep K239 S_HI_BYTE_SHIFT all0)
  have f246 : Sta Z T237.heap "java/lang/StringUTF16" "LO_BYTE_SHIFT" "I" (.int (8 : Int32)) := (own_Sta_keep K239 S_LO_BYTE_SHIFT all0)
  refine own_callS X237 hx hZ hown (hw _ (List.mem_of_getElem? (i := 133) rfl)) (hw _ (List.mem_of_getElem? (i := 134) rfl)) (by decide) (rm_tby l Z a0 hw [] ca kc x0 x1 x2 x3 x4 T237.heap n0 z240 f243 f244 f245 f246) (hw _ (List.mem_of_getElem? (i := 135) rfl)) (hw _ (List.mem_of_getElem? (i := 21) rfl)) rfl 0 (by decide) (by decide) (by decide) (by decide) [(.ref ca), (.int (0 : Int32)), (.int (5 : Int32))] [] rfl pd_14 rfl 26 rfl (by rw [hml]; rfl) rfl (hb hby d_jdk_52_method_16_23) rfl fun T242 v242 L242 X242 hQ242 => ?_
  obtain ⟨vb_242, kv_242, rfl, Nq242, Kq242, g_vb_242, sz_vb_242, v242_0⟩ := hQ242
  have ne247 : ca ≠ vb_242 := Nat.ne_of_lt (Nat.lt_of_lt_of_le f243.lt sz_vb_242)
  have ne248 : b233 ≠ vb_242 := Nat.ne_of_lt (Nat.lt_of_lt_of_le v237_0.lt sz_vb_242)
  have N242 := Fr.app N237 Nq242
  have sq_vb_242 : h0.size ≤ vb_242 := Nat.le_trans K239.1 sz_vb_242
  have K249 : Keep h0 T242.heap [] := K239.trans Kq242 all0
  have z250 : n0 ≤ T242.heap.size := (Nat.le_trans z240 Kq242.1)
  show own_GoE p e below _ (T242.setTop (mkF m 26 _ [(.ref vb_242)]))
  have V251 : Arv Z T242.heap vb_242 kv_242 .byte (Int32.ofNat (2 * [x0, x1, x2, x3, x4].length)) (own_u [x0, x1, x2, x3, x4]) (.int (0 : Int32)) := v242_0
  refine g_astore X242 hx 28 (hb hby d_jdk_52_method_16_26) rfl (l' := #[.val (.ref ca), .val (.int (0 : Int32)), .val (.int (5 : Int32)), .val (.ref b233), .val (.int (Int32.ofNat (own_fb [x0, x1, x2, x3, x4]))), .val (.ref vb_242)]) rfl rfl ?_
  refine g_aload X242 hx 30 (hb hby d_jdk_52_method_16_28) rfl rfl rfl ?_
  refine g_iload X242 hx 32 (hb hby d_jdk_52_method_16_30) rfl rfl ?_
  have f253 : Sta Z T242.heap "java/lang/StringUTF16" "$assertionsDisabled" "Z" (.int (1 : Int32)) := (own_Sta_keep Kq242 f244 all0)
  have f254 : Sta Z T242.heap "java/lang/StringUTF16" "HI_BYTE_SHIFT" "I" (.int (0 : Int32)) := (own_Sta_keep Kq242 f245 all0)
  have f255 : Sta Z T242.heap "java/lang/StringUTF16" "LO_BYTE_SHIFT" "I" (.int (8 : Int32)) := (own_Sta_keep Kq242 f246 all0)
  refine own_callS X242 hx hZ hown (hw _ (List.mem_of_getElem? (i := 149) rfl)) (hw _ (List.mem_of_getElem? (i := 150) rfl)) (by decide) (rm_gch l Z a0 hw [] vb_242 kv_242 (Int32.ofNat (own_fb [x0, x1, x2, x3, x4])) [x0, x1, x2, x3, x4] T242.heap n0 z250 V251 f253 f254 f255 (Nat.le_refl _) (own_bj1 (Nat.le_refl _)) (own_bj2 (Nat.le_refl _) hfb) hr) (hw _ (List.mem_of_getElem? (i := 151) rfl)) (hw _ (List.mem_of_getElem? (i := 21) rfl)) rfl 0 (by decide) (by decide) (by decide) (by decide) [(.ref vb_242), (.int (Int32.ofNat (own_fb [x0, x1, x2, x3, x4])))] [] rfl pd_5 rfl 35 rfl (by rw [hml]; rfl) rfl (hb hby d_jdk_52_method_16_32) rfl fun T252 v252 L252 X252 hQ252 => ?_
  obtain ⟨rfl, Nq252, e252⟩ := hQ252
  have N252 := Fr.app N242 Nq252
  show own_GoE p e below _ (T252.setTop (mkF m 35 _ [(.int (own_at [x0, x1, x2, x3, x4] (Int32.ofNat (own_fb [x0, x1, x2, x3, x4]))))]))
  refine g_sipush X252 hx 38 (hb hby d_jdk_52_method_16_35) (255 : Int32) rfl rfl ?_
  have c256 : (255 : Int32) < (own_at [x0, x1, x2, x3, x4] (Int32.ofNat (own_fb [x0, x1, x2, x3, x4]))) := own_bj3 (Nat.le_refl _) hfb
  refine g_icmpYes X252 hx 54 (hb hby d_jdk_52_method_16_38) (own_ii_gt_t c256) (by decide) (by decide) ?_
  refine g_aload X252 hx 56 (hb hby d_jdk_52_method_16_54) rfl rfl rfl ?_
  refine own_retA X252 hx hlk hret rfl rfl (hb hby d_jdk_52_method_16_56) ?_ (by decide) (by decide)
  rw [e252]
  exact ⟨vb_242, kv_242, rfl, N252, K249, g_vb_242, sq_vb_242, V251⟩
theorem d_jdk_52_method_15_0 : decode jdk_52_method_15_code 0 = .ok (.iload_n 1, 1) := by decide +kernel
theorem d_jdk_52_method_15_1 : decode jdk_52_method_15_code 1 = .ok (.aload_n 0, 1) := by decide +kernel
theorem d_jdk_52_method_15_2 : decode jdk_52_method_15_code 2 = .ok (.arraylength, 1) := by decide +kernel
theorem d_jdk_52_method_15_3 : decode jdk_52_method_15_code 3 = .ok (.isub, 1) := by decide +kernel
theorem d_jdk_52_method_15_4 : decode jdk_52_method_15_code 4 = .ok (.bipush 31, 2) := by decide +kernel
theorem d_jdk_52_method_15_6 : decode jdk_52_method_15_code 6 = .ok (.iushr, 1) := by decide +kernel
theorem d_jdk_52_method_15_7 : decode jdk_52_method_15_code 7 = .ok (.i2b, 1) := by decide +kernel
theorem d_jdk_52_method_15_8 : decode jdk_52_method_15_code 8 = .ok (.ireturn, 1) := by decide +kernel
def Q_cfa (Z : State) (bb : Addr) (kb : ClassId) (nn : Int32) (vs : List Value) (zz : Int32) (h0 : Heap) (n0 : Nat) (v : Option Value) (h : Heap) (L : List Loc) : Prop := v = some (.int (own_cfa nn zz)) ∧ Fr n0 L ∧ h = h0
set_option maxRecDepth 65536 in
set_option maxHeartbeats 40000000 in
theorem rm_cfa (l : Launch) (Z : State) (a0 : Array Value) (hw : ∀ d ∈ tables_1, d.before a0 Z = true) (ws : List Jvm.Cond) (bb : Addr) (kb : ClassId) (nn : Int32) (vs : List Value) (zz : Int32) (h0 : Heap) (n0 : Nat) (Z0 : n0 ≤ h0.size) (V_bb : Arv Z h0 bb kb .byte zz vs (.int (0 : Int32))) :
    MetFree l (⟨"java/lang/StringUTF16", "coderFromArrayLen", "([BI)B"⟩ : MethodName) (head1 (Jvm.Cond.code (⟨"java/lang/StringUTF16", "coderFromArrayLen", "([BI)B"⟩ : MethodName) jdk_52_method_15_code 2 (some .byte) :: ws) ({ frames := 0, cells := 0, slots := 0, locals := 0 } : Room)) (fun aA U => aA = #[(.ref bb), (.int nn)] ∧ Z.Warmed39 U.vm ∧ U.heap = h0) (fun _ _ _ _ _ => True) (fun _ U oO U' => ∃ vV LL, oO = .returned vV ∧ Q_cfa Z bb kb nn vs zz h0 n0 vV U'.heap LL ∧ FrameEnd U oO U' LL ({ frames := 0, cells := 0, slots := 0, locals := 0 } : Room).cells ({ frames := 0, cells := 0, slots := 0, locals := 0 } : Room).slots) := by
  refine MetFree.of_bodySF (plainFor_of_name pn_2) hisR ?_
  intro p e s m args below meth c s₁ Bd hml0 hP hK
  obtain ⟨rfl, hZ, hh⟩ := hP
  have hx := Bd.exec
  have hby := Bd.bytes
  have hml : c.maxLocals = 2 := hml0
  have hown : s.vm.findClass "java/lang/StringUTF16" = some m.cls := findClass_of_methodNamed Bd.named
  have hnm := (name_of_methodNamed Bd.named Bd.method).1
  have X0 : Stand p l e ({ frames := 0, cells := 0, slots := 0, locals := 0 } : Room) s m #[(.ref bb), (.int nn)] below meth c s₁ [] 0 0 := Stand.of_body Bd
  have e0 : s₁.heap = h0 := by rw [← hh, Bd.state]; rfl
  have N0 := Fr.nil n0
  have hret := Bd.returns
  have hlk : meth.locks = false := Bd.notSynchronized
  refine own_start (ef_5 m bb nn) ?_
  show own_Go p e below s (Q_cfa Z bb kb nn vs zz h0 n0) ({ frames := 0, cells := 0, slots := 0, locals := 0 } : Room).cells ({ frames := 0, cells := 0, slots := 0, locals := 0 } : Room).slots (s₁.setTop (mkF m 0 #[.val (.ref bb), .val (.int nn)] []))
  refine g_iload_n X0 hx 1 (hb hby d_jdk_52_method_15_0) rfl rfl ?_
  refine g_aload_n X0 hx 2 (hb hby d_jdk_52_method_15_1) rfl rfl rfl ?_
  obtain ⟨cl257, Ar257, q257, S257, P257, H257, G257⟩ := id V_bb
  refine own_arraylength X0 hx hZ e0 Ar257 S257 P257 3 (hb hby d_jdk_52_method_15_2) rfl ?_
  refine g_isub X0 hx 4 (hb hby d_jdk_52_method_15_3) rfl ?_
  refine g_bipush X0 hx 6 (hb hby d_jdk_52_method_15_4) (31 : Int32) rfl rfl ?_
  refine g_iushr X0 hx 7 (hb hby d_jdk_52_method_15_6) rfl ?_
  refine g_i2b X0 hx 8 (hb hby d_jdk_52_method_15_7) rfl ?_
  refine own_retN X0 hx hlk (t := .byte) hret (by simp) (hb hby d_jdk_52_method_15_8) ?_ (by decide) (by decide)
  rw [e0]
  exact ⟨rfl, N0, rfl⟩
theorem d_jdk_42_method_149_0 : decode jdk_42_method_149_code 0 = .ok (.aload_n 0, 1) := by decide +kernel
theorem d_jdk_42_method_149_1 : decode jdk_42_method_149_code 1 = .ok (.invokespecial 1, 3) := by decide +kernel
theorem d_jdk_42_method_149_4 : decode jdk_42_method_149_code 4 = .ok (.iload_n 3, 1) := by decide +kernel
theorem d_jdk_42_method_149_5 : decode jdk_42_method_149_code 5 = .ok (.ifCond .ne 22, 3) := by decide +kernel
theorem d_jdk_42_method_149_27 : decode jdk_42_method_149_code 27 = .ok (.getstatic 38, 3) := by decide +kernel
theorem d_jdk_42_method_149_30 : decode jdk_42_method_149_code 30 = .ok (.ifCond .eq 28, 3) := by decide +kernel
theorem d_jdk_42_method_149_33 : decode jdk_42_method_149_code 33 = .ok (.aload_n 1, 1) := by decide +kernel
theorem d_jdk_42_method_149_34 : decode jdk_42_method_149_code 34 = .ok (.iload_n 2, 1) := by decide +kernel
theorem d_jdk_42_method_149_35 : decode jdk_42_method_149_code 35 = .ok (.iload_n 3, 1) := by decide +kernel
theorem d_jdk_42_method_149_36 : decode jdk_42_method_149_code 36 = .ok (.invokestatic 177, 3) := by decide +kernel
theorem d_jdk_42_method_149_39 : decode jdk_42_method_149_code 39 = .ok (.astore 5, 2) := by decide +kernel
theorem d_jdk_42_method_149_41 : decode jdk_42_method_149_code 41 = .ok (.aload_n 0, 1) := by decide +kernel
theorem d_jdk_42_method_149_42 : decode jdk_42_method_149_code 42 = .ok (.aload 5, 2) := by decide +kernel
theorem d_jdk_42_method_149_44 : decode jdk_42_method_149_code 44 = .ok (.iload_n 3, 1) := by decide +kernel
theorem d_jdk_42_method_149_45 : decode jdk_42_method_149_code 45 = .ok (.invokestatic 47, 3) := by decide +kernel
theorem pd_15 : parseMethodDescriptor "([BI)B" = some ⟨[(.array .byte), .int], some .byte⟩ := by decide +kernel
theorem d_jdk_42_method_149_48 : decode jdk_42_method_149_code 48 = .ok (.putfield 15, 3) := by decide +kernel
theorem d_jdk_42_method_149_51 : decode jdk_42_method_149_code 51 = .ok (.aload_n 0, 1) := by decide +kernel
theorem d_jdk_42_method_149_52 : decode jdk_42_method_149_code 52 = .ok (.aload 5, 2) := by decide +kernel
theorem d_jdk_42_method_149_54 : decode jdk_42_method_149_code 54 = .ok (.putfield 9, 3) := by decide +kernel
theorem d_jdk_42_method_149_57 : decode jdk_42_method_149_code 57 = .ok (.return_, 1) := by decide +kernel
theorem ef_12 (m : MethodId) (x0 : Addr) (x1 : Addr) (x2 : Int32) (x3 : Int32) : entryFrame m #[(.ref x0), (.ref x1), (.int x2), (.int x3), .null] 6 = mkF m 0 #[.val (.ref x0), .val (.ref x1), .val (.int x2), .val (.int x3), .val .null, .unset] [] := by first | (simp [entryFrame, mkF, argsToLocals, Value.category]; done) | rfl
def Q_in4 (Z : State) (o : Addr) (ca : Addr) (kc : ClassId) (x0 : Int32) (x1 : Int32) (x2 : Int32) (x3 : Int32) (x4 : Int32) (zc : Int32) (h0 : Heap) (n0 : Nat) (v : Option Value) (h : Heap) (L : List Loc) : Prop := v = none ∧ Fr n0 L ∧ Keep h0 h [o] ∧ own_Str Z h o [x0, x1, x2, x3, x4]
set_option maxRecDepth 65536 in
set_option maxHeartbeats 40000000 in
theorem rm_in4 (l : Launch) (Z : State) (a0 : Array Value) (hw : ∀ d ∈ tables_1, d.before a0 Z = true) (ws : List Jvm.Cond) (o : Addr) (ca : Addr) (kc : ClassId) (x0 : Int32) (x1 : Int32) (x2 : Int32) (x3 : Int32) (x4 : Int32) (zc : Int32) (h0 : Heap) (n0 : Nat) (Z0 : n0 ≤ h0.size) (E_o : Exa Z h0 o "java/lang/String") (F_o_value : Fld Z h0 o "java/lang/String" "value" "[B" .null) (F_o_coder : Fld Z h0 o "java/lang/String" "coder" "B" (.int (0 : Int32))) (V_ca : Arv Z h0 ca kc .char (5 : Int32) [(.int x0), (.int x1), (.int x2), (.int x3), (.int x4)] (.int (0 : Int32))) (S_COMPACT_STRINGS : Sta Z h0 "java/lang/String" "COMPACT_STRINGS" "Z" (.int zc)) (S__assertionsDisabled : Sta Z h0 "java/lang/StringUTF16" "$assertionsDisabled" "Z" (.int (1 : Int32))) (S_HI_BYTE_SHIFT : Sta Z h0 "java/lang/StringUTF16" "HI_BYTE_SHIFT" "I" (.int (0 : Int32))) (S_LO_BYTE_SHIFT : Sta Z h0 "java/lang/StringUTF16" "LO_BYTE_SHIFT" "I" (.int (8 : Int32))) (g_o : n0 ≤ o) (hz : ¬ (zc = (0 : Int32))) (hr : ∀ x ∈ [x0, x1, x2, x3, x4], 0 ≤ x.toInt ∧ x.toInt ≤ 65535) :
    MetFree l (⟨"java/lang/String", "<init>", "([CIILjava/lang/Void;)V"⟩ : MethodName) (head1 (Jvm.Cond.code (⟨"java/lang/String", "<init>", "([CIILjava/lang/Void;)V"⟩ : MethodName) jdk_42_method_149_code 6 none :: ws) ({ frames := 4, cells := 2, slots := 15, locals := 57 } : Room)) (fun aA U => aA = #[(.ref o), (.ref ca), (.int (0 : Int32)), (.int (5 : Int32)), .null] ∧ Z.Warmed39 U.vm ∧ U.heap = h0) (fun _ _ _ _ _ => True) (fun _ U oO U' => ∃ vV LL, oO = .returned vV ∧ Q_in4 Z o ca kc x0 x1 x2 x3 x4 zc h0 n0 vV U'.heap LL ∧ FrameEnd U oO U' LL ({ frames := 4, cells := 2, slots := 15, locals := 57 } : Room).cells ({ frames := 4, cells := 2, slots := 15, locals := 57 } : Room).slots) := by
  refine MetFree.of_bodySF (plainFor_of_name pn_1) hisR ?_
  intro p e s m args below meth c s₁ Bd hml0 hP hK
  obtain ⟨rfl, hZ, hh⟩ := hP
  have hx := Bd.exec
  have hby := Bd.bytes
  have hml : c.maxLocals = 6 := hml0
  have hown : s.vm.findClass "java/lang/String" = some m.cls := findClass_of_methodNamed Bd.named
  have hnm := (name_of_methodNamed Bd.named Bd.method).1
  have X0 : Stand p l e ({ frames := 4, cells := 2, slots := 15, locals := 57 } : Room) s m #[(.ref o), (.ref ca), (.int (0 : Int32)), (.int (5 : Int32)), .null] below meth c s₁ [] 0 0 := Stand.of_body Bd
  have e0 : s₁.heap = h0 := by rw [← hh, Bd.state]; rfl
  have N0 := Fr.nil n0
  have hret := Bd.returns
  have hlk : meth.locks = false := Bd.notSynchronized
  refine own_start (ef_12 m o ca (0 : Int32) (5 : Int32)) ?_
  show own_Go p e below s (Q_in4 Z o ca kc x0 x1 x2 x3 x4 zc h0 n0) ({ frames := 4, cells := 2, slots := 15, locals := 57 } : Room).cells ({ frames := 4, cells := 2, slots := 15, locals := 57 } : Room).slots (s₁.setTop (mkF m 0 #[.val (.ref o), .val (.ref ca), .val (.int (0 : Int32)), .val (.int (5 : Int32)), .val .null, .unset] []))
  refine g_aload_n X0 hx 1 (hb hby d_jdk_42_method_149_0) rfl rfl rfl ?_
  refine own_initO X0 hx hZ hown (hw _ (List.mem_of_getElem? (i := 15) rfl)) (hw _ (List.mem_of_getElem? (i := 16) rfl)) (hw _ (List.mem_of_getElem? (i := 17) rfl)) e0 4 (by rw [hml]; rfl) (hb hby d_jdk_42_method_149_1) rfl (by decide) 0 rfl (by decide) fun T258 X258 e258 => ?_
  refine g_iload_n X258 hx 5 (hb hby d_jdk_42_method_149_4) rfl rfl ?_
  refine g_ifYes X258 hx 27 (hb hby d_jdk_42_method_149_5) (own_i0_ne_t (by decide)) (by decide) (by decide) ?_
  refine own_getS X258 hx hZ hown (host := "") (Or.inl (hw _ (List.mem_of_getElem? (i := 18) rfl))) Via.refl e258 S_COMPACT_STRINGS 30 (hb hby d_jdk_42_method_149_27) rfl fun T259 X259 e259 => ?_
  refine g_ifNo X259 hx 33 (hb hby d_jdk_42_method_149_30) (own_i0_eq_f hz) rfl ?_
  by_cases c261 : own_fb [x0, x1, x2, x3, x4] = 5
  · show own_GoE p e below _ (T259.setTop (mkF m 33 _ []))
    refine g_aload_n X259 hx 34 (hb hby d_jdk_42_method_149_33) rfl rfl rfl ?_
    refine g_iload_n X259 hx 35 (hb hby d_jdk_42_method_149_34) rfl rfl ?_
    refine g_iload_n X259 hx 36 (hb hby d_jdk_42_method_149_35) rfl rfl ?_
    refine own_callS X259 hx hZ hown (hw _ (List.mem_of_getElem? (i := 19) rfl)) (hw _ (List.mem_of_getElem? (i := 20) rfl)) (by decide) (rm_c2L l Z a0 hw [] ca kc x0 x1 x2 x3 x4 h0 n0 Z0 V_ca S__assertionsDisabled S_HI_BYTE_SHIFT S_LO_BYTE_SHIFT c261) (hw _ (List.mem_of_getElem? (i := 22) rfl)) (hw _ (List.mem_of_getElem? (i := 21) rfl)) e259 0 (by decide) (by decide) (by decide) (by decide) [(.ref ca), (.int (0 : Int32)), (.int (5 : Int32))] [] rfl pd_14 rfl 39 rfl (by rw [hml]; rfl) rfl (hb hby d_jdk_42_method_149_36) rfl fun T262 v262 L262 X262 hQ262 => ?_
    obtain ⟨vb_262, kv_262, rfl, Nq262, Kq262, g_vb_262, sz_vb_262, v262_0⟩ := hQ262
    have ne263 : o ≠ vb_262 := Nat.ne_of_lt (Nat.lt_of_lt_of_le E_o.lt sz_vb_262)
    have ne264 : ca ≠ vb_262 := Nat.ne_of_lt (Nat.lt_of_lt_of_le V_ca.lt sz_vb_262)
    have N262 := Fr.app N0 Nq262
    have sq_vb_262 : h0.size ≤ vb_262 := Nat.le_trans (Keep.refl h0 [o]).1 sz_vb_262
    have K265 : Keep h0 T262.heap [o] := (Keep.refl h0 [o]).trans Kq262 all0
    have z266 : n0 ≤ T262.heap.size := (Nat.le_trans Z0 Kq262.1)
    show own_GoE p e below _ (T262.setTop (mkF m 39 _ [(.ref vb_262)]))
    refine g_astore X262 hx 41 (hb hby d_jdk_42_method_149_39) rfl (l' := #[.val (.ref o), .val (.ref ca), .val (.int (0 : Int32)), .val (.int (5 : Int32)), .val .null, .val (.ref vb_262)]) rfl rfl ?_
    refine g_aload_n X262 hx 42 (hb hby d_jdk_42_method_149_41) rfl rfl rfl ?_
    refine g_aload X262 hx 44 (hb hby d_jdk_42_method_149_42) rfl rfl rfl ?_
    refine g_iload_n X262 hx 45 (hb hby d_jdk_42_method_149_44) rfl rfl ?_
    refine own_callS X262 hx hZ hown (hw _ (List.mem_of_getElem? (i := 27) rfl)) (hw _ (List.mem_of_getElem? (i := 28) rfl)) (by decide) (rm_cfa l Z a0 hw [] vb_262 kv_262 (5 : Int32) ([x0, x1, x2, x3, x4].map fun x => Value.int (own_b x)) (Int32.ofNat [x0, x1, x2, x3, x4].length) T262.heap n0 z266 v262_0) (hw _ (List.mem_of_getElem? (i := 29) rfl)) (hw _ (List.mem_of_getElem? (i := 21) rfl)) rfl 1 (by decide) (by decide) (by decide) (by decide) [(.ref vb_262), (.int (5 : Int32))] [(.ref o)] rfl pd_15 rfl 48 rfl (by rw [hml]; rfl) rfl (hb hby d_jdk_42_method_149_45) rfl fun T267 v267 L267 X267 hQ267 => ?_
    obtain ⟨rfl, Nq267, e267⟩ := hQ267
    have N267 := Fr.app N262 Nq267
    show own_GoE p e below _ (T267.setTop (mkF m 48 _ [(.int (own_cfa (5 : Int32) (Int32.ofNat [x0, x1, x2, x3, x4].length))), (.ref o)]))
    rw [show (own_cfa (5 : Int32) (Int32.ofNat [x0, x1, x2, x3, x4].length)) = (0 : Int32) from show own_cfa (5 : Int32) (Int32.ofNat 5) = (0 : Int32) by decide +kernel]
    have f268 : Exa Z T262.heap o "java/lang/String" := (E_o.keep Kq262)
    have f269 : Fld Z T262.heap o "java/lang/String" "coder" "B" (.int (0 : Int32)) := (F_o_coder.keep Kq262 nin0)
    refine own_putFN X267 hx hZ hown (hw _ (List.mem_of_getElem? (i := 30) rfl)) Via.refl e267 (.int (0 : Int32)) f269 f268 (Or.inr ⟨(hw _ (List.mem_of_getElem? (i := 31) rfl)), rfl, hnm⟩) (hw _ (List.mem_of_getElem? (i := 6) rfl)) (ty := .byte) (by decide) rfl rfl 51 (hb hby d_jdk_42_method_149_48) rfl fun T270 h270 X270 e270 W270 => ?_
    have f270 : Fld Z h270 o "java/lang/String" "coder" "B" (.int (0 : Int32)) := Fld.same W270 f269
    have N270 := Fr.snoc X270 N267 g_o
    have z271 : n0 ≤ h270.size := (Nat.le_trans z266 (Keep.of_wr W270).1)
    have K272 : Keep h0 h270 [o] := K265.wr W270 (Or.inl (List.mem_of_getElem? (i := 0) rfl))
    refine g_aload_n X270 hx 52 (hb hby d_jdk_42_method_149_51) rfl rfl rfl ?_
    refine g_aload X270 hx 54 (hb hby d_jdk_42_method_149_52) rfl rfl rfl ?_
    have f273 : Exa Z h270 o "java/lang/String" := (Exa.wr W270 f268)
    have f274 : Fld Z h270 o "java/lang/String" "value" "[B" .null := (Fld.other W270 (F_o_value.keep Kq262 nin0) (Or.inr (slot_ne (Or.inr (hw _ (List.mem_of_getElem? (i := 33) rfl))) (Or.inr (hw _ (List.mem_of_getElem? (i := 31) rfl))) (by decide) (t := (.array .byte)) (t' := .byte) (by decide) (by decide))))
    refine own_putF X270 hx hZ hown (host := "") (Or.inl (hw _ (List.mem_of_getElem? (i := 32) rfl))) Via.refl e270 f274 f273 (Or.inr ⟨(hw _ (List.mem_of_getElem? (i := 33) rfl)), rfl, hnm⟩) (hw _ (List.mem_of_getElem? (i := 6) rfl)) (ty := (.array .byte)) (by decide) rfl rfl 57 (hb hby d_jdk_42_method_149_54) rfl fun T275 h275 X275 e275 W275 => ?_
    have f275 : Fld Z h275 o "java/lang/String" "value" "[B" (.ref vb_262) := Fld.same W275 f274
    have N275 := Fr.snoc X275 N270 g_o
    have z276 : n0 ≤ h275.size := (Nat.le_trans z271 (Keep.of_wr W275).1)
    have K277 : Keep h0 h275 [o] := K272.wr W275 (Or.inl (List.mem_of_getElem? (i := 0) rfl))
    have f278 : Exa Z h275 o "java/lang/String" := (Exa.wr W275 f273)
    have f279 : Fld Z h275 o "java/lang/String" "coder" "B" (.int (0 : Int32)) := (Fld.other W275 f270 (Or.inr (slot_ne (Or.inr (hw _ (List.mem_of_getElem? (i := 31) rfl))) (Or.inr (hw _ (List.mem_of_getElem? (i := 33) rfl))) (by decide) (t := .byte) (t' := (.array .byte)) (by decide) (by decide))))
    have f280 : Arv Z h275 vb_262 kv_262 .byte (Int32.ofNat [x0, x1, x2, x3, x4].length) ([x0, x1, x2, x3, x4].map fun x => Value.int (own_b x)) (.int (0 : Int32)) := ((v262_0.other W270 (Ne.symm ne263)).other W275 (Ne.symm ne263))
    refine own_retV X275 hx hlk hret (hb hby d_jdk_42_method_149_57) ?_ (by decide) (by decide)
    rw [e275]
    exact ⟨rfl, N275, K277, (Or.inl ⟨vb_262, kv_262, f278, f279, f275, f280, (fun x q => own_r8 (hr x q) (own_fb_all _ c261 x q))⟩)⟩
  · show own_GoE p e below _ (T259.setTop (mkF m 33 _ []))
    refine g_aload_n X259 hx 34 (hb hby d_jdk_42_method_149_33) rfl rfl rfl ?_
    refine g_iload_n X259 hx 35 (hb hby d_jdk_42_method_149_34) rfl rfl ?_
    refine g_iload_n X259 hx 36 (hb hby d_jdk_42_method_149_35) rfl rfl ?_
    refine own_callS X259 hx hZ hown (hw _ (List.mem_of_getElem? (i := 19) rfl)) (hw _ (List.mem_of_getElem? (i := 20) rfl)) (by decide) (rm_c2U l Z a0 hw [] ca kc x0 x1 x2 x3 x4 h0 n0 Z0 V_ca S__assertionsDisabled S_HI_BYTE_SHIFT S_LO_BYTE_SHIFT c261 hr) (hw _ (List.mem_of_getElem? (i := 22) rfl)) (hw _ (List.mem_of_getElem? (i := 21) rfl)) e259 0 (by decide) (by decide) (by decide) (by decide) [(.ref ca), (.int (0 : Int32)), (.int (5 : Int32))] [] rfl pd_14 rfl 39 rfl (by rw [hml]; rfl) rfl (hb hby d_jdk_42_method_149_36) rfl fun T281 v281 L281 X281 hQ281 => ?_
    obtain ⟨vb_281, kv_281, rfl, Nq281, Kq281, g_vb_281, sz_vb_281, v281_0⟩ := hQ281
    have ne282 : o ≠ vb_281 := Nat.ne_of_lt (Nat.lt_of_lt_of_le E_o.lt sz_vb_281)
    have ne283 : ca ≠ vb_281 := Nat.ne_of_lt (Nat.lt_of_lt_of_le V_ca.lt sz_vb_281)
    have N281 := Fr.app N0 Nq281
    have sq_vb_281 : h0.size ≤ vb_281 := Nat.le_trans (Keep.refl h0 [o]).1 sz_vb_281
    have K284 : Keep h0 T281.heap [o] := (Keep.refl h0 [o]).trans Kq281 all0
    have z285 : n0 ≤ T281.heap.size := (Nat.le_trans Z0 Kq281.1)
    show own_GoE p e below _ (T281.setTop (mkF m 39 _ [(.ref vb_281)]))
    refine g_astore X281 hx 41 (hb hby d_jdk_42_method_149_39) rfl (l' := #[.val (.ref o), .val (.ref ca), .val (.int (0 : Int32)), .val (.int (5 : Int32)), .val .null, .val (.ref vb_281)]) rfl rfl ?_
    refine g_aload_n X281 hx 42 (hb hby d_jdk_42_method_149_41) rfl rfl rfl ?_
    refine g_aload X281 hx 44 (hb hby d_jdk_42_method_149_42) rfl rfl rfl ?_
    refine g_iload_n X281 hx 45 (hb hby d_jdk_42_method_149_44) rfl rfl ?_
    refine own_callS X281 hx hZ hown (hw _ (List.mem_of_getElem? (i := 27) rfl)) (hw _ (List.mem_of_getElem? (i := 28) rfl)) (by decide) (rm_cfa l Z a0 hw [] vb_281 kv_281 (5 : Int32) (own_u [x0, x1, x2, x3, x4]) (Int32.ofNat (2 * [x0, x1, x2, x3, x4].length)) T281.heap n0 z285 v281_0) (hw _ (List.mem_of_getElem? (i := 29) rfl)) (hw _ (List.mem_of_getElem? (i := 21) rfl)) rfl 1 (by decide) (by decide) (by decide) (by decide) [(.ref vb_281), (.int (5 : Int32))] [(.ref o)] rfl pd_15 rfl 48 rfl (by rw [hml]; rfl) rfl (hb hby d_jdk_42_method_149_45) rfl fun T286 v286 L286 X286 hQ286 => ?_
    obtain ⟨rfl, Nq286, e286⟩ := hQ286
    have N286 := Fr.app N281 Nq286
    show own_GoE p e below _ (T286.setTop (mkF m 48 _ [(.int (own_cfa (5 : Int32) (Int32.ofNat (2 * [x0, x1, x2, x3, x4].length)))), (.ref o)]))
    rw [show (own_cfa (5 : Int32) (Int32.ofNat (2 * [x0, x1, x2, x3, x4].length))) = (1 : Int32) from show own_cfa (5 : Int32) (Int32.ofNat (2 * 5)) = (1 : Int32) by decide +kernel]
    have f287 : Exa Z T281.heap o "java/lang/String" := (E_o.keep Kq281)
    have f288 : Fld Z T281.heap o "java/lang/String" "coder" "B" (.int (0 : Int32)) := (F_o_coder.keep Kq281 nin0)
    refine own_putFN X286 hx hZ hown (hw _ (List.mem_of_getElem? (i := 30) rfl)) Via.refl e286 (.int (1 : Int32)) f288 f287 (Or.inr ⟨(hw _ (List.mem_of_getElem? (i := 31) rfl)), rfl, hnm⟩) (hw _ (List.mem_of_getElem? (i := 6) rfl)) (ty := .byte) (by decide) rfl rfl 51 (hb hby d_jdk_42_method_149_48) rfl fun T289 h289 X289 e289 W289 => ?_
    have f289 : Fld Z h289 o "java/lang/String" "coder" "B" (.int (1 : Int32)) := Fld.same W289 f288
    have N289 := Fr.snoc X289 N286 g_o
    have z290 : n0 ≤ h289.size := (Nat.le_trans z285 (Keep.of_wr W289).1)
    have K291 : Keep h0 h289 [o] := K284.wr W289 (Or.inl (List.mem_of_getElem? (i := 0) rfl))
    refine g_aload_n X289 hx 52 (hb hby d_jdk_42_method_149_51) rfl rfl rfl ?_
    refine g_aload X289 hx 54 (hb hby d_jdk_42_method_149_52) rfl rfl rfl ?_
    have f292 : Exa Z h289 o "java/lang/String" := (Exa.wr W289 f287)
    have f293 : Fld Z h289 o "java/lang/String" "value" "[B" .null := (Fld.other W289 (F_o_value.keep Kq281 nin0) (Or.inr (slot_ne (Or.inr (hw _ (List.mem_of_getElem? (i := 33) rfl))) (Or.inr (hw _ (List.mem_of_getElem? (i := 31) rfl))) (by decide) (t := (.array .byte)) (t' := .byte) (by decide) (by decide))))
    refine own_putF X289 hx hZ hown (host := "") (Or.inl (hw _ (List.mem_of_getElem? (i := 32) rfl))) Via.refl e289 f293 f292 (Or.inr ⟨(hw _ (List.mem_of_getElem? (i := 33) rfl)), rfl, hnm⟩) (hw _ (List.mem_of_getElem? (i := 6) rfl)) (ty := (.array .byte)) (by decide) rfl rfl 57 (hb hby d_jdk_42_method_149_54) rfl fun T294 h294 X294 e294 W294 => ?_
    have f294 : Fld Z h294 o "java/lang/String" "value" "[B" (.ref vb_281) := Fld.same W294 f293
    have N294 := Fr.snoc X294 N289 g_o
    have z295 : n0 ≤ h294.size := (Nat.le_trans z290 (Keep.of_wr W294).1)
    have K296 : Keep h0 h294 [o] := K291.wr W294 (Or.inl (List.mem_of_getElem? (i := 0) rfl))
    have f297 : Exa Z h294 o "java/lang/String" := (Exa.wr W294 f292)
    have f298 : Fld Z h294 o "java/lang/String" "coder" "B" (.int (1 : Int32)) := (Fld.other W294 f289 (Or.inr (slot_ne (Or.inr (hw _ (List.mem_of_getElem? (i := 31) rfl))) (Or.inr (hw _ (List.mem_of_getElem? (i := 33) rfl))) (by decide) (t := .byte) (t' := (.array .byte)) (by decide) (by decide))))
    have f299 : Arv Z h294 vb_281 kv_281 .byte (Int32.ofNat (2 * [x0, x1, x2, x3, x4].length)) (own_u [x0, x1, x2, x3, x4]) (.int (0 : Int32)) := ((v281_0.other W289 (Ne.symm ne282)).other W294 (Ne.symm ne282))
    refine own_retV X294 hx hlk hret (hb hby d_jdk_42_method_149_57) ?_ (by decide) (by decide)
    rw [e294]
    exact ⟨rfl, N294, K296, (Or.inr ⟨vb_281, kv_281, f297, f298, f294, f299, hr⟩)⟩
theorem d_jdk_42_method_3_0 : decode jdk_42_method_3_code 0 = .ok (.aload_n 0, 1) := by decide +kernel
theorem d_jdk_42_method_3_1 : decode jdk_42_method_3_code 1 = .ok (.aload_n 1, 1) := by decide +kernel
theorem d_jdk_42_method_3_2 : decode jdk_42_method_3_code 2 = .ok (.iconst 0, 1) := by decide +kernel
theorem d_jdk_42_method_3_3 : decode jdk_42_method_3_code 3 = .ok (.aload_n 1, 1) := by decide +kernel
theorem d_jdk_42_method_3_4 : decode jdk_42_method_3_code 4 = .ok (.arraylength, 1) := by decide +kernel
theorem d_jdk_42_method_3_5 : decode jdk_42_method_3_code 5 = .ok (.aconst_null, 1) := by decide +kernel
theorem d_jdk_42_method_3_6 : decode jdk_42_method_3_code 6 = .ok (.invokespecial 27, 3) := by decide +kernel
theorem pd_16 : parseMethodDescriptor "([CIILjava/lang/Void;)V" = some ⟨[(.array .char), .int, .int, (.object "java/lang/Void")], none⟩ := by decide +kernel
theorem d_jdk_42_method_3_9 : decode jdk_42_method_3_code 9 = .ok (.return_, 1) := by decide +kernel
theorem ef_13 (m : MethodId) (x0 : Addr) (x1 : Addr) : entryFrame m #[(.ref x0), (.ref x1)] 2 = mkF m 0 #[.val (.ref x0), .val (.ref x1)] [] := by first | (simp [entryFrame, mkF, argsToLocals, Value.category]; done) | rfl
def Q_in1 (Z : State) (o : Addr) (ca : Addr) (kc : ClassId) (x0 : Int32) (x1 : Int32) (x2 : Int32) (x3 : Int32) (x4 : Int32) (zc : Int32) (h0 : Heap) (n0 : Nat) (v : Option Value) (h : Heap) (L : List Loc) : Prop := v = none ∧ Fr n0 L ∧ Keep h0 h [o] ∧ own_Str Z h o [x0, x1, x2, x3, x4]
set_option maxRecDepth 65536 in
set_option maxHeartbeats 40000000 in
theorem rm_in1 (l : Launch) (Z : State) (a0 : Array Value) (hw : ∀ d ∈ tables_1, d.before a0 Z = true) (ws : List Jvm.Cond) (o : Addr) (ca : Addr) (kc : ClassId) (x0 : Int32) (x1 : Int32) (x2 : Int32) (x3 : Int32) (x4 : Int32) (zc : Int32) (h0 : Heap) (n0 : Nat) (Z0 : n0 ≤ h0.size) (E_o : Exa Z h0 o "java/lang/String") (F_o_value : Fld Z h0 o "java/lang/String" "value" "[B" .null) (F_o_coder : Fld Z h0 o "java/lang/String" "coder" "B" (.int (0 : Int32))) (V_ca : Arv Z h0 ca kc .char (5 : Int32) [(.int x0), (.int x1), (.int x2), (.int x3), (.int x4)] (.int (0 : Int32))) (S_COMPACT_STRINGS : Sta Z h0 "java/lang/String" "COMPACT_STRINGS" "Z" (.int zc)) (S__assertionsDisabled : Sta Z h0 "java/lang/StringUTF16" "$assertionsDisabled" "Z" (.int (1 : Int32))) (S_HI_BYTE_SHIFT : Sta Z h0 "java/lang/StringUTF16" "HI_BYTE_SHIFT" "I" (.int (0 : Int32))) (S_LO_BYTE_SHIFT : Sta Z h0 "java/lang/StringUTF16" "LO_BYTE_SHIFT" "I" (.int (8 : Int32))) (g_o : n0 ≤ o) (hz : ¬ (zc = (0 : Int32))) (hr : ∀ x ∈ [x0, x1, x2, x3, x4], 0 ≤ x.toInt ∧ x.toInt ≤ 65535) :
    MetFree l (⟨"java/lang/String", "<init>", "([C)V"⟩ : MethodName) (head1 (Jvm.Cond.code (⟨"java/lang/String", "<init>", "([C)V"⟩ : MethodName) jdk_42_method_3_code 2 none :: ws) ({ frames := 5, cells := 2, slots := 15, locals := 74 } : Room)) (fun aA U => aA = #[(.ref o), (.ref ca)] ∧ Z.Warmed39 U.vm ∧ U.heap = h0) (fun _ _ _ _ _ => True) (fun _ U oO U' => ∃ vV LL, oO = .returned vV ∧ Q_in1 Z o ca kc x0 x1 x2 x3 x4 zc h0 n0 vV U'.heap LL ∧ FrameEnd U oO U' LL ({ frames := 5, cells := 2, slots := 15, locals := 74 } : Room).cells ({ frames := 5, cells := 2, slots := 15, locals := 74 } : Room).slots) := by
  refine MetFree.of_bodySF (plainFor_of_name pn_1) hisR ?_
  intro p e s m args below meth c s₁ Bd hml0 hP hK
  obtain ⟨rfl, hZ, hh⟩ := hP
  have hx := Bd.exec
  have hby := Bd.bytes
  have hml : c.maxLocals = 2 := hml0
  have hown : s.vm.findClass "java/lang/String" = some m.cls := findClass_of_methodNamed Bd.named
  have hnm := (name_of_methodNamed Bd.named Bd.method).1
  have X0 : Stand p l e ({ frames := 5, cells := 2, slots := 15, locals := 74 } : Room) s m #[(.ref o), (.ref ca)] below meth c s₁ [] 0 0 := Stand.of_body Bd
  have e0 : s₁.heap = h0 := by rw [← hh, Bd.state]; rfl
  have N0 := Fr.nil n0
  have hret := Bd.returns
  have hlk : meth.locks = false := Bd.notSynchronized
  refine own_start (ef_13 m o ca) ?_
  show own_Go p e below s (Q_in1 Z o ca kc x0 x1 x2 x3 x4 zc h0 n0) ({ frames := 5, cells := 2, slots := 15, locals := 74 } : Room).cells ({ frames := 5, cells := 2, slots := 15, locals := 74 } : Room).slots (s₁.setTop (mkF m 0 #[.val (.ref o), .val (.ref ca)] []))
  refine g_aload_n X0 hx 1 (hb hby d_jdk_42_method_3_0) rfl rfl rfl ?_
  refine g_aload_n X0 hx 2 (hb hby d_jdk_42_method_3_1) rfl rfl rfl ?_
  refine g_iconst X0 hx 3 (hb hby d_jdk_42_method_3_2) (0 : Int32) rfl rfl ?_
  refine g_aload_n X0 hx 4 (hb hby d_jdk_42_method_3_3) rfl rfl rfl ?_
  obtain ⟨cl300, Ar300, q300, S300, P300, H300, G300⟩ := id V_ca
  refine own_arraylength X0 hx hZ e0 Ar300 S300 P300 5 (hb hby d_jdk_42_method_3_4) rfl ?_
  refine g_aconst_null X0 hx 6 (hb hby d_jdk_42_method_3_5) rfl ?_
  refine own_callI X0 hx hZ hown rfl (hw _ (List.mem_of_getElem? (i := 11) rfl)) (hw _ (List.mem_of_getElem? (i := 12) rfl)) (by decide) (rm_in4 l Z a0 hw [] o ca kc x0 x1 x2 x3 x4 zc h0 n0 Z0 E_o F_o_value F_o_coder V_ca S_COMPACT_STRINGS S__assertionsDisabled S_HI_BYTE_SHIFT S_LO_BYTE_SHIFT g_o hz hr) (hw _ (List.mem_of_getElem? (i := 14) rfl)) (hw _ (List.mem_of_getElem? (i := 7) rfl)) e0 0 (by decide) (by decide) (by decide) (by decide) o [(.ref ca), (.int (0 : Int32)), (.int (5 : Int32)), .null] [] rfl pd_16 rfl 9 rfl (by rw [hml]; rfl) rfl (hb hby d_jdk_42_method_3_6) rfl fun T301 v301 L301 X301 hQ301 => ?_
  obtain ⟨rfl, Nq301, Kq301, st301_0⟩ := hQ301
  have N301 := Fr.app N0 Nq301
  have K302 : Keep h0 T301.heap [o] := (Keep.refl h0 [o]).trans Kq301 (allS (Or.inl (List.mem_of_getElem? (i := 0) rfl)) all0)
  have z303 : n0 ≤ T301.heap.size := (Nat.le_trans Z0 Kq301.1)
  show own_GoE p e below _ (T301.setTop (mkF m 9 _ []))
  refine own_retV X301 hx hlk hret (hb hby d_jdk_42_method_3_9) ?_ (by decide) (by decide)
  exact ⟨rfl, N301, K302, st301_0⟩
theorem d_jdk_42_method_151_0 : decode jdk_42_method_151_code 0 = .ok (.aload_n 0, 1) := by decide +kernel
theorem d_jdk_42_method_151_1 : decode jdk_42_method_151_code 1 = .ok (.invokespecial 1, 3) := by decide +kernel
theorem d_jdk_42_method_151_4 : decode jdk_42_method_151_code 4 = .ok (.aload_n 0, 1) := by decide +kernel
theorem d_jdk_42_method_151_5 : decode jdk_42_method_151_code 5 = .ok (.aload_n 1, 1) := by decide +kernel
theorem d_jdk_42_method_151_6 : decode jdk_42_method_151_code 6 = .ok (.putfield 9, 3) := by decide +kernel
theorem d_jdk_42_method_151_9 : decode jdk_42_method_151_code 9 = .ok (.aload_n 0, 1) := by decide +kernel
theorem d_jdk_42_method_151_10 : decode jdk_42_method_151_code 10 = .ok (.iload_n 2, 1) := by decide +kernel
theorem d_jdk_42_method_151_11 : decode jdk_42_method_151_code 11 = .ok (.putfield 15, 3) := by decide +kernel
theorem d_jdk_42_method_151_14 : decode jdk_42_method_151_code 14 = .ok (.return_, 1) := by decide +kernel
theorem ef_14 (m : MethodId) (x0 : Addr) (x1 : Addr) (x2 : Int32) : entryFrame m #[(.ref x0), (.ref x1), (.int x2)] 3 = mkF m 0 #[.val (.ref x0), .val (.ref x1), .val (.int x2)] [] := by first | (simp [entryFrame, mkF, argsToLocals, Value.category]; done) | rfl
def Q_inbL (Z : State) (o : Addr) (bb : Addr) (h0 : Heap) (n0 : Nat) (v : Option Value) (h : Heap) (L : List Loc) : Prop := v = none ∧ Fr n0 L ∧ Keep h0 h [o] ∧ Fld Z h o "java/lang/String" "value" "[B" (.ref bb) ∧ Fld Z h o "java/lang/String" "coder" "B" (.int (0 : Int32))
set_option maxRecDepth 65536 in
set_option maxHeartbeats 40000000 in
theorem rm_inbL (l : Launch) (Z : State) (a0 : Array Value) (hw : ∀ d ∈ tables_1, d.before a0 Z = true) (ws : List Jvm.Cond) (o : Addr) (bb : Addr) (h0 : Heap) (n0 : Nat) (Z0 : n0 ≤ h0.size) (E_o : Exa Z h0 o "java/lang/String") (F_o_value : Fld Z h0 o "java/lang/String" "value" "[B" .null) (F_o_coder : Fld Z h0 o "java/lang/String" "coder" "B" (.int (0 : Int32))) (g_o : n0 ≤ o) :
    MetFree l (⟨"java/lang/String", "<init>", "([BB)V"⟩ : MethodName) (head1 (Jvm.Cond.code (⟨"java/lang/String", "<init>", "([BB)V"⟩ : MethodName) jdk_42_method_151_code 3 none :: ws) ({ frames := 1, cells := 0, slots := 0, locals := 12 } : Room)) (fun aA U => aA = #[(.ref o), (.ref bb), (.int (0 : Int32))] ∧ Z.Warmed39 U.vm ∧ U.heap = h0) (fun _ _ _ _ _ => True) (fun _ U oO U' => ∃ vV LL, oO = .returned vV ∧ Q_inbL Z o bb h0 n0 vV U'.heap LL ∧ FrameEnd U oO U' LL ({ frames := 1, cells := 0, slots := 0, locals := 12 } : Room).cells ({ frames := 1, cells := 0, slots := 0, locals := 12 } : Room).slots) := by
  refine MetFree.of_bodySF (plainFor_of_name pn_1) hisR ?_
  intro p e s m args below meth c s₁ Bd hml0 hP hK
  obtain ⟨rfl, hZ, hh⟩ := hP
  have hx := Bd.exec
  have hby := Bd.bytes
  have hml : c.maxLocals = 3 := hml0
  have hown : s.vm.findClass "java/lang/String" = some m.cls := findClass_of_methodNamed Bd.named
  have hnm := (name_of_methodNamed Bd.named Bd.method).1
  have X0 : Stand p l e ({ frames := 1, cells := 0, slots := 0, locals := 12 } : Room) s m #[(.ref o), (.ref bb), (.int (0 : Int32))] below meth c s₁ [] 0 0 := Stand.of_body Bd
  have e0 : s₁.heap = h0 := by rw [← hh, Bd.state]; rfl
  have N0 := Fr.nil n0
  have hret := Bd.returns
  have hlk : meth.locks = false := Bd.notSynchronized
  refine own_start (ef_14 m o bb (0 : Int32)) ?_
  show own_Go p e below s (Q_inbL Z o bb h0 n0) ({ frames := 1, cells := 0, slots := 0, locals := 12 } : Room).cells ({ frames := 1, cells := 0, slots := 0, locals := 12 } : Room).slots (s₁.setTop (mkF m 0 #[.val (.ref o), .val (.ref bb), .val (.int (0 : Int32))] []))
  refine g_aload_n X0 hx 1 (hb hby d_jdk_42_method_151_0) rfl rfl rfl ?_
  refine own_initO X0 hx hZ hown (hw _ (List.mem_of_getElem? (i := 15) rfl)) (hw _ (List.mem_of_getElem? (i := 16) rfl)) (hw _ (List.mem_of_getElem? (i := 17) rfl)) e0 4 (by rw [hml]; rfl) (hb hby d_jdk_42_method_151_1) rfl (by decide) 0 rfl (by decide) fun T304 X304 e304 => ?_
  refine g_aload_n X304 hx 5 (hb hby d_jdk_42_method_151_4) rfl rfl rfl ?_
  refine g_aload_n X304 hx 6 (hb hby d_jdk_42_method_151_5) rfl rfl rfl ?_
  refine own_putF X304 hx hZ hown (host := "") (Or.inl (hw _ (List.mem_of_getElem? (i := 32) rfl))) Via.refl e304 F_o_value E_o (Or.inr ⟨(hw _ (List.mem_of_getElem? (i := 33) rfl)), rfl, hnm⟩) (hw _ (List.mem_of_getElem? (i := 6) rfl)) (ty := (.array .byte)) (by decide) rfl rfl 9 (hb hby d_jdk_42_method_151_6) rfl fun T305 h305 X305 e305 W305 => ?_
  have f305 : Fld Z h305 o "java/lang/String" "value" "[B" (.ref bb) := Fld.same W305 F_o_value
  have N305 := Fr.snoc X305 N0 g_o
  have z306 : n0 ≤ h305.size := (Nat.le_trans Z0 (Keep.of_wr W305).1)
  have K307 : Keep h0 h305 [o] := (Keep.refl h0 [o]).wr W305 (Or.inl (List.mem_of_getElem? (i := 0) rfl))
  refine g_aload_n X305 hx 10 (hb hby d_jdk_42_method_151_9) rfl rfl rfl ?_
  refine g_iload_n X305 hx 11 (hb hby d_jdk_42_method_151_10) rfl rfl ?_
  have f308 : Exa Z h305 o "java/lang/String" := (Exa.wr W305 E_o)
  have f309 : Fld Z h305 o "java/lang/String" "coder" "B" (.int (0 : Int32)) := (Fld.other W305 F_o_coder (Or.inr (slot_ne (Or.inr (hw _ (List.mem_of_getElem? (i := 31) rfl))) (Or.inr (hw _ (List.mem_of_getElem? (i := 33) rfl))) (by decide) (t := .byte) (t' := (.array .byte)) (by decide) (by decide))))
  refine own_putFN X305 hx hZ hown (hw _ (List.mem_of_getElem? (i := 30) rfl)) Via.refl e305 (.int (0 : Int32)) f309 f308 (Or.inr ⟨(hw _ (List.mem_of_getElem? (i := 31) rfl)), rfl, hnm⟩) (hw _ (List.mem_of_getElem? (i := 6) rfl)) (ty := .byte) (by decide) rfl rfl 14 (hb hby d_jdk_42_method_151_11) rfl fun T310 h310 X310 e310 W310 => ?_
  have f310 : Fld Z h310 o "java/lang/String" "coder" "B" (.int (0 : Int32)) := Fld.same W310 f309
  have N310 := Fr.snoc X310 N305 g_o
  have z311 : n0 ≤ h310.size := (Nat.le_trans z306 (Keep.of_wr W310).1)
  have K312 : Keep h0 h310 [o] := K307.wr W310 (Or.inl (List.mem_of_getElem? (i := 0) rfl))
  have f313 : Fld Z h310 o "java/lang/String" "value" "[B" (.ref bb) := (Fld.other W310 f305 (Or.inr (slot_ne (Or.inr (hw _ (List.mem_of_getElem? (i := 33) rfl))) (Or.inr (hw _ (List.mem_of_getElem? (i := 31) rfl))) (by decide) (t := (.array .byte)) (t' := .byte) (by decide) (by decide))))
  refine own_retV X310 hx hlk hret (hb hby d_jdk_42_method_151_14) ?_ (by decide) (by decide)
  rw [e310]
  exact ⟨rfl, N310, K312, f313, f310⟩
def Q_inbU (Z : State) (o : Addr) (bb : Addr) (h0 : Heap) (n0 : Nat) (v : Option Value) (h : Heap) (L : List Loc) : Prop := v = none ∧ Fr n0 L ∧ Keep h0 h [o] ∧ Fld Z h o "java/lang/String" "value" "[B" (.ref bb) ∧ Fld Z h o "java/lang/String" "coder" "B" (.int (1 : Int32))
set_option maxRecDepth 65536 in
set_option maxHeartbeats 40000000 in
theorem rm_inbU (l : Launch) (Z : State) (a0 : Array Value) (hw : ∀ d ∈ tables_1, d.before a0 Z = true) (ws : List Jvm.Cond) (o : Addr) (bb : Addr) (h0 : Heap) (n0 : Nat) (Z0 : n0 ≤ h0.size) (E_o : Exa Z h0 o "java/lang/String") (F_o_value : Fld Z h0 o "java/lang/String" "value" "[B" .null) (F_o_coder : Fld Z h0 o "java/lang/String" "coder" "B" (.int (0 : Int32))) (g_o : n0 ≤ o) :
    MetFree l (⟨"java/lang/String", "<init>", "([BB)V"⟩ : MethodName) (head1 (Jvm.Cond.code (⟨"java/lang/String", "<init>", "([BB)V"⟩ : MethodName) jdk_42_method_151_code 3 none :: ws) ({ frames := 1, cells := 0, slots := 0, locals := 12 } : Room)) (fun aA U => aA = #[(.ref o), (.ref bb), (.int (1 : Int32))] ∧ Z.Warmed39 U.vm ∧ U.heap = h0) (fun _ _ _ _ _ => True) (fun _ U oO U' => ∃ vV LL, oO = .returned vV ∧ Q_inbU Z o bb h0 n0 vV U'.heap LL ∧ FrameEnd U oO U' LL ({ frames := 1, cells := 0, slots := 0, locals := 12 } : Room).cells ({ frames := 1, cells := 0, slots := 0, locals := 12 } : Room).slots) := by
  refine MetFree.of_bodySF (plainFor_of_name pn_1) hisR ?_
  intro p e s m args below meth c s₁ Bd hml0 hP hK
  obtain ⟨rfl, hZ, hh⟩ := hP
  have hx := Bd.exec
  have hby := Bd.bytes
  have hml : c.maxLocals = 3 := hml0
  have hown : s.vm.findClass "java/lang/String" = some m.cls := findClass_of_methodNamed Bd.named
  have hnm := (name_of_methodNamed Bd.named Bd.method).1
  have X0 : Stand p l e ({ frames := 1, cells := 0, slots := 0, locals := 12 } : Room) s m #[(.ref o), (.ref bb), (.int (1 : Int32))] below meth c s₁ [] 0 0 := Stand.of_body Bd
  have e0 : s₁.heap = h0 := by rw [← hh, Bd.state]; rfl
  have N0 := Fr.nil n0
  have hret := Bd.returns
  have hlk : meth.locks = false := Bd.notSynchronized
  refine own_start (ef_14 m o bb (1 : Int32)) ?_
  show own_Go p e below s (Q_inbU Z o bb h0 n0) ({ frames := 1, cells := 0, slots := 0, locals := 12 } : Room).cells ({ frames := 1, cells := 0, slots := 0, locals := 12 } : Room).slots (s₁.setTop (mkF m 0 #[.val (.ref o), .val (.ref bb), .val (.int (1 : Int32))] []))
  refine g_aload_n X0 hx 1 (hb hby d_jdk_42_method_151_0) rfl rfl rfl ?_
  refine own_initO X0 hx hZ hown (hw _ (List.mem_of_getElem? (i := 15) rfl)) (hw _ (List.mem_of_getElem? (i := 16) rfl)) (hw _ (List.mem_of_getElem? (i := 17) rfl)) e0 4 (by rw [hml]; rfl) (hb hby d_jdk_42_method_151_1) rfl (by decide) 0 rfl (by decide) fun T314 X314 e314 => ?_
  refine g_aload_n X314 hx 5 (hb hby d_jdk_42_method_151_4) rfl rfl rfl ?_
  refine g_aload_n X314 hx 6 (hb hby d_jdk_42_method_151_5) rfl rfl rfl ?_
  refine own_putF X314 hx hZ hown (host := "") (Or.inl (hw _ (List.mem_of_getElem? (i := 32) rfl))) Via.refl e314 F_o_value E_o (Or.inr ⟨(hw _ (List.mem_of_getElem? (i := 33) rfl)), rfl, hnm⟩) (hw _ (List.mem_of_getElem? (i := 6) rfl)) (ty := (.array .byte)) (by decide) rfl rfl 9 (hb hby d_jdk_42_method_151_6) rfl fun T315 h315 X315 e315 W315 => ?_
  have f315 : Fld Z h315 o "java/lang/String" "value" "[B" (.ref bb) := Fld.same W315 F_o_value
  have N315 := Fr.snoc X315 N0 g_o
  have z316 : n0 ≤ h315.size := (Nat.le_trans Z0 (Keep.of_wr W315).1)
  have K317 : Keep h0 h315 [o] := (Keep.refl h0 [o]).wr W315 (Or.inl (List.mem_of_getElem? (i := 0) rfl))
  refine g_aload_n X315 hx 10 (hb hby d_jdk_42_method_151_9) rfl rfl rfl ?_
  refine g_iload_n X315 hx 11 (hb hby d_jdk_42_method_151_10) rfl rfl ?_
  have f318 : Exa Z h315 o "java/lang/String" := (Exa.wr W315 E_o)
  have f319 : Fld Z h315 o "java/lang/String" "coder" "B" (.int (0 : Int32)) := (Fld.other W315 F_o_coder (Or.inr (slot_ne (Or.inr (hw _ (List.mem_of_getElem? (i := 31) rfl))) (Or.inr (hw _ (List.mem_of_getElem? (i := 33) rfl))) (by decide) (t := .byte) (t' := (.array .byte)) (by decide) (by decide))))
  refine own_putFN X315 hx hZ hown (hw _ (List.mem_of_getElem? (i := 30) rfl)) Via.refl e315 (.int (1 : Int32)) f319 f318 (Or.inr ⟨(hw _ (List.mem_of_getElem? (i := 31) rfl)), rfl, hnm⟩) (hw _ (List.mem_of_getElem? (i := 6) rfl)) (ty := .byte) (by decide) rfl rfl 14 (hb hby d_jdk_42_method_151_11) rfl fun T320 h320 X320 e320 W320 => ?_
  have f320 : Fld Z h320 o "java/lang/String" "coder" "B" (.int (1 : Int32)) := Fld.same W320 f319
  have N320 := Fr.snoc X320 N315 g_o
  have z321 : n0 ≤ h320.size := (Nat.le_trans z316 (Keep.of_wr W320).1)
  have K322 : Keep h0 h320 [o] := K317.wr W320 (Or.inl (List.mem_of_getElem? (i := 0) rfl))
  have f323 : Fld Z h320 o "java/lang/String" "value" "[B" (.ref bb) := (Fld.other W320 f315 (Or.inr (slot_ne (Or.inr (hw _ (List.mem_of_getElem? (i := 33) rfl))) (Or.inr (hw _ (List.mem_of_getElem? (i := 31) rfl))) (by decide) (t := (.array .byte)) (t' := .byte) (by decide) (by decide))))
  refine own_retV X320 hx hlk hret (hb hby d_jdk_42_method_151_14) ?_ (by decide) (by decide)
  rw [e320]
  exact ⟨rfl, N320, K322, f323, f320⟩
theorem d_jdk_43_method_47_0 : decode jdk_43_method_47_code 0 = .ok (.iload_n 2, 1) := by decide +kernel
theorem d_jdk_43_method_47_1 : decode jdk_43_method_47_code 1 = .ok (.ifCond .ne 6, 3) := by decide +kernel
theorem d_jdk_43_method_47_7 : decode jdk_43_method_47_code 7 = .ok (.new 1, 3) := by decide +kernel
theorem d_jdk_43_method_47_10 : decode jdk_43_method_47_code 10 = .ok (.dup, 1) := by decide +kernel
theorem d_jdk_43_method_47_11 : decode jdk_43_method_47_code 11 = .ok (.aload_n 0, 1) := by decide +kernel
theorem d_jdk_43_method_47_12 : decode jdk_43_method_47_code 12 = .ok (.iload_n 1, 1) := by decide +kernel
theorem d_jdk_43_method_47_13 : decode jdk_43_method_47_code 13 = .ok (.iload_n 1, 1) := by decide +kernel
theorem d_jdk_43_method_47_14 : decode jdk_43_method_47_code 14 = .ok (.iload_n 2, 1) := by decide +kernel
theorem d_jdk_43_method_47_15 : decode jdk_43_method_47_code 15 = .ok (.iadd, 1) := by decide +kernel
theorem d_jdk_43_method_47_16 : decode jdk_43_method_47_code 16 = .ok (.invokestatic 232, 3) := by decide +kernel
theorem d_jdk_43_method_47_19 : decode jdk_43_method_47_code 19 = .ok (.iconst 0, 1) := by decide +kernel
theorem d_jdk_43_method_47_20 : decode jdk_43_method_47_code 20 = .ok (.invokespecial 112, 3) := by decide +kernel
theorem pd_17 : parseMethodDescriptor "([BB)V" = some ⟨[(.array .byte), .byte], none⟩ := by decide +kernel
theorem d_jdk_43_method_47_23 : decode jdk_43_method_47_code 23 = .ok (.areturn, 1) := by decide +kernel
def Q_nsl (Z : State) (b : Addr) (k : ClassId) (ff : Int32) (nn : Int32) (cs : List Int32) (h0 : Heap) (n0 : Nat) (v : Option Value) (h : Heap) (L : List Loc) : Prop := ∃ r : Addr, v = some (.ref r) ∧ Fr n0 L ∧ Keep h0 h [] ∧ n0 ≤ r ∧ h0.size ≤ r ∧ own_Str Z h r (own_ds cs ff nn)
set_option maxRecDepth 65536 in
set_option maxHeartbeats 40000000 in
theorem rm_nsl (l : Launch) (Z : State) (a0 : Array Value) (hw : ∀ d ∈ tables_1, d.before a0 Z = true) (ws : List Jvm.Cond) (b : Addr) (k : ClassId) (ff : Int32) (nn : Int32) (cs : List Int32) (h0 : Heap) (n0 : Nat) (Z0 : n0 ≤ h0.size) (V_b : Arv Z h0 b k .byte (Int32.ofNat cs.length) (cs.map fun x => Value.int (own_b x)) (.int (0 : Int32))) (hc : own_C ff nn cs.length) (hr : ∀ x ∈ cs, 0 ≤ x.toInt ∧ x.toInt ≤ 255) :
    MetFree l (⟨"java/lang/StringLatin1", "newString", "([BII)Ljava/lang/String;"⟩ : MethodName) (head1 (Jvm.Cond.code (⟨"java/lang/StringLatin1", "newString", "([BII)Ljava/lang/String;"⟩ : MethodName) jdk_43_method_47_code 3 (some (.object "java/lang/String")) :: ws) ({ frames := 3, cells := 2, slots := 14, locals := 50 } : Room)) (fun aA U => aA = #[(.ref b), (.int ff), (.int nn)] ∧ Z.Warmed39 U.vm ∧ U.heap = h0) (fun _ _ _ _ _ => True) (fun _ U oO U' => ∃ vV LL, oO = .returned vV ∧ Q_nsl Z b k ff nn cs h0 n0 vV U'.heap LL ∧ FrameEnd U oO U' LL ({ frames := 3, cells := 2, slots := 14, locals := 50 } : Room).cells ({ frames := 3, cells := 2, slots := 14, locals := 50 } : Room).slots) := by
  refine MetFree.of_bodySF (plainFor_of_name pn_3) hisR ?_
  intro p e s m args below meth c s₁ Bd hml0 hP hK
  obtain ⟨rfl, hZ, hh⟩ := hP
  have hx := Bd.exec
  have hby := Bd.bytes
  have hml : c.maxLocals = 3 := hml0
  have hown : s.vm.findClass "java/lang/StringLatin1" = some m.cls := findClass_of_methodNamed Bd.named
  have hnm := (name_of_methodNamed Bd.named Bd.method).1
  have X0 : Stand p l e ({ frames := 3, cells := 2, slots := 14, locals := 50 } : Room) s m #[(.ref b), (.int ff), (.int nn)] below meth c s₁ [] 0 0 := Stand.of_body Bd
  have e0 : s₁.heap = h0 := by rw [← hh, Bd.state]; rfl
  have N0 := Fr.nil n0
  have hret := Bd.returns
  have hlk : meth.locks = false := Bd.notSynchronized
  refine own_start (ef_8 m b ff nn) ?_
  show own_Go p e below s (Q_nsl Z b k ff nn cs h0 n0) ({ frames := 3, cells := 2, slots := 14, locals := 50 } : Room).cells ({ frames := 3, cells := 2, slots := 14, locals := 50 } : Room).slots (s₁.setTop (mkF m 0 #[.val (.ref b), .val (.int ff), .val (.int nn)] []))
  refine g_iload_n X0 hx 1 (hb hby d_jdk_43_method_47_0) rfl rfl ?_
  have c324 : ¬ (nn = (0 : Int32)) := own_c12 hc
  refine g_ifYes X0 hx 7 (hb hby d_jdk_43_method_47_1) (own_i0_ne_t c324) (by decide) (by decide) ?_
  refine own_newO X0 hx hZ hown (hw _ (List.mem_of_getElem? (i := 103) rfl)) (hw _ (List.mem_of_getElem? (i := 6) rfl)) (hw _ (List.mem_of_getElem? (i := 7) rfl)) e0 10 (hb hby d_jdk_43_method_47_7) rfl (by decide) (by decide) fun T325 h325 b325 X325 e325 g325 E325 A325 D325 => ?_
  have ne326 : b ≠ b325 := Nat.ne_of_lt (Nat.lt_of_lt_of_le V_b.lt (Nat.le_of_eq g325.symm))
  have g_b325 : n0 ≤ b325 := Nat.le_trans Z0 (Nat.le_of_eq g325.symm)
  have sz_b325 : h0.size ≤ b325 := Nat.le_trans (Keep.refl h0 []).1 (Nat.le_of_eq g325.symm)
  have K327 : Keep h0 h325 [] := (Keep.refl h0 []).ext E325
  have z328 : n0 ≤ h325.size := (Nat.le_trans Z0 E325.1)
  have f329 : Fld Z h325 b325 "java/lang/String" "coder" "B" (.int (0 : Int32)) := D325 (Or.inr (hw _ (List.mem_of_getElem? (i := 31) rfl))) (ty := .byte) (by decide)
  have f330 : Fld Z h325 b325 "java/lang/String" "value" "[B" .null := D325 (Or.inr (hw _ (List.mem_of_getElem? (i := 33) rfl))) (ty := (.array .byte)) (by decide)
  refine g_dup X325 hx 11 (hb hby d_jdk_43_method_47_10) rfl rfl ?_
  refine g_aload_n X325 hx 12 (hb hby d_jdk_43_method_47_11) rfl rfl rfl ?_
  refine g_iload_n X325 hx 13 (hb hby d_jdk_43_method_47_12) rfl rfl ?_
  refine g_iload_n X325 hx 14 (hb hby d_jdk_43_method_47_13) rfl rfl ?_
  refine g_iload_n X325 hx 15 (hb hby d_jdk_43_method_47_14) rfl rfl ?_
  refine g_iadd X325 hx 16 (hb hby d_jdk_43_method_47_15) rfl ?_
  have f332 : Arv Z h325 b k .byte (Int32.ofNat cs.length) (cs.map fun x => Value.int (own_b x)) (.int (0 : Int32)) := (V_b.keep K327 nin0)
  refine own_callS X325 hx hZ hown (hw _ (List.mem_of_getElem? (i := 104) rfl)) (hw _ (List.mem_of_getElem? (i := 105) rfl)) (by decide) (rm_cr l Z a0 hw [] b k ff (ff + nn) (cs.map fun x => Value.int (own_b x)) (Int32.ofNat cs.length) h325 n0 z328 f332 (own_c0 hc) (own_c1 hc)) (hw _ (List.mem_of_getElem? (i := 107) rfl)) (hw _ (List.mem_of_getElem? (i := 106) rfl)) e325 2 (by decide) (by decide) (by decide) (by decide) [(.ref b), (.int ff), (.int (ff + nn))] [(.ref b325), (.ref b325)] rfl pd_9 rfl 19 rfl (by rw [hml]; rfl) rfl (hb hby d_jdk_43_method_47_16) rfl fun T331 v331 L331 X331 hQ331 => ?_
  obtain ⟨rb_331, kr_331, rfl, Nq331, Kq331, g_rb_331, sz_rb_331, v331_0⟩ := hQ331
  have ne333 : b ≠ rb_331 := Nat.ne_of_lt (Nat.lt_of_lt_of_le f332.lt sz_rb_331)
  have ne334 : b325 ≠ rb_331 := Nat.ne_of_lt (Nat.lt_of_lt_of_le A325.lt sz_rb_331)
  have N331 := Fr.app N0 Nq331
  have sq_rb_331 : h0.size ≤ rb_331 := Nat.le_trans K327.1 sz_rb_331
  have K335 : Keep h0 T331.heap [] := K327.trans Kq331 all0
  have z336 : n0 ≤ T331.heap.size := (Nat.le_trans z328 Kq331.1)
  show own_GoE p e below _ (T331.setTop (mkF m 19 _ [(.ref rb_331), (.ref b325), (.ref b325)]))
  have V337 : Arv Z T331.heap rb_331 kr_331 .byte (Int32.ofNat (own_ds cs ff nn).length) ((own_ds cs ff nn).map fun x => Value.int (own_b x)) (.int (0 : Int32)) := own_arvZ v331_0 (own_dz hc) (own_sL hc)
  refine g_iconst X331 hx 20 (hb hby d_jdk_43_method_47_19) (0 : Int32) rfl rfl ?_
  have f339 : Exa Z T331.heap b325 "java/lang/String" := (A325.keep Kq331)
  have f340 : Fld Z T331.heap b325 "java/lang/String" "value" "[B" .null := (f330.keep Kq331 nin0)
  have f341 : Fld Z T331.heap b325 "java/lang/String" "coder" "B" (.int (0 : Int32)) := (f329.keep Kq331 nin0)
  refine own_callI X331 hx hZ hown rfl (hw _ (List.mem_of_getElem? (i := 119) rfl)) (hw _ (List.mem_of_getElem? (i := 120) rfl)) (by decide) (rm_inbL l Z a0 hw [] b325 rb_331 T331.heap n0 z336 f339 f340 f341 g_b325) (hw _ (List.mem_of_getElem? (i := 121) rfl)) (hw _ (List.mem_of_getElem? (i := 7) rfl)) rfl 1 (by decide) (by decide) (by decide) (by decide) b325 [(.ref rb_331), (.int (0 : Int32))] [(.ref b325)] rfl pd_17 rfl 23 rfl (by rw [hml]; rfl) rfl (hb hby d_jdk_43_method_47_20) rfl fun T338 v338 L338 X338 hQ338 => ?_
  obtain ⟨rfl, Nq338, Kq338, f338_0, f338_1⟩ := hQ338
  have N338 := Fr.app N331 Nq338
  have K342 : Keep h0 T338.heap [] := K335.trans Kq338 (allS (Or.inr sz_b325) all0)
  have z343 : n0 ≤ T338.heap.size := (Nat.le_trans z336 Kq338.1)
  show own_GoE p e below _ (T338.setTop (mkF m 23 _ [(.ref b325)]))
  have f344 : Exa Z T338.heap b325 "java/lang/String" := (f339.keep Kq338)
  have f345 : Arv Z T338.heap rb_331 kr_331 .byte (Int32.ofNat (own_ds cs ff nn).length) ((own_ds cs ff nn).map fun x => Value.int (own_b x)) (.int (0 : Int32)) := (V337.keep Kq338 (ninS (Ne.symm ne334) nin0))
  refine own_retA X338 hx hlk hret rfl rfl (hb hby d_jdk_43_method_47_23) ?_ (by decide) (by decide)
  exact ⟨b325, rfl, N338, K342, g_b325, sz_b325, (Or.inl ⟨rb_331, kr_331, f344, f338_1, f338_0, f345, (fun x q => hr x (own_dm q))⟩)⟩
theorem d_jdk_43_method_47_4 : decode jdk_43_method_47_code 4 = .ok (.ldc 151, 2) := by decide +kernel
theorem d_jdk_43_method_47_6 : decode jdk_43_method_47_code 6 = .ok (.areturn, 1) := by decide +kernel
def Q_nsl0 (Z : State) (b : Addr) (ff : Int32) (h0 : Heap) (n0 : Nat) (v : Option Value) (h : Heap) (L : List Loc) : Prop := ∃ r : Nat, v = some (.ref r) ∧ Fr n0 L ∧ Keep h0 h [] ∧ own_Str Z h r ([] : List Int32)
def QW_nsl0 (Z : State) (b : Addr) (ff : Int32) (h0 : Heap) (n0 : Nat) (v : Option Value) (vm : Vm) (h : Heap) (L : List Loc) : Prop := Q_nsl0 Z b ff h0 n0 v h L ∧ True
set_option maxRecDepth 65536 in
set_option maxHeartbeats 40000000 in
theorem rm_nsl0 (l : Launch) (Z : State) (a0 : Array Value) (hw : ∀ d ∈ tables_1, d.before a0 Z = true) (ws : List Jvm.Cond) (b : Addr) (ff : Int32) (h0 : Heap) (n0 : Nat) (Z0 : n0 ≤ h0.size) (KZ : ∀ (b : Addr) (cl : Cell), Z.heap[b]? = some cl → h0[b]? = some cl) (hH1 : Jvm.Lit.constHeld Z "java/lang/StringLatin1" 151) (hH2 : Jvm.Lit.constHeld Z "java/lang/StringUTF16" 295) (hcw : Jvm.Lit.compactW.before a0 Z = true) :
    MetFree l (⟨"java/lang/StringLatin1", "newString", "([BII)Ljava/lang/String;"⟩ : MethodName) (head1 (Jvm.Cond.code (⟨"java/lang/StringLatin1", "newString", "([BII)Ljava/lang/String;"⟩ : MethodName) jdk_43_method_47_code 3 (some (.object "java/lang/String")) :: ws) ({ frames := 0, cells := 2, slots := 4, locals := 0 } : Room)) (fun aA U => aA = #[(.ref b), (.int ff), (.int (0 : Int32))] ∧ Z.Warmed39 U.vm ∧ U.heap = h0 ∧ own_LD Z U.vm h0) (fun _ _ _ _ _ => True) (fun _ U oO U' => ∃ vV LL, oO = .returned vV ∧ (Q_nsl0 Z b ff h0 n0 vV U'.heap LL ∧ True) ∧ ReturnedEndW U oO U' LL ({ frames := 0, cells := 2, slots := 4, locals := 0 } : Room).cells ({ frames := 0, cells := 2, slots := 4, locals := 0 } : Room).slots) := by
  refine MetFree.of_bodySF (plainFor_of_name pn_3) hisR ?_
  intro p e s m args below meth c s₁ Bd hml0 hP hK
  obtain ⟨rfl, hZ0, hh, D0⟩ := hP
  have hx := Bd.exec
  have hby := Bd.bytes
  have hml : c.maxLocals = 3 := hml0
  have hZ : Z.Warmed39 (s.setVm s.vm).vm := hZ0
  have hown : (s.setVm s.vm).vm.findClass "java/lang/StringLatin1" = some m.cls := findClass_of_methodNamed Bd.named
  have hnm := (name_of_methodNamed Bd.named Bd.method).1
  have X0 : Stand p l e ({ frames := 0, cells := 2, slots := 4, locals := 0 } : Room) (s.setVm s.vm) m #[(.ref b), (.int ff), (.int (0 : Int32))] below meth c s₁ [] 0 0 := Stand.of_body Bd
  have hS : s.Since s.vm 0 := (State.WarmedH.refl s).since 0
  have hSk : 0 ≤ h0.size := Nat.zero_le _
  have e0 : s₁.heap = h0 := by rw [← hh, Bd.state]; rfl
  have N0 := Fr.nil n0
  have hret := Bd.returns
  have hlk : meth.locks = false := Bd.notSynchronized
  refine own_start (ef_8 m b ff (0 : Int32)) ?_
  show own_GoE p e below (fun oO vV UU LL => QW_nsl0 Z b ff h0 n0 vV UU.vm UU.heap LL ∧ ReturnedEndW s oO UU LL ({ frames := 0, cells := 2, slots := 4, locals := 0 } : Room).cells ({ frames := 0, cells := 2, slots := 4, locals := 0 } : Room).slots) (s₁.setTop (mkF m 0 #[.val (.ref b), .val (.int ff), .val (.int (0 : Int32))] []))
  refine g_iload_n X0 hx 1 (hb hby d_jdk_43_method_47_0) rfl rfl ?_
  refine g_ifNo X0 hx 4 (hb hby d_jdk_43_method_47_1) (own_i0_ne_f (by decide)) rfl ?_
  refine own_ldcL X0 hx hZ hown (hw _ (List.mem_of_getElem? (i := 71) rfl)) (own_wS hw) e0 hS hSk (Fr.nil _) (fun b cl q => by rw [hh]; exact KZ b cl q) D0 hH1 hcw 6 (hb hby d_jdk_43_method_47_4) rfl (by decide) (by decide) fun T346 h346 vm346 kk346 a346 v346 kb346 X346 e346 E346 hS hSk hZ hown A346 C346 V346 R346 => ?_
  have K347 : Keep h0 h346 [] := (Keep.refl h0 []).ext E346
  have z348 : n0 ≤ h346.size := (Nat.le_trans Z0 E346.1)
  refine own_retAW X346 hS (by rw [e346]; exact hSk) hx hlk hret rfl rfl (hb hby d_jdk_43_method_47_6) ?_ (by decide) (by decide)
  rw [e346]
  refine ⟨?_, trivial⟩
  exact ⟨a346, rfl, N0, K347, (Or.inl ⟨v346, kb346, A346, C346, V346, R346, own_all0⟩)⟩
theorem d_jdk_52_method_69_0 : decode jdk_52_method_69_code 0 = .ok (.iload_n 2, 1) := by decide +kernel
theorem d_jdk_52_method_69_1 : decode jdk_52_method_69_code 1 = .ok (.ifCond .ne 7, 3) := by decide +kernel
theorem d_jdk_52_method_69_4 : decode jdk_52_method_69_code 4 = .ok (.ldc_w 295, 3) := by decide +kernel
theorem d_jdk_52_method_69_7 : decode jdk_52_method_69_code 7 = .ok (.areturn, 1) := by decide +kernel
def Q_nsu0 (Z : State) (b : Addr) (ff : Int32) (h0 : Heap) (n0 : Nat) (v : Option Value) (h : Heap) (L : List Loc) : Prop := ∃ r : Nat, v = some (.ref r) ∧ Fr n0 L ∧ Keep h0 h [] ∧ own_Str Z h r ([] : List Int32)
def QW_nsu0 (Z : State) (b : Addr) (ff : Int32) (h0 : Heap) (n0 : Nat) (v : Option Value) (vm : Vm) (h : Heap) (L : List Loc) : Prop := Q_nsu0 Z b ff h0 n0 v h L ∧ True
set_option maxRecDepth 65536 in
set_option maxHeartbeats 40000000 in
theorem rm_nsu0 (l : Launch) (Z : State) (a0 : Array Value) (hw : ∀ d ∈ tables_1, d.before a0 Z = true) (ws : List Jvm.Cond) (b : Addr) (ff : Int32) (h0 : Heap) (n0 : Nat) (Z0 : n0 ≤ h0.size) (KZ : ∀ (b : Addr) (cl : Cell), Z.heap[b]? = some cl → h0[b]? = some cl) (hH1 : Jvm.Lit.constHeld Z "java/lang/StringLatin1" 151) (hH2 : Jvm.Lit.constHeld Z "java/lang/StringUTF16" 295) (hcw : Jvm.Lit.compactW.before a0 Z = true) :
    MetFree l (⟨"java/lang/StringUTF16", "newString", "([BII)Ljava/lang/String;"⟩ : MethodName) (head1 (Jvm.Cond.code (⟨"java/lang/StringUTF16", "newString", "([BII)Ljava/lang/String;"⟩ : MethodName) jdk_52_method_69_code 5 (some (.object "java/lang/String")) :: ws) ({ frames := 0, cells := 2, slots := 4, locals := 0 } : Room)) (fun aA U => aA = #[(.ref b), (.int ff), (.int (0 : Int32))] ∧ Z.Warmed39 U.vm ∧ U.heap = h0 ∧ own_LD Z U.vm h0) (fun _ _ _ _ _ => True) (fun _ U oO U' => ∃ vV LL, oO = .returned vV ∧ (Q_nsu0 Z b ff h0 n0 vV U'.heap LL ∧ True) ∧ ReturnedEndW U oO U' LL ({ frames := 0, cells := 2, slots := 4, locals := 0 } : Room).cells ({ frames := 0, cells := 2, slots := 4, locals := 0 } : Room).slots) := by
  refine MetFree.of_bodySF (plainFor_of_name pn_2) hisR ?_
  intro p e s m args below meth c s₁ Bd hml0 hP hK
  obtain ⟨rfl, hZ0, hh, D0⟩ := hP
  have hx := Bd.exec
  have hby := Bd.bytes
  have hml : c.maxLocals = 5 := hml0
  have hZ : Z.Warmed39 (s.setVm s.vm).vm := hZ0
  have hown : (s.setVm s.vm).vm.findClass "java/lang/StringUTF16" = some m.cls := findClass_of_methodNamed Bd.named
  have hnm := (name_of_methodNamed Bd.named Bd.method).1
  have X0 : Stand p l e ({ frames := 0, cells := 2, slots := 4, locals := 0 } : Room) (s.setVm s.vm) m #[(.ref b), (.int ff), (.int (0 : Int32))] below meth c s₁ [] 0 0 := Stand.of_body Bd
  have hS : s.Since s.vm 0 := (State.WarmedH.refl s).since 0
  have hSk : 0 ≤ h0.size := Nat.zero_le _
  have e0 : s₁.heap = h0 := by rw [← hh, Bd.state]; rfl
  have N0 := Fr.nil n0
  have hret := Bd.returns
  have hlk : meth.locks = false := Bd.notSynchronized
  refine own_start (ef_7 m b ff (0 : Int32)) ?_
  show own_GoE p e below (fun oO vV UU LL => QW_nsu0 Z b ff h0 n0 vV UU.vm UU.heap LL ∧ ReturnedEndW s oO UU LL ({ frames := 0, cells := 2, slots := 4, locals := 0 } : Room).cells ({ frames := 0, cells := 2, slots := 4, locals := 0 } : Room).slots) (s₁.setTop (mkF m 0 #[.val (.ref b), .val (.int ff), .val (.int (0 : Int32)), .unset, .unset] []))
  refine g_iload_n X0 hx 1 (hb hby d_jdk_52_method_69_0) rfl rfl ?_
  refine g_ifNo X0 hx 4 (hb hby d_jdk_52_method_69_1) (own_i0_ne_f (by decide)) rfl ?_
  refine own_ldcU X0 hx hZ hown (hw _ (List.mem_of_getElem? (i := 165) rfl)) (own_wS hw) e0 hS hSk (Fr.nil _) (fun b cl q => by rw [hh]; exact KZ b cl q) D0 hH2 hcw 7 (hb hby d_jdk_52_method_69_4) rfl (by decide) (by decide) fun T349 h349 vm349 kk349 a349 v349 kb349 X349 e349 E349 hS hSk hZ hown A349 C349 V349 R349 => ?_
  have K350 : Keep h0 h349 [] := (Keep.refl h0 []).ext E349
  have z351 : n0 ≤ h349.size := (Nat.le_trans Z0 E349.1)
  refine own_retAW X349 hS (by rw [e349]; exact hSk) hx hlk hret rfl rfl (hb hby d_jdk_52_method_69_7) ?_ (by decide) (by decide)
  rw [e349]
  refine ⟨?_, trivial⟩
  exact ⟨a349, rfl, N0, K350, (Or.inl ⟨v349, kb349, A349, C349, V349, R349, own_all0⟩)⟩
theorem d_jdk_52_method_94_0 : decode jdk_52_method_94_code 0 = .ok (.iload_n 0, 1) := by decide +kernel
theorem d_jdk_52_method_94_1 : decode jdk_52_method_94_code 1 = .ok (.iload_n 1, 1) := by decide +kernel
theorem d_jdk_52_method_94_2 : decode jdk_52_method_94_code 2 = .ok (.aload_n 2, 1) := by decide +kernel
theorem d_jdk_52_method_94_3 : decode jdk_52_method_94_code 3 = .ok (.invokestatic 48, 3) := by decide +kernel
theorem d_jdk_52_method_94_6 : decode jdk_52_method_94_code 6 = .ok (.invokestatic 419, 3) := by decide +kernel
theorem pd_18 : parseMethodDescriptor "(III)I" = some ⟨[.int, .int, .int], some .int⟩ := by decide +kernel
theorem d_jdk_52_method_94_9 : decode jdk_52_method_94_code 9 = .ok (.pop, 1) := by decide +kernel
theorem d_jdk_52_method_94_10 : decode jdk_52_method_94_code 10 = .ok (.return_, 1) := by decide +kernel
theorem ef_15 (m : MethodId) (x0 : Int32) (x1 : Int32) (x2 : Addr) : entryFrame m #[(.int x0), (.int x1), (.ref x2)] 3 = mkF m 0 #[.val (.int x0), .val (.int x1), .val (.ref x2)] [] := by first | (simp [entryFrame, mkF, argsToLocals, Value.category]; done) | rfl
def Q_cb16 (Z : State) (ff : Int32) (ee : Int32) (b : Addr) (k : ClassId) (cs : List Int32) (fm : Value) (h0 : Heap) (n0 : Nat) (v : Option Value) (h : Heap) (L : List Loc) : Prop := v = none ∧ Fr n0 L ∧ h = h0
set_option maxRecDepth 65536 in
set_option maxHeartbeats 40000000 in
theorem rm_cb16 (l : Launch) (Z : State) (a0 : Array Value) (hw : ∀ d ∈ tables_1, d.before a0 Z = true) (ws : List Jvm.Cond) (ff : Int32) (ee : Int32) (b : Addr) (k : ClassId) (cs : List Int32) (fm : Value) (h0 : Heap) (n0 : Nat) (Z0 : n0 ≤ h0.size) (V_b : Arv Z h0 b k .byte (Int32.ofNat (2 * cs.length)) (own_u cs) (.int (0 : Int32))) (S_SIOOBE_FORMATTER : Sta Z h0 "jdk/internal/util/Preconditions" "SIOOBE_FORMATTER" "Ljava/util/function/BiFunction;" fm) (hn : cs.length ≤ 5) (g1 : ¬ ((((Int32.ofNat cs.length) ||| ff) ||| ee) < (0 : Int32))) (g2 : ¬ (((Int32.ofNat cs.length) - ff) < ee)) (hfm : fm.isRef = true) :
    MetFree l (⟨"java/lang/StringUTF16", "checkBoundsOffCount", "(II[B)V"⟩ : MethodName) (head1 (Jvm.Cond.code (⟨"java/lang/StringUTF16", "checkBoundsOffCount", "(II[B)V"⟩ : MethodName) jdk_52_method_94_code 3 none :: ws) ({ frames := 2, cells := 0, slots := 0, locals := 29 } : Room)) (fun aA U => aA = #[(.int ff), (.int ee), (.ref b)] ∧ Z.Warmed39 U.vm ∧ U.heap = h0) (fun _ _ _ _ _ => True) (fun _ U oO U' => ∃ vV LL, oO = .returned vV ∧ Q_cb16 Z ff ee b k cs fm h0 n0 vV U'.heap LL ∧ FrameEnd U oO U' LL ({ frames := 2, cells := 0, slots := 0, locals := 29 } : Room).cells ({ frames := 2, cells := 0, slots := 0, locals := 29 } : Room).slots) := by
  refine MetFree.of_bodySF (plainFor_of_name pn_2) hisR ?_
  intro p e s m args below meth c s₁ Bd hml0 hP hK
  obtain ⟨rfl, hZ, hh⟩ := hP
  have hx := Bd.exec
  have hby := Bd.bytes
  have hml : c.maxLocals = 3 := hml0
  have hown : s.vm.findClass "java/lang/StringUTF16" = some m.cls := findClass_of_methodNamed Bd.named
  have hnm := (name_of_methodNamed Bd.named Bd.method).1
  have X0 : Stand p l e ({ frames := 2, cells := 0, slots := 0, locals := 29 } : Room) s m #[(.int ff), (.int ee), (.ref b)] below meth c s₁ [] 0 0 := Stand.of_body Bd
  have e0 : s₁.heap = h0 := by rw [← hh, Bd.state]; rfl
  have N0 := Fr.nil n0
  have hret := Bd.returns
  have hlk : meth.locks = false := Bd.notSynchronized
  refine own_start (ef_15 m ff ee b) ?_
  show own_Go p e below s (Q_cb16 Z ff ee b k cs fm h0 n0) ({ frames := 2, cells := 0, slots := 0, locals := 29 } : Room).cells ({ frames := 2, cells := 0, slots := 0, locals := 29 } : Room).slots (s₁.setTop (mkF m 0 #[.val (.int ff), .val (.int ee), .val (.ref b)] []))
  refine g_iload_n X0 hx 1 (hb hby d_jdk_52_method_94_0) rfl rfl ?_
  refine g_iload_n X0 hx 2 (hb hby d_jdk_52_method_94_1) rfl rfl ?_
  refine g_aload_n X0 hx 3 (hb hby d_jdk_52_method_94_2) rfl rfl rfl ?_
  refine own_callS X0 hx hZ hown (hw _ (List.mem_of_getElem? (i := 158) rfl)) (hw _ (List.mem_of_getElem? (i := 159) rfl)) (by decide) (rm_l16 l Z a0 hw [] b k cs h0 n0 Z0 V_b hn) (hw _ (List.mem_of_getElem? (i := 160) rfl)) (hw _ (List.mem_of_getElem? (i := 21) rfl)) e0 2 (by decide) (by decide) (by decide) (by decide) [(.ref b)] [(.int ee), (.int ff)] rfl pd_2 rfl 6 rfl (by rw [hml]; rfl) rfl (hb hby d_jdk_52_method_94_3) rfl fun T352 v352 L352 X352 hQ352 => ?_
  obtain ⟨rfl, Nq352, e352⟩ := hQ352
  have N352 := Fr.app N0 Nq352
  show own_GoE p e below _ (T352.setTop (mkF m 6 _ [(.int (Int32.ofNat cs.length)), (.int ee), (.int ff)]))
  refine own_callS X352 hx hZ hown (hw _ (List.mem_of_getElem? (i := 176) rfl)) (hw _ (List.mem_of_getElem? (i := 177) rfl)) (by decide) (rm_cbo l Z a0 hw [] ff ee (Int32.ofNat cs.length) fm h0 n0 Z0 S_SIOOBE_FORMATTER g1 g2 hfm) (hw _ (List.mem_of_getElem? (i := 178) rfl)) (hw _ (List.mem_of_getElem? (i := 7) rfl)) e352 0 (by decide) (by decide) (by decide) (by decide) [(.int ff), (.int ee), (.int (Int32.ofNat cs.length))] [] rfl pd_18 rfl 9 rfl (by rw [hml]; rfl) rfl (hb hby d_jdk_52_method_94_6) rfl fun T353 v353 L353 X353 hQ353 => ?_
  obtain ⟨rfl, Nq353, e353⟩ := hQ353
  have N353 := Fr.app N352 Nq353
  show own_GoE p e below _ (T353.setTop (mkF m 9 _ [(.int ff)]))
  refine g_pop X353 hx 10 (hb hby d_jdk_52_method_94_9) rfl rfl ?_
  refine own_retV X353 hx hlk hret (hb hby d_jdk_52_method_94_10) ?_ (by decide) (by decide)
  rw [e353]
  exact ⟨rfl, N353, rfl⟩
theorem d_jdk_52_method_22_0 : decode jdk_52_method_22_code 0 = .ok (.iload_n 1, 1) := by decide +kernel
theorem d_jdk_52_method_22_1 : decode jdk_52_method_22_code 1 = .ok (.iload 4, 2) := by decide +kernel
theorem d_jdk_52_method_22_3 : decode jdk_52_method_22_code 3 = .ok (.aload_n 0, 1) := by decide +kernel
theorem d_jdk_52_method_22_4 : decode jdk_52_method_22_code 4 = .ok (.invokestatic 173, 3) := by decide +kernel
theorem pd_19 : parseMethodDescriptor "(II[B)V" = some ⟨[.int, .int, (.array .byte)], none⟩ := by decide +kernel
theorem d_jdk_52_method_22_7 : decode jdk_52_method_22_code 7 = .ok (.iconst 0, 1) := by decide +kernel
theorem d_jdk_52_method_22_8 : decode jdk_52_method_22_code 8 = .ok (.istore 5, 2) := by decide +kernel
theorem d_jdk_52_method_22_10 : decode jdk_52_method_22_code 10 = .ok (.iload 5, 2) := by decide +kernel
theorem d_jdk_52_method_22_12 : decode jdk_52_method_22_code 12 = .ok (.iload 4, 2) := by decide +kernel
theorem d_jdk_52_method_22_14 : decode jdk_52_method_22_code 14 = .ok (.if_icmp .ge 39, 3) := by decide +kernel
theorem d_jdk_52_method_22_53 : decode jdk_52_method_22_code 53 = .ok (.iload 4, 2) := by decide +kernel
theorem d_jdk_52_method_22_55 : decode jdk_52_method_22_code 55 = .ok (.ireturn, 1) := by decide +kernel
theorem d_jdk_52_method_22_17 : decode jdk_52_method_22_code 17 = .ok (.aload_n 0, 1) := by decide +kernel
theorem d_jdk_52_method_22_18 : decode jdk_52_method_22_code 18 = .ok (.iload_n 1, 1) := by decide +kernel
theorem d_jdk_52_method_22_19 : decode jdk_52_method_22_code 19 = .ok (.invokestatic 71, 3) := by decide +kernel
theorem d_jdk_52_method_22_22 : decode jdk_52_method_22_code 22 = .ok (.istore 6, 2) := by decide +kernel
theorem d_jdk_52_method_22_24 : decode jdk_52_method_22_code 24 = .ok (.iload 6, 2) := by decide +kernel
theorem d_jdk_52_method_22_26 : decode jdk_52_method_22_code 26 = .ok (.sipush 255, 3) := by decide +kernel
theorem d_jdk_52_method_22_29 : decode jdk_52_method_22_code 29 = .ok (.if_icmp .le 6, 3) := by decide +kernel
theorem d_jdk_52_method_22_32 : decode jdk_52_method_22_code 32 = .ok (.iload 5, 2) := by decide +kernel
theorem d_jdk_52_method_22_34 : decode jdk_52_method_22_code 34 = .ok (.ireturn, 1) := by decide +kernel
theorem d_jdk_52_method_22_35 : decode jdk_52_method_22_code 35 = .ok (.aload_n 2, 1) := by decide +kernel
theorem d_jdk_52_method_22_36 : decode jdk_52_method_22_code 36 = .ok (.iload_n 3, 1) := by decide +kernel
theorem d_jdk_52_method_22_37 : decode jdk_52_method_22_code 37 = .ok (.iload 6, 2) := by decide +kernel
theorem d_jdk_52_method_22_39 : decode jdk_52_method_22_code 39 = .ok (.i2b, 1) := by decide +kernel
theorem d_jdk_52_method_22_40 : decode jdk_52_method_22_code 40 = .ok (.bastore, 1) := by decide +kernel
theorem d_jdk_52_method_22_41 : decode jdk_52_method_22_code 41 = .ok (.iinc 1 1, 3) := by decide +kernel
theorem d_jdk_52_method_22_44 : decode jdk_52_method_22_code 44 = .ok (.iinc 3 1, 3) := by decide +kernel
theorem d_jdk_52_method_22_47 : decode jdk_52_method_22_code 47 = .ok (.iinc 5 1, 3) := by decide +kernel
theorem d_jdk_52_method_22_50 : decode jdk_52_method_22_code 50 = .ok (.goto (-40), 3) := by decide +kernel
def Q_d1 (Z : State) (b : Addr) (k : ClassId) (bb : Addr) (kb : ClassId) (ff : Int32) (nn : Int32) (cs : List Int32) (vs : List Value) (fm : Value) (h0 : Heap) (n0 : Nat) (v : Option Value) (h : Heap) (L : List Loc) : Prop := v = some (.int (Int32.ofNat (own_fb (own_ds cs ff nn)))) ∧ Fr n0 L ∧ Keep h0 h [bb] ∧ Arv Z h bb kb .byte nn (own_w (own_ds cs ff nn) vs (own_fb (own_ds cs ff nn))) (.int (0 : Int32))
set_option maxRecDepth 65536 in
set_option maxHeartbeats 40000000 in
theorem rm_d1 (l : Launch) (Z : State) (a0 : Array Value) (hw : ∀ d ∈ tables_1, d.before a0 Z = true) (ws : List Jvm.Cond) (b : Addr) (k : ClassId) (bb : Addr) (kb : ClassId) (ff : Int32) (nn : Int32) (cs : List Int32) (vs : List Value) (fm : Value) (h0 : Heap) (n0 : Nat) (Z0 : n0 ≤ h0.size) (V_b : Arv Z h0 b k .byte (Int32.ofNat (2 * cs.length)) (own_u cs) (.int (0 : Int32))) (V_bb : Arv Z h0 bb kb .byte nn vs (.int (0 : Int32))) (S__assertionsDisabled : Sta Z h0 "java/lang/StringUTF16" "$assertionsDisabled" "Z" (.int (1 : Int32))) (S_HI_BYTE_SHIFT : Sta Z h0 "java/lang/StringUTF16" "HI_BYTE_SHIFT" "I" (.int (0 : Int32))) (S_LO_BYTE_SHIFT : Sta Z h0 "java/lang/StringUTF16" "LO_BYTE_SHIFT" "I" (.int (8 : Int32))) (S_SIOOBE_FORMATTER : Sta Z h0 "jdk/internal/util/Preconditions" "SIOOBE_FORMATTER" "Ljava/util/function/BiFunction;" fm) (ne_b_bb : b ≠ bb) (g_bb : n0 ≤ bb) (hc : own_C ff nn cs.length) (hl : vs.length = nn.toNatClampNeg) (hr : ∀ x ∈ cs, 0 ≤ x.toInt ∧ x.toInt ≤ 65535) (hfm : fm.isRef = true) :
    MetFree l (⟨"java/lang/StringUTF16", "compress", "([BI[BII)I"⟩ : MethodName) (head1 (Jvm.Cond.code (⟨"java/lang/StringUTF16", "compress", "([BI[BII)I"⟩ : MethodName) jdk_52_method_22_code 7 (some .int) :: ws) ({ frames := 3, cells := 0, slots := 0, locals := 43 } : Room)) (fun aA U => aA = #[(.ref b), (.int ff), (.ref bb), (.int (0 : Int32)), (.int nn)] ∧ Z.Warmed39 U.vm ∧ U.heap = h0) (fun _ _ _ _ _ => True) (fun _ U oO U' => ∃ vV LL, oO = .returned vV ∧ Q_d1 Z b k bb kb ff nn cs vs fm h0 n0 vV U'.heap LL ∧ FrameEnd U oO U' LL ({ frames := 3, cells := 0, slots := 0, locals := 43 } : Room).cells ({ frames := 3, cells := 0, slots := 0, locals := 43 } : Room).slots) := by
  refine MetFree.of_bodySF (plainFor_of_name pn_2) hisR ?_
  intro p e s m args below meth c s₁ Bd hml0 hP hK
  obtain ⟨rfl, hZ, hh⟩ := hP
  have hx := Bd.exec
  have hby := Bd.bytes
  have hml : c.maxLocals = 7 := hml0
  have hown : s.vm.findClass "java/lang/StringUTF16" = some m.cls := findClass_of_methodNamed Bd.named
  have hnm := (name_of_methodNamed Bd.named Bd.method).1
  have X0 : Stand p l e ({ frames := 3, cells := 0, slots := 0, locals := 43 } : Room) s m #[(.ref b), (.int ff), (.ref bb), (.int (0 : Int32)), (.int nn)] below meth c s₁ [] 0 0 := Stand.of_body Bd
  have e0 : s₁.heap = h0 := by rw [← hh, Bd.state]; rfl
  have N0 := Fr.nil n0
  have hret := Bd.returns
  have hlk : meth.locks = false := Bd.notSynchronized
  refine own_start (ef_9 m b ff bb (0 : Int32) nn) ?_
  show own_Go p e below s (Q_d1 Z b k bb kb ff nn cs vs fm h0 n0) ({ frames := 3, cells := 0, slots := 0, locals := 43 } : Room).cells ({ frames := 3, cells := 0, slots := 0, locals := 43 } : Room).slots (s₁.setTop (mkF m 0 #[.val (.ref b), .val (.int ff), .val (.ref bb), .val (.int (0 : Int32)), .val (.int nn), .unset, .unset] []))
  refine g_iload_n X0 hx 1 (hb hby d_jdk_52_method_22_0) rfl rfl ?_
  refine g_iload X0 hx 3 (hb hby d_jdk_52_method_22_1) rfl rfl ?_
  refine g_aload_n X0 hx 4 (hb hby d_jdk_52_method_22_3) rfl rfl rfl ?_
  refine own_callS X0 hx hZ hown (hw _ (List.mem_of_getElem? (i := 173) rfl)) (hw _ (List.mem_of_getElem? (i := 174) rfl)) (by decide) (rm_cb16 l Z a0 hw [] ff nn b k cs fm h0 n0 Z0 V_b S_SIOOBE_FORMATTER hc.2.2.2.1 (own_c7 hc) (own_c8 hc) hfm) (hw _ (List.mem_of_getElem? (i := 175) rfl)) (hw _ (List.mem_of_getElem? (i := 21) rfl)) e0 0 (by decide) (by decide) (by decide) (by decide) [(.int ff), (.int nn), (.ref b)] [] rfl pd_19 rfl 7 rfl (by rw [hml]; rfl) rfl (hb hby d_jdk_52_method_22_4) rfl fun T354 v354 L354 X354 hQ354 => ?_
  obtain ⟨rfl, Nq354, e354⟩ := hQ354
  have N354 := Fr.app N0 Nq354
  show own_GoE p e below _ (T354.setTop (mkF m 7 _ []))
  refine g_iconst X354 hx 8 (hb hby d_jdk_52_method_22_7) (0 : Int32) rfl rfl ?_
  refine g_istore X354 hx 10 (hb hby d_jdk_52_method_22_8) (l' := #[.val (.ref b), .val (.int ff), .val (.ref bb), .val (.int (0 : Int32)), .val (.int nn), .val (.int (0 : Int32)), .unset]) rfl rfl ?_
  have lp : ∀ (kq : Nat) (ii : Int32) (ss : Int32) (s6 : Slot) (hQ : Heap) (TQ : State) (LQ : List Loc) (XQ : Stand p l e ({ frames := 3, cells := 0, slots := 0, locals := 43 } : Room) s m #[(.ref b), (.int ff), (.ref bb), (.int (0 : Int32)), (.int nn)] below meth c TQ LQ 0 0) (eQ : TQ.heap = hQ) (NQ : Fr n0 LQ) (KQ : Keep h0 hQ [bb]) (zQ : n0 ≤ hQ.size) (VQ : Arv Z hQ bb kb .byte nn (own_w (own_ds cs ff nn) vs ii.toNatClampNeg) (.int (0 : Int32))) (h_s6 : s6 = .unset ∨ ∃ z, s6 = .val (.int z)) (hI : own_I ff nn ii ss) (hk : nn.toInt ≤ ii.toInt + (kq : Int)) (hq : own_fb (own_ds cs ff nn) = ii.toNatClampNeg + own_fb ((own_ds cs ff nn).drop ii.toNatClampNeg)), own_Go p e below s (Q_d1 Z b k bb kb ff nn cs vs fm h0 n0) ({ frames := 3, cells := 0, slots := 0, locals := 43 } : Room).cells ({ frames := 3, cells := 0, slots := 0, locals := 43 } : Room).slots (TQ.setTop (mkF m 10 #[.val (.ref b), .val (.int ss), .val (.ref bb), .val (.int ii), .val (.int nn), .val (.int ii), s6] [])) := by
    intro kq
    induction kq with
    | zero =>
      intro ii ss s6 hQ TQ LQ XQ eQ NQ KQ zQ VQ h_s6 hI hk hq
      refine g_iload XQ hx 12 (hb hby d_jdk_52_method_22_10) rfl rfl ?_
      refine g_iload XQ hx 14 (hb hby d_jdk_52_method_22_12) rfl rfl ?_
      have c355 : ¬ (ii < nn) := own_i0 hk
      refine g_icmpYes XQ hx 53 (hb hby d_jdk_52_method_22_14) (own_ii_ge_t c355) (by decide) (by decide) ?_
      refine g_iload XQ hx 55 (hb hby d_jdk_52_method_22_53) rfl rfl ?_
      have hj356 := (own_iE hc hI hq c355).1
      have V357 : Arv Z hQ bb kb .byte nn (own_w (own_ds cs ff nn) vs (own_fb (own_ds cs ff nn))) (.int (0 : Int32)) := own_arvL VQ (by rw [hj356])
      refine own_retI XQ hx hlk hret (hb hby d_jdk_52_method_22_55) ?_ (by decide) (by decide)
      rw [eQ]
      exact ⟨(congrArg some (congrArg Value.int (by rw [hj356]; exact ((own_iE hc hI hq c355).2.symm.trans (own_on hI.1))))), NQ, KQ, V357⟩
    | succ kq ih =>
      intro ii ss s6 hQ TQ LQ XQ eQ NQ KQ zQ VQ h_s6 hI hk hq
      refine g_iload XQ hx 12 (hb hby d_jdk_52_method_22_10) rfl rfl ?_
      refine g_iload XQ hx 14 (hb hby d_jdk_52_method_22_12) rfl rfl ?_
      by_cases c358 : ii < nn
      · refine g_icmpNo XQ hx 17 (hb hby d_jdk_52_method_22_14) (own_ii_ge_f c358) rfl ?_
        refine g_aload_n XQ hx 18 (hb hby d_jdk_52_method_22_17) rfl rfl rfl ?_
        refine g_iload_n XQ hx 19 (hb hby d_jdk_52_method_22_18) rfl rfl ?_
        have f360 : Arv Z hQ b k .byte (Int32.ofNat (2 * cs.length)) (own_u cs) (.int (0 : Int32)) := (V_b.keep KQ (ninS ne_b_bb nin0))
        have f361 : Sta Z hQ "java/lang/StringUTF16" "$assertionsDisabled" "Z" (.int (1 : Int32)) := (own_Sta_keep KQ S__assertionsDisabled (allS (own_plainA V_bb) all0))
        have f362 : Sta Z hQ "java/lang/StringUTF16" "HI_BYTE_SHIFT" "I" (.int (0 : Int32)) := (own_Sta_keep KQ S_HI_BYTE_SHIFT (allS (own_plainA V_bb) all0))
        have f363 : Sta Z hQ "java/lang/StringUTF16" "LO_BYTE_SHIFT" "I" (.int (8 : Int32)) := (own_Sta_keep KQ S_LO_BYTE_SHIFT (allS (own_plainA V_bb) all0))
        refine own_callS XQ hx hZ hown (hw _ (List.mem_of_getElem? (i := 149) rfl)) (hw _ (List.mem_of_getElem? (i := 150) rfl)) (by decide) (rm_gch l Z a0 hw [] b k ss cs hQ n0 zQ f360 f361 f362 f363 hc.2.2.2.1 (own_i1 hc hI) (own_i3 hc hI c358) hr) (hw _ (List.mem_of_getElem? (i := 151) rfl)) (hw _ (List.mem_of_getElem? (i := 21) rfl)) eQ 0 (by decide) (by decide) (by decide) (by decide) [(.ref b), (.int ss)] [] rfl pd_5 rfl 22 rfl (by rw [hml]; rfl) rfl (hb hby d_jdk_52_method_22_19) rfl fun T359 v359 L359 X359 hQ359 => ?_
        obtain ⟨rfl, Nq359, e359⟩ := hQ359
        have N359 := Fr.app NQ Nq359
        show own_GoE p e below _ (T359.setTop (mkF m 22 _ [(.int (own_at cs ss))]))
        refine g_istore X359 hx 24 (hb hby d_jdk_52_method_22_22) (l' := #[.val (.ref b), .val (.int ss), .val (.ref bb), .val (.int ii), .val (.int nn), .val (.int ii), .val (.int (own_at cs ss))]) (by rcases h_s6 with rfl | ⟨z_, rfl⟩ <;> rfl) rfl ?_
        refine g_iload X359 hx 26 (hb hby d_jdk_52_method_22_24) rfl rfl ?_
        refine g_sipush X359 hx 29 (hb hby d_jdk_52_method_22_26) (255 : Int32) rfl rfl ?_
        by_cases c364 : (255 : Int32) < (own_at cs ss)
        · refine g_icmpNo X359 hx 32 (hb hby d_jdk_52_method_22_29) (own_ii_le_f c364) rfl ?_
          refine g_iload X359 hx 34 (hb hby d_jdk_52_method_22_32) rfl rfl ?_
          have hj365 := own_iX hc hI hq c358 c364
          have V366 : Arv Z hQ bb kb .byte nn (own_w (own_ds cs ff nn) vs (own_fb (own_ds cs ff nn))) (.int (0 : Int32)) := own_arvL VQ (by rw [hj365])
          refine own_retI X359 hx hlk hret (hb hby d_jdk_52_method_22_34) ?_ (by decide) (by decide)
          rw [e359]
          exact ⟨(congrArg some (congrArg Value.int (by rw [hj365]; exact own_on hI.1))), N359, KQ, V366⟩
        · refine g_icmpYes X359 hx 35 (hb hby d_jdk_52_method_22_29) (own_ii_le_t c364) (by decide) (by decide) ?_
          refine g_aload_n X359 hx 36 (hb hby d_jdk_52_method_22_35) rfl rfl rfl ?_
          refine g_iload_n X359 hx 37 (hb hby d_jdk_52_method_22_36) rfl rfl ?_
          refine g_iload X359 hx 39 (hb hby d_jdk_52_method_22_37) rfl rfl ?_
          refine g_i2b X359 hx 40 (hb hby d_jdk_52_method_22_39) rfl ?_
          obtain ⟨cl367, Ar367, q367, S367, P367, H367, G367⟩ := id VQ
          have hin367 := inb_of (j := ii) S367 ⟨own_ig hI.1, c358⟩
          refine own_stB X359 hx hZ e359 Ar367 hin367 41 (hb hby d_jdk_52_method_22_40) rfl fun T367 h367 X367 e367 W367 => ?_
          have V367 : Arv Z h367 bb kb .byte nn ((own_w (own_ds cs ff nn) vs ii.toNatClampNeg).set ii.toNatClampNeg (.int (nar .byte ((own_at cs ss).toInt8.toInt32)))) (.int (0 : Int32)) := Arv.set Ar367 q367 S367 P367 H367 G367 (v := (.int (nar .byte ((own_at cs ss).toInt8.toInt32)))) (fits_nar_byte _) W367 _ rfl (own_wl (by rw [hl, own_dl hc]) (own_il hc hI c358))
          have N367 := Fr.snoc X367 N359 g_bb
          have z368 : n0 ≤ h367.size := (Nat.le_trans zQ (Keep.of_wr W367).1)
          have K369 : Keep h0 h367 [bb] := KQ.wr W367 (Or.inl (List.mem_of_getElem? (i := 0) rfl))
          refine g_iinc X367 hx 44 (hb hby d_jdk_52_method_22_41) (z := (ss + (1 : Int32))) rfl rfl (l' := #[.val (.ref b), .val (.int (ss + (1 : Int32))), .val (.ref bb), .val (.int ii), .val (.int nn), .val (.int ii), .val (.int (own_at cs ss))]) rfl rfl ?_
          refine g_iinc X367 hx 47 (hb hby d_jdk_52_method_22_44) (z := (ii + (1 : Int32))) rfl rfl (l' := #[.val (.ref b), .val (.int (ss + (1 : Int32))), .val (.ref bb), .val (.int (ii + (1 : Int32))), .val (.int nn), .val (.int ii), .val (.int (own_at cs ss))]) rfl rfl ?_
          refine g_iinc X367 hx 50 (hb hby d_jdk_52_method_22_47) (z := (ii + (1 : Int32))) rfl rfl (l' := #[.val (.ref b), .val (.int (ss + (1 : Int32))), .val (.ref bb), .val (.int (ii + (1 : Int32))), .val (.int nn), .val (.int (ii + (1 : Int32))), .val (.int (own_at cs ss))]) rfl rfl ?_
          refine g_goto X367 hx 10 (hb hby d_jdk_52_method_22_50) (by decide) (by decide) ?_
          exact ih (ii + (1 : Int32)) (ss + (1 : Int32)) (.val (.int (own_at cs ss))) h367 T367 _ X367 e367 N367 K369 z368 (own_arvL V367 (own_iw hc hl hI c358)) (Or.inr ⟨_, rfl⟩) (own_iu hc hI c358).1 (own_iK hc hI c358 hk) (own_iF hc hI hq c358 c364)
      · refine g_icmpYes XQ hx 53 (hb hby d_jdk_52_method_22_14) (own_ii_ge_t c358) (by decide) (by decide) ?_
        refine g_iload XQ hx 55 (hb hby d_jdk_52_method_22_53) rfl rfl ?_
        have hj370 := (own_iE hc hI hq c358).1
        have V371 : Arv Z hQ bb kb .byte nn (own_w (own_ds cs ff nn) vs (own_fb (own_ds cs ff nn))) (.int (0 : Int32)) := own_arvL VQ (by rw [hj370])
        refine own_retI XQ hx hlk hret (hb hby d_jdk_52_method_22_55) ?_ (by decide) (by decide)
        rw [eQ]
        exact ⟨(congrArg some (congrArg Value.int (by rw [hj370]; exact ((own_iE hc hI hq c358).2.symm.trans (own_on hI.1))))), NQ, KQ, V371⟩
  exact lp 5 (0 : Int32) ff .unset h0 T354 _ X354 e354 N354 (Keep.refl h0 [bb]) Z0 (own_arvL V_bb (own_w0 _ _)) (Or.inl rfl) (own_I0 hc) (own_I5 hc) (own_I2 _)
theorem d_jdk_52_method_17_0 : decode jdk_52_method_17_code 0 = .ok (.iload_n 2, 1) := by decide +kernel
theorem d_jdk_52_method_17_1 : decode jdk_52_method_17_code 1 = .ok (.newarray .byte, 2) := by decide +kernel
theorem d_jdk_52_method_17_3 : decode jdk_52_method_17_code 3 = .ok (.astore_n 3, 1) := by decide +kernel
theorem d_jdk_52_method_17_4 : decode jdk_52_method_17_code 4 = .ok (.aload_n 0, 1) := by decide +kernel
theorem d_jdk_52_method_17_5 : decode jdk_52_method_17_code 5 = .ok (.iload_n 1, 1) := by decide +kernel
theorem d_jdk_52_method_17_6 : decode jdk_52_method_17_code 6 = .ok (.aload_n 3, 1) := by decide +kernel
theorem d_jdk_52_method_17_7 : decode jdk_52_method_17_code 7 = .ok (.iconst 0, 1) := by decide +kernel
theorem d_jdk_52_method_17_8 : decode jdk_52_method_17_code 8 = .ok (.iload_n 2, 1) := by decide +kernel
theorem d_jdk_52_method_17_9 : decode jdk_52_method_17_code 9 = .ok (.invokestatic 123, 3) := by decide +kernel
theorem pd_20 : parseMethodDescriptor "([BI[BII)I" = some ⟨[(.array .byte), .int, (.array .byte), .int, .int], some .int⟩ := by decide +kernel
theorem d_jdk_52_method_17_12 : decode jdk_52_method_17_code 12 = .ok (.istore 4, 2) := by decide +kernel
theorem d_jdk_52_method_17_14 : decode jdk_52_method_17_code 14 = .ok (.iload 4, 2) := by decide +kernel
theorem d_jdk_52_method_17_16 : decode jdk_52_method_17_code 16 = .ok (.iload_n 2, 1) := by decide +kernel
theorem d_jdk_52_method_17_17 : decode jdk_52_method_17_code 17 = .ok (.if_icmp .eq 47, 3) := by decide +kernel
theorem d_jdk_52_method_17_64 : decode jdk_52_method_17_code 64 = .ok (.aload_n 3, 1) := by decide +kernel
theorem d_jdk_52_method_17_65 : decode jdk_52_method_17_code 65 = .ok (.areturn, 1) := by decide +kernel
def Q_d2L (Z : State) (b : Addr) (k : ClassId) (ff : Int32) (nn : Int32) (cs : List Int32) (fm : Value) (h0 : Heap) (n0 : Nat) (v : Option Value) (h : Heap) (L : List Loc) : Prop := ∃ rb : Addr, ∃ kr : ClassId, v = some (.ref rb) ∧ Fr n0 L ∧ Keep h0 h [] ∧ n0 ≤ rb ∧ h0.size ≤ rb ∧ Arv Z h rb kr .byte (Int32.ofNat (own_ds cs ff nn).length) ((own_ds cs ff nn).map fun x => Value.int (own_b x)) (.int (0 : Int32))
set_option maxRecDepth 65536 in
set_option maxHeartbeats 40000000 in
theorem rm_d2L (l : Launch) (Z : State) (a0 : Array Value) (hw : ∀ d ∈ tables_1, d.before a0 Z = true) (ws : List Jvm.Cond) (b : Addr) (k : ClassId) (ff : Int32) (nn : Int32) (cs : List Int32) (fm : Value) (h0 : Heap) (n0 : Nat) (Z0 : n0 ≤ h0.size) (V_b : Arv Z h0 b k .byte (Int32.ofNat (2 * cs.length)) (own_u cs) (.int (0 : Int32))) (S__assertionsDisabled : Sta Z h0 "java/lang/StringUTF16" "$assertionsDisabled" "Z" (.int (1 : Int32))) (S_HI_BYTE_SHIFT : Sta Z h0 "java/lang/StringUTF16" "HI_BYTE_SHIFT" "I" (.int (0 : Int32))) (S_LO_BYTE_SHIFT : Sta Z h0 "java/lang/StringUTF16" "LO_BYTE_SHIFT" "I" (.int (8 : Int32))) (S_SIOOBE_FORMATTER : Sta Z h0 "jdk/internal/util/Preconditions" "SIOOBE_FORMATTER" "Ljava/util/function/BiFunction;" fm) (hc : own_C ff nn cs.length) (hr : ∀ x ∈ cs, 0 ≤ x.toInt ∧ x.toInt ≤ 65535) (hfb : own_fb (own_ds cs ff nn) = (own_ds cs ff nn).length) (hfm : fm.isRef = true) :
    MetFree l (⟨"java/lang/StringUTF16", "compress", "([BII)[B"⟩ : MethodName) (head1 (Jvm.Cond.code (⟨"java/lang/StringUTF16", "compress", "([BII)[B"⟩ : MethodName) jdk_52_method_17_code 6 (some (.array .byte)) :: ws) ({ frames := 4, cells := 1, slots := 10, locals := 61 } : Room)) (fun aA U => aA = #[(.ref b), (.int ff), (.int nn)] ∧ Z.Warmed39 U.vm ∧ U.heap = h0) (fun _ _ _ _ _ => True) (fun _ U oO U' => ∃ vV LL, oO = .returned vV ∧ Q_d2L Z b k ff nn cs fm h0 n0 vV U'.heap LL ∧ FrameEnd U oO U' LL ({ frames := 4, cells := 1, slots := 10, locals := 61 } : Room).cells ({ frames := 4, cells := 1, slots := 10, locals := 61 } : Room).slots) := by
  refine MetFree.of_bodySF (plainFor_of_name pn_2) hisR ?_
  intro p e s m args below meth c s₁ Bd hml0 hP hK
  obtain ⟨rfl, hZ, hh⟩ := hP
  have hx := Bd.exec
  have hby := Bd.bytes
  have hml : c.maxLocals = 6 := hml0
  have hown : s.vm.findClass "java/lang/StringUTF16" = some m.cls := findClass_of_methodNamed Bd.named
  have hnm := (name_of_methodNamed Bd.named Bd.method).1
  have X0 : Stand p l e ({ frames := 4, cells := 1, slots := 10, locals := 61 } : Room) s m #[(.ref b), (.int ff), (.int nn)] below meth c s₁ [] 0 0 := Stand.of_body Bd
  have e0 : s₁.heap = h0 := by rw [← hh, Bd.state]; rfl
  have N0 := Fr.nil n0
  have hret := Bd.returns
  have hlk : meth.locks = false := Bd.notSynchronized
  refine own_start (ef_11 m b ff nn) ?_
  show own_Go p e below s (Q_d2L Z b k ff nn cs fm h0 n0) ({ frames := 4, cells := 1, slots := 10, locals := 61 } : Room).cells ({ frames := 4, cells := 1, slots := 10, locals := 61 } : Room).slots (s₁.setTop (mkF m 0 #[.val (.ref b), .val (.int ff), .val (.int nn), .unset, .unset, .unset] []))
  refine g_iload_n X0 hx 1 (hb hby d_jdk_52_method_17_0) rfl rfl ?_
  refine own_newP X0 hx hZ (hw _ (List.mem_of_getElem? (i := 23) rfl)) e0 3 (hb hby d_jdk_52_method_17_1) rfl (own_c9 hc) 10 (own_c15 hc) (by decide) (by decide) (by decide) fun T372 h372 k372 b372 X372 e372 g372 E372 A372 => ?_
  have ne373 : b ≠ b372 := Nat.ne_of_lt (Nat.lt_of_lt_of_le V_b.lt (Nat.le_of_eq g372.symm))
  have g_b372 : n0 ≤ b372 := Nat.le_trans Z0 (Nat.le_of_eq g372.symm)
  have sz_b372 : h0.size ≤ b372 := Nat.le_trans (Keep.refl h0 []).1 (Nat.le_of_eq g372.symm)
  have K374 : Keep h0 h372 [] := (Keep.refl h0 []).ext E372
  have z375 : n0 ≤ h372.size := (Nat.le_trans Z0 E372.1)
  have V372 : Arv Z h372 b372 k372 .byte nn (List.replicate nn.toNatClampNeg (.int (0 : Int32))) (.int (0 : Int32)) := (Arv.new A372 (own_c9 hc)).pad (pad_rep [] (.int (0 : Int32)) _)
  refine g_astore_n X372 hx 4 (hb hby d_jdk_52_method_17_3) rfl (l' := #[.val (.ref b), .val (.int ff), .val (.int nn), .val (.ref b372), .unset, .unset]) rfl rfl ?_
  refine g_aload_n X372 hx 5 (hb hby d_jdk_52_method_17_4) rfl rfl rfl ?_
  refine g_iload_n X372 hx 6 (hb hby d_jdk_52_method_17_5) rfl rfl ?_
  refine g_aload_n X372 hx 7 (hb hby d_jdk_52_method_17_6) rfl rfl rfl ?_
  refine g_iconst X372 hx 8 (hb hby d_jdk_52_method_17_7) (0 : Int32) rfl rfl ?_
  refine g_iload_n X372 hx 9 (hb hby d_jdk_52_method_17_8) rfl rfl ?_
  have f377 : Arv Z h372 b k .byte (Int32.ofNat (2 * cs.length)) (own_u cs) (.int (0 : Int32)) := (V_b.keep K374 nin0)
  have f378 : Sta Z h372 "java/lang/StringUTF16" "$assertionsDisabled" "Z" (.int (1 : Int32)) := (own_Sta_keep K374 S__assertionsDisabled all0)
  have f379 : Sta Z h372 "java/lang/StringUTF16" "HI_BYTE_SHIFT" "I" (.int (0 : Int32)) := (own_Sta_keep K374 S_HI_BYTE_SHIFT all0)
  have f380 : Sta Z h372 "java/lang/StringUTF16" "LO_BYTE_SHIFT" "I" (.int (8 : Int32)) := (own_Sta_keep K374 S_LO_BYTE_SHIFT all0)
  have f381 : Sta Z h372 "jdk/internal/util/Preconditions" "SIOOBE_FORMATTER" "Ljava/util/function/BiFunction;" fm := (own_Sta_keep K374 S_SIOOBE_FORMATTER all0)
  refine own_callS X372 hx hZ hown (hw _ (List.mem_of_getElem? (i := 170) rfl)) (hw _ (List.mem_of_getElem? (i := 171) rfl)) (by decide) (rm_d1 l Z a0 hw [] b k b372 k372 ff nn cs (List.replicate nn.toNatClampNeg (.int (0 : Int32))) fm h372 n0 z375 f377 V372 f378 f379 f380 f381 ne373 g_b372 hc (List.length_replicate) hr hfm) (hw _ (List.mem_of_getElem? (i := 172) rfl)) (hw _ (List.mem_of_getElem? (i := 21) rfl)) e372 0 (by decide) (by decide) (by decide) (by decide) [(.ref b), (.int ff), (.ref b372), (.int (0 : Int32)), (.int nn)] [] rfl pd_20 rfl 12 rfl (by rw [hml]; rfl) rfl (hb hby d_jdk_52_method_17_9) rfl fun T376 v376 L376 X376 hQ376 => ?_
  obtain ⟨rfl, Nq376, Kq376, v376_0⟩ := hQ376
  have N376 := Fr.app N0 Nq376
  have K382 : Keep h0 T376.heap [] := K374.trans Kq376 (allS (Or.inr sz_b372) all0)
  have z383 : n0 ≤ T376.heap.size := (Nat.le_trans z375 Kq376.1)
  show own_GoE p e below _ (T376.setTop (mkF m 12 _ [(.int (Int32.ofNat (own_fb (own_ds cs ff nn))))]))
  refine g_istore X376 hx 14 (hb hby d_jdk_52_method_17_12) (l' := #[.val (.ref b), .val (.int ff), .val (.int nn), .val (.ref b372), .val (.int (Int32.ofNat (own_fb (own_ds cs ff nn)))), .unset]) rfl rfl ?_
  refine g_iload X376 hx 16 (hb hby d_jdk_52_method_17_14) rfl rfl ?_
  refine g_iload_n X376 hx 17 (hb hby d_jdk_52_method_17_16) rfl rfl ?_
  have c384 : (Int32.ofNat (own_fb (own_ds cs ff nn))) = nn := own_fL hc hfb
  refine g_icmpYes X376 hx 64 (hb hby d_jdk_52_method_17_17) (own_ii_eq_t c384) (by decide) (by decide) ?_
  refine g_aload_n X376 hx 65 (hb hby d_jdk_52_method_17_64) rfl rfl rfl ?_
  have V385 : Arv Z T376.heap b372 k372 .byte (Int32.ofNat (own_ds cs ff nn).length) ((own_ds cs ff nn).map fun x => Value.int (own_b x)) (.int (0 : Int32)) := own_arvZ v376_0 (own_dk hc) (own_wn (by rw [List.length_replicate, own_dl hc]) hfb)
  refine own_retA X376 hx hlk hret rfl rfl (hb hby d_jdk_52_method_17_65) ?_ (by decide) (by decide)
  exact ⟨b372, k372, rfl, N376, K382, g_b372, sz_b372, V385⟩
theorem d_jdk_52_method_17_20 : decode jdk_52_method_17_code 20 = .ok (.aload_n 0, 1) := by decide +kernel
theorem d_jdk_52_method_17_21 : decode jdk_52_method_17_code 21 = .ok (.iload_n 1, 1) := by decide +kernel
theorem d_jdk_52_method_17_22 : decode jdk_52_method_17_code 22 = .ok (.iconst 1, 1) := by decide +kernel
theorem d_jdk_52_method_17_23 : decode jdk_52_method_17_code 23 = .ok (.ishl, 1) := by decide +kernel
theorem d_jdk_52_method_17_24 : decode jdk_52_method_17_code 24 = .ok (.iload_n 1, 1) := by decide +kernel
theorem d_jdk_52_method_17_25 : decode jdk_52_method_17_code 25 = .ok (.iload_n 2, 1) := by decide +kernel
theorem d_jdk_52_method_17_26 : decode jdk_52_method_17_code 26 = .ok (.iadd, 1) := by decide +kernel
theorem d_jdk_52_method_17_27 : decode jdk_52_method_17_code 27 = .ok (.invokestatic 11, 3) := by decide +kernel
theorem d_jdk_52_method_17_30 : decode jdk_52_method_17_code 30 = .ok (.invokestatic 126, 3) := by decide +kernel
theorem d_jdk_52_method_17_33 : decode jdk_52_method_17_code 33 = .ok (.astore 5, 2) := by decide +kernel
theorem d_jdk_52_method_17_35 : decode jdk_52_method_17_code 35 = .ok (.aload 5, 2) := by decide +kernel
theorem d_jdk_52_method_17_37 : decode jdk_52_method_17_code 37 = .ok (.iload 4, 2) := by decide +kernel
theorem d_jdk_52_method_17_39 : decode jdk_52_method_17_code 39 = .ok (.invokestatic 71, 3) := by decide +kernel
theorem d_jdk_52_method_17_42 : decode jdk_52_method_17_code 42 = .ok (.sipush 255, 3) := by decide +kernel
theorem d_jdk_52_method_17_45 : decode jdk_52_method_17_code 45 = .ok (.if_icmp .gt 16, 3) := by decide +kernel
theorem d_jdk_52_method_17_61 : decode jdk_52_method_17_code 61 = .ok (.aload 5, 2) := by decide +kernel
theorem d_jdk_52_method_17_63 : decode jdk_52_method_17_code 63 = .ok (.areturn, 1) := by decide +kernel
def Q_d2U (Z : State) (b : Addr) (k : ClassId) (ff : Int32) (nn : Int32) (cs : List Int32) (fm : Value) (h0 : Heap) (n0 : Nat) (v : Option Value) (h : Heap) (L : List Loc) : Prop := ∃ rb : Addr, ∃ kr : ClassId, v = some (.ref rb) ∧ Fr n0 L ∧ Keep h0 h [] ∧ n0 ≤ rb ∧ h0.size ≤ rb ∧ Arv Z h rb kr .byte (Int32.ofNat (2 * (own_ds cs ff nn).length)) (own_u (own_ds cs ff nn)) (.int (0 : Int32))
set_option maxRecDepth 65536 in
set_option maxHeartbeats 40000000 in
theorem rm_d2U (l : Launch) (Z : State) (a0 : Array Value) (hw : ∀ d ∈ tables_1, d.before a0 Z = true) (ws : List Jvm.Cond) (b : Addr) (k : ClassId) (ff : Int32) (nn : Int32) (cs : List Int32) (fm : Value) (h0 : Heap) (n0 : Nat) (Z0 : n0 ≤ h0.size) (V_b : Arv Z h0 b k .byte (Int32.ofNat (2 * cs.length)) (own_u cs) (.int (0 : Int32))) (S__assertionsDisabled : Sta Z h0 "java/lang/StringUTF16" "$assertionsDisabled" "Z" (.int (1 : Int32))) (S_HI_BYTE_SHIFT : Sta Z h0 "java/lang/StringUTF16" "HI_BYTE_SHIFT" "I" (.int (0 : Int32))) (S_LO_BYTE_SHIFT : Sta Z h0 "java/lang/StringUTF16" "LO_BYTE_SHIFT" "I" (.int (8 : Int32))) (S_SIOOBE_FORMATTER : Sta Z h0 "jdk/internal/util/Preconditions" "SIOOBE_FORMATTER" "Ljava/util/function/BiFunction;" fm) (hc : own_C ff nn cs.length) (hr : ∀ x ∈ cs, 0 ≤ x.toInt ∧ x.toInt ≤ 65535) (hfb : ¬ (own_fb (own_ds cs ff nn) = (own_ds cs ff nn).length)) (hfm : fm.isRef = true) :
    MetFree l (⟨"java/lang/StringUTF16", "compress", "([BII)[B"⟩ : MethodName) (head1 (Jvm.Cond.code (⟨"java/lang/StringUTF16", "compress", "([BII)[B"⟩ : MethodName) jdk_52_method_17_code 6 (some (.array .byte)) :: ws) ({ frames := 4, cells := 2, slots := 20, locals := 61 } : Room)) (fun aA U => aA = #[(.ref b), (.int ff), (.int nn)] ∧ Z.Warmed39 U.vm ∧ U.heap = h0) (fun _ _ _ _ _ => True) (fun _ U oO U' => ∃ vV LL, oO = .returned vV ∧ Q_d2U Z b k ff nn cs fm h0 n0 vV U'.heap LL ∧ FrameEnd U oO U' LL ({ frames := 4, cells := 2, slots := 20, locals := 61 } : Room).cells ({ frames := 4, cells := 2, slots := 20, locals := 61 } : Room).slots) := by
  refine MetFree.of_bodySF (plainFor_of_name pn_2) hisR ?_
  intro p e s m args below meth c s₁ Bd hml0 hP hK
  obtain ⟨rfl, hZ, hh⟩ := hP
  have hx := Bd.exec
  have hby := Bd.bytes
  have hml : c.maxLocals = 6 := hml0
  have hown : s.vm.findClass "java/lang/StringUTF16" = some m.cls := findClass_of_methodNamed Bd.named
  have hnm := (name_of_methodNamed Bd.named Bd.method).1
  have X0 : Stand p l e ({ frames := 4, cells := 2, slots := 20, locals := 61 } : Room) s m #[(.ref b), (.int ff), (.int nn)] below meth c s₁ [] 0 0 := Stand.of_body Bd
  have e0 : s₁.heap = h0 := by rw [← hh, Bd.state]; rfl
  have N0 := Fr.nil n0
  have hret := Bd.returns
  have hlk : meth.locks = false := Bd.notSynchronized
  refine own_start (ef_11 m b ff nn) ?_
  show own_Go p e below s (Q_d2U Z b k ff nn cs fm h0 n0) ({ frames := 4, cells := 2, slots := 20, locals := 61 } : Room).cells ({ frames := 4, cells := 2, slots := 20, locals := 61 } : Room).slots (s₁.setTop (mkF m 0 #[.val (.ref b), .val (.int ff), .val (.int nn), .unset, .unset, .unset] []))
  refine g_iload_n X0 hx 1 (hb hby d_jdk_52_method_17_0) rfl rfl ?_
  refine own_newP X0 hx hZ (hw _ (List.mem_of_getElem? (i := 23) rfl)) e0 3 (hb hby d_jdk_52_method_17_1) rfl (own_c9 hc) 10 (own_c15 hc) (by decide) (by decide) (by decide) fun T386 h386 k386 b386 X386 e386 g386 E386 A386 => ?_
  have ne387 : b ≠ b386 := Nat.ne_of_lt (Nat.lt_of_lt_of_le V_b.lt (Nat.le_of_eq g386.symm))
  have g_b386 : n0 ≤ b386 := Nat.le_trans Z0 (Nat.le_of_eq g386.symm)
  have sz_b386 : h0.size ≤ b386 := Nat.le_trans (Keep.refl h0 []).1 (Nat.le_of_eq g386.symm)
  have K388 : Keep h0 h386 [] := (Keep.refl h0 []).ext E386
  have z389 : n0 ≤ h386.size := (Nat.le_trans Z0 E386.1)
  have V386 : Arv Z h386 b386 k386 .byte nn (List.replicate nn.toNatClampNeg (.int (0 : Int32))) (.int (0 : Int32)) := (Arv.new A386 (own_c9 hc)).pad (pad_rep [] (.int (0 : Int32)) _)
  refine g_astore_n X386 hx 4 (hb hby d_jdk_52_method_17_3) rfl (l' := #[.val (.ref b), .val (.int ff), .val (.int nn), .val (.ref b386), .unset, .unset]) rfl rfl ?_
  refine g_aload_n X386 hx 5 (hb hby d_jdk_52_method_17_4) rfl rfl rfl ?_
  refine g_iload_n X386 hx 6 (hb hby d_jdk_52_method_17_5) rfl rfl ?_
  refine g_aload_n X386 hx 7 (hb hby d_jdk_52_method_17_6) rfl rfl rfl ?_
  refine g_iconst X386 hx 8 (hb hby d_jdk_52_method_17_7) (0 : Int32) rfl rfl ?_
  refine g_iload_n X386 hx 9 (hb hby d_jdk_52_method_17_8) rfl rfl ?_
  have f391 : Arv Z h386 b k .byte (Int32.ofNat (2 * cs.length)) (own_u cs) (.int (0 : Int32)) := (V_b.keep K388 nin0)
  have f392 : Sta Z h386 "java/lang/StringUTF16" "$assertionsDisabled" "Z" (.int (1 : Int32)) := (own_Sta_keep K388 S__assertionsDisabled all0)
  have f393 : Sta Z h386 "java/lang/StringUTF16" "HI_BYTE_SHIFT" "I" (.int (0 : Int32)) := (own_Sta_keep K388 S_HI_BYTE_SHIFT all0)
  have f394 : Sta Z h386 "java/lang/StringUTF16" "LO_BYTE_SHIFT" "I" (.int (8 : Int32)) := (own_Sta_keep K388 S_LO_BYTE_SHIFT all0)
  have f395 : Sta Z h386 "jdk/internal/util/Preconditions" "SIOOBE_FORMATTER" "Ljava/util/function/BiFunction;" fm := (own_Sta_keep K388 S_SIOOBE_FORMATTER all0)
  refine own_callS X386 hx hZ hown (hw _ (List.mem_of_getElem? (i := 170) rfl)) (hw _ (List.mem_of_getElem? (i := 171) rfl)) (by decide) (rm_d1 l Z a0 hw [] b k b386 k386 ff nn cs (List.replicate nn.toNatClampNeg (.int (0 : Int32))) fm h386 n0 z389 f391 V386 f392 f393 f394 f395 ne387 g_b386 hc (List.length_replicate) hr hfm) (hw _ (List.mem_of_getElem? (i := 172) rfl)) (hw _ (List.mem_of_getElem? (i := 21) rfl)) e386 0 (by decide) (by decide) (by decide) (by decide) [(.ref b), (.int ff), (.ref b386), (.int (0 : Int32)), (.int nn)] [] rfl pd_20 rfl 12 rfl (by rw [hml]; rfl) rfl (hb hby d_jdk_52_method_17_9) rfl fun T390 v390 L390 X390 hQ390 => ?_
  obtain ⟨rfl, Nq390, Kq390, v390_0⟩ := hQ390
  have N390 := Fr.app N0 Nq390
  have K396 : Keep h0 T390.heap [] := K388.trans Kq390 (allS (Or.inr sz_b386) all0)
  have z397 : n0 ≤ T390.heap.size := (Nat.le_trans z389 Kq390.1)
  show own_GoE p e below _ (T390.setTop (mkF m 12 _ [(.int (Int32.ofNat (own_fb (own_ds cs ff nn))))]))
  refine g_istore X390 hx 14 (hb hby d_jdk_52_method_17_12) (l' := #[.val (.ref b), .val (.int ff), .val (.int nn), .val (.ref b386), .val (.int (Int32.ofNat (own_fb (own_ds cs ff nn)))), .unset]) rfl rfl ?_
  refine g_iload X390 hx 16 (hb hby d_jdk_52_method_17_14) rfl rfl ?_
  refine g_iload_n X390 hx 17 (hb hby d_jdk_52_method_17_16) rfl rfl ?_
  have c398 : ¬ ((Int32.ofNat (own_fb (own_ds cs ff nn))) = nn) := own_fU (own_d5 hc) (own_dk hc) hfb
  refine g_icmpNo X390 hx 20 (hb hby d_jdk_52_method_17_17) (own_ii_eq_f c398) rfl ?_
  refine g_aload_n X390 hx 21 (hb hby d_jdk_52_method_17_20) rfl rfl rfl ?_
  refine g_iload_n X390 hx 22 (hb hby d_jdk_52_method_17_21) rfl rfl ?_
  refine g_iconst X390 hx 23 (hb hby d_jdk_52_method_17_22) (1 : Int32) rfl rfl ?_
  refine g_ishl X390 hx 24 (hb hby d_jdk_52_method_17_23) rfl ?_
  refine g_iload_n X390 hx 25 (hb hby d_jdk_52_method_17_24) rfl rfl ?_
  refine g_iload_n X390 hx 26 (hb hby d_jdk_52_method_17_25) rfl rfl ?_
  refine g_iadd X390 hx 27 (hb hby d_jdk_52_method_17_26) rfl ?_
  refine own_callS X390 hx hZ hown (hw _ (List.mem_of_getElem? (i := 139) rfl)) (hw _ (List.mem_of_getElem? (i := 140) rfl)) (by decide) (rm_nbl l Z a0 hw [] (ff + nn) T390.heap n0 z397 (own_c10 hc) (own_c11 hc)) (hw _ (List.mem_of_getElem? (i := 141) rfl)) (hw _ (List.mem_of_getElem? (i := 21) rfl)) rfl 2 (by decide) (by decide) (by decide) (by decide) [(.int (ff + nn))] [(.int (ff <<< ((1 : Int32) &&& 31))), (.ref b)] rfl pd_10 rfl 30 rfl (by rw [hml]; rfl) rfl (hb hby d_jdk_52_method_17_27) rfl fun T399 v399 L399 X399 hQ399 => ?_
  obtain ⟨rfl, Nq399, e399⟩ := hQ399
  have N399 := Fr.app N390 Nq399
  show own_GoE p e below _ (T399.setTop (mkF m 30 _ [(.int ((ff + nn) <<< ((1 : Int32) &&& 31))), (.int (ff <<< ((1 : Int32) &&& 31))), (.ref b)]))
  have f401 : Arv Z T390.heap b k .byte (Int32.ofNat (2 * cs.length)) (own_u cs) (.int (0 : Int32)) := (f391.keep Kq390 (ninS ne387 nin0))
  refine own_callS X399 hx hZ hown (hw _ (List.mem_of_getElem? (i := 182) rfl)) (hw _ (List.mem_of_getElem? (i := 105) rfl)) (by decide) (rm_cr l Z a0 hw [] b k (ff <<< ((1 : Int32) &&& 31)) ((ff + nn) <<< ((1 : Int32) &&& 31)) (own_u cs) (Int32.ofNat (2 * cs.length)) T390.heap n0 z397 f401 (own_c3 hc) (own_c4 hc)) (hw _ (List.mem_of_getElem? (i := 107) rfl)) (hw _ (List.mem_of_getElem? (i := 106) rfl)) e399 0 (by decide) (by decide) (by decide) (by decide) [(.ref b), (.int (ff <<< ((1 : Int32) &&& 31))), (.int ((ff + nn) <<< ((1 : Int32) &&& 31)))] [] rfl pd_9 rfl 33 rfl (by rw [hml]; rfl) rfl (hb hby d_jdk_52_method_17_30) rfl fun T400 v400 L400 X400 hQ400 => ?_
  obtain ⟨rb_400, kr_400, rfl, Nq400, Kq400, g_rb_400, sz_rb_400, v400_0⟩ := hQ400
  have ne402 : b ≠ rb_400 := Nat.ne_of_lt (Nat.lt_of_lt_of_le f401.lt sz_rb_400)
  have ne403 : b386 ≠ rb_400 := Nat.ne_of_lt (Nat.lt_of_lt_of_le v390_0.lt sz_rb_400)
  have N400 := Fr.app N399 Nq400
  have sq_rb_400 : h0.size ≤ rb_400 := Nat.le_trans K396.1 sz_rb_400
  have K404 : Keep h0 T400.heap [] := K396.trans Kq400 all0
  have z405 : n0 ≤ T400.heap.size := (Nat.le_trans z397 Kq400.1)
  show own_GoE p e below _ (T400.setTop (mkF m 33 _ [(.ref rb_400)]))
  have V406 : Arv Z T400.heap rb_400 kr_400 .byte (Int32.ofNat (2 * (own_ds cs ff nn).length)) (own_u (own_ds cs ff nn)) (.int (0 : Int32)) := own_arvZ v400_0 (own_zU hc) (own_sU hc)
  refine g_astore X400 hx 35 (hb hby d_jdk_52_method_17_33) rfl (l' := #[.val (.ref b), .val (.int ff), .val (.int nn), .val (.ref b386), .val (.int (Int32.ofNat (own_fb (own_ds cs ff nn)))), .val (.ref rb_400)]) rfl rfl ?_
  refine g_aload X400 hx 37 (hb hby d_jdk_52_method_17_35) rfl rfl rfl ?_
  refine g_iload X400 hx 39 (hb hby d_jdk_52_method_17_37) rfl rfl ?_
  have f408 : Sta Z T400.heap "java/lang/StringUTF16" "$assertionsDisabled" "Z" (.int (1 : Int32)) := (own_Sta_keep Kq400 (own_Sta_keep Kq390 f392 (allS (own_plainA V386) all0)) all0)
  have f409 : Sta Z T400.heap "java/lang/StringUTF16" "HI_BYTE_SHIFT" "I" (.int (0 : Int32)) := (own_Sta_keep Kq400 (own_Sta_keep Kq390 f393 (allS (own_plainA V386) all0)) all0)
  have f410 : Sta Z T400.heap "java/lang/StringUTF16" "LO_BYTE_SHIFT" "I" (.int (8 : Int32)) := (own_Sta_keep Kq400 (own_Sta_keep Kq390 f394 (allS (own_plainA V386) all0)) all0)
  refine own_callS X400 hx hZ hown (hw _ (List.mem_of_getElem? (i := 149) rfl)) (hw _ (List.mem_of_getElem? (i := 150) rfl)) (by decide) (rm_gch l Z a0 hw [] rb_400 kr_400 (Int32.ofNat (own_fb (own_ds cs ff nn))) (own_ds cs ff nn) T400.heap n0 z405 V406 f408 f409 f410 (own_d5 hc) (own_bj1 (own_d5 hc)) (own_bj2 (own_d5 hc) hfb) (fun x q => hr x (own_dm q))) (hw _ (List.mem_of_getElem? (i := 151) rfl)) (hw _ (List.mem_of_getElem? (i := 21) rfl)) rfl 0 (by decide) (by decide) (by decide) (by decide) [(.ref rb_400), (.int (Int32.ofNat (own_fb (own_ds cs ff nn))))] [] rfl pd_5 rfl 42 rfl (by rw [hml]; rfl) rfl (hb hby d_jdk_52_method_17_39) rfl fun T407 v407 L407 X407 hQ407 => ?_
  obtain ⟨rfl, Nq407, e407⟩ := hQ407
  have N407 := Fr.app N400 Nq407
  show own_GoE p e below _ (T407.setTop (mkF m 42 _ [(.int (own_at (own_ds cs ff nn) (Int32.ofNat (own_fb (own_ds cs ff nn)))))]))
  refine g_sipush X407 hx 45 (hb hby d_jdk_52_method_17_42) (255 : Int32) rfl rfl ?_
  have c411 : (255 : Int32) < (own_at (own_ds cs ff nn) (Int32.ofNat (own_fb (own_ds cs ff nn)))) := own_bj3 (own_d5 hc) hfb
  refine g_icmpYes X407 hx 61 (hb hby d_jdk_52_method_17_45) (own_ii_gt_t c411) (by decide) (by decide) ?_
  refine g_aload X407 hx 63 (hb hby d_jdk_52_method_17_61) rfl rfl rfl ?_
  refine own_retA X407 hx hlk hret rfl rfl (hb hby d_jdk_52_method_17_63) ?_ (by decide) (by decide)
  rw [e407]
  exact ⟨rb_400, kr_400, rfl, N407, K404, g_rb_400, sq_rb_400, V406⟩
theorem d_jdk_52_method_69_8 : decode jdk_52_method_69_code 8 = .ok (.getstatic 251, 3) := by decide +kernel
theorem d_jdk_52_method_69_11 : decode jdk_52_method_69_code 11 = .ok (.ifCond .eq 28, 3) := by decide +kernel
theorem d_jdk_52_method_69_14 : decode jdk_52_method_69_code 14 = .ok (.aload_n 0, 1) := by decide +kernel
theorem d_jdk_52_method_69_15 : decode jdk_52_method_69_code 15 = .ok (.iload_n 1, 1) := by decide +kernel
theorem d_jdk_52_method_69_16 : decode jdk_52_method_69_code 16 = .ok (.iload_n 2, 1) := by decide +kernel
theorem d_jdk_52_method_69_17 : decode jdk_52_method_69_code 17 = .ok (.invokestatic 257, 3) := by decide +kernel
theorem d_jdk_52_method_69_20 : decode jdk_52_method_69_code 20 = .ok (.astore_n 3, 1) := by decide +kernel
theorem d_jdk_52_method_69_21 : decode jdk_52_method_69_code 21 = .ok (.aload_n 3, 1) := by decide +kernel
theorem d_jdk_52_method_69_22 : decode jdk_52_method_69_code 22 = .ok (.iload_n 2, 1) := by decide +kernel
theorem d_jdk_52_method_69_23 : decode jdk_52_method_69_code 23 = .ok (.invokestatic 259, 3) := by decide +kernel
theorem d_jdk_52_method_69_26 : decode jdk_52_method_69_code 26 = .ok (.istore 4, 2) := by decide +kernel
theorem d_jdk_52_method_69_28 : decode jdk_52_method_69_code 28 = .ok (.new 3, 3) := by decide +kernel
theorem d_jdk_52_method_69_31 : decode jdk_52_method_69_code 31 = .ok (.dup, 1) := by decide +kernel
theorem d_jdk_52_method_69_32 : decode jdk_52_method_69_code 32 = .ok (.aload_n 3, 1) := by decide +kernel
theorem d_jdk_52_method_69_33 : decode jdk_52_method_69_code 33 = .ok (.iload 4, 2) := by decide +kernel
theorem d_jdk_52_method_69_35 : decode jdk_52_method_69_code 35 = .ok (.invokespecial 263, 3) := by decide +kernel
theorem d_jdk_52_method_69_38 : decode jdk_52_method_69_code 38 = .ok (.areturn, 1) := by decide +kernel
def Q_nsu (Z : State) (b : Addr) (k : ClassId) (ff : Int32) (nn : Int32) (cs : List Int32) (zc : Int32) (fm : Value) (h0 : Heap) (n0 : Nat) (v : Option Value) (h : Heap) (L : List Loc) : Prop := ∃ r : Addr, v = some (.ref r) ∧ Fr n0 L ∧ Keep h0 h [] ∧ n0 ≤ r ∧ h0.size ≤ r ∧ own_Str Z h r (own_ds cs ff nn)
set_option maxRecDepth 65536 in
set_option maxHeartbeats 40000000 in
theorem rm_nsu (l : Launch) (Z : State) (a0 : Array Value) (hw : ∀ d ∈ tables_1, d.before a0 Z = true) (ws : List Jvm.Cond) (b : Addr) (k : ClassId) (ff : Int32) (nn : Int32) (cs : List Int32) (zc : Int32) (fm : Value) (h0 : Heap) (n0 : Nat) (Z0 : n0 ≤ h0.size) (V_b : Arv Z h0 b k .byte (Int32.ofNat (2 * cs.length)) (own_u cs) (.int (0 : Int32))) (S_COMPACT_STRINGS : Sta Z h0 "java/lang/String" "COMPACT_STRINGS" "Z" (.int zc)) (S_SIOOBE_FORMATTER : Sta Z h0 "jdk/internal/util/Preconditions" "SIOOBE_FORMATTER" "Ljava/util/function/BiFunction;" fm) (S__assertionsDisabled : Sta Z h0 "java/lang/StringUTF16" "$assertionsDisabled" "Z" (.int (1 : Int32))) (S_HI_BYTE_SHIFT : Sta Z h0 "java/lang/StringUTF16" "HI_BYTE_SHIFT" "I" (.int (0 : Int32))) (S_LO_BYTE_SHIFT : Sta Z h0 "java/lang/StringUTF16" "LO_BYTE_SHIFT" "I" (.int (8 : Int32))) (hz : ¬ (zc = (0 : Int32))) (hc : own_C ff nn cs.length) (hr : ∀ x ∈ cs, 0 ≤ x.toInt ∧ x.toInt ≤ 65535) (hfm : fm.isRef = true) :
    MetFree l (⟨"java/lang/StringUTF16", "newString", "([BII)Ljava/lang/String;"⟩ : MethodName) (head1 (Jvm.Cond.code (⟨"java/lang/StringUTF16", "newString", "([BII)Ljava/lang/String;"⟩ : MethodName) jdk_52_method_69_code 5 (some (.object "java/lang/String")) :: ws) ({ frames := 5, cells := 3, slots := 24, locals := 78 } : Room)) (fun aA U => aA = #[(.ref b), (.int ff), (.int nn)] ∧ Z.Warmed39 U.vm ∧ U.heap = h0) (fun _ _ _ _ _ => True) (fun _ U oO U' => ∃ vV LL, oO = .returned vV ∧ Q_nsu Z b k ff nn cs zc fm h0 n0 vV U'.heap LL ∧ FrameEnd U oO U' LL ({ frames := 5, cells := 3, slots := 24, locals := 78 } : Room).cells ({ frames := 5, cells := 3, slots := 24, locals := 78 } : Room).slots) := by
  refine MetFree.of_bodySF (plainFor_of_name pn_2) hisR ?_
  intro p e s m args below meth c s₁ Bd hml0 hP hK
  obtain ⟨rfl, hZ, hh⟩ := hP
  have hx := Bd.exec
  have hby := Bd.bytes
  have hml : c.maxLocals = 5 := hml0
  have hown : s.vm.findClass "java/lang/StringUTF16" = some m.cls := findClass_of_methodNamed Bd.named
  have hnm := (name_of_methodNamed Bd.named Bd.method).1
  have X0 : Stand p l e ({ frames := 5, cells := 3, slots := 24, locals := 78 } : Room) s m #[(.ref b), (.int ff), (.int nn)] below meth c s₁ [] 0 0 := Stand.of_body Bd
  have e0 : s₁.heap = h0 := by rw [← hh, Bd.state]; rfl
  have N0 := Fr.nil n0
  have hret := Bd.returns
  have hlk : meth.locks = false := Bd.notSynchronized
  refine own_start (ef_7 m b ff nn) ?_
  show own_Go p e below s (Q_nsu Z b k ff nn cs zc fm h0 n0) ({ frames := 5, cells := 3, slots := 24, locals := 78 } : Room).cells ({ frames := 5, cells := 3, slots := 24, locals := 78 } : Room).slots (s₁.setTop (mkF m 0 #[.val (.ref b), .val (.int ff), .val (.int nn), .unset, .unset] []))
  refine g_iload_n X0 hx 1 (hb hby d_jdk_52_method_69_0) rfl rfl ?_
  have c412 : ¬ (nn = (0 : Int32)) := own_c12 hc
  refine g_ifYes X0 hx 8 (hb hby d_jdk_52_method_69_1) (own_i0_ne_t c412) (by decide) (by decide) ?_
  refine own_getS X0 hx hZ hown (host := "") (Or.inl (hw _ (List.mem_of_getElem? (i := 166) rfl))) Via.refl e0 S_COMPACT_STRINGS 11 (hb hby d_jdk_52_method_69_8) rfl fun T413 X413 e413 => ?_
  refine g_ifNo X413 hx 14 (hb hby d_jdk_52_method_69_11) (own_i0_eq_f hz) rfl ?_
  by_cases c415 : own_fb (own_ds cs ff nn) = (own_ds cs ff nn).length
  · show own_GoE p e below _ (T413.setTop (mkF m 14 _ []))
    refine g_aload_n X413 hx 15 (hb hby d_jdk_52_method_69_14) rfl rfl rfl ?_
    refine g_iload_n X413 hx 16 (hb hby d_jdk_52_method_69_15) rfl rfl ?_
    refine g_iload_n X413 hx 17 (hb hby d_jdk_52_method_69_16) rfl rfl ?_
    refine own_callS X413 hx hZ hown (hw _ (List.mem_of_getElem? (i := 167) rfl)) (hw _ (List.mem_of_getElem? (i := 168) rfl)) (by decide) (rm_d2L l Z a0 hw [] b k ff nn cs fm h0 n0 Z0 V_b S__assertionsDisabled S_HI_BYTE_SHIFT S_LO_BYTE_SHIFT S_SIOOBE_FORMATTER hc hr c415 hfm) (hw _ (List.mem_of_getElem? (i := 169) rfl)) (hw _ (List.mem_of_getElem? (i := 21) rfl)) e413 0 (by decide) (by decide) (by decide) (by decide) [(.ref b), (.int ff), (.int nn)] [] rfl pd_9 rfl 20 rfl (by rw [hml]; rfl) rfl (hb hby d_jdk_52_method_69_17) rfl fun T416 v416 L416 X416 hQ416 => ?_
    obtain ⟨rb_416, kr_416, rfl, Nq416, Kq416, g_rb_416, sz_rb_416, v416_0⟩ := hQ416
    have ne417 : b ≠ rb_416 := Nat.ne_of_lt (Nat.lt_of_lt_of_le V_b.lt sz_rb_416)
    have N416 := Fr.app N0 Nq416
    have sq_rb_416 : h0.size ≤ rb_416 := Nat.le_trans (Keep.refl h0 []).1 sz_rb_416
    have K418 : Keep h0 T416.heap [] := (Keep.refl h0 []).trans Kq416 all0
    have z419 : n0 ≤ T416.heap.size := (Nat.le_trans Z0 Kq416.1)
    show own_GoE p e below _ (T416.setTop (mkF m 20 _ [(.ref rb_416)]))
    refine g_astore_n X416 hx 21 (hb hby d_jdk_52_method_69_20) rfl (l' := #[.val (.ref b), .val (.int ff), .val (.int nn), .val (.ref rb_416), .unset]) rfl rfl ?_
    refine g_aload_n X416 hx 22 (hb hby d_jdk_52_method_69_21) rfl rfl rfl ?_
    refine g_iload_n X416 hx 23 (hb hby d_jdk_52_method_69_22) rfl rfl ?_
    refine own_callS X416 hx hZ hown (hw _ (List.mem_of_getElem? (i := 183) rfl)) (hw _ (List.mem_of_getElem? (i := 28) rfl)) (by decide) (rm_cfa l Z a0 hw [] rb_416 kr_416 nn ((own_ds cs ff nn).map fun x => Value.int (own_b x)) (Int32.ofNat (own_ds cs ff nn).length) T416.heap n0 z419 v416_0) (hw _ (List.mem_of_getElem? (i := 29) rfl)) (hw _ (List.mem_of_getElem? (i := 21) rfl)) rfl 0 (by decide) (by decide) (by decide) (by decide) [(.ref rb_416), (.int nn)] [] rfl pd_15 rfl 26 rfl (by rw [hml]; rfl) rfl (hb hby d_jdk_52_method_69_23) rfl fun T420 v420 L420 X420 hQ420 => ?_
    obtain ⟨rfl, Nq420, e420⟩ := hQ420
    have N420 := Fr.app N416 Nq420
    show own_GoE p e below _ (T420.setTop (mkF m 26 _ [(.int (own_cfa nn (Int32.ofNat (own_ds cs ff nn).length)))]))
    rw [show (own_cfa nn (Int32.ofNat (own_ds cs ff nn).length)) = (0 : Int32) from by rw [own_dl hc]; exact own_c17 hc]
    refine g_istore X420 hx 28 (hb hby d_jdk_52_method_69_26) (l' := #[.val (.ref b), .val (.int ff), .val (.int nn), .val (.ref rb_416), .val (.int (0 : Int32))]) rfl rfl ?_
    refine own_newO X420 hx hZ hown (hw _ (List.mem_of_getElem? (i := 184) rfl)) (hw _ (List.mem_of_getElem? (i := 6) rfl)) (hw _ (List.mem_of_getElem? (i := 7) rfl)) e420 31 (hb hby d_jdk_52_method_69_28) rfl (by decide) (by decide) fun T421 h421 b421 X421 e421 g421 E421 A421 D421 => ?_
    have f422 : Arv Z T416.heap b k .byte (Int32.ofNat (2 * cs.length)) (own_u cs) (.int (0 : Int32)) := (V_b.keep K418 nin0)
    have ne423 : b ≠ b421 := Nat.ne_of_lt (Nat.lt_of_lt_of_le f422.lt (Nat.le_of_eq g421.symm))
    have ne424 : rb_416 ≠ b421 := Nat.ne_of_lt (Nat.lt_of_lt_of_le v416_0.lt (Nat.le_of_eq g421.symm))
    have g_b421 : n0 ≤ b421 := Nat.le_trans z419 (Nat.le_of_eq g421.symm)
    have sz_b421 : h0.size ≤ b421 := Nat.le_trans K418.1 (Nat.le_of_eq g421.symm)
    have K425 : Keep h0 h421 [] := K418.ext E421
    have z426 : n0 ≤ h421.size := (Nat.le_trans z419 E421.1)
    have f427 : Fld Z h421 b421 "java/lang/String" "coder" "B" (.int (0 : Int32)) := D421 (Or.inr (hw _ (List.mem_of_getElem? (i := 31) rfl))) (ty := .byte) (by decide)
    have f428 : Fld Z h421 b421 "java/lang/String" "value" "[B" .null := D421 (Or.inr (hw _ (List.mem_of_getElem? (i := 33) rfl))) (ty := (.array .byte)) (by decide)
    refine g_dup X421 hx 32 (hb hby d_jdk_52_method_69_31) rfl rfl ?_
    refine g_aload_n X421 hx 33 (hb hby d_jdk_52_method_69_32) rfl rfl rfl ?_
    refine g_iload X421 hx 35 (hb hby d_jdk_52_method_69_33) rfl rfl ?_
    refine own_callI X421 hx hZ hown rfl (hw _ (List.mem_of_getElem? (i := 185) rfl)) (hw _ (List.mem_of_getElem? (i := 120) rfl)) (by decide) (rm_inbL l Z a0 hw [] b421 rb_416 h421 n0 z426 A421 f428 f427 g_b421) (hw _ (List.mem_of_getElem? (i := 121) rfl)) (hw _ (List.mem_of_getElem? (i := 7) rfl)) e421 1 (by decide) (by decide) (by decide) (by decide) b421 [(.ref rb_416), (.int (0 : Int32))] [(.ref b421)] rfl pd_17 rfl 38 rfl (by rw [hml]; rfl) rfl (hb hby d_jdk_52_method_69_35) rfl fun T429 v429 L429 X429 hQ429 => ?_
    obtain ⟨rfl, Nq429, Kq429, f429_0, f429_1⟩ := hQ429
    have N429 := Fr.app N420 Nq429
    have K430 : Keep h0 T429.heap [] := K425.trans Kq429 (allS (Or.inr sz_b421) all0)
    have z431 : n0 ≤ T429.heap.size := (Nat.le_trans z426 Kq429.1)
    show own_GoE p e below _ (T429.setTop (mkF m 38 _ [(.ref b421)]))
    have f432 : Exa Z T429.heap b421 "java/lang/String" := (A421.keep Kq429)
    have f433 : Arv Z T429.heap rb_416 kr_416 .byte (Int32.ofNat (own_ds cs ff nn).length) ((own_ds cs ff nn).map fun x => Value.int (own_b x)) (.int (0 : Int32)) := ((v416_0.ext E421).keep Kq429 (ninS ne424 nin0))
    refine own_retA X429 hx hlk hret rfl rfl (hb hby d_jdk_52_method_69_38) ?_ (by decide) (by decide)
    exact ⟨b421, rfl, N429, K430, g_b421, sz_b421, (Or.inl ⟨rb_416, kr_416, f432, f429_1, f429_0, f433, (fun x q => own_r8 (hr x (own_dm q)) (own_fb_all _ c415 x q))⟩)⟩
  · show own_GoE p e below _ (T413.setTop (mkF m 14 _ []))
    refine g_aload_n X413 hx 15 (hb hby d_jdk_52_method_69_14) rfl rfl rfl ?_
    refine g_iload_n X413 hx 16 (hb hby d_jdk_52_method_69_15) rfl rfl ?_
    refine g_iload_n X413 hx 17 (hb hby d_jdk_52_method_69_16) rfl rfl ?_
    refine own_callS X413 hx hZ hown (hw _ (List.mem_of_getElem? (i := 167) rfl)) (hw _ (List.mem_of_getElem? (i := 168) rfl)) (by decide) (rm_d2U l Z a0 hw [] b k ff nn cs fm h0 n0 Z0 V_b S__assertionsDisabled S_HI_BYTE_SHIFT S_LO_BYTE_SHIFT S_SIOOBE_FORMATTER hc hr c415 hfm) (hw _ (List.mem_of_getElem? (i := 169) rfl)) (hw _ (List.mem_of_getElem? (i := 21) rfl)) e413 0 (by decide) (by decide) (by decide) (by decide) [(.ref b), (.int ff), (.int nn)] [] rfl pd_9 rfl 20 rfl (by rw [hml]; rfl) rfl (hb hby d_jdk_52_method_69_17) rfl fun T434 v434 L434 X434 hQ434 => ?_
    obtain ⟨rb_434, kr_434, rfl, Nq434, Kq434, g_rb_434, sz_rb_434, v434_0⟩ := hQ434
    have ne435 : b ≠ rb_434 := Nat.ne_of_lt (Nat.lt_of_lt_of_le V_b.lt sz_rb_434)
    have N434 := Fr.app N0 Nq434
    have sq_rb_434 : h0.size ≤ rb_434 := Nat.le_trans (Keep.refl h0 []).1 sz_rb_434
    have K436 : Keep h0 T434.heap [] := (Keep.refl h0 []).trans Kq434 all0
    have z437 : n0 ≤ T434.heap.size := (Nat.le_trans Z0 Kq434.1)
    show own_GoE p e below _ (T434.setTop (mkF m 20 _ [(.ref rb_434)]))
    refine g_astore_n X434 hx 21 (hb hby d_jdk_52_method_69_20) rfl (l' := #[.val (.ref b), .val (.int ff), .val (.int nn), .val (.ref rb_434), .unset]) rfl rfl ?_
    refine g_aload_n X434 hx 22 (hb hby d_jdk_52_method_69_21) rfl rfl rfl ?_
    refine g_iload_n X434 hx 23 (hb hby d_jdk_52_method_69_22) rfl rfl ?_
    refine own_callS X434 hx hZ hown (hw _ (List.mem_of_getElem? (i := 183) rfl)) (hw _ (List.mem_of_getElem? (i := 28) rfl)) (by decide) (rm_cfa l Z a0 hw [] rb_434 kr_434 nn (own_u (own_ds cs ff nn)) (Int32.ofNat (2 * (own_ds cs ff nn).length)) T434.heap n0 z437 v434_0) (hw _ (List.mem_of_getElem? (i := 29) rfl)) (hw _ (List.mem_of_getElem? (i := 21) rfl)) rfl 0 (by decide) (by decide) (by decide) (by decide) [(.ref rb_434), (.int nn)] [] rfl pd_15 rfl 26 rfl (by rw [hml]; rfl) rfl (hb hby d_jdk_52_method_69_23) rfl fun T438 v438 L438 X438 hQ438 => ?_
    obtain ⟨rfl, Nq438, e438⟩ := hQ438
    have N438 := Fr.app N434 Nq438
    show own_GoE p e below _ (T438.setTop (mkF m 26 _ [(.int (own_cfa nn (Int32.ofNat (2 * (own_ds cs ff nn).length))))]))
    rw [show (own_cfa nn (Int32.ofNat (2 * (own_ds cs ff nn).length))) = (1 : Int32) from by rw [own_dl hc]; exact own_c18 hc]
    refine g_istore X438 hx 28 (hb hby d_jdk_52_method_69_26) (l' := #[.val (.ref b), .val (.int ff), .val (.int nn), .val (.ref rb_434), .val (.int (1 : Int32))]) rfl rfl ?_
    refine own_newO X438 hx hZ hown (hw _ (List.mem_of_getElem? (i := 184) rfl)) (hw _ (List.mem_of_getElem? (i := 6) rfl)) (hw _ (List.mem_of_getElem? (i := 7) rfl)) e438 31 (hb hby d_jdk_52_method_69_28) rfl (by decide) (by decide) fun T439 h439 b439 X439 e439 g439 E439 A439 D439 => ?_
    have f440 : Arv Z T434.heap b k .byte (Int32.ofNat (2 * cs.length)) (own_u cs) (.int (0 : Int32)) := (V_b.keep K436 nin0)
    have ne441 : b ≠ b439 := Nat.ne_of_lt (Nat.lt_of_lt_of_le f440.lt (Nat.le_of_eq g439.symm))
    have ne442 : rb_434 ≠ b439 := Nat.ne_of_lt (Nat.lt_of_lt_of_le v434_0.lt (Nat.le_of_eq g439.symm))
    have g_b439 : n0 ≤ b439 := Nat.le_trans z437 (Nat.le_of_eq g439.symm)
    have sz_b439 : h0.size ≤ b439 := Nat.le_trans K436.1 (Nat.le_of_eq g439.symm)
    have K443 : Keep h0 h439 [] := K436.ext E439
    have z444 : n0 ≤ h439.size := (Nat.le_trans z437 E439.1)
    have f445 : Fld Z h439 b439 "java/lang/String" "coder" "B" (.int (0 : Int32)) := D439 (Or.inr (hw _ (List.mem_of_getElem? (i := 31) rfl))) (ty := .byte) (by decide)
    have f446 : Fld Z h439 b439 "java/lang/String" "value" "[B" .null := D439 (Or.inr (hw _ (List.mem_of_getElem? (i := 33) rfl))) (ty := (.array .byte)) (by decide)
    refine g_dup X439 hx 32 (hb hby d_jdk_52_method_69_31) rfl rfl ?_
    refine g_aload_n X439 hx 33 (hb hby d_jdk_52_method_69_32) rfl rfl rfl ?_
    refine g_iload X439 hx 35 (hb hby d_jdk_52_method_69_33) rfl rfl ?_
    refine own_callI X439 hx hZ hown rfl (hw _ (List.mem_of_getElem? (i := 185) rfl)) (hw _ (List.mem_of_getElem? (i := 120) rfl)) (by decide) (rm_inbU l Z a0 hw [] b439 rb_434 h439 n0 z444 A439 f446 f445 g_b439) (hw _ (List.mem_of_getElem? (i := 121) rfl)) (hw _ (List.mem_of_getElem? (i := 7) rfl)) e439 1 (by decide) (by decide) (by decide) (by decide) b439 [(.ref rb_434), (.int (1 : Int32))] [(.ref b439)] rfl pd_17 rfl 38 rfl (by rw [hml]; rfl) rfl (hb hby d_jdk_52_method_69_35) rfl fun T447 v447 L447 X447 hQ447 => ?_
    obtain ⟨rfl, Nq447, Kq447, f447_0, f447_1⟩ := hQ447
    have N447 := Fr.app N438 Nq447
    have K448 : Keep h0 T447.heap [] := K443.trans Kq447 (allS (Or.inr sz_b439) all0)
    have z449 : n0 ≤ T447.heap.size := (Nat.le_trans z444 Kq447.1)
    show own_GoE p e below _ (T447.setTop (mkF m 38 _ [(.ref b439)]))
    have f450 : Exa Z T447.heap b439 "java/lang/String" := (A439.keep Kq447)
    have f451 : Arv Z T447.heap rb_434 kr_434 .byte (Int32.ofNat (2 * (own_ds cs ff nn).length)) (own_u (own_ds cs ff nn)) (.int (0 : Int32)) := ((v434_0.ext E439).keep Kq447 (ninS ne442 nin0))
    refine own_retA X447 hx hlk hret rfl rfl (hb hby d_jdk_52_method_69_38) ?_ (by decide) (by decide)
    exact ⟨b439, rfl, N447, K448, g_b439, sz_b439, (Or.inr ⟨rb_434, kr_434, f450, f447_1, f447_0, f451, (fun x q => hr x (own_dm q))⟩)⟩
theorem d_jdk_42_method_92_0 : decode jdk_42_method_92_code 0 = .ok (.aload_n 0, 1) := by decide +kernel
theorem d_jdk_42_method_92_1 : decode jdk_42_method_92_code 1 = .ok (.invokevirtual 505, 3) := by decide +kernel
theorem pd_21 : parseMethodDescriptor "()I" = some ⟨[], some .int⟩ := by decide +kernel
theorem d_jdk_42_method_92_4 : decode jdk_42_method_92_code 4 = .ok (.istore_n 3, 1) := by decide +kernel
theorem d_jdk_42_method_92_5 : decode jdk_42_method_92_code 5 = .ok (.iload_n 1, 1) := by decide +kernel
theorem d_jdk_42_method_92_6 : decode jdk_42_method_92_code 6 = .ok (.iload_n 2, 1) := by decide +kernel
theorem d_jdk_42_method_92_7 : decode jdk_42_method_92_code 7 = .ok (.iload_n 3, 1) := by decide +kernel
theorem d_jdk_42_method_92_8 : decode jdk_42_method_92_code 8 = .ok (.invokestatic 521, 3) := by decide +kernel
theorem pd_22 : parseMethodDescriptor "(III)V" = some ⟨[.int, .int, .int], none⟩ := by decide +kernel
theorem d_jdk_42_method_92_11 : decode jdk_42_method_92_code 11 = .ok (.iload_n 1, 1) := by decide +kernel
theorem d_jdk_42_method_92_12 : decode jdk_42_method_92_code 12 = .ok (.ifCond .ne 10, 3) := by decide +kernel
theorem d_jdk_42_method_92_15 : decode jdk_42_method_92_code 15 = .ok (.iload_n 2, 1) := by decide +kernel
theorem d_jdk_42_method_92_16 : decode jdk_42_method_92_code 16 = .ok (.iload_n 3, 1) := by decide +kernel
theorem d_jdk_42_method_92_17 : decode jdk_42_method_92_code 17 = .ok (.if_icmp .ne 5, 3) := by decide +kernel
theorem d_jdk_42_method_92_22 : decode jdk_42_method_92_code 22 = .ok (.iload_n 2, 1) := by decide +kernel
theorem d_jdk_42_method_92_23 : decode jdk_42_method_92_code 23 = .ok (.iload_n 1, 1) := by decide +kernel
theorem d_jdk_42_method_92_24 : decode jdk_42_method_92_code 24 = .ok (.isub, 1) := by decide +kernel
theorem d_jdk_42_method_92_25 : decode jdk_42_method_92_code 25 = .ok (.istore 4, 2) := by decide +kernel
theorem d_jdk_42_method_92_27 : decode jdk_42_method_92_code 27 = .ok (.aload_n 0, 1) := by decide +kernel
theorem d_jdk_42_method_92_28 : decode jdk_42_method_92_code 28 = .ok (.invokevirtual 492, 3) := by decide +kernel
theorem d_jdk_42_method_92_31 : decode jdk_42_method_92_code 31 = .ok (.ifCond .eq 16, 3) := by decide +kernel
theorem d_jdk_42_method_92_34 : decode jdk_42_method_92_code 34 = .ok (.aload_n 0, 1) := by decide +kernel
theorem d_jdk_42_method_92_35 : decode jdk_42_method_92_code 35 = .ok (.getfield 9, 3) := by decide +kernel
theorem d_jdk_42_method_92_38 : decode jdk_42_method_92_code 38 = .ok (.iload_n 1, 1) := by decide +kernel
theorem d_jdk_42_method_92_39 : decode jdk_42_method_92_code 39 = .ok (.iload 4, 2) := by decide +kernel
theorem d_jdk_42_method_92_41 : decode jdk_42_method_92_code 41 = .ok (.invokestatic 685, 3) := by decide +kernel
theorem pd_23 : parseMethodDescriptor "([BII)Ljava/lang/String;" = some ⟨[(.array .byte), .int, .int], some (.object "java/lang/String")⟩ := by decide +kernel
theorem d_jdk_42_method_92_44 : decode jdk_42_method_92_code 44 = .ok (.goto 13, 3) := by decide +kernel
theorem d_jdk_42_method_92_57 : decode jdk_42_method_92_code 57 = .ok (.areturn, 1) := by decide +kernel
def Q_suNL (Z : State) (o : Addr) (b : Addr) (k : ClassId) (ff : Int32) (ee : Int32) (cs : List Int32) (zc : Int32) (fm : Value) (h0 : Heap) (n0 : Nat) (v : Option Value) (h : Heap) (L : List Loc) : Prop := ∃ r : Addr, v = some (.ref r) ∧ Fr n0 L ∧ Keep h0 h [] ∧ n0 ≤ r ∧ h0.size ≤ r ∧ own_Str Z h r (own_ds cs ff (ee - ff))
set_option maxRecDepth 65536 in
set_option maxHeartbeats 40000000 in
theorem rm_suNL (l : Launch) (Z : State) (a0 : Array Value) (hw : ∀ d ∈ tables_1, d.before a0 Z = true) (ws : List Jvm.Cond) (o : Addr) (b : Addr) (k : ClassId) (ff : Int32) (ee : Int32) (cs : List Int32) (zc : Int32) (fm : Value) (h0 : Heap) (n0 : Nat) (Z0 : n0 ≤ h0.size) (E_o : Exa Z h0 o "java/lang/String") (F_o_coder : Fld Z h0 o "java/lang/String" "coder" "B" (.int (0 : Int32))) (F_o_value : Fld Z h0 o "java/lang/String" "value" "[B" (.ref b)) (V_b : Arv Z h0 b k .byte (Int32.ofNat cs.length) (cs.map fun x => Value.int (own_b x)) (.int (0 : Int32))) (S_COMPACT_STRINGS : Sta Z h0 "java/lang/String" "COMPACT_STRINGS" "Z" (.int zc)) (S_SIOOBE_FORMATTER : Sta Z h0 "jdk/internal/util/Preconditions" "SIOOBE_FORMATTER" "Ljava/util/function/BiFunction;" fm) (S__assertionsDisabled : Sta Z h0 "java/lang/StringUTF16" "$assertionsDisabled" "Z" (.int (1 : Int32))) (S_HI_BYTE_SHIFT : Sta Z h0 "java/lang/StringUTF16" "HI_BYTE_SHIFT" "I" (.int (0 : Int32))) (S_LO_BYTE_SHIFT : Sta Z h0 "java/lang/StringUTF16" "LO_BYTE_SHIFT" "I" (.int (8 : Int32))) (hz : ¬ (zc = (0 : Int32))) (hn : cs.length ≤ 5) (hd : own_D ff ee cs.length) (hr : ∀ x ∈ cs, 0 ≤ x.toInt ∧ x.toInt ≤ 255) (hfm : fm.isRef = true) :
    MetFree l (⟨"java/lang/String", "substring", "(II)Ljava/lang/String;"⟩ : MethodName) (head1 (Jvm.Cond.code (⟨"java/lang/String", "substring", "(II)Ljava/lang/String;"⟩ : MethodName) jdk_42_method_92_code 5 (some (.object "java/lang/String")) :: ws) ({ frames := 6, cells := 3, slots := 24, locals := 94 } : Room)) (fun aA U => aA = #[(.ref o), (.int ff), (.int ee)] ∧ Z.Warmed39 U.vm ∧ U.heap = h0) (fun _ _ _ _ _ => True) (fun _ U oO U' => ∃ vV LL, oO = .returned vV ∧ Q_suNL Z o b k ff ee cs zc fm h0 n0 vV U'.heap LL ∧ FrameEnd U oO U' LL ({ frames := 6, cells := 3, slots := 24, locals := 94 } : Room).cells ({ frames := 6, cells := 3, slots := 24, locals := 94 } : Room).slots) := by
  refine MetFree.of_bodySF (plainFor_of_name pn_1) hisR ?_
  intro p e s m args below meth c s₁ Bd hml0 hP hK
  obtain ⟨rfl, hZ, hh⟩ := hP
  have hx := Bd.exec
  have hby := Bd.bytes
  have hml : c.maxLocals = 5 := hml0
  have hown : s.vm.findClass "java/lang/String" = some m.cls := findClass_of_methodNamed Bd.named
  have hnm := (name_of_methodNamed Bd.named Bd.method).1
  have X0 : Stand p l e ({ frames := 6, cells := 3, slots := 24, locals := 94 } : Room) s m #[(.ref o), (.int ff), (.int ee)] below meth c s₁ [] 0 0 := Stand.of_body Bd
  have e0 : s₁.heap = h0 := by rw [← hh, Bd.state]; rfl
  have N0 := Fr.nil n0
  have hret := Bd.returns
  have hlk : meth.locks = false := Bd.notSynchronized
  refine own_start (ef_7 m o ff ee) ?_
  show own_Go p e below s (Q_suNL Z o b k ff ee cs zc fm h0 n0) ({ frames := 6, cells := 3, slots := 24, locals := 94 } : Room).cells ({ frames := 6, cells := 3, slots := 24, locals := 94 } : Room).slots (s₁.setTop (mkF m 0 #[.val (.ref o), .val (.int ff), .val (.int ee), .unset, .unset] []))
  refine g_aload_n X0 hx 1 (hb hby d_jdk_42_method_92_0) rfl rfl rfl ?_
  refine own_callV X0 hx hZ hown (hw _ (List.mem_of_getElem? (i := 44) rfl)) (hw _ (List.mem_of_getElem? (i := 45) rfl)) (own_nf hZ (hw _ (List.mem_of_getElem? (i := 47) rfl))) (hw _ (List.mem_of_getElem? (i := 47) rfl)) (hw _ (List.mem_of_getElem? (i := 46) rfl)) (by decide) (rm_lnL l Z a0 hw [] o b k cs zc h0 n0 Z0 E_o F_o_coder F_o_value V_b S_COMPACT_STRINGS hz hn) (hw _ (List.mem_of_getElem? (i := 48) rfl)) (hw _ (List.mem_of_getElem? (i := 7) rfl)) e0 0 (by decide) (by decide) (by decide) (by decide) E_o [] [] rfl pd_21 rfl 4 rfl (by rw [hml]; rfl) rfl (hb hby d_jdk_42_method_92_1) rfl fun T452 v452 L452 X452 hQ452 => ?_
  obtain ⟨rfl, Nq452, e452⟩ := hQ452
  have N452 := Fr.app N0 Nq452
  show own_GoE p e below _ (T452.setTop (mkF m 4 _ [(.int (Int32.ofNat cs.length))]))
  refine g_istore_n X452 hx 5 (hb hby d_jdk_42_method_92_4) (l' := #[.val (.ref o), .val (.int ff), .val (.int ee), .val (.int (Int32.ofNat cs.length)), .unset]) rfl rfl ?_
  refine g_iload_n X452 hx 6 (hb hby d_jdk_42_method_92_5) rfl rfl ?_
  refine g_iload_n X452 hx 7 (hb hby d_jdk_42_method_92_6) rfl rfl ?_
  refine g_iload_n X452 hx 8 (hb hby d_jdk_42_method_92_7) rfl rfl ?_
  refine own_callS X452 hx hZ hown (hw _ (List.mem_of_getElem? (i := 54) rfl)) (hw _ (List.mem_of_getElem? (i := 55) rfl)) (by decide) (rm_cbe l Z a0 hw [] ff ee (Int32.ofNat cs.length) fm h0 n0 Z0 S_SIOOBE_FORMATTER (own_e1 hd) (own_e2 hd) (own_e3 hd) hfm) (hw _ (List.mem_of_getElem? (i := 56) rfl)) (hw _ (List.mem_of_getElem? (i := 7) rfl)) e452 0 (by decide) (by decide) (by decide) (by decide) [(.int ff), (.int ee), (.int (Int32.ofNat cs.length))] [] rfl pd_22 rfl 11 rfl (by rw [hml]; rfl) rfl (hb hby d_jdk_42_method_92_8) rfl fun T453 v453 L453 X453 hQ453 => ?_
  obtain ⟨rfl, Nq453, e453⟩ := hQ453
  have N453 := Fr.app N452 Nq453
  show own_GoE p e below _ (T453.setTop (mkF m 11 _ []))
  refine g_iload_n X453 hx 12 (hb hby d_jdk_42_method_92_11) rfl rfl ?_
  by_cases c454 : ff = (0 : Int32)
  · refine g_ifNo X453 hx 15 (hb hby d_jdk_42_method_92_12) (own_i0_ne_f c454) rfl ?_
    refine g_iload_n X453 hx 16 (hb hby d_jdk_42_method_92_15) rfl rfl ?_
    refine g_iload_n X453 hx 17 (hb hby d_jdk_42_method_92_16) rfl rfl ?_
    have c455 : ¬ (ee = (Int32.ofNat cs.length)) := fun q => own_e4 hd ⟨c454, q⟩
    refine g_icmpYes X453 hx 22 (hb hby d_jdk_42_method_92_17) (own_ii_ne_t c455) (by decide) (by decide) ?_
    refine g_iload_n X453 hx 23 (hb hby d_jdk_42_method_92_22) rfl rfl ?_
    refine g_iload_n X453 hx 24 (hb hby d_jdk_42_method_92_23) rfl rfl ?_
    refine g_isub X453 hx 25 (hb hby d_jdk_42_method_92_24) rfl ?_
    refine g_istore X453 hx 27 (hb hby d_jdk_42_method_92_25) (l' := #[.val (.ref o), .val (.int ff), .val (.int ee), .val (.int (Int32.ofNat cs.length)), .val (.int (ee - ff))]) rfl rfl ?_
    refine g_aload_n X453 hx 28 (hb hby d_jdk_42_method_92_27) rfl rfl rfl ?_
    refine own_callV X453 hx hZ hown (hw _ (List.mem_of_getElem? (i := 62) rfl)) (hw _ (List.mem_of_getElem? (i := 63) rfl)) (own_nf hZ (hw _ (List.mem_of_getElem? (i := 65) rfl))) (hw _ (List.mem_of_getElem? (i := 65) rfl)) (hw _ (List.mem_of_getElem? (i := 64) rfl)) (by decide) (rm_islL l Z a0 hw [] o zc h0 n0 Z0 F_o_coder S_COMPACT_STRINGS hz) (hw _ (List.mem_of_getElem? (i := 66) rfl)) (hw _ (List.mem_of_getElem? (i := 7) rfl)) e453 0 (by decide) (by decide) (by decide) (by decide) E_o [] [] rfl pd_7 rfl 31 rfl (by rw [hml]; rfl) rfl (hb hby d_jdk_42_method_92_28) rfl fun T456 v456 L456 X456 hQ456 => ?_
    obtain ⟨rfl, Nq456, e456⟩ := hQ456
    have N456 := Fr.app N453 Nq456
    show own_GoE p e below _ (T456.setTop (mkF m 31 _ [(.int (1 : Int32))]))
    refine g_ifNo X456 hx 34 (hb hby d_jdk_42_method_92_31) (own_i0_eq_f (by decide)) rfl ?_
    refine g_aload_n X456 hx 35 (hb hby d_jdk_42_method_92_34) rfl rfl rfl ?_
    refine own_getF X456 hx hZ hown (host := "") (Or.inl (hw _ (List.mem_of_getElem? (i := 32) rfl))) Via.refl e456 F_o_value 38 (hb hby d_jdk_42_method_92_35) rfl fun T457 X457 e457 => ?_
    refine g_iload_n X457 hx 39 (hb hby d_jdk_42_method_92_38) rfl rfl ?_
    refine g_iload X457 hx 41 (hb hby d_jdk_42_method_92_39) rfl rfl ?_
    refine own_callS X457 hx hZ hown (hw _ (List.mem_of_getElem? (i := 67) rfl)) (hw _ (List.mem_of_getElem? (i := 68) rfl)) (by decide) (rm_nsl l Z a0 hw [] b k ff (ee - ff) cs h0 n0 Z0 V_b (own_e0 hd) hr) (hw _ (List.mem_of_getElem? (i := 70) rfl)) (hw _ (List.mem_of_getElem? (i := 69) rfl)) e457 0 (by decide) (by decide) (by decide) (by decide) [(.ref b), (.int ff), (.int (ee - ff))] [] rfl pd_23 rfl 44 rfl (by rw [hml]; rfl) rfl (hb hby d_jdk_42_method_92_41) rfl fun T458 v458 L458 X458 hQ458 => ?_
    obtain ⟨r_458, rfl, Nq458, Kq458, g_r_458, sz_r_458, st458_0⟩ := hQ458
    have ne459 : o ≠ r_458 := Nat.ne_of_lt (Nat.lt_of_lt_of_le E_o.lt sz_r_458)
    have ne460 : b ≠ r_458 := Nat.ne_of_lt (Nat.lt_of_lt_of_le V_b.lt sz_r_458)
    have N458 := Fr.app N456 Nq458
    have sq_r_458 : h0.size ≤ r_458 := Nat.le_trans (Keep.refl h0 []).1 sz_r_458
    have K461 : Keep h0 T458.heap [] := (Keep.refl h0 []).trans Kq458 all0
    have z462 : n0 ≤ T458.heap.size := (Nat.le_trans Z0 Kq458.1)
    show own_GoE p e below _ (T458.setTop (mkF m 44 _ [(.ref r_458)]))
    refine g_goto X458 hx 57 (hb hby d_jdk_42_method_92_44) (by decide) (by decide) ?_
    refine own_retA X458 hx hlk hret rfl rfl (hb hby d_jdk_42_method_92_57) ?_ (by decide) (by decide)
    exact ⟨r_458, rfl, N458, K461, g_r_458, sq_r_458, st458_0⟩
  · refine g_ifYes X453 hx 22 (hb hby d_jdk_42_method_92_12) (own_i0_ne_t c454) (by decide) (by decide) ?_
    refine g_iload_n X453 hx 23 (hb hby d_jdk_42_method_92_22) rfl rfl ?_
    refine g_iload_n X453 hx 24 (hb hby d_jdk_42_method_92_23) rfl rfl ?_
    refine g_isub X453 hx 25 (hb hby d_jdk_42_method_92_24) rfl ?_
    refine g_istore X453 hx 27 (hb hby d_jdk_42_method_92_25) (l' := #[.val (.ref o), .val (.int ff), .val (.int ee), .val (.int (Int32.ofNat cs.length)), .val (.int (ee - ff))]) rfl rfl ?_
    refine g_aload_n X453 hx 28 (hb hby d_jdk_42_method_92_27) rfl rfl rfl ?_
    refine own_callV X453 hx hZ hown (hw _ (List.mem_of_getElem? (i := 62) rfl)) (hw _ (List.mem_of_getElem? (i := 63) rfl)) (own_nf hZ (hw _ (List.mem_of_getElem? (i := 65) rfl))) (hw _ (List.mem_of_getElem? (i := 65) rfl)) (hw _ (List.mem_of_getElem? (i := 64) rfl)) (by decide) (rm_islL l Z a0 hw [] o zc h0 n0 Z0 F_o_coder S_COMPACT_STRINGS hz) (hw _ (List.mem_of_getElem? (i := 66) rfl)) (hw _ (List.mem_of_getElem? (i := 7) rfl)) e453 0 (by decide) (by decide) (by decide) (by decide) E_o [] [] rfl pd_7 rfl 31 rfl (by rw [hml]; rfl) rfl (hb hby d_jdk_42_method_92_28) rfl fun T463 v463 L463 X463 hQ463 => ?_
    obtain ⟨rfl, Nq463, e463⟩ := hQ463
    have N463 := Fr.app N453 Nq463
    show own_GoE p e below _ (T463.setTop (mkF m 31 _ [(.int (1 : Int32))]))
    refine g_ifNo X463 hx 34 (hb hby d_jdk_42_method_92_31) (own_i0_eq_f (by decide)) rfl ?_
    refine g_aload_n X463 hx 35 (hb hby d_jdk_42_method_92_34) rfl rfl rfl ?_
    refine own_getF X463 hx hZ hown (host := "") (Or.inl (hw _ (List.mem_of_getElem? (i := 32) rfl))) Via.refl e463 F_o_value 38 (hb hby d_jdk_42_method_92_35) rfl fun T464 X464 e464 => ?_
    refine g_iload_n X464 hx 39 (hb hby d_jdk_42_method_92_38) rfl rfl ?_
    refine g_iload X464 hx 41 (hb hby d_jdk_42_method_92_39) rfl rfl ?_
    refine own_callS X464 hx hZ hown (hw _ (List.mem_of_getElem? (i := 67) rfl)) (hw _ (List.mem_of_getElem? (i := 68) rfl)) (by decide) (rm_nsl l Z a0 hw [] b k ff (ee - ff) cs h0 n0 Z0 V_b (own_e0 hd) hr) (hw _ (List.mem_of_getElem? (i := 70) rfl)) (hw _ (List.mem_of_getElem? (i := 69) rfl)) e464 0 (by decide) (by decide) (by decide) (by decide) [(.ref b), (.int ff), (.int (ee - ff))] [] rfl pd_23 rfl 44 rfl (by rw [hml]; rfl) rfl (hb hby d_jdk_42_method_92_41) rfl fun T465 v465 L465 X465 hQ465 => ?_
    obtain ⟨r_465, rfl, Nq465, Kq465, g_r_465, sz_r_465, st465_0⟩ := hQ465
    have ne466 : o ≠ r_465 := Nat.ne_of_lt (Nat.lt_of_lt_of_le E_o.lt sz_r_465)
    have ne467 : b ≠ r_465 := Nat.ne_of_lt (Nat.lt_of_lt_of_le V_b.lt sz_r_465)
    have N465 := Fr.app N463 Nq465
    have sq_r_465 : h0.size ≤ r_465 := Nat.le_trans (Keep.refl h0 []).1 sz_r_465
    have K468 : Keep h0 T465.heap [] := (Keep.refl h0 []).trans Kq465 all0
    have z469 : n0 ≤ T465.heap.size := (Nat.le_trans Z0 Kq465.1)
    show own_GoE p e below _ (T465.setTop (mkF m 44 _ [(.ref r_465)]))
    refine g_goto X465 hx 57 (hb hby d_jdk_42_method_92_44) (by decide) (by decide) ?_
    refine own_retA X465 hx hlk hret rfl rfl (hb hby d_jdk_42_method_92_57) ?_ (by decide) (by decide)
    exact ⟨r_465, rfl, N465, K468, g_r_465, sq_r_465, st465_0⟩
theorem d_jdk_42_method_92_47 : decode jdk_42_method_92_code 47 = .ok (.aload_n 0, 1) := by decide +kernel
theorem d_jdk_42_method_92_48 : decode jdk_42_method_92_code 48 = .ok (.getfield 9, 3) := by decide +kernel
theorem d_jdk_42_method_92_51 : decode jdk_42_method_92_code 51 = .ok (.iload_n 1, 1) := by decide +kernel
theorem d_jdk_42_method_92_52 : decode jdk_42_method_92_code 52 = .ok (.iload 4, 2) := by decide +kernel
theorem d_jdk_42_method_92_54 : decode jdk_42_method_92_code 54 = .ok (.invokestatic 689, 3) := by decide +kernel
def Q_suNU (Z : State) (o : Addr) (b : Addr) (k : ClassId) (ff : Int32) (ee : Int32) (cs : List Int32) (zc : Int32) (fm : Value) (h0 : Heap) (n0 : Nat) (v : Option Value) (h : Heap) (L : List Loc) : Prop := ∃ r : Addr, v = some (.ref r) ∧ Fr n0 L ∧ Keep h0 h [] ∧ n0 ≤ r ∧ h0.size ≤ r ∧ own_Str Z h r (own_ds cs ff (ee - ff))
set_option maxRecDepth 65536 in
set_option maxHeartbeats 40000000 in
theorem rm_suNU (l : Launch) (Z : State) (a0 : Array Value) (hw : ∀ d ∈ tables_1, d.before a0 Z = true) (ws : List Jvm.Cond) (o : Addr) (b : Addr) (k : ClassId) (ff : Int32) (ee : Int32) (cs : List Int32) (zc : Int32) (fm : Value) (h0 : Heap) (n0 : Nat) (Z0 : n0 ≤ h0.size) (E_o : Exa Z h0 o "java/lang/String") (F_o_coder : Fld Z h0 o "java/lang/String" "coder" "B" (.int (1 : Int32))) (F_o_value : Fld Z h0 o "java/lang/String" "value" "[B" (.ref b)) (V_b : Arv Z h0 b k .byte (Int32.ofNat (2 * cs.length)) (own_u cs) (.int (0 : Int32))) (S_COMPACT_STRINGS : Sta Z h0 "java/lang/String" "COMPACT_STRINGS" "Z" (.int zc)) (S_SIOOBE_FORMATTER : Sta Z h0 "jdk/internal/util/Preconditions" "SIOOBE_FORMATTER" "Ljava/util/function/BiFunction;" fm) (S__assertionsDisabled : Sta Z h0 "java/lang/StringUTF16" "$assertionsDisabled" "Z" (.int (1 : Int32))) (S_HI_BYTE_SHIFT : Sta Z h0 "java/lang/StringUTF16" "HI_BYTE_SHIFT" "I" (.int (0 : Int32))) (S_LO_BYTE_SHIFT : Sta Z h0 "java/lang/StringUTF16" "LO_BYTE_SHIFT" "I" (.int (8 : Int32))) (hz : ¬ (zc = (0 : Int32))) (hn : cs.length ≤ 5) (hd : own_D ff ee cs.length) (hr : ∀ x ∈ cs, 0 ≤ x.toInt ∧ x.toInt ≤ 65535) (hfm : fm.isRef = true) :
    MetFree l (⟨"java/lang/String", "substring", "(II)Ljava/lang/String;"⟩ : MethodName) (head1 (Jvm.Cond.code (⟨"java/lang/String", "substring", "(II)Ljava/lang/String;"⟩ : MethodName) jdk_42_method_92_code 5 (some (.object "java/lang/String")) :: ws) ({ frames := 6, cells := 3, slots := 24, locals := 94 } : Room)) (fun aA U => aA = #[(.ref o), (.int ff), (.int ee)] ∧ Z.Warmed39 U.vm ∧ U.heap = h0) (fun _ _ _ _ _ => True) (fun _ U oO U' => ∃ vV LL, oO = .returned vV ∧ Q_suNU Z o b k ff ee cs zc fm h0 n0 vV U'.heap LL ∧ FrameEnd U oO U' LL ({ frames := 6, cells := 3, slots := 24, locals := 94 } : Room).cells ({ frames := 6, cells := 3, slots := 24, locals := 94 } : Room).slots) := by
  refine MetFree.of_bodySF (plainFor_of_name pn_1) hisR ?_
  intro p e s m args below meth c s₁ Bd hml0 hP hK
  obtain ⟨rfl, hZ, hh⟩ := hP
  have hx := Bd.exec
  have hby := Bd.bytes
  have hml : c.maxLocals = 5 := hml0
  have hown : s.vm.findClass "java/lang/String" = some m.cls := findClass_of_methodNamed Bd.named
  have hnm := (name_of_methodNamed Bd.named Bd.method).1
  have X0 : Stand p l e ({ frames := 6, cells := 3, slots := 24, locals := 94 } : Room) s m #[(.ref o), (.int ff), (.int ee)] below meth c s₁ [] 0 0 := Stand.of_body Bd
  have e0 : s₁.heap = h0 := by rw [← hh, Bd.state]; rfl
  have N0 := Fr.nil n0
  have hret := Bd.returns
  have hlk : meth.locks = false := Bd.notSynchronized
  refine own_start (ef_7 m o ff ee) ?_
  show own_Go p e below s (Q_suNU Z o b k ff ee cs zc fm h0 n0) ({ frames := 6, cells := 3, slots := 24, locals := 94 } : Room).cells ({ frames := 6, cells := 3, slots := 24, locals := 94 } : Room).slots (s₁.setTop (mkF m 0 #[.val (.ref o), .val (.int ff), .val (.int ee), .unset, .unset] []))
  refine g_aload_n X0 hx 1 (hb hby d_jdk_42_method_92_0) rfl rfl rfl ?_
  refine own_callV X0 hx hZ hown (hw _ (List.mem_of_getElem? (i := 44) rfl)) (hw _ (List.mem_of_getElem? (i := 45) rfl)) (own_nf hZ (hw _ (List.mem_of_getElem? (i := 47) rfl))) (hw _ (List.mem_of_getElem? (i := 47) rfl)) (hw _ (List.mem_of_getElem? (i := 46) rfl)) (by decide) (rm_lnU l Z a0 hw [] o b k cs zc h0 n0 Z0 E_o F_o_coder F_o_value V_b S_COMPACT_STRINGS hz hn) (hw _ (List.mem_of_getElem? (i := 48) rfl)) (hw _ (List.mem_of_getElem? (i := 7) rfl)) e0 0 (by decide) (by decide) (by decide) (by decide) E_o [] [] rfl pd_21 rfl 4 rfl (by rw [hml]; rfl) rfl (hb hby d_jdk_42_method_92_1) rfl fun T470 v470 L470 X470 hQ470 => ?_
  obtain ⟨rfl, Nq470, e470⟩ := hQ470
  have N470 := Fr.app N0 Nq470
  show own_GoE p e below _ (T470.setTop (mkF m 4 _ [(.int (Int32.ofNat cs.length))]))
  refine g_istore_n X470 hx 5 (hb hby d_jdk_42_method_92_4) (l' := #[.val (.ref o), .val (.int ff), .val (.int ee), .val (.int (Int32.ofNat cs.length)), .unset]) rfl rfl ?_
  refine g_iload_n X470 hx 6 (hb hby d_jdk_42_method_92_5) rfl rfl ?_
  refine g_iload_n X470 hx 7 (hb hby d_jdk_42_method_92_6) rfl rfl ?_
  refine g_iload_n X470 hx 8 (hb hby d_jdk_42_method_92_7) rfl rfl ?_
  refine own_callS X470 hx hZ hown (hw _ (List.mem_of_getElem? (i := 54) rfl)) (hw _ (List.mem_of_getElem? (i := 55) rfl)) (by decide) (rm_cbe l Z a0 hw [] ff ee (Int32.ofNat cs.length) fm h0 n0 Z0 S_SIOOBE_FORMATTER (own_e1 hd) (own_e2 hd) (own_e3 hd) hfm) (hw _ (List.mem_of_getElem? (i := 56) rfl)) (hw _ (List.mem_of_getElem? (i := 7) rfl)) e470 0 (by decide) (by decide) (by decide) (by decide) [(.int ff), (.int ee), (.int (Int32.ofNat cs.length))] [] rfl pd_22 rfl 11 rfl (by rw [hml]; rfl) rfl (hb hby d_jdk_42_method_92_8) rfl fun T471 v471 L471 X471 hQ471 => ?_
  obtain ⟨rfl, Nq471, e471⟩ := hQ471
  have N471 := Fr.app N470 Nq471
  show own_GoE p e below _ (T471.setTop (mkF m 11 _ []))
  refine g_iload_n X471 hx 12 (hb hby d_jdk_42_method_92_11) rfl rfl ?_
  by_cases c472 : ff = (0 : Int32)
  · refine g_ifNo X471 hx 15 (hb hby d_jdk_42_method_92_12) (own_i0_ne_f c472) rfl ?_
    refine g_iload_n X471 hx 16 (hb hby d_jdk_42_method_92_15) rfl rfl ?_
    refine g_iload_n X471 hx 17 (hb hby d_jdk_42_method_92_16) rfl rfl ?_
    have c473 : ¬ (ee = (Int32.ofNat cs.length)) := fun q => own_e4 hd ⟨c472, q⟩
    refine g_icmpYes X471 hx 22 (hb hby d_jdk_42_method_92_17) (own_ii_ne_t c473) (by decide) (by decide) ?_
    refine g_iload_n X471 hx 23 (hb hby d_jdk_42_method_92_22) rfl rfl ?_
    refine g_iload_n X471 hx 24 (hb hby d_jdk_42_method_92_23) rfl rfl ?_
    refine g_isub X471 hx 25 (hb hby d_jdk_42_method_92_24) rfl ?_
    refine g_istore X471 hx 27 (hb hby d_jdk_42_method_92_25) (l' := #[.val (.ref o), .val (.int ff), .val (.int ee), .val (.int (Int32.ofNat cs.length)), .val (.int (ee - ff))]) rfl rfl ?_
    refine g_aload_n X471 hx 28 (hb hby d_jdk_42_method_92_27) rfl rfl rfl ?_
    refine own_callV X471 hx hZ hown (hw _ (List.mem_of_getElem? (i := 62) rfl)) (hw _ (List.mem_of_getElem? (i := 63) rfl)) (own_nf hZ (hw _ (List.mem_of_getElem? (i := 65) rfl))) (hw _ (List.mem_of_getElem? (i := 65) rfl)) (hw _ (List.mem_of_getElem? (i := 64) rfl)) (by decide) (rm_islU l Z a0 hw [] o zc h0 n0 Z0 F_o_coder S_COMPACT_STRINGS hz) (hw _ (List.mem_of_getElem? (i := 66) rfl)) (hw _ (List.mem_of_getElem? (i := 7) rfl)) e471 0 (by decide) (by decide) (by decide) (by decide) E_o [] [] rfl pd_7 rfl 31 rfl (by rw [hml]; rfl) rfl (hb hby d_jdk_42_method_92_28) rfl fun T474 v474 L474 X474 hQ474 => ?_
    obtain ⟨rfl, Nq474, e474⟩ := hQ474
    have N474 := Fr.app N471 Nq474
    show own_GoE p e below _ (T474.setTop (mkF m 31 _ [(.int (0 : Int32))]))
    refine g_ifYes X474 hx 47 (hb hby d_jdk_42_method_92_31) (own_i0_eq_t (by decide)) (by decide) (by decide) ?_
    refine g_aload_n X474 hx 48 (hb hby d_jdk_42_method_92_47) rfl rfl rfl ?_
    refine own_getF X474 hx hZ hown (host := "") (Or.inl (hw _ (List.mem_of_getElem? (i := 32) rfl))) Via.refl e474 F_o_value 51 (hb hby d_jdk_42_method_92_48) rfl fun T475 X475 e475 => ?_
    refine g_iload_n X475 hx 52 (hb hby d_jdk_42_method_92_51) rfl rfl ?_
    refine g_iload X475 hx 54 (hb hby d_jdk_42_method_92_52) rfl rfl ?_
    refine own_callS X475 hx hZ hown (hw _ (List.mem_of_getElem? (i := 162) rfl)) (hw _ (List.mem_of_getElem? (i := 163) rfl)) (by decide) (rm_nsu l Z a0 hw [] b k ff (ee - ff) cs zc fm h0 n0 Z0 V_b S_COMPACT_STRINGS S_SIOOBE_FORMATTER S__assertionsDisabled S_HI_BYTE_SHIFT S_LO_BYTE_SHIFT hz (own_e0 hd) hr hfm) (hw _ (List.mem_of_getElem? (i := 164) rfl)) (hw _ (List.mem_of_getElem? (i := 21) rfl)) e475 0 (by decide) (by decide) (by decide) (by decide) [(.ref b), (.int ff), (.int (ee - ff))] [] rfl pd_23 rfl 57 rfl (by rw [hml]; rfl) rfl (hb hby d_jdk_42_method_92_54) rfl fun T476 v476 L476 X476 hQ476 => ?_
    obtain ⟨r_476, rfl, Nq476, Kq476, g_r_476, sz_r_476, st476_0⟩ := hQ476
    have ne477 : o ≠ r_476 := Nat.ne_of_lt (Nat.lt_of_lt_of_le E_o.lt sz_r_476)
    have ne478 : b ≠ r_476 := Nat.ne_of_lt (Nat.lt_of_lt_of_le V_b.lt sz_r_476)
    have N476 := Fr.app N474 Nq476
    have sq_r_476 : h0.size ≤ r_476 := Nat.le_trans (Keep.refl h0 []).1 sz_r_476
    have K479 : Keep h0 T476.heap [] := (Keep.refl h0 []).trans Kq476 all0
    have z480 : n0 ≤ T476.heap.size := (Nat.le_trans Z0 Kq476.1)
    show own_GoE p e below _ (T476.setTop (mkF m 57 _ [(.ref r_476)]))
    refine own_retA X476 hx hlk hret rfl rfl (hb hby d_jdk_42_method_92_57) ?_ (by decide) (by decide)
    exact ⟨r_476, rfl, N476, K479, g_r_476, sq_r_476, st476_0⟩
  · refine g_ifYes X471 hx 22 (hb hby d_jdk_42_method_92_12) (own_i0_ne_t c472) (by decide) (by decide) ?_
    refine g_iload_n X471 hx 23 (hb hby d_jdk_42_method_92_22) rfl rfl ?_
    refine g_iload_n X471 hx 24 (hb hby d_jdk_42_method_92_23) rfl rfl ?_
    refine g_isub X471 hx 25 (hb hby d_jdk_42_method_92_24) rfl ?_
    refine g_istore X471 hx 27 (hb hby d_jdk_42_method_92_25) (l' := #[.val (.ref o), .val (.int ff), .val (.int ee), .val (.int (Int32.ofNat cs.length)), .val (.int (ee - ff))]) rfl rfl ?_
    refine g_aload_n X471 hx 28 (hb hby d_jdk_42_method_92_27) rfl rfl rfl ?_
    refine own_callV X471 hx hZ hown (hw _ (List.mem_of_getElem? (i := 62) rfl)) (hw _ (List.mem_of_getElem? (i := 63) rfl)) (own_nf hZ (hw _ (List.mem_of_getElem? (i := 65) rfl))) (hw _ (List.mem_of_getElem? (i := 65) rfl)) (hw _ (List.mem_of_getElem? (i := 64) rfl)) (by decide) (rm_islU l Z a0 hw [] o zc h0 n0 Z0 F_o_coder S_COMPACT_STRINGS hz) (hw _ (List.mem_of_getElem? (i := 66) rfl)) (hw _ (List.mem_of_getElem? (i := 7) rfl)) e471 0 (by decide) (by decide) (by decide) (by decide) E_o [] [] rfl pd_7 rfl 31 rfl (by rw [hml]; rfl) rfl (hb hby d_jdk_42_method_92_28) rfl fun T481 v481 L481 X481 hQ481 => ?_
    obtain ⟨rfl, Nq481, e481⟩ := hQ481
    have N481 := Fr.app N471 Nq481
    show own_GoE p e below _ (T481.setTop (mkF m 31 _ [(.int (0 : Int32))]))
    refine g_ifYes X481 hx 47 (hb hby d_jdk_42_method_92_31) (own_i0_eq_t (by decide)) (by decide) (by decide) ?_
    refine g_aload_n X481 hx 48 (hb hby d_jdk_42_method_92_47) rfl rfl rfl ?_
    refine own_getF X481 hx hZ hown (host := "") (Or.inl (hw _ (List.mem_of_getElem? (i := 32) rfl))) Via.refl e481 F_o_value 51 (hb hby d_jdk_42_method_92_48) rfl fun T482 X482 e482 => ?_
    refine g_iload_n X482 hx 52 (hb hby d_jdk_42_method_92_51) rfl rfl ?_
    refine g_iload X482 hx 54 (hb hby d_jdk_42_method_92_52) rfl rfl ?_
    refine own_callS X482 hx hZ hown (hw _ (List.mem_of_getElem? (i := 162) rfl)) (hw _ (List.mem_of_getElem? (i := 163) rfl)) (by decide) (rm_nsu l Z a0 hw [] b k ff (ee - ff) cs zc fm h0 n0 Z0 V_b S_COMPACT_STRINGS S_SIOOBE_FORMATTER S__assertionsDisabled S_HI_BYTE_SHIFT S_LO_BYTE_SHIFT hz (own_e0 hd) hr hfm) (hw _ (List.mem_of_getElem? (i := 164) rfl)) (hw _ (List.mem_of_getElem? (i := 21) rfl)) e482 0 (by decide) (by decide) (by decide) (by decide) [(.ref b), (.int ff), (.int (ee - ff))] [] rfl pd_23 rfl 57 rfl (by rw [hml]; rfl) rfl (hb hby d_jdk_42_method_92_54) rfl fun T483 v483 L483 X483 hQ483 => ?_
    obtain ⟨r_483, rfl, Nq483, Kq483, g_r_483, sz_r_483, st483_0⟩ := hQ483
    have ne484 : o ≠ r_483 := Nat.ne_of_lt (Nat.lt_of_lt_of_le E_o.lt sz_r_483)
    have ne485 : b ≠ r_483 := Nat.ne_of_lt (Nat.lt_of_lt_of_le V_b.lt sz_r_483)
    have N483 := Fr.app N481 Nq483
    have sq_r_483 : h0.size ≤ r_483 := Nat.le_trans (Keep.refl h0 []).1 sz_r_483
    have K486 : Keep h0 T483.heap [] := (Keep.refl h0 []).trans Kq483 all0
    have z487 : n0 ≤ T483.heap.size := (Nat.le_trans Z0 Kq483.1)
    show own_GoE p e below _ (T483.setTop (mkF m 57 _ [(.ref r_483)]))
    refine own_retA X483 hx hlk hret rfl rfl (hb hby d_jdk_42_method_92_57) ?_ (by decide) (by decide)
    exact ⟨r_483, rfl, N483, K486, g_r_483, sq_r_483, st483_0⟩
def Q_suN (Z : State) (o : Addr) (ff : Int32) (ee : Int32) (cs : List Int32) (zc : Int32) (fm : Value) (h0 : Heap) (n0 : Nat) (v : Option Value) (h : Heap) (L : List Loc) : Prop := ∃ r : Addr, v = some (.ref r) ∧ Fr n0 L ∧ Keep h0 h [] ∧ n0 ≤ r ∧ h0.size ≤ r ∧ own_Str Z h r (own_ds cs ff (ee - ff))
theorem rm_suN (l : Launch) (Z : State) (a0 : Array Value) (hw : ∀ d ∈ tables_1, d.before a0 Z = true) (ws : List Jvm.Cond) (o : Addr) (ff : Int32) (ee : Int32) (cs : List Int32) (zc : Int32) (fm : Value) (h0 : Heap) (n0 : Nat) (Z0 : n0 ≤ h0.size) (S_COMPACT_STRINGS : Sta Z h0 "java/lang/String" "COMPACT_STRINGS" "Z" (.int zc)) (S_SIOOBE_FORMATTER : Sta Z h0 "jdk/internal/util/Preconditions" "SIOOBE_FORMATTER" "Ljava/util/function/BiFunction;" fm) (S__assertionsDisabled : Sta Z h0 "java/lang/StringUTF16" "$assertionsDisabled" "Z" (.int (1 : Int32))) (S_HI_BYTE_SHIFT : Sta Z h0 "java/lang/StringUTF16" "HI_BYTE_SHIFT" "I" (.int (0 : Int32))) (S_LO_BYTE_SHIFT : Sta Z h0 "java/lang/StringUTF16" "LO_BYTE_SHIFT" "I" (.int (8 : Int32))) (STR : own_Str Z h0 o cs) (hz : ¬ (zc = (0 : Int32))) (hn : cs.length ≤ 5) (hd : own_D ff ee cs.length) (hfm : fm.isRef = true) :
    MetFree l (⟨"java/lang/String", "substring", "(II)Ljava/lang/String;"⟩ : MethodName) (head1 (Jvm.Cond.code (⟨"java/lang/String", "substring", "(II)Ljava/lang/String;"⟩ : MethodName) jdk_42_method_92_code 5 (some (.object "java/lang/String")) :: ws) ({ frames := 6, cells := 3, slots := 24, locals := 94 } : Room)) (fun aA U => aA = #[(.ref o), (.int ff), (.int ee)] ∧ Z.Warmed39 U.vm ∧ U.heap = h0) (fun _ _ _ _ _ => True) (fun _ U oO U' => ∃ vV LL, oO = .returned vV ∧ Q_suN Z o ff ee cs zc fm h0 n0 vV U'.heap LL ∧ FrameEnd U oO U' LL ({ frames := 6, cells := 3, slots := 24, locals := 94 } : Room).cells ({ frames := 6, cells := 3, slots := 24, locals := 94 } : Room).slots) := by
  rcases STR with ⟨b, k, E1, C1, V1, A1, R1⟩ | ⟨b, k, E1, C1, V1, A1, R1⟩
  · exact rm_suNL l Z a0 hw ws o b k ff ee cs zc fm h0 n0 Z0 E1 C1 V1 A1 S_COMPACT_STRINGS S_SIOOBE_FORMATTER S__assertionsDisabled S_HI_BYTE_SHIFT S_LO_BYTE_SHIFT hz hn hd R1 hfm
  · exact rm_suNU l Z a0 hw ws o b k ff ee cs zc fm h0 n0 Z0 E1 C1 V1 A1 S_COMPACT_STRINGS S_SIOOBE_FORMATTER S__assertionsDisabled S_HI_BYTE_SHIFT S_LO_BYTE_SHIFT hz hn hd R1 hfm
theorem d_jdk_42_method_92_20 : decode jdk_42_method_92_code 20 = .ok (.aload_n 0, 1) := by decide +kernel
theorem d_jdk_42_method_92_21 : decode jdk_42_method_92_code 21 = .ok (.areturn, 1) := by decide +kernel
def Q_suWL (Z : State) (o : Addr) (b : Addr) (k : ClassId) (ff : Int32) (ee : Int32) (cs : List Int32) (zc : Int32) (fm : Value) (h0 : Heap) (n0 : Nat) (v : Option Value) (h : Heap) (L : List Loc) : Prop := v = some (.ref o) ∧ Fr n0 L ∧ h = h0
set_option maxRecDepth 65536 in
set_option maxHeartbeats 40000000 in
theorem rm_suWL (l : Launch) (Z : State) (a0 : Array Value) (hw : ∀ d ∈ tables_1, d.before a0 Z = true) (ws : List Jvm.Cond) (o : Addr) (b : Addr) (k : ClassId) (ff : Int32) (ee : Int32) (cs : List Int32) (zc : Int32) (fm : Value) (h0 : Heap) (n0 : Nat) (Z0 : n0 ≤ h0.size) (E_o : Exa Z h0 o "java/lang/String") (F_o_coder : Fld Z h0 o "java/lang/String" "coder" "B" (.int (0 : Int32))) (F_o_value : Fld Z h0 o "java/lang/String" "value" "[B" (.ref b)) (V_b : Arv Z h0 b k .byte (Int32.ofNat cs.length) (cs.map fun x => Value.int (own_b x)) (.int (0 : Int32))) (S_COMPACT_STRINGS : Sta Z h0 "java/lang/String" "COMPACT_STRINGS" "Z" (.int zc)) (S_SIOOBE_FORMATTER : Sta Z h0 "jdk/internal/util/Preconditions" "SIOOBE_FORMATTER" "Ljava/util/function/BiFunction;" fm) (S__assertionsDisabled : Sta Z h0 "java/lang/StringUTF16" "$assertionsDisabled" "Z" (.int (1 : Int32))) (S_HI_BYTE_SHIFT : Sta Z h0 "java/lang/StringUTF16" "HI_BYTE_SHIFT" "I" (.int (0 : Int32))) (S_LO_BYTE_SHIFT : Sta Z h0 "java/lang/StringUTF16" "LO_BYTE_SHIFT" "I" (.int (8 : Int32))) (hz : ¬ (zc = (0 : Int32))) (hn : cs.length ≤ 5) (w1 : ff = (0 : Int32)) (w2 : ee = (Int32.ofNat cs.length)) (hfm : fm.isRef = true) :
    MetFree l (⟨"java/lang/String", "substring", "(II)Ljava/lang/String;"⟩ : MethodName) (head1 (Jvm.Cond.code (⟨"java/lang/String", "substring", "(II)Ljava/lang/String;"⟩ : MethodName) jdk_42_method_92_code 5 (some (.object "java/lang/String")) :: ws) ({ frames := 2, cells := 0, slots := 0, locals := 29 } : Room)) (fun aA U => aA = #[(.ref o), (.int ff), (.int ee)] ∧ Z.Warmed39 U.vm ∧ U.heap = h0) (fun _ _ _ _ _ => True) (fun _ U oO U' => ∃ vV LL, oO = .returned vV ∧ Q_suWL Z o b k ff ee cs zc fm h0 n0 vV U'.heap LL ∧ FrameEnd U oO U' LL ({ frames := 2, cells := 0, slots := 0, locals := 29 } : Room).cells ({ frames := 2, cells := 0, slots := 0, locals := 29 } : Room).slots) := by
  refine MetFree.of_bodySF (plainFor_of_name pn_1) hisR ?_
  intro p e s m args below meth c s₁ Bd hml0 hP hK
  obtain ⟨rfl, hZ, hh⟩ := hP
  have hx := Bd.exec
  have hby := Bd.bytes
  have hml : c.maxLocals = 5 := hml0
  have hown : s.vm.findClass "java/lang/String" = some m.cls := findClass_of_methodNamed Bd.named
  have hnm := (name_of_methodNamed Bd.named Bd.method).1
  have X0 : Stand p l e ({ frames := 2, cells := 0, slots := 0, locals := 29 } : Room) s m #[(.ref o), (.int ff), (.int ee)] below meth c s₁ [] 0 0 := Stand.of_body Bd
  have e0 : s₁.heap = h0 := by rw [← hh, Bd.state]; rfl
  have N0 := Fr.nil n0
  have hret := Bd.returns
  have hlk : meth.locks = false := Bd.notSynchronized
  refine own_start (ef_7 m o ff ee) ?_
  show own_Go p e below s (Q_suWL Z o b k ff ee cs zc fm h0 n0) ({ frames := 2, cells := 0, slots := 0, locals := 29 } : Room).cells ({ frames := 2, cells := 0, slots := 0, locals := 29 } : Room).slots (s₁.setTop (mkF m 0 #[.val (.ref o), .val (.int ff), .val (.int ee), .unset, .unset] []))
  refine g_aload_n X0 hx 1 (hb hby d_jdk_42_method_92_0) rfl rfl rfl ?_
  refine own_callV X0 hx hZ hown (hw _ (List.mem_of_getElem? (i := 44) rfl)) (hw _ (List.mem_of_getElem? (i := 45) rfl)) (own_nf hZ (hw _ (List.mem_of_getElem? (i := 47) rfl))) (hw _ (List.mem_of_getElem? (i := 47) rfl)) (hw _ (List.mem_of_getElem? (i := 46) rfl)) (by decide) (rm_lnL l Z a0 hw [] o b k cs zc h0 n0 Z0 E_o F_o_coder F_o_value V_b S_COMPACT_STRINGS hz hn) (hw _ (List.mem_of_getElem? (i := 48) rfl)) (hw _ (List.mem_of_getElem? (i := 7) rfl)) e0 0 (by decide) (by decide) (by decide) (by decide) E_o [] [] rfl pd_21 rfl 4 rfl (by rw [hml]; rfl) rfl (hb hby d_jdk_42_method_92_1) rfl fun T488 v488 L488 X488 hQ488 => ?_
  obtain ⟨rfl, Nq488, e488⟩ := hQ488
  have N488 := Fr.app N0 Nq488
  show own_GoE p e below _ (T488.setTop (mkF m 4 _ [(.int (Int32.ofNat cs.length))]))
  refine g_istore_n X488 hx 5 (hb hby d_jdk_42_method_92_4) (l' := #[.val (.ref o), .val (.int ff), .val (.int ee), .val (.int (Int32.ofNat cs.length)), .unset]) rfl rfl ?_
  refine g_iload_n X488 hx 6 (hb hby d_jdk_42_method_92_5) rfl rfl ?_
  refine g_iload_n X488 hx 7 (hb hby d_jdk_42_method_92_6) rfl rfl ?_
  refine g_iload_n X488 hx 8 (hb hby d_jdk_42_method_92_7) rfl rfl ?_
  refine own_callS X488 hx hZ hown (hw _ (List.mem_of_getElem? (i := 54) rfl)) (hw _ (List.mem_of_getElem? (i := 55) rfl)) (by decide) (rm_cbe l Z a0 hw [] ff ee (Int32.ofNat cs.length) fm h0 n0 Z0 S_SIOOBE_FORMATTER (own_W1 w1) (own_W2 w1 w2 hn) (own_W3 w2) hfm) (hw _ (List.mem_of_getElem? (i := 56) rfl)) (hw _ (List.mem_of_getElem? (i := 7) rfl)) e488 0 (by decide) (by decide) (by decide) (by decide) [(.int ff), (.int ee), (.int (Int32.ofNat cs.length))] [] rfl pd_22 rfl 11 rfl (by rw [hml]; rfl) rfl (hb hby d_jdk_42_method_92_8) rfl fun T489 v489 L489 X489 hQ489 => ?_
  obtain ⟨rfl, Nq489, e489⟩ := hQ489
  have N489 := Fr.app N488 Nq489
  show own_GoE p e below _ (T489.setTop (mkF m 11 _ []))
  refine g_iload_n X489 hx 12 (hb hby d_jdk_42_method_92_11) rfl rfl ?_
  refine g_ifNo X489 hx 15 (hb hby d_jdk_42_method_92_12) (own_i0_ne_f w1) rfl ?_
  refine g_iload_n X489 hx 16 (hb hby d_jdk_42_method_92_15) rfl rfl ?_
  refine g_iload_n X489 hx 17 (hb hby d_jdk_42_method_92_16) rfl rfl ?_
  refine g_icmpNo X489 hx 20 (hb hby d_jdk_42_method_92_17) (own_ii_ne_f w2) rfl ?_
  refine g_aload_n X489 hx 21 (hb hby d_jdk_42_method_92_20) rfl rfl rfl ?_
  refine own_retA X489 hx hlk hret rfl rfl (hb hby d_jdk_42_method_92_21) ?_ (by decide) (by decide)
  rw [e489]
  exact ⟨rfl, N489, rfl⟩
def Q_suWU (Z : State) (o : Addr) (b : Addr) (k : ClassId) (ff : Int32) (ee : Int32) (cs : List Int32) (zc : Int32) (fm : Value) (h0 : Heap) (n0 : Nat) (v : Option Value) (h : Heap) (L : List Loc) : Prop := v = some (.ref o) ∧ Fr n0 L ∧ h = h0
set_option maxRecDepth 65536 in
set_option maxHeartbeats 40000000 in
theorem rm_suWU (l : Launch) (Z : State) (a0 : Array Value) (hw : ∀ d ∈ tables_1, d.before a0 Z = true) (ws : List Jvm.Cond) (o : Addr) (b : Addr) (k : ClassId) (ff : Int32) (ee : Int32) (cs : List Int32) (zc : Int32) (fm : Value) (h0 : Heap) (n0 : Nat) (Z0 : n0 ≤ h0.size) (E_o : Exa Z h0 o "java/lang/String") (F_o_coder : Fld Z h0 o "java/lang/String" "coder" "B" (.int (1 : Int32))) (F_o_value : Fld Z h0 o "java/lang/String" "value" "[B" (.ref b)) (V_b : Arv Z h0 b k .byte (Int32.ofNat (2 * cs.length)) (own_u cs) (.int (0 : Int32))) (S_COMPACT_STRINGS : Sta Z h0 "java/lang/String" "COMPACT_STRINGS" "Z" (.int zc)) (S_SIOOBE_FORMATTER : Sta Z h0 "jdk/internal/util/Preconditions" "SIOOBE_FORMATTER" "Ljava/util/function/BiFunction;" fm) (S__assertionsDisabled : Sta Z h0 "java/lang/StringUTF16" "$assertionsDisabled" "Z" (.int (1 : Int32))) (S_HI_BYTE_SHIFT : Sta Z h0 "java/lang/StringUTF16" "HI_BYTE_SHIFT" "I" (.int (0 : Int32))) (S_LO_BYTE_SHIFT : Sta Z h0 "java/lang/StringUTF16" "LO_BYTE_SHIFT" "I" (.int (8 : Int32))) (hz : ¬ (zc = (0 : Int32))) (hn : cs.length ≤ 5) (w1 : ff = (0 : Int32)) (w2 : ee = (Int32.ofNat cs.length)) (hfm : fm.isRef = true) :
    MetFree l (⟨"java/lang/String", "substring", "(II)Ljava/lang/String;"⟩ : MethodName) (head1 (Jvm.Cond.code (⟨"java/lang/String", "substring", "(II)Ljava/lang/String;"⟩ : MethodName) jdk_42_method_92_code 5 (some (.object "java/lang/String")) :: ws) ({ frames := 2, cells := 0, slots := 0, locals := 29 } : Room)) (fun aA U => aA = #[(.ref o), (.int ff), (.int ee)] ∧ Z.Warmed39 U.vm ∧ U.heap = h0) (fun _ _ _ _ _ => True) (fun _ U oO U' => ∃ vV LL, oO = .returned vV ∧ Q_suWU Z o b k ff ee cs zc fm h0 n0 vV U'.heap LL ∧ FrameEnd U oO U' LL ({ frames := 2, cells := 0, slots := 0, locals := 29 } : Room).cells ({ frames := 2, cells := 0, slots := 0, locals := 29 } : Room).slots) := by
  refine MetFree.of_bodySF (plainFor_of_name pn_1) hisR ?_
  intro p e s m args below meth c s₁ Bd hml0 hP hK
  obtain ⟨rfl, hZ, hh⟩ := hP
  have hx := Bd.exec
  have hby := Bd.bytes
  have hml : c.maxLocals = 5 := hml0
  have hown : s.vm.findClass "java/lang/String" = some m.cls := findClass_of_methodNamed Bd.named
  have hnm := (name_of_methodNamed Bd.named Bd.method).1
  have X0 : Stand p l e ({ frames := 2, cells := 0, slots := 0, locals := 29 } : Room) s m #[(.ref o), (.int ff), (.int ee)] below meth c s₁ [] 0 0 := Stand.of_body Bd
  have e0 : s₁.heap = h0 := by rw [← hh, Bd.state]; rfl
  have N0 := Fr.nil n0
  have hret := Bd.returns
  have hlk : meth.locks = false := Bd.notSynchronized
  refine own_start (ef_7 m o ff ee) ?_
  show own_Go p e below s (Q_suWU Z o b k ff ee cs zc fm h0 n0) ({ frames := 2, cells := 0, slots := 0, locals := 29 } : Room).cells ({ frames := 2, cells := 0, slots := 0, locals := 29 } : Room).slots (s₁.setTop (mkF m 0 #[.val (.ref o), .val (.int ff), .val (.int ee), .unset, .unset] []))
  refine g_aload_n X0 hx 1 (hb hby d_jdk_42_method_92_0) rfl rfl rfl ?_
  refine own_callV X0 hx hZ hown (hw _ (List.mem_of_getElem? (i := 44) rfl)) (hw _ (List.mem_of_getElem? (i := 45) rfl)) (own_nf hZ (hw _ (List.mem_of_getElem? (i := 47) rfl))) (hw _ (List.mem_of_getElem? (i := 47) rfl)) (hw _ (List.mem_of_getElem? (i := 46) rfl)) (by decide) (rm_lnU l Z a0 hw [] o b k cs zc h0 n0 Z0 E_o F_o_coder F_o_value V_b S_COMPACT_STRINGS hz hn) (hw _ (List.mem_of_getElem? (i := 48) rfl)) (hw _ (List.mem_of_getElem? (i := 7) rfl)) e0 0 (by decide) (by decide) (by decide) (by decide) E_o [] [] rfl pd_21 rfl 4 rfl (by rw [hml]; rfl) rfl (hb hby d_jdk_42_method_92_1) rfl fun T492 v492 L492 X492 hQ492 => ?_
  obtain ⟨rfl, Nq492, e492⟩ := hQ492
  have N492 := Fr.app N0 Nq492
  show own_GoE p e below _ (T492.setTop (mkF m 4 _ [(.int (Int32.ofNat cs.length))]))
  refine g_istore_n X492 hx 5 (hb hby d_jdk_42_method_92_4) (l' := #[.val (.ref o), .val (.int ff), .val (.int ee), .val (.int (Int32.ofNat cs.length)), .unset]) rfl rfl ?_
  refine g_iload_n X492 hx 6 (hb hby d_jdk_42_method_92_5) rfl rfl ?_
  refine g_iload_n X492 hx 7 (hb hby d_jdk_42_method_92_6) rfl rfl ?_
  refine g_iload_n X492 hx 8 (hb hby d_jdk_42_method_92_7) rfl rfl ?_
  refine own_callS X492 hx hZ hown (hw _ (List.mem_of_getElem? (i := 54) rfl)) (hw _ (List.mem_of_getElem? (i := 55) rfl)) (by decide) (rm_cbe l Z a0 hw [] ff ee (Int32.ofNat cs.length) fm h0 n0 Z0 S_SIOOBE_FORMATTER (own_W1 w1) (own_W2 w1 w2 hn) (own_W3 w2) hfm) (hw _ (List.mem_of_getElem? (i := 56) rfl)) (hw _ (List.mem_of_getElem? (i := 7) rfl)) e492 0 (by decide) (by decide) (by decide) (by decide) [(.int ff), (.int ee), (.int (Int32.ofNat cs.length))] [] rfl pd_22 rfl 11 rfl (by rw [hml]; rfl) rfl (hb hby d_jdk_42_method_92_8) rfl fun T493 v493 L493 X493 hQ493 => ?_
  obtain ⟨rfl, Nq493, e493⟩ := hQ493
  have N493 := Fr.app N492 Nq493
  show own_GoE p e below _ (T493.setTop (mkF m 11 _ []))
  refine g_iload_n X493 hx 12 (hb hby d_jdk_42_method_92_11) rfl rfl ?_
  refine g_ifNo X493 hx 15 (hb hby d_jdk_42_method_92_12) (own_i0_ne_f w1) rfl ?_
  refine g_iload_n X493 hx 16 (hb hby d_jdk_42_method_92_15) rfl rfl ?_
  refine g_iload_n X493 hx 17 (hb hby d_jdk_42_method_92_16) rfl rfl ?_
  refine g_icmpNo X493 hx 20 (hb hby d_jdk_42_method_92_17) (own_ii_ne_f w2) rfl ?_
  refine g_aload_n X493 hx 21 (hb hby d_jdk_42_method_92_20) rfl rfl rfl ?_
  refine own_retA X493 hx hlk hret rfl rfl (hb hby d_jdk_42_method_92_21) ?_ (by decide) (by decide)
  rw [e493]
  exact ⟨rfl, N493, rfl⟩
def Q_suW (Z : State) (o : Addr) (ff : Int32) (ee : Int32) (cs : List Int32) (zc : Int32) (fm : Value) (h0 : Heap) (n0 : Nat) (v : Option Value) (h : Heap) (L : List Loc) : Prop := v = some (.ref o) ∧ Fr n0 L ∧ h = h0
theorem rm_suW (l : Launch) (Z : State) (a0 : Array Value) (hw : ∀ d ∈ tables_1, d.before a0 Z = true) (ws : List Jvm.Cond) (o : Addr) (ff : Int32) (ee : Int32) (cs : List Int32) (zc : Int32) (fm : Value) (h0 : Heap) (n0 : Nat) (Z0 : n0 ≤ h0.size) (S_COMPACT_STRINGS : Sta Z h0 "java/lang/String" "COMPACT_STRINGS" "Z" (.int zc)) (S_SIOOBE_FORMATTER : Sta Z h0 "jdk/internal/util/Preconditions" "SIOOBE_FORMATTER" "Ljava/util/function/BiFunction;" fm) (S__assertionsDisabled : Sta Z h0 "java/lang/StringUTF16" "$assertionsDisabled" "Z" (.int (1 : Int32))) (S_HI_BYTE_SHIFT : Sta Z h0 "java/lang/StringUTF16" "HI_BYTE_SHIFT" "I" (.int (0 : Int32))) (S_LO_BYTE_SHIFT : Sta Z h0 "java/lang/StringUTF16" "LO_BYTE_SHIFT" "I" (.int (8 : Int32))) (STR : own_Str Z h0 o cs) (hz : ¬ (zc = (0 : Int32))) (hn : cs.length ≤ 5) (w1 : ff = (0 : Int32)) (w2 : ee = (Int32.ofNat cs.length)) (hfm : fm.isRef = true) :
    MetFree l (⟨"java/lang/String", "substring", "(II)Ljava/lang/String;"⟩ : MethodName) (head1 (Jvm.Cond.code (⟨"java/lang/String", "substring", "(II)Ljava/lang/String;"⟩ : MethodName) jdk_42_method_92_code 5 (some (.object "java/lang/String")) :: ws) ({ frames := 2, cells := 0, slots := 0, locals := 29 } : Room)) (fun aA U => aA = #[(.ref o), (.int ff), (.int ee)] ∧ Z.Warmed39 U.vm ∧ U.heap = h0) (fun _ _ _ _ _ => True) (fun _ U oO U' => ∃ vV LL, oO = .returned vV ∧ Q_suW Z o ff ee cs zc fm h0 n0 vV U'.heap LL ∧ FrameEnd U oO U' LL ({ frames := 2, cells := 0, slots := 0, locals := 29 } : Room).cells ({ frames := 2, cells := 0, slots := 0, locals := 29 } : Room).slots) := by
  rcases STR with ⟨b, k, E1, C1, V1, A1, R1⟩ | ⟨b, k, E1, C1, V1, A1, R1⟩
  · exact rm_suWL l Z a0 hw ws o b k ff ee cs zc fm h0 n0 Z0 E1 C1 V1 A1 S_COMPACT_STRINGS S_SIOOBE_FORMATTER S__assertionsDisabled S_HI_BYTE_SHIFT S_LO_BYTE_SHIFT hz hn w1 w2 hfm
  · exact rm_suWU l Z a0 hw ws o b k ff ee cs zc fm h0 n0 Z0 E1 C1 V1 A1 S_COMPACT_STRINGS S_SIOOBE_FORMATTER S__assertionsDisabled S_HI_BYTE_SHIFT S_LO_BYTE_SHIFT hz hn w1 w2 hfm
def Q_suEL (Z : State) (o : Addr) (b : Addr) (k : ClassId) (ff : Int32) (cs : List Int32) (zc : Int32) (fm : Value) (h0 : Heap) (n0 : Nat) (v : Option Value) (h : Heap) (L : List Loc) : Prop := ∃ r : Nat, v = some (.ref r) ∧ Fr n0 L ∧ Keep h0 h [] ∧ own_Str Z h r ([] : List Int32)
def QW_suEL (Z : State) (o : Addr) (b : Addr) (k : ClassId) (ff : Int32) (cs : List Int32) (zc : Int32) (fm : Value) (h0 : Heap) (n0 : Nat) (v : Option Value) (vm : Vm) (h : Heap) (L : List Loc) : Prop := Q_suEL Z o b k ff cs zc fm h0 n0 v h L ∧ True
set_option maxRecDepth 65536 in
set_option maxHeartbeats 40000000 in
theorem rm_suEL (l : Launch) (Z : State) (a0 : Array Value) (hw : ∀ d ∈ tables_1, d.before a0 Z = true) (ws : List Jvm.Cond) (o : Addr) (b : Addr) (k : ClassId) (ff : Int32) (cs : List Int32) (zc : Int32) (fm : Value) (h0 : Heap) (n0 : Nat) (Z0 : n0 ≤ h0.size) (E_o : Exa Z h0 o "java/lang/String") (F_o_coder : Fld Z h0 o "java/lang/String" "coder" "B" (.int (0 : Int32))) (F_o_value : Fld Z h0 o "java/lang/String" "value" "[B" (.ref b)) (V_b : Arv Z h0 b k .byte (Int32.ofNat cs.length) (cs.map fun x => Value.int (own_b x)) (.int (0 : Int32))) (S_COMPACT_STRINGS : Sta Z h0 "java/lang/String" "COMPACT_STRINGS" "Z" (.int zc)) (S_SIOOBE_FORMATTER : Sta Z h0 "jdk/internal/util/Preconditions" "SIOOBE_FORMATTER" "Ljava/util/function/BiFunction;" fm) (S__assertionsDisabled : Sta Z h0 "java/lang/StringUTF16" "$assertionsDisabled" "Z" (.int (1 : Int32))) (S_HI_BYTE_SHIFT : Sta Z h0 "java/lang/StringUTF16" "HI_BYTE_SHIFT" "I" (.int (0 : Int32))) (S_LO_BYTE_SHIFT : Sta Z h0 "java/lang/StringUTF16" "LO_BYTE_SHIFT" "I" (.int (8 : Int32))) (hz : ¬ (zc = (0 : Int32))) (hn : cs.length ≤ 5) (hf : own_F0 ff cs.length) (KZ : ∀ (b : Addr) (cl : Cell), Z.heap[b]? = some cl → h0[b]? = some cl) (hH1 : Jvm.Lit.constHeld Z "java/lang/StringLatin1" 151) (hH2 : Jvm.Lit.constHeld Z "java/lang/StringUTF16" 295) (hcw : Jvm.Lit.compactW.before a0 Z = true) (hfm : fm.isRef = true) :
    MetFree l (⟨"java/lang/String", "substring", "(II)Ljava/lang/String;"⟩ : MethodName) (head1 (Jvm.Cond.code (⟨"java/lang/String", "substring", "(II)Ljava/lang/String;"⟩ : MethodName) jdk_42_method_92_code 5 (some (.object "java/lang/String")) :: ws) ({ frames := 2, cells := 2, slots := 4, locals := 29 } : Room)) (fun aA U => aA = #[(.ref o), (.int ff), (.int ff)] ∧ Z.Warmed39 U.vm ∧ U.heap = h0 ∧ own_LD Z U.vm h0) (fun _ _ _ _ _ => True) (fun _ U oO U' => ∃ vV LL, oO = .returned vV ∧ (Q_suEL Z o b k ff cs zc fm h0 n0 vV U'.heap LL ∧ True) ∧ ReturnedEndW U oO U' LL ({ frames := 2, cells := 2, slots := 4, locals := 29 } : Room).cells ({ frames := 2, cells := 2, slots := 4, locals := 29 } : Room).slots) := by
  refine MetFree.of_bodySF (plainFor_of_name pn_1) hisR ?_
  intro p e s m args below meth c s₁ Bd hml0 hP hK
  obtain ⟨rfl, hZ0, hh, D0⟩ := hP
  have hx := Bd.exec
  have hby := Bd.bytes
  have hml : c.maxLocals = 5 := hml0
  have hZ : Z.Warmed39 (s.setVm s.vm).vm := hZ0
  have hown : (s.setVm s.vm).vm.findClass "java/lang/String" = some m.cls := findClass_of_methodNamed Bd.named
  have hnm := (name_of_methodNamed Bd.named Bd.method).1
  have X0 : Stand p l e ({ frames := 2, cells := 2, slots := 4, locals := 29 } : Room) (s.setVm s.vm) m #[(.ref o), (.int ff), (.int ff)] below meth c s₁ [] 0 0 := Stand.of_body Bd
  have hS : s.Since s.vm 0 := (State.WarmedH.refl s).since 0
  have hSk : 0 ≤ h0.size := Nat.zero_le _
  have e0 : s₁.heap = h0 := by rw [← hh, Bd.state]; rfl
  have N0 := Fr.nil n0
  have hret := Bd.returns
  have hlk : meth.locks = false := Bd.notSynchronized
  refine own_start (ef_7 m o ff ff) ?_
  show own_GoE p e below (fun oO vV UU LL => QW_suEL Z o b k ff cs zc fm h0 n0 vV UU.vm UU.heap LL ∧ ReturnedEndW s oO UU LL ({ frames := 2, cells := 2, slots := 4, locals := 29 } : Room).cells ({ frames := 2, cells := 2, slots := 4, locals := 29 } : Room).slots) (s₁.setTop (mkF m 0 #[.val (.ref o), .val (.int ff), .val (.int ff), .unset, .unset] []))
  refine g_aload_n X0 hx 1 (hb hby d_jdk_42_method_92_0) rfl rfl rfl ?_
  refine own_callV X0 hx hZ hown (hw _ (List.mem_of_getElem? (i := 44) rfl)) (hw _ (List.mem_of_getElem? (i := 45) rfl)) (own_nf hZ (hw _ (List.mem_of_getElem? (i := 47) rfl))) (hw _ (List.mem_of_getElem? (i := 47) rfl)) (hw _ (List.mem_of_getElem? (i := 46) rfl)) (by decide) (rm_lnL l Z a0 hw [] o b k cs zc h0 n0 Z0 E_o F_o_coder F_o_value V_b S_COMPACT_STRINGS hz hn) (hw _ (List.mem_of_getElem? (i := 48) rfl)) (hw _ (List.mem_of_getElem? (i := 7) rfl)) e0 0 (by decide) (by decide) (by decide) (by decide) E_o [] [] rfl pd_21 rfl 4 rfl (by rw [hml]; rfl) rfl (hb hby d_jdk_42_method_92_1) rfl fun T496 v496 L496 X496 hQ496 => ?_
  obtain ⟨rfl, Nq496, e496⟩ := hQ496
  have N496 := Fr.app N0 Nq496
  show own_GoE p e below _ (T496.setTop (mkF m 4 _ [(.int (Int32.ofNat cs.length))]))
  refine g_istore_n X496 hx 5 (hb hby d_jdk_42_method_92_4) (l' := #[.val (.ref o), .val (.int ff), .val (.int ff), .val (.int (Int32.ofNat cs.length)), .unset]) rfl rfl ?_
  refine g_iload_n X496 hx 6 (hb hby d_jdk_42_method_92_5) rfl rfl ?_
  refine g_iload_n X496 hx 7 (hb hby d_jdk_42_method_92_6) rfl rfl ?_
  refine g_iload_n X496 hx 8 (hb hby d_jdk_42_method_92_7) rfl rfl ?_
  refine own_callS X496 hx hZ hown (hw _ (List.mem_of_getElem? (i := 54) rfl)) (hw _ (List.mem_of_getElem? (i := 55) rfl)) (by decide) (rm_cbe l Z a0 hw [] ff ff (Int32.ofNat cs.length) fm h0 n0 Z0 S_SIOOBE_FORMATTER (own_ig hf.1) (own_irr ff) (own_F3 hf) hfm) (hw _ (List.mem_of_getElem? (i := 56) rfl)) (hw _ (List.mem_of_getElem? (i := 7) rfl)) e496 0 (by decide) (by decide) (by decide) (by decide) [(.int ff), (.int ff), (.int (Int32.ofNat cs.length))] [] rfl pd_22 rfl 11 rfl (by rw [hml]; rfl) rfl (hb hby d_jdk_42_method_92_8) rfl fun T497 v497 L497 X497 hQ497 => ?_
  obtain ⟨rfl, Nq497, e497⟩ := hQ497
  have N497 := Fr.app N496 Nq497
  show own_GoE p e below _ (T497.setTop (mkF m 11 _ []))
  refine g_iload_n X497 hx 12 (hb hby d_jdk_42_method_92_11) rfl rfl ?_
  by_cases c498 : ff = (0 : Int32)
  · refine g_ifNo X497 hx 15 (hb hby d_jdk_42_method_92_12) (own_i0_ne_f c498) rfl ?_
    refine g_iload_n X497 hx 16 (hb hby d_jdk_42_method_92_15) rfl rfl ?_
    refine g_iload_n X497 hx 17 (hb hby d_jdk_42_method_92_16) rfl rfl ?_
    have c499 : ¬ (ff = (Int32.ofNat cs.length)) := fun q => own_F4 hf ⟨c498, q⟩
    refine g_icmpYes X497 hx 22 (hb hby d_jdk_42_method_92_17) (own_ii_ne_t c499) (by decide) (by decide) ?_
    refine g_iload_n X497 hx 23 (hb hby d_jdk_42_method_92_22) rfl rfl ?_
    refine g_iload_n X497 hx 24 (hb hby d_jdk_42_method_92_23) rfl rfl ?_
    refine g_isub X497 hx 25 (hb hby d_jdk_42_method_92_24) rfl ?_
    rw [own_ss ff]
    refine g_istore X497 hx 27 (hb hby d_jdk_42_method_92_25) (l' := #[.val (.ref o), .val (.int ff), .val (.int ff), .val (.int (Int32.ofNat cs.length)), .val (.int (0 : Int32))]) rfl rfl ?_
    refine g_aload_n X497 hx 28 (hb hby d_jdk_42_method_92_27) rfl rfl rfl ?_
    refine own_callV X497 hx hZ hown (hw _ (List.mem_of_getElem? (i := 62) rfl)) (hw _ (List.mem_of_getElem? (i := 63) rfl)) (own_nf hZ (hw _ (List.mem_of_getElem? (i := 65) rfl))) (hw _ (List.mem_of_getElem? (i := 65) rfl)) (hw _ (List.mem_of_getElem? (i := 64) rfl)) (by decide) (rm_islL l Z a0 hw [] o zc h0 n0 Z0 F_o_coder S_COMPACT_STRINGS hz) (hw _ (List.mem_of_getElem? (i := 66) rfl)) (hw _ (List.mem_of_getElem? (i := 7) rfl)) e497 0 (by decide) (by decide) (by decide) (by decide) E_o [] [] rfl pd_7 rfl 31 rfl (by rw [hml]; rfl) rfl (hb hby d_jdk_42_method_92_28) rfl fun T500 v500 L500 X500 hQ500 => ?_
    obtain ⟨rfl, Nq500, e500⟩ := hQ500
    have N500 := Fr.app N497 Nq500
    show own_GoE p e below _ (T500.setTop (mkF m 31 _ [(.int (1 : Int32))]))
    refine g_ifNo X500 hx 34 (hb hby d_jdk_42_method_92_31) (own_i0_eq_f (by decide)) rfl ?_
    refine g_aload_n X500 hx 35 (hb hby d_jdk_42_method_92_34) rfl rfl rfl ?_
    refine own_getF X500 hx hZ hown (host := "") (Or.inl (hw _ (List.mem_of_getElem? (i := 32) rfl))) Via.refl e500 F_o_value 38 (hb hby d_jdk_42_method_92_35) rfl fun T501 X501 e501 => ?_
    refine g_iload_n X501 hx 39 (hb hby d_jdk_42_method_92_38) rfl rfl ?_
    refine g_iload X501 hx 41 (hb hby d_jdk_42_method_92_39) rfl rfl ?_
    refine own_callSW X501 hx hZ hown (hw _ (List.mem_of_getElem? (i := 67) rfl)) (hw _ (List.mem_of_getElem? (i := 68) rfl)) (by decide) (rm_nsl0 l Z a0 hw [] b ff h0 n0 Z0 KZ hH1 hH2 hcw) (hw _ (List.mem_of_getElem? (i := 70) rfl)) (hw _ (List.mem_of_getElem? (i := 69) rfl)) e501 D0 hS hSk 0 (by decide) (by decide) (by decide) (by decide) [(.ref b), (.int ff), (.int (0 : Int32))] [] rfl pd_23 rfl 44 rfl (by rw [hml]; rfl) rfl (hb hby d_jdk_42_method_92_41) rfl fun T502 v502 L502 X502 hS hZ hown hQ502 D502 => ?_
    obtain ⟨r_502, rfl, Nq502, Kq502, st502_0⟩ := hQ502
    have N502 := Fr.app N500 Nq502
    have K503 : Keep h0 T502.heap [] := (Keep.refl h0 []).trans Kq502 all0
    have z504 : n0 ≤ T502.heap.size := (Nat.le_trans Z0 Kq502.1)
    show own_GoE p e below _ (T502.setTop (mkF m 44 _ [(.ref r_502)]))
    refine g_goto X502 hx 57 (hb hby d_jdk_42_method_92_44) (by decide) (by decide) ?_
    refine own_retAW X502 hS (Nat.le_refl _) hx hlk hret rfl rfl (hb hby d_jdk_42_method_92_57) ?_ (by decide) (by decide)
    refine ⟨?_, trivial⟩
    exact ⟨r_502, rfl, N502, K503, st502_0⟩
  · refine g_ifYes X497 hx 22 (hb hby d_jdk_42_method_92_12) (own_i0_ne_t c498) (by decide) (by decide) ?_
    refine g_iload_n X497 hx 23 (hb hby d_jdk_42_method_92_22) rfl rfl ?_
    refine g_iload_n X497 hx 24 (hb hby d_jdk_42_method_92_23) rfl rfl ?_
    refine g_isub X497 hx 25 (hb hby d_jdk_42_method_92_24) rfl ?_
    rw [own_ss ff]
    refine g_istore X497 hx 27 (hb hby d_jdk_42_method_92_25) (l' := #[.val (.ref o), .val (.int ff), .val (.int ff), .val (.int (Int32.ofNat cs.length)), .val (.int (0 : Int32))]) rfl rfl ?_
    refine g_aload_n X497 hx 28 (hb hby d_jdk_42_method_92_27) rfl rfl rfl ?_
    refine own_callV X497 hx hZ hown (hw _ (List.mem_of_getElem? (i := 62) rfl)) (hw _ (List.mem_of_getElem? (i := 63) rfl)) (own_nf hZ (hw _ (List.mem_of_getElem? (i := 65) rfl))) (hw _ (List.mem_of_getElem? (i := 65) rfl)) (hw _ (List.mem_of_getElem? (i := 64) rfl)) (by decide) (rm_islL l Z a0 hw [] o zc h0 n0 Z0 F_o_coder S_COMPACT_STRINGS hz) (hw _ (List.mem_of_getElem? (i := 66) rfl)) (hw _ (List.mem_of_getElem? (i := 7) rfl)) e497 0 (by decide) (by decide) (by decide) (by decide) E_o [] [] rfl pd_7 rfl 31 rfl (by rw [hml]; rfl) rfl (hb hby d_jdk_42_method_92_28) rfl fun T505 v505 L505 X505 hQ505 => ?_
    obtain ⟨rfl, Nq505, e505⟩ := hQ505
    have N505 := Fr.app N497 Nq505
    show own_GoE p e below _ (T505.setTop (mkF m 31 _ [(.int (1 : Int32))]))
    refine g_ifNo X505 hx 34 (hb hby d_jdk_42_method_92_31) (own_i0_eq_f (by decide)) rfl ?_
    refine g_aload_n X505 hx 35 (hb hby d_jdk_42_method_92_34) rfl rfl rfl ?_
    refine own_getF X505 hx hZ hown (host := "") (Or.inl (hw _ (List.mem_of_getElem? (i := 32) rfl))) Via.refl e505 F_o_value 38 (hb hby d_jdk_42_method_92_35) rfl fun T506 X506 e506 => ?_
    refine g_iload_n X506 hx 39 (hb hby d_jdk_42_method_92_38) rfl rfl ?_
    refine g_iload X506 hx 41 (hb hby d_jdk_42_method_92_39) rfl rfl ?_
    refine own_callSW X506 hx hZ hown (hw _ (List.mem_of_getElem? (i := 67) rfl)) (hw _ (List.mem_of_getElem? (i := 68) rfl)) (by decide) (rm_nsl0 l Z a0 hw [] b ff h0 n0 Z0 KZ hH1 hH2 hcw) (hw _ (List.mem_of_getElem? (i := 70) rfl)) (hw _ (List.mem_of_getElem? (i := 69) rfl)) e506 D0 hS hSk 0 (by decide) (by decide) (by decide) (by decide) [(.ref b), (.int ff), (.int (0 : Int32))] [] rfl pd_23 rfl 44 rfl (by rw [hml]; rfl) rfl (hb hby d_jdk_42_method_92_41) rfl fun T507 v507 L507 X507 hS hZ hown hQ507 D507 => ?_
    obtain ⟨r_507, rfl, Nq507, Kq507, st507_0⟩ := hQ507
    have N507 := Fr.app N505 Nq507
    have K508 : Keep h0 T507.heap [] := (Keep.refl h0 []).trans Kq507 all0
    have z509 : n0 ≤ T507.heap.size := (Nat.le_trans Z0 Kq507.1)
    show own_GoE p e below _ (T507.setTop (mkF m 44 _ [(.ref r_507)]))
    refine g_goto X507 hx 57 (hb hby d_jdk_42_method_92_44) (by decide) (by decide) ?_
    refine own_retAW X507 hS (Nat.le_refl _) hx hlk hret rfl rfl (hb hby d_jdk_42_method_92_57) ?_ (by decide) (by decide)
    refine ⟨?_, trivial⟩
    exact ⟨r_507, rfl, N507, K508, st507_0⟩
def Q_suEU (Z : State) (o : Addr) (b : Addr) (k : ClassId) (ff : Int32) (cs : List Int32) (zc : Int32) (fm : Value) (h0 : Heap) (n0 : Nat) (v : Option Value) (h : Heap) (L : List Loc) : Prop := ∃ r : Nat, v = some (.ref r) ∧ Fr n0 L ∧ Keep h0 h [] ∧ own_Str Z h r ([] : List Int32)
def QW_suEU (Z : State) (o : Addr) (b : Addr) (k : ClassId) (ff : Int32) (cs : List Int32) (zc : Int32) (fm : Value) (h0 : Heap) (n0 : Nat) (v : Option Value) (vm : Vm) (h : Heap) (L : List Loc) : Prop := Q_suEU Z o b k ff cs zc fm h0 n0 v h L ∧ True
set_option maxRecDepth 65536 in
set_option maxHeartbeats 40000000 in
theorem rm_suEU (l : Launch) (Z : State) (a0 : Array Value) (hw : ∀ d ∈ tables_1, d.before a0 Z = true) (ws : List Jvm.Cond) (o : Addr) (b : Addr) (k : ClassId) (ff : Int32) (cs : List Int32) (zc : Int32) (fm : Value) (h0 : Heap) (n0 : Nat) (Z0 : n0 ≤ h0.size) (E_o : Exa Z h0 o "java/lang/String") (F_o_coder : Fld Z h0 o "java/lang/String" "coder" "B" (.int (1 : Int32))) (F_o_value : Fld Z h0 o "java/lang/String" "value" "[B" (.ref b)) (V_b : Arv Z h0 b k .byte (Int32.ofNat (2 * cs.length)) (own_u cs) (.int (0 : Int32))) (S_COMPACT_STRINGS : Sta Z h0 "java/lang/String" "COMPACT_STRINGS" "Z" (.int zc)) (S_SIOOBE_FORMATTER : Sta Z h0 "jdk/internal/util/Preconditions" "SIOOBE_FORMATTER" "Ljava/util/function/BiFunction;" fm) (S__assertionsDisabled : Sta Z h0 "java/lang/StringUTF16" "$assertionsDisabled" "Z" (.int (1 : Int32))) (S_HI_BYTE_SHIFT : Sta Z h0 "java/lang/StringUTF16" "HI_BYTE_SHIFT" "I" (.int (0 : Int32))) (S_LO_BYTE_SHIFT : Sta Z h0 "java/lang/StringUTF16" "LO_BYTE_SHIFT" "I" (.int (8 : Int32))) (hz : ¬ (zc = (0 : Int32))) (hn : cs.length ≤ 5) (hf : own_F0 ff cs.length) (KZ : ∀ (b : Addr) (cl : Cell), Z.heap[b]? = some cl → h0[b]? = some cl) (hH1 : Jvm.Lit.constHeld Z "java/lang/StringLatin1" 151) (hH2 : Jvm.Lit.constHeld Z "java/lang/StringUTF16" 295) (hcw : Jvm.Lit.compactW.before a0 Z = true) (hfm : fm.isRef = true) :
    MetFree l (⟨"java/lang/String", "substring", "(II)Ljava/lang/String;"⟩ : MethodName) (head1 (Jvm.Cond.code (⟨"java/lang/String", "substring", "(II)Ljava/lang/String;"⟩ : MethodName) jdk_42_method_92_code 5 (some (.object "java/lang/String")) :: ws) ({ frames := 2, cells := 2, slots := 4, locals := 29 } : Room)) (fun aA U => aA = #[(.ref o), (.int ff), (.int ff)] ∧ Z.Warmed39 U.vm ∧ U.heap = h0 ∧ own_LD Z U.vm h0) (fun _ _ _ _ _ => True) (fun _ U oO U' => ∃ vV LL, oO = .returned vV ∧ (Q_suEU Z o b k ff cs zc fm h0 n0 vV U'.heap LL ∧ True) ∧ ReturnedEndW U oO U' LL ({ frames := 2, cells := 2, slots := 4, locals := 29 } : Room).cells ({ frames := 2, cells := 2, slots := 4, locals := 29 } : Room).slots) := by
  refine MetFree.of_bodySF (plainFor_of_name pn_1) hisR ?_
  intro p e s m args below meth c s₁ Bd hml0 hP hK
  obtain ⟨rfl, hZ0, hh, D0⟩ := hP
  have hx := Bd.exec
  have hby := Bd.bytes
  have hml : c.maxLocals = 5 := hml0
  have hZ : Z.Warmed39 (s.setVm s.vm).vm := hZ0
  have hown : (s.setVm s.vm).vm.findClass "java/lang/String" = some m.cls := findClass_of_methodNamed Bd.named
  have hnm := (name_of_methodNamed Bd.named Bd.method).1
  have X0 : Stand p l e ({ frames := 2, cells := 2, slots := 4, locals := 29 } : Room) (s.setVm s.vm) m #[(.ref o), (.int ff), (.int ff)] below meth c s₁ [] 0 0 := Stand.of_body Bd
  have hS : s.Since s.vm 0 := (State.WarmedH.refl s).since 0
  have hSk : 0 ≤ h0.size := Nat.zero_le _
  have e0 : s₁.heap = h0 := by rw [← hh, Bd.state]; rfl
  have N0 := Fr.nil n0
  have hret := Bd.returns
  have hlk : meth.locks = false := Bd.notSynchronized
  refine own_start (ef_7 m o ff ff) ?_
  show own_GoE p e below (fun oO vV UU LL => QW_suEU Z o b k ff cs zc fm h0 n0 vV UU.vm UU.heap LL ∧ ReturnedEndW s oO UU LL ({ frames := 2, cells := 2, slots := 4, locals := 29 } : Room).cells ({ frames := 2, cells := 2, slots := 4, locals := 29 } : Room).slots) (s₁.setTop (mkF m 0 #[.val (.ref o), .val (.int ff), .val (.int ff), .unset, .unset] []))
  refine g_aload_n X0 hx 1 (hb hby d_jdk_42_method_92_0) rfl rfl rfl ?_
  refine own_callV X0 hx hZ hown (hw _ (List.mem_of_getElem? (i := 44) rfl)) (hw _ (List.mem_of_getElem? (i := 45) rfl)) (own_nf hZ (hw _ (List.mem_of_getElem? (i := 47) rfl))) (hw _ (List.mem_of_getElem? (i := 47) rfl)) (hw _ (List.mem_of_getElem? (i := 46) rfl)) (by decide) (rm_lnU l Z a0 hw [] o b k cs zc h0 n0 Z0 E_o F_o_coder F_o_value V_b S_COMPACT_STRINGS hz hn) (hw _ (List.mem_of_getElem? (i := 48) rfl)) (hw _ (List.mem_of_getElem? (i := 7) rfl)) e0 0 (by decide) (by decide) (by decide) (by decide) E_o [] [] rfl pd_21 rfl 4 rfl (by rw [hml]; rfl) rfl (hb hby d_jdk_42_method_92_1) rfl fun T510 v510 L510 X510 hQ510 => ?_
  obtain ⟨rfl, Nq510, e510⟩ := hQ510
  have N510 := Fr.app N0 Nq510
  show own_GoE p e below _ (T510.setTop (mkF m 4 _ [(.int (Int32.ofNat cs.length))]))
  refine g_istore_n X510 hx 5 (hb hby d_jdk_42_method_92_4) (l' := #[.val (.ref o), .val (.int ff), .val (.int ff), .val (.int (Int32.ofNat cs.length)), .unset]) rfl rfl ?_
  refine g_iload_n X510 hx 6 (hb hby d_jdk_42_method_92_5) rfl rfl ?_
  refine g_iload_n X510 hx 7 (hb hby d_jdk_42_method_92_6) rfl rfl ?_
  refine g_iload_n X510 hx 8 (hb hby d_jdk_42_method_92_7) rfl rfl ?_
  refine own_callS X510 hx hZ hown (hw _ (List.mem_of_getElem? (i := 54) rfl)) (hw _ (List.mem_of_getElem? (i := 55) rfl)) (by decide) (rm_cbe l Z a0 hw [] ff ff (Int32.ofNat cs.length) fm h0 n0 Z0 S_SIOOBE_FORMATTER (own_ig hf.1) (own_irr ff) (own_F3 hf) hfm) (hw _ (List.mem_of_getElem? (i := 56) rfl)) (hw _ (List.mem_of_getElem? (i := 7) rfl)) e510 0 (by decide) (by decide) (by decide) (by decide) [(.int ff), (.int ff), (.int (Int32.ofNat cs.length))] [] rfl pd_22 rfl 11 rfl (by rw [hml]; rfl) rfl (hb hby d_jdk_42_method_92_8) rfl fun T511 v511 L511 X511 hQ511 => ?_
  obtain ⟨rfl, Nq511, e511⟩ := hQ511
  have N511 := Fr.app N510 Nq511
  show own_GoE p e below _ (T511.setTop (mkF m 11 _ []))
  refine g_iload_n X511 hx 12 (hb hby d_jdk_42_method_92_11) rfl rfl ?_
  by_cases c512 : ff = (0 : Int32)
  · refine g_ifNo X511 hx 15 (hb hby d_jdk_42_method_92_12) (own_i0_ne_f c512) rfl ?_
    refine g_iload_n X511 hx 16 (hb hby d_jdk_42_method_92_15) rfl rfl ?_
    refine g_iload_n X511 hx 17 (hb hby d_jdk_42_method_92_16) rfl rfl ?_
    have c513 : ¬ (ff = (Int32.ofNat cs.length)) := fun q => own_F4 hf ⟨c512, q⟩
    refine g_icmpYes X511 hx 22 (hb hby d_jdk_42_method_92_17) (own_ii_ne_t c513) (by decide) (by decide) ?_
    refine g_iload_n X511 hx 23 (hb hby d_jdk_42_method_92_22) rfl rfl ?_
    refine g_iload_n X511 hx 24 (hb hby d_jdk_42_method_92_23) rfl rfl ?_
    refine g_isub X511 hx 25 (hb hby d_jdk_42_method_92_24) rfl ?_
    rw [own_ss ff]
    refine g_istore X511 hx 27 (hb hby d_jdk_42_method_92_25) (l' := #[.val (.ref o), .val (.int ff), .val (.int ff), .val (.int (Int32.ofNat cs.length)), .val (.int (0 : Int32))]) rfl rfl ?_
    refine g_aload_n X511 hx 28 (hb hby d_jdk_42_method_92_27) rfl rfl rfl ?_
    refine own_callV X511 hx hZ hown (hw _ (List.mem_of_getElem? (i := 62) rfl)) (hw _ (List.mem_of_getElem? (i := 63) rfl)) (own_nf hZ (hw _ (List.mem_of_getElem? (i := 65) rfl))) (hw _ (List.mem_of_getElem? (i := 65) rfl)) (hw _ (List.mem_of_getElem? (i := 64) rfl)) (by decide) (rm_islU l Z a0 hw [] o zc h0 n0 Z0 F_o_coder S_COMPACT_STRINGS hz) (hw _ (List.mem_of_getElem? (i := 66) rfl)) (hw _ (List.mem_of_getElem? (i := 7) rfl)) e511 0 (by decide) (by decide) (by decide) (by decide) E_o [] [] rfl pd_7 rfl 31 rfl (by rw [hml]; rfl) rfl (hb hby d_jdk_42_method_92_28) rfl fun T514 v514 L514 X514 hQ514 => ?_
    obtain ⟨rfl, Nq514, e514⟩ := hQ514
    have N514 := Fr.app N511 Nq514
    show own_GoE p e below _ (T514.setTop (mkF m 31 _ [(.int (0 : Int32))]))
    refine g_ifYes X514 hx 47 (hb hby d_jdk_42_method_92_31) (own_i0_eq_t (by decide)) (by decide) (by decide) ?_
    refine g_aload_n X514 hx 48 (hb hby d_jdk_42_method_92_47) rfl rfl rfl ?_
    refine own_getF X514 hx hZ hown (host := "") (Or.inl (hw _ (List.mem_of_getElem? (i := 32) rfl))) Via.refl e514 F_o_value 51 (hb hby d_jdk_42_method_92_48) rfl fun T515 X515 e515 => ?_
    refine g_iload_n X515 hx 52 (hb hby d_jdk_42_method_92_51) rfl rfl ?_
    refine g_iload X515 hx 54 (hb hby d_jdk_42_method_92_52) rfl rfl ?_
    refine own_callSW X515 hx hZ hown (hw _ (List.mem_of_getElem? (i := 162) rfl)) (hw _ (List.mem_of_getElem? (i := 163) rfl)) (by decide) (rm_nsu0 l Z a0 hw [] b ff h0 n0 Z0 KZ hH1 hH2 hcw) (hw _ (List.mem_of_getElem? (i := 164) rfl)) (hw _ (List.mem_of_getElem? (i := 21) rfl)) e515 D0 hS hSk 0 (by decide) (by decide) (by decide) (by decide) [(.ref b), (.int ff), (.int (0 : Int32))] [] rfl pd_23 rfl 57 rfl (by rw [hml]; rfl) rfl (hb hby d_jdk_42_method_92_54) rfl fun T516 v516 L516 X516 hS hZ hown hQ516 D516 => ?_
    obtain ⟨r_516, rfl, Nq516, Kq516, st516_0⟩ := hQ516
    have N516 := Fr.app N514 Nq516
    have K517 : Keep h0 T516.heap [] := (Keep.refl h0 []).trans Kq516 all0
    have z518 : n0 ≤ T516.heap.size := (Nat.le_trans Z0 Kq516.1)
    show own_GoE p e below _ (T516.setTop (mkF m 57 _ [(.ref r_516)]))
    refine own_retAW X516 hS (Nat.le_refl _) hx hlk hret rfl rfl (hb hby d_jdk_42_method_92_57) ?_ (by decide) (by decide)
    refine ⟨?_, trivial⟩
    exact ⟨r_516, rfl, N516, K517, st516_0⟩
  · refine g_ifYes X511 hx 22 (hb hby d_jdk_42_method_92_12) (own_i0_ne_t c512) (by decide) (by decide) ?_
    refine g_iload_n X511 hx 23 (hb hby d_jdk_42_method_92_22) rfl rfl ?_
    refine g_iload_n X511 hx 24 (hb hby d_jdk_42_method_92_23) rfl rfl ?_
    refine g_isub X511 hx 25 (hb hby d_jdk_42_method_92_24) rfl ?_
    rw [own_ss ff]
    refine g_istore X511 hx 27 (hb hby d_jdk_42_method_92_25) (l' := #[.val (.ref o), .val (.int ff), .val (.int ff), .val (.int (Int32.ofNat cs.length)), .val (.int (0 : Int32))]) rfl rfl ?_
    refine g_aload_n X511 hx 28 (hb hby d_jdk_42_method_92_27) rfl rfl rfl ?_
    refine own_callV X511 hx hZ hown (hw _ (List.mem_of_getElem? (i := 62) rfl)) (hw _ (List.mem_of_getElem? (i := 63) rfl)) (own_nf hZ (hw _ (List.mem_of_getElem? (i := 65) rfl))) (hw _ (List.mem_of_getElem? (i := 65) rfl)) (hw _ (List.mem_of_getElem? (i := 64) rfl)) (by decide) (rm_islU l Z a0 hw [] o zc h0 n0 Z0 F_o_coder S_COMPACT_STRINGS hz) (hw _ (List.mem_of_getElem? (i := 66) rfl)) (hw _ (List.mem_of_getElem? (i := 7) rfl)) e511 0 (by decide) (by decide) (by decide) (by decide) E_o [] [] rfl pd_7 rfl 31 rfl (by rw [hml]; rfl) rfl (hb hby d_jdk_42_method_92_28) rfl fun T519 v519 L519 X519 hQ519 => ?_
    obtain ⟨rfl, Nq519, e519⟩ := hQ519
    have N519 := Fr.app N511 Nq519
    show own_GoE p e below _ (T519.setTop (mkF m 31 _ [(.int (0 : Int32))]))
    refine g_ifYes X519 hx 47 (hb hby d_jdk_42_method_92_31) (own_i0_eq_t (by decide)) (by decide) (by decide) ?_
    refine g_aload_n X519 hx 48 (hb hby d_jdk_42_method_92_47) rfl rfl rfl ?_
    refine own_getF X519 hx hZ hown (host := "") (Or.inl (hw _ (List.mem_of_getElem? (i := 32) rfl))) Via.refl e519 F_o_value 51 (hb hby d_jdk_42_method_92_48) rfl fun T520 X520 e520 => ?_
    refine g_iload_n X520 hx 52 (hb hby d_jdk_42_method_92_51) rfl rfl ?_
    refine g_iload X520 hx 54 (hb hby d_jdk_42_method_92_52) rfl rfl ?_
    refine own_callSW X520 hx hZ hown (hw _ (List.mem_of_getElem? (i := 162) rfl)) (hw _ (List.mem_of_getElem? (i := 163) rfl)) (by decide) (rm_nsu0 l Z a0 hw [] b ff h0 n0 Z0 KZ hH1 hH2 hcw) (hw _ (List.mem_of_getElem? (i := 164) rfl)) (hw _ (List.mem_of_getElem? (i := 21) rfl)) e520 D0 hS hSk 0 (by decide) (by decide) (by decide) (by decide) [(.ref b), (.int ff), (.int (0 : Int32))] [] rfl pd_23 rfl 57 rfl (by rw [hml]; rfl) rfl (hb hby d_jdk_42_method_92_54) rfl fun T521 v521 L521 X521 hS hZ hown hQ521 D521 => ?_
    obtain ⟨r_521, rfl, Nq521, Kq521, st521_0⟩ := hQ521
    have N521 := Fr.app N519 Nq521
    have K522 : Keep h0 T521.heap [] := (Keep.refl h0 []).trans Kq521 all0
    have z523 : n0 ≤ T521.heap.size := (Nat.le_trans Z0 Kq521.1)
    show own_GoE p e below _ (T521.setTop (mkF m 57 _ [(.ref r_521)]))
    refine own_retAW X521 hS (Nat.le_refl _) hx hlk hret rfl rfl (hb hby d_jdk_42_method_92_57) ?_ (by decide) (by decide)
    refine ⟨?_, trivial⟩
    exact ⟨r_521, rfl, N521, K522, st521_0⟩
def Q_suE (Z : State) (o : Addr) (ff : Int32) (cs : List Int32) (zc : Int32) (fm : Value) (h0 : Heap) (n0 : Nat) (v : Option Value) (h : Heap) (L : List Loc) : Prop := ∃ r : Nat, v = some (.ref r) ∧ Fr n0 L ∧ Keep h0 h [] ∧ own_Str Z h r ([] : List Int32)
theorem rm_suE (l : Launch) (Z : State) (a0 : Array Value) (hw : ∀ d ∈ tables_1, d.before a0 Z = true) (ws : List Jvm.Cond) (o : Addr) (ff : Int32) (cs : List Int32) (zc : Int32) (fm : Value) (h0 : Heap) (n0 : Nat) (Z0 : n0 ≤ h0.size) (S_COMPACT_STRINGS : Sta Z h0 "java/lang/String" "COMPACT_STRINGS" "Z" (.int zc)) (S_SIOOBE_FORMATTER : Sta Z h0 "jdk/internal/util/Preconditions" "SIOOBE_FORMATTER" "Ljava/util/function/BiFunction;" fm) (S__assertionsDisabled : Sta Z h0 "java/lang/StringUTF16" "$assertionsDisabled" "Z" (.int (1 : Int32))) (S_HI_BYTE_SHIFT : Sta Z h0 "java/lang/StringUTF16" "HI_BYTE_SHIFT" "I" (.int (0 : Int32))) (S_LO_BYTE_SHIFT : Sta Z h0 "java/lang/StringUTF16" "LO_BYTE_SHIFT" "I" (.int (8 : Int32))) (STR : own_Str Z h0 o cs) (hz : ¬ (zc = (0 : Int32))) (hn : cs.length ≤ 5) (hf : own_F0 ff cs.length) (KZ : ∀ (b : Addr) (cl : Cell), Z.heap[b]? = some cl → h0[b]? = some cl) (hH1 : Jvm.Lit.constHeld Z "java/lang/StringLatin1" 151) (hH2 : Jvm.Lit.constHeld Z "java/lang/StringUTF16" 295) (hcw : Jvm.Lit.compactW.before a0 Z = true) (hfm : fm.isRef = true) :
    MetFree l (⟨"java/lang/String", "substring", "(II)Ljava/lang/String;"⟩ : MethodName) (head1 (Jvm.Cond.code (⟨"java/lang/String", "substring", "(II)Ljava/lang/String;"⟩ : MethodName) jdk_42_method_92_code 5 (some (.object "java/lang/String")) :: ws) ({ frames := 2, cells := 2, slots := 4, locals := 29 } : Room)) (fun aA U => aA = #[(.ref o), (.int ff), (.int ff)] ∧ Z.Warmed39 U.vm ∧ U.heap = h0 ∧ own_LD Z U.vm h0) (fun _ _ _ _ _ => True) (fun _ U oO U' => ∃ vV LL, oO = .returned vV ∧ (Q_suE Z o ff cs zc fm h0 n0 vV U'.heap LL ∧ True) ∧ ReturnedEndW U oO U' LL ({ frames := 2, cells := 2, slots := 4, locals := 29 } : Room).cells ({ frames := 2, cells := 2, slots := 4, locals := 29 } : Room).slots) := by
  rcases STR with ⟨b, k, E1, C1, V1, A1, R1⟩ | ⟨b, k, E1, C1, V1, A1, R1⟩
  · exact rm_suEL l Z a0 hw ws o b k ff cs zc fm h0 n0 Z0 E1 C1 V1 A1 S_COMPACT_STRINGS S_SIOOBE_FORMATTER S__assertionsDisabled S_HI_BYTE_SHIFT S_LO_BYTE_SHIFT hz hn hf KZ hH1 hH2 hcw hfm
  · exact rm_suEU l Z a0 hw ws o b k ff cs zc fm h0 n0 Z0 E1 C1 V1 A1 S_COMPACT_STRINGS S_SIOOBE_FORMATTER S__assertionsDisabled S_HI_BYTE_SHIFT S_LO_BYTE_SHIFT hz hn hf KZ hH1 hH2 hcw hfm
theorem own_cutR {Z : State} {h : Heap} {r : Addr} {a b : List Int32} (q : a = b) (S : own_Str Z h r b) : own_Str Z h r a := q ▸ S
theorem d_prog_17_method_2_0 : decode prog_17_method_2_code 0 = .ok (.iload_n 0, 1) := by decide +kernel
theorem d_prog_17_method_2_1 : decode prog_17_method_2_code 1 = .ok (.bipush 32, 2) := by decide +kernel
theorem d_prog_17_method_2_3 : decode prog_17_method_2_code 3 = .ok (.if_icmp .eq 34, 3) := by decide +kernel
theorem d_prog_17_method_2_37 : decode prog_17_method_2_code 37 = .ok (.iconst 1, 1) := by decide +kernel
theorem d_prog_17_method_2_38 : decode prog_17_method_2_code 38 = .ok (.goto 4, 3) := by decide +kernel
theorem d_prog_17_method_2_42 : decode prog_17_method_2_code 42 = .ok (.ireturn, 1) := by decide +kernel
theorem d_prog_17_method_2_6 : decode prog_17_method_2_code 6 = .ok (.iload_n 0, 1) := by decide +kernel
theorem d_prog_17_method_2_7 : decode prog_17_method_2_code 7 = .ok (.bipush 9, 2) := by decide +kernel
theorem d_prog_17_method_2_9 : decode prog_17_method_2_code 9 = .ok (.if_icmp .eq 28, 3) := by decide +kernel
theorem d_prog_17_method_2_12 : decode prog_17_method_2_code 12 = .ok (.iload_n 0, 1) := by decide +kernel
theorem d_prog_17_method_2_13 : decode prog_17_method_2_code 13 = .ok (.bipush 10, 2) := by decide +kernel
theorem d_prog_17_method_2_15 : decode prog_17_method_2_code 15 = .ok (.if_icmp .eq 22, 3) := by decide +kernel
theorem d_prog_17_method_2_18 : decode prog_17_method_2_code 18 = .ok (.iload_n 0, 1) := by decide +kernel
theorem d_prog_17_method_2_19 : decode prog_17_method_2_code 19 = .ok (.bipush 13, 2) := by decide +kernel
theorem d_prog_17_method_2_21 : decode prog_17_method_2_code 21 = .ok (.if_icmp .eq 16, 3) := by decide +kernel
theorem d_prog_17_method_2_24 : decode prog_17_method_2_code 24 = .ok (.iload_n 0, 1) := by decide +kernel
theorem d_prog_17_method_2_25 : decode prog_17_method_2_code 25 = .ok (.bipush 12, 2) := by decide +kernel
theorem d_prog_17_method_2_27 : decode prog_17_method_2_code 27 = .ok (.if_icmp .eq 10, 3) := by decide +kernel
theorem d_prog_17_method_2_30 : decode prog_17_method_2_code 30 = .ok (.iload_n 0, 1) := by decide +kernel
theorem d_prog_17_method_2_31 : decode prog_17_method_2_code 31 = .ok (.sipush 160, 3) := by decide +kernel
theorem d_prog_17_method_2_34 : decode prog_17_method_2_code 34 = .ok (.if_icmp .ne 7, 3) := by decide +kernel
theorem d_prog_17_method_2_41 : decode prog_17_method_2_code 41 = .ok (.iconst 0, 1) := by decide +kernel
theorem pn_7 : plainName "com/example/honbun/honbun/WhiteSpace" = true := by first | (simp [plainName, overriddenIn]; done) | decide +kernel
def Q_iws (Z : State) (xc : Int32) (h0 : Heap) (n0 : Nat) (v : Option Value) (h : Heap) (L : List Loc) : Prop := v = some (.int (own_wi xc)) ∧ Fr n0 L ∧ h = h0
set_option maxRecDepth 65536 in
set_option maxHeartbeats 40000000 in
theorem rm_iws (l : Launch) (Z : State) (a0 : Array Value) (hw : ∀ d ∈ tables_1, d.before a0 Z = true) (ws : List Jvm.Cond) (xc : Int32) (h0 : Heap) (n0 : Nat) (Z0 : n0 ≤ h0.size) :
    MetFree l (⟨"com/example/honbun/honbun/WhiteSpace", "isWhiteSpace", "(C)Z"⟩ : MethodName) (head1 (Jvm.Cond.code (⟨"com/example/honbun/honbun/WhiteSpace", "isWhiteSpace", "(C)Z"⟩ : MethodName) prog_17_method_2_code 1 (some .boolean) :: ws) ({ frames := 0, cells := 0, slots := 0, locals := 0 } : Room)) (fun aA U => aA = #[(.int xc)] ∧ Z.Warmed39 U.vm ∧ U.heap = h0) (fun _ _ _ _ _ => True) (fun _ U oO U' => ∃ vV LL, oO = .returned vV ∧ Q_iws Z xc h0 n0 vV U'.heap LL ∧ FrameEnd U oO U' LL ({ frames := 0, cells := 0, slots := 0, locals := 0 } : Room).cells ({ frames := 0, cells := 0, slots := 0, locals := 0 } : Room).slots) := by
  refine MetFree.of_bodySF (plainFor_of_name pn_7) hisR ?_
  intro p e s m args below meth c s₁ Bd hml0 hP hK
  obtain ⟨rfl, hZ, hh⟩ := hP
  have hx := Bd.exec
  have hby := Bd.bytes
  have hml : c.maxLocals = 1 := hml0
  have hown : s.vm.findClass "com/example/honbun/honbun/WhiteSpace" = some m.cls := findClass_of_methodNamed Bd.named
  have hnm := (name_of_methodNamed Bd.named Bd.method).1
  have X0 : Stand p l e ({ frames := 0, cells := 0, slots := 0, locals := 0 } : Room) s m #[(.int xc)] below meth c s₁ [] 0 0 := Stand.of_body Bd
  have e0 : s₁.heap = h0 := by rw [← hh, Bd.state]; rfl
  have N0 := Fr.nil n0
  have hret := Bd.returns
  have hlk : meth.locks = false := Bd.notSynchronized
  refine own_start (ef_10 m xc) ?_
  show own_Go p e below s (Q_iws Z xc h0 n0) ({ frames := 0, cells := 0, slots := 0, locals := 0 } : Room).cells ({ frames := 0, cells := 0, slots := 0, locals := 0 } : Room).slots (s₁.setTop (mkF m 0 #[.val (.int xc)] []))
  refine g_iload_n X0 hx 1 (hb hby d_prog_17_method_2_0) rfl rfl ?_
  refine g_bipush X0 hx 3 (hb hby d_prog_17_method_2_1) (32 : Int32) rfl rfl ?_
  by_cases c524 : xc = (32 : Int32)
  · refine g_icmpYes X0 hx 37 (hb hby d_prog_17_method_2_3) (own_ii_eq_t c524) (by decide) (by decide) ?_
    refine g_iconst X0 hx 38 (hb hby d_prog_17_method_2_37) (1 : Int32) rfl rfl ?_
    refine g_goto X0 hx 42 (hb hby d_prog_17_method_2_38) (by decide) (by decide) ?_
    refine own_retN X0 hx hlk (t := .boolean) hret (by simp) (hb hby d_prog_17_method_2_42) ?_ (by decide) (by decide)
    rw [e0]
    exact ⟨(own_rb (by simp [own_wi, own_wb, c524])), N0, rfl⟩
  · refine g_icmpNo X0 hx 6 (hb hby d_prog_17_method_2_3) (own_ii_eq_f c524) rfl ?_
    refine g_iload_n X0 hx 7 (hb hby d_prog_17_method_2_6) rfl rfl ?_
    refine g_bipush X0 hx 9 (hb hby d_prog_17_method_2_7) (9 : Int32) rfl rfl ?_
    by_cases c525 : xc = (9 : Int32)
    · refine g_icmpYes X0 hx 37 (hb hby d_prog_17_method_2_9) (own_ii_eq_t c525) (by decide) (by decide) ?_
      refine g_iconst X0 hx 38 (hb hby d_prog_17_method_2_37) (1 : Int32) rfl rfl ?_
      refine g_goto X0 hx 42 (hb hby d_prog_17_method_2_38) (by decide) (by decide) ?_
      refine own_retN X0 hx hlk (t := .boolean) hret (by simp) (hb hby d_prog_17_method_2_42) ?_ (by decide) (by decide)
      rw [e0]
      exact ⟨(own_rb (by simp [own_wi, own_wb, c524, c525])), N0, rfl⟩
    · refine g_icmpNo X0 hx 12 (hb hby d_prog_17_method_2_9) (own_ii_eq_f c525) rfl ?_
      refine g_iload_n X0 hx 13 (hb hby d_prog_17_method_2_12) rfl rfl ?_
      refine g_bipush X0 hx 15 (hb hby d_prog_17_method_2_13) (10 : Int32) rfl rfl ?_
      by_cases c526 : xc = (10 : Int32)
      · refine g_icmpYes X0 hx 37 (hb hby d_prog_17_method_2_15) (own_ii_eq_t c526) (by decide) (by decide) ?_
        refine g_iconst X0 hx 38 (hb hby d_prog_17_method_2_37) (1 : Int32) rfl rfl ?_
        refine g_goto X0 hx 42 (hb hby d_prog_17_method_2_38) (by decide) (by decide) ?_
        refine own_retN X0 hx hlk (t := .boolean) hret (by simp) (hb hby d_prog_17_method_2_42) ?_ (by decide) (by decide)
        rw [e0]
        exact ⟨(own_rb (by simp [own_wi, own_wb, c524, c525, c526])), N0, rfl⟩
      · refine g_icmpNo X0 hx 18 (hb hby d_prog_17_method_2_15) (own_ii_eq_f c526) rfl ?_
        refine g_iload_n X0 hx 19 (hb hby d_prog_17_method_2_18) rfl rfl ?_
        refine g_bipush X0 hx 21 (hb hby d_prog_17_method_2_19) (13 : Int32) rfl rfl ?_
        by_cases c527 : xc = (13 : Int32)
        · refine g_icmpYes X0 hx 37 (hb hby d_prog_17_method_2_21) (own_ii_eq_t c527) (by decide) (by decide) ?_
          refine g_iconst X0 hx 38 (hb hby d_prog_17_method_2_37) (1 : Int32) rfl rfl ?_
          refine g_goto X0 hx 42 (hb hby d_prog_17_method_2_38) (by decide) (by decide) ?_
          refine own_retN X0 hx hlk (t := .boolean) hret (by simp) (hb hby d_prog_17_method_2_42) ?_ (by decide) (by decide)
          rw [e0]
          exact ⟨(own_rb (by simp [own_wi, own_wb, c524, c525, c526, c527])), N0, rfl⟩
        · refine g_icmpNo X0 hx 24 (hb hby d_prog_17_method_2_21) (own_ii_eq_f c527) rfl ?_
          refine g_iload_n X0 hx 25 (hb hby d_prog_17_method_2_24) rfl rfl ?_
          refine g_bipush X0 hx 27 (hb hby d_prog_17_method_2_25) (12 : Int32) rfl rfl ?_
          by_cases c528 : xc = (12 : Int32)
          · refine g_icmpYes X0 hx 37 (hb hby d_prog_17_method_2_27) (own_ii_eq_t c528) (by decide) (by decide) ?_
            refine g_iconst X0 hx 38 (hb hby d_prog_17_method_2_37) (1 : Int32) rfl rfl ?_
            refine g_goto X0 hx 42 (hb hby d_prog_17_method_2_38) (by decide) (by decide) ?_
            refine own_retN X0 hx hlk (t := .boolean) hret (by simp) (hb hby d_prog_17_method_2_42) ?_ (by decide) (by decide)
            rw [e0]
            exact ⟨(own_rb (by simp [own_wi, own_wb, c524, c525, c526, c527, c528])), N0, rfl⟩
          · refine g_icmpNo X0 hx 30 (hb hby d_prog_17_method_2_27) (own_ii_eq_f c528) rfl ?_
            refine g_iload_n X0 hx 31 (hb hby d_prog_17_method_2_30) rfl rfl ?_
            refine g_sipush X0 hx 34 (hb hby d_prog_17_method_2_31) (160 : Int32) rfl rfl ?_
            by_cases c529 : xc = (160 : Int32)
            · refine g_icmpNo X0 hx 37 (hb hby d_prog_17_method_2_34) (own_ii_ne_f c529) rfl ?_
              refine g_iconst X0 hx 38 (hb hby d_prog_17_method_2_37) (1 : Int32) rfl rfl ?_
              refine g_goto X0 hx 42 (hb hby d_prog_17_method_2_38) (by decide) (by decide) ?_
              refine own_retN X0 hx hlk (t := .boolean) hret (by simp) (hb hby d_prog_17_method_2_42) ?_ (by decide) (by decide)
              rw [e0]
              exact ⟨(own_rb (by simp [own_wi, own_wb, c524, c525, c526, c527, c528, c529])), N0, rfl⟩
            · refine g_icmpYes X0 hx 41 (hb hby d_prog_17_method_2_34) (own_ii_ne_t c529) (by decide) (by decide) ?_
              refine g_iconst X0 hx 42 (hb hby d_prog_17_method_2_41) (0 : Int32) rfl rfl ?_
              refine own_retN X0 hx hlk (t := .boolean) hret (by simp) (hb hby d_prog_17_method_2_42) ?_ (by decide) (by decide)
              rw [e0]
              exact ⟨(own_rb (by simp [own_wi, own_wb, c524, c525, c526, c527, c528, c529])), N0, rfl⟩
theorem d_method_4_0 : decode method_4_code 0 = .ok (.iload_n 0, 1) := by decide +kernel
theorem d_method_4_1 : decode method_4_code 1 = .ok (.bipush 32, 2) := by decide +kernel
theorem d_method_4_3 : decode method_4_code 3 = .ok (.if_icmp .eq 34, 3) := by decide +kernel
theorem d_method_4_37 : decode method_4_code 37 = .ok (.iconst 1, 1) := by decide +kernel
theorem d_method_4_38 : decode method_4_code 38 = .ok (.goto 4, 3) := by decide +kernel
theorem d_method_4_42 : decode method_4_code 42 = .ok (.ireturn, 1) := by decide +kernel
theorem d_method_4_6 : decode method_4_code 6 = .ok (.iload_n 0, 1) := by decide +kernel
theorem d_method_4_7 : decode method_4_code 7 = .ok (.bipush 9, 2) := by decide +kernel
theorem d_method_4_9 : decode method_4_code 9 = .ok (.if_icmp .eq 28, 3) := by decide +kernel
theorem d_method_4_12 : decode method_4_code 12 = .ok (.iload_n 0, 1) := by decide +kernel
theorem d_method_4_13 : decode method_4_code 13 = .ok (.bipush 10, 2) := by decide +kernel
theorem d_method_4_15 : decode method_4_code 15 = .ok (.if_icmp .eq 22, 3) := by decide +kernel
theorem d_method_4_18 : decode method_4_code 18 = .ok (.iload_n 0, 1) := by decide +kernel
theorem d_method_4_19 : decode method_4_code 19 = .ok (.bipush 13, 2) := by decide +kernel
theorem d_method_4_21 : decode method_4_code 21 = .ok (.if_icmp .eq 16, 3) := by decide +kernel
theorem d_method_4_24 : decode method_4_code 24 = .ok (.iload_n 0, 1) := by decide +kernel
theorem d_method_4_25 : decode method_4_code 25 = .ok (.bipush 12, 2) := by decide +kernel
theorem d_method_4_27 : decode method_4_code 27 = .ok (.if_icmp .eq 10, 3) := by decide +kernel
theorem d_method_4_30 : decode method_4_code 30 = .ok (.iload_n 0, 1) := by decide +kernel
theorem d_method_4_31 : decode method_4_code 31 = .ok (.sipush 160, 3) := by decide +kernel
theorem d_method_4_34 : decode method_4_code 34 = .ok (.if_icmp .ne 7, 3) := by decide +kernel
theorem d_method_4_41 : decode method_4_code 41 = .ok (.iconst 0, 1) := by decide +kernel
theorem pn_8 : plainName "com/example/honbun/honbun/WhiteSpaceTrimPinLaw" = true := by first | (simp [plainName, overriddenIn]; done) | decide +kernel
def Q_lws (Z : State) (xc : Int32) (h0 : Heap) (n0 : Nat) (v : Option Value) (h : Heap) (L : List Loc) : Prop := v = some (.int (own_wi xc)) ∧ Fr n0 L ∧ h = h0
set_option maxRecDepth 65536 in
set_option maxHeartbeats 40000000 in
theorem rm_lws (l : Launch) (Z : State) (a0 : Array Value) (hw : ∀ d ∈ tables_1, d.before a0 Z = true) (ws : List Jvm.Cond) (xc : Int32) (h0 : Heap) (n0 : Nat) (Z0 : n0 ≤ h0.size) :
    MetFree l (⟨"com/example/honbun/honbun/WhiteSpaceTrimPinLaw", "ws", "(C)Z"⟩ : MethodName) (head1 (Jvm.Cond.code (⟨"com/example/honbun/honbun/WhiteSpaceTrimPinLaw", "ws", "(C)Z"⟩ : MethodName) method_4_code 1 (some .boolean) :: ws) ({ frames := 0, cells := 0, slots := 0, locals := 0 } : Room)) (fun aA U => aA = #[(.int xc)] ∧ Z.Warmed39 U.vm ∧ U.heap = h0) (fun _ _ _ _ _ => True) (fun _ U oO U' => ∃ vV LL, oO = .returned vV ∧ Q_lws Z xc h0 n0 vV U'.heap LL ∧ FrameEnd U oO U' LL ({ frames := 0, cells := 0, slots := 0, locals := 0 } : Room).cells ({ frames := 0, cells := 0, slots := 0, locals := 0 } : Room).slots) := by
  refine MetFree.of_bodySF (plainFor_of_name pn_8) hisR ?_
  intro p e s m args below meth c s₁ Bd hml0 hP hK
  obtain ⟨rfl, hZ, hh⟩ := hP
  have hx := Bd.exec
  have hby := Bd.bytes
  have hml : c.maxLocals = 1 := hml0
  have hown : s.vm.findClass "com/example/honbun/honbun/WhiteSpaceTrimPinLaw" = some m.cls := findClass_of_methodNamed Bd.named
  have hnm := (name_of_methodNamed Bd.named Bd.method).1
  have X0 : Stand p l e ({ frames := 0, cells := 0, slots := 0, locals := 0 } : Room) s m #[(.int xc)] below meth c s₁ [] 0 0 := Stand.of_body Bd
  have e0 : s₁.heap = h0 := by rw [← hh, Bd.state]; rfl
  have N0 := Fr.nil n0
  have hret := Bd.returns
  have hlk : meth.locks = false := Bd.notSynchronized
  refine own_start (ef_10 m xc) ?_
  show own_Go p e below s (Q_lws Z xc h0 n0) ({ frames := 0, cells := 0, slots := 0, locals := 0 } : Room).cells ({ frames := 0, cells := 0, slots := 0, locals := 0 } : Room).slots (s₁.setTop (mkF m 0 #[.val (.int xc)] []))
  refine g_iload_n X0 hx 1 (hb hby d_method_4_0) rfl rfl ?_
  refine g_bipush X0 hx 3 (hb hby d_method_4_1) (32 : Int32) rfl rfl ?_
  by_cases c530 : xc = (32 : Int32)
  · refine g_icmpYes X0 hx 37 (hb hby d_method_4_3) (own_ii_eq_t c530) (by decide) (by decide) ?_
    refine g_iconst X0 hx 38 (hb hby d_method_4_37) (1 : Int32) rfl rfl ?_
    refine g_goto X0 hx 42 (hb hby d_method_4_38) (by decide) (by decide) ?_
    refine own_retN X0 hx hlk (t := .boolean) hret (by simp) (hb hby d_method_4_42) ?_ (by decide) (by decide)
    rw [e0]
    exact ⟨(own_rb (by simp [own_wi, own_wb, c530])), N0, rfl⟩
  · refine g_icmpNo X0 hx 6 (hb hby d_method_4_3) (own_ii_eq_f c530) rfl ?_
    refine g_iload_n X0 hx 7 (hb hby d_method_4_6) rfl rfl ?_
    refine g_bipush X0 hx 9 (hb hby d_method_4_7) (9 : Int32) rfl rfl ?_
    by_cases c531 : xc = (9 : Int32)
    · refine g_icmpYes X0 hx 37 (hb hby d_method_4_9) (own_ii_eq_t c531) (by decide) (by decide) ?_
      refine g_iconst X0 hx 38 (hb hby d_method_4_37) (1 : Int32) rfl rfl ?_
      refine g_goto X0 hx 42 (hb hby d_method_4_38) (by decide) (by decide) ?_
      refine own_retN X0 hx hlk (t := .boolean) hret (by simp) (hb hby d_method_4_42) ?_ (by decide) (by decide)
      rw [e0]
      exact ⟨(own_rb (by simp [own_wi, own_wb, c530, c531])), N0, rfl⟩
    · refine g_icmpNo X0 hx 12 (hb hby d_method_4_9) (own_ii_eq_f c531) rfl ?_
      refine g_iload_n X0 hx 13 (hb hby d_method_4_12) rfl rfl ?_
      refine g_bipush X0 hx 15 (hb hby d_method_4_13) (10 : Int32) rfl rfl ?_
      by_cases c532 : xc = (10 : Int32)
      · refine g_icmpYes X0 hx 37 (hb hby d_method_4_15) (own_ii_eq_t c532) (by decide) (by decide) ?_
        refine g_iconst X0 hx 38 (hb hby d_method_4_37) (1 : Int32) rfl rfl ?_
        refine g_goto X0 hx 42 (hb hby d_method_4_38) (by decide) (by decide) ?_
        refine own_retN X0 hx hlk (t := .boolean) hret (by simp) (hb hby d_method_4_42) ?_ (by decide) (by decide)
        rw [e0]
        exact ⟨(own_rb (by simp [own_wi, own_wb, c530, c531, c532])), N0, rfl⟩
      · refine g_icmpNo X0 hx 18 (hb hby d_method_4_15) (own_ii_eq_f c532) rfl ?_
        refine g_iload_n X0 hx 19 (hb hby d_method_4_18) rfl rfl ?_
        refine g_bipush X0 hx 21 (hb hby d_method_4_19) (13 : Int32) rfl rfl ?_
        by_cases c533 : xc = (13 : Int32)
        · refine g_icmpYes X0 hx 37 (hb hby d_method_4_21) (own_ii_eq_t c533) (by decide) (by decide) ?_
          refine g_iconst X0 hx 38 (hb hby d_method_4_37) (1 : Int32) rfl rfl ?_
          refine g_goto X0 hx 42 (hb hby d_method_4_38) (by decide) (by decide) ?_
          refine own_retN X0 hx hlk (t := .boolean) hret (by simp) (hb hby d_method_4_42) ?_ (by decide) (by decide)
          rw [e0]
          exact ⟨(own_rb (by simp [own_wi, own_wb, c530, c531, c532, c533])), N0, rfl⟩
        · refine g_icmpNo X0 hx 24 (hb hby d_method_4_21) (own_ii_eq_f c533) rfl ?_
          refine g_iload_n X0 hx 25 (hb hby d_method_4_24) rfl rfl ?_
          refine g_bipush X0 hx 27 (hb hby d_method_4_25) (12 : Int32) rfl rfl ?_
          by_cases c534 : xc = (12 : Int32)
          · refine g_icmpYes X0 hx 37 (hb hby d_method_4_27) (own_ii_eq_t c534) (by decide) (by decide) ?_
            refine g_iconst X0 hx 38 (hb hby d_method_4_37) (1 : Int32) rfl rfl ?_
            refine g_goto X0 hx 42 (hb hby d_method_4_38) (by decide) (by decide) ?_
            refine own_retN X0 hx hlk (t := .boolean) hret (by simp) (hb hby d_method_4_42) ?_ (by decide) (by decide)
            rw [e0]
            exact ⟨(own_rb (by simp [own_wi, own_wb, c530, c531, c532, c533, c534])), N0, rfl⟩
          · refine g_icmpNo X0 hx 30 (hb hby d_method_4_27) (own_ii_eq_f c534) rfl ?_
            refine g_iload_n X0 hx 31 (hb hby d_method_4_30) rfl rfl ?_
            refine g_sipush X0 hx 34 (hb hby d_method_4_31) (160 : Int32) rfl rfl ?_
            by_cases c535 : xc = (160 : Int32)
            · refine g_icmpNo X0 hx 37 (hb hby d_method_4_34) (own_ii_ne_f c535) rfl ?_
              refine g_iconst X0 hx 38 (hb hby d_method_4_37) (1 : Int32) rfl rfl ?_
              refine g_goto X0 hx 42 (hb hby d_method_4_38) (by decide) (by decide) ?_
              refine own_retN X0 hx hlk (t := .boolean) hret (by simp) (hb hby d_method_4_42) ?_ (by decide) (by decide)
              rw [e0]
              exact ⟨(own_rb (by simp [own_wi, own_wb, c530, c531, c532, c533, c534, c535])), N0, rfl⟩
            · refine g_icmpYes X0 hx 41 (hb hby d_method_4_34) (own_ii_ne_t c535) (by decide) (by decide) ?_
              refine g_iconst X0 hx 42 (hb hby d_method_4_41) (0 : Int32) rfl rfl ?_
              refine own_retN X0 hx hlk (t := .boolean) hret (by simp) (hb hby d_method_4_42) ?_ (by decide) (by decide)
              rw [e0]
              exact ⟨(own_rb (by simp [own_wi, own_wb, c530, c531, c532, c533, c534, c535])), N0, rfl⟩
theorem d_prog_17_method_5_0 : decode prog_17_method_5_code 0 = .ok (.iload_n 1, 1) := by decide +kernel
theorem d_prog_17_method_5_1 : decode prog_17_method_5_code 1 = .ok (.istore_n 3, 1) := by decide +kernel
theorem d_prog_17_method_5_2 : decode prog_17_method_5_code 2 = .ok (.iload_n 2, 1) := by decide +kernel
theorem d_prog_17_method_5_3 : decode prog_17_method_5_code 3 = .ok (.istore 4, 2) := by decide +kernel
theorem d_prog_17_method_5_54 : decode prog_17_method_5_code 54 = .ok (.aload_n 0, 1) := by decide +kernel
theorem d_prog_17_method_5_55 : decode prog_17_method_5_code 55 = .ok (.iload_n 3, 1) := by decide +kernel
theorem d_prog_17_method_5_56 : decode prog_17_method_5_code 56 = .ok (.iload 4, 2) := by decide +kernel
theorem d_prog_17_method_5_58 : decode prog_17_method_5_code 58 = .ok (.invokevirtual 31, 3) := by decide +kernel
theorem pd_24 : parseMethodDescriptor "(II)Ljava/lang/String;" = some ⟨[.int, .int], some (.object "java/lang/String")⟩ := by decide +kernel
theorem d_prog_17_method_5_61 : decode prog_17_method_5_code 61 = .ok (.areturn, 1) := by decide +kernel
theorem d_prog_17_method_5_28 : decode prog_17_method_5_code 28 = .ok (.iload 4, 2) := by decide +kernel
theorem d_prog_17_method_5_30 : decode prog_17_method_5_code 30 = .ok (.iload_n 3, 1) := by decide +kernel
theorem d_prog_17_method_5_31 : decode prog_17_method_5_code 31 = .ok (.if_icmp .le 23, 3) := by decide +kernel
theorem d_prog_17_method_5_34 : decode prog_17_method_5_code 34 = .ok (.aload_n 0, 1) := by decide +kernel
theorem d_prog_17_method_5_35 : decode prog_17_method_5_code 35 = .ok (.iload 4, 2) := by decide +kernel
theorem d_prog_17_method_5_37 : decode prog_17_method_5_code 37 = .ok (.iconst 1, 1) := by decide +kernel
theorem d_prog_17_method_5_38 : decode prog_17_method_5_code 38 = .ok (.isub, 1) := by decide +kernel
theorem d_prog_17_method_5_39 : decode prog_17_method_5_code 39 = .ok (.invokevirtual 30, 3) := by decide +kernel
theorem pd_25 : parseMethodDescriptor "(I)C" = some ⟨[.int], some .char⟩ := by decide +kernel
theorem d_prog_17_method_5_42 : decode prog_17_method_5_code 42 = .ok (.invokestatic 17, 3) := by decide +kernel
theorem pd_26 : parseMethodDescriptor "(C)Z" = some ⟨[.char], some .boolean⟩ := by decide +kernel
theorem d_prog_17_method_5_45 : decode prog_17_method_5_code 45 = .ok (.ifCond .eq 9, 3) := by decide +kernel
theorem d_prog_17_method_5_48 : decode prog_17_method_5_code 48 = .ok (.iinc 4 (-1), 3) := by decide +kernel
theorem d_prog_17_method_5_51 : decode prog_17_method_5_code 51 = .ok (.goto (-23), 3) := by decide +kernel
theorem d_prog_17_method_5_5 : decode prog_17_method_5_code 5 = .ok (.iload_n 3, 1) := by decide +kernel
theorem d_prog_17_method_5_6 : decode prog_17_method_5_code 6 = .ok (.iload 4, 2) := by decide +kernel
theorem d_prog_17_method_5_8 : decode prog_17_method_5_code 8 = .ok (.if_icmp .ge 20, 3) := by decide +kernel
theorem d_prog_17_method_5_11 : decode prog_17_method_5_code 11 = .ok (.aload_n 0, 1) := by decide +kernel
theorem d_prog_17_method_5_12 : decode prog_17_method_5_code 12 = .ok (.iload_n 3, 1) := by decide +kernel
theorem d_prog_17_method_5_13 : decode prog_17_method_5_code 13 = .ok (.invokevirtual 30, 3) := by decide +kernel
theorem d_prog_17_method_5_16 : decode prog_17_method_5_code 16 = .ok (.invokestatic 17, 3) := by decide +kernel
theorem d_prog_17_method_5_19 : decode prog_17_method_5_code 19 = .ok (.ifCond .eq 9, 3) := by decide +kernel
theorem d_prog_17_method_5_22 : decode prog_17_method_5_code 22 = .ok (.iinc 3 1, 3) := by decide +kernel
theorem d_prog_17_method_5_25 : decode prog_17_method_5_code 25 = .ok (.goto (-20), 3) := by decide +kernel
def Q_tr (Z : State) (o : Addr) (sv : Int32) (ev : Int32) (cs : List Int32) (zc : Int32) (fm : Value) (h0 : Heap) (n0 : Nat) (v : Option Value) (h : Heap) (L : List Loc) : Prop := ∃ r : Nat, v = some (.ref r) ∧ Fr n0 L ∧ Keep h0 h [] ∧ own_Str Z h r (own_cut sv.toInt.toNat ev.toInt.toNat cs)
def QW_tr (Z : State) (o : Addr) (sv : Int32) (ev : Int32) (cs : List Int32) (zc : Int32) (fm : Value) (h0 : Heap) (n0 : Nat) (v : Option Value) (vm : Vm) (h : Heap) (L : List Loc) : Prop := Q_tr Z o sv ev cs zc fm h0 n0 v h L ∧ True
set_option maxRecDepth 65536 in
set_option maxHeartbeats 40000000 in
theorem rm_tr (l : Launch) (Z : State) (a0 : Array Value) (hw : ∀ d ∈ tables_1, d.before a0 Z = true) (ws : List Jvm.Cond) (o : Addr) (sv : Int32) (ev : Int32) (cs : List Int32) (zc : Int32) (fm : Value) (h0 : Heap) (n0 : Nat) (Z0 : n0 ≤ h0.size) (E_o : Exa Z h0 o "java/lang/String") (S_COMPACT_STRINGS : Sta Z h0 "java/lang/String" "COMPACT_STRINGS" "Z" (.int zc)) (S_SIOOBE_FORMATTER : Sta Z h0 "jdk/internal/util/Preconditions" "SIOOBE_FORMATTER" "Ljava/util/function/BiFunction;" fm) (S__assertionsDisabled : Sta Z h0 "java/lang/StringUTF16" "$assertionsDisabled" "Z" (.int (1 : Int32))) (S_HI_BYTE_SHIFT : Sta Z h0 "java/lang/StringUTF16" "HI_BYTE_SHIFT" "I" (.int (0 : Int32))) (S_LO_BYTE_SHIFT : Sta Z h0 "java/lang/StringUTF16" "LO_BYTE_SHIFT" "I" (.int (8 : Int32))) (STR : own_Str Z h0 o cs) (hz : ¬ (zc = (0 : Int32))) (KZ : ∀ (b : Addr) (cl : Cell), Z.heap[b]? = some cl → h0[b]? = some cl) (hH1 : Jvm.Lit.constHeld Z "java/lang/StringLatin1" 151) (hH2 : Jvm.Lit.constHeld Z "java/lang/StringUTF16" 295) (hcw : Jvm.Lit.compactW.before a0 Z = true) (h5 : cs.length = 5) (hse : own_T sv ev) (hfm : fm.isRef = true) :
    MetFree l (⟨"com/example/honbun/honbun/WhiteSpace", "trim", "(Ljava/lang/String;II)Ljava/lang/String;"⟩ : MethodName) (head1 (Jvm.Cond.code (⟨"com/example/honbun/honbun/WhiteSpace", "trim", "(Ljava/lang/String;II)Ljava/lang/String;"⟩ : MethodName) prog_17_method_5_code 5 (some (.object "java/lang/String")) :: ws) ({ frames := 7, cells := 3, slots := 24, locals := 110 } : Room)) (fun aA U => aA = #[(.ref o), (.int sv), (.int ev)] ∧ Z.Warmed39 U.vm ∧ U.heap = h0 ∧ own_LD Z U.vm h0) (fun _ _ _ _ _ => True) (fun _ U oO U' => ∃ vV LL, oO = .returned vV ∧ (Q_tr Z o sv ev cs zc fm h0 n0 vV U'.heap LL ∧ True) ∧ ReturnedEndW U oO U' LL ({ frames := 7, cells := 3, slots := 24, locals := 110 } : Room).cells ({ frames := 7, cells := 3, slots := 24, locals := 110 } : Room).slots) := by
  refine MetFree.of_bodySF (plainFor_of_name pn_7) hisR ?_
  intro p e s m args below meth c s₁ Bd hml0 hP hK
  obtain ⟨rfl, hZ0, hh, D0⟩ := hP
  have hx := Bd.exec
  have hby := Bd.bytes
  have hml : c.maxLocals = 5 := hml0
  have hZ : Z.Warmed39 (s.setVm s.vm).vm := hZ0
  have hown : (s.setVm s.vm).vm.findClass "com/example/honbun/honbun/WhiteSpace" = some m.cls := findClass_of_methodNamed Bd.named
  have hnm := (name_of_methodNamed Bd.named Bd.method).1
  have X0 : Stand p l e ({ frames := 7, cells := 3, slots := 24, locals := 110 } : Room) (s.setVm s.vm) m #[(.ref o), (.int sv), (.int ev)] below meth c s₁ [] 0 0 := Stand.of_body Bd
  have hS : s.Since s.vm 0 := (State.WarmedH.refl s).since 0
  have hSk : 0 ≤ h0.size := Nat.zero_le _
  have e0 : s₁.heap = h0 := by rw [← hh, Bd.state]; rfl
  have N0 := Fr.nil n0
  have hret := Bd.returns
  have hlk : meth.locks = false := Bd.notSynchronized
  refine own_start (ef_7 m o sv ev) ?_
  show own_GoE p e below (fun oO vV UU LL => QW_tr Z o sv ev cs zc fm h0 n0 vV UU.vm UU.heap LL ∧ ReturnedEndW s oO UU LL ({ frames := 7, cells := 3, slots := 24, locals := 110 } : Room).cells ({ frames := 7, cells := 3, slots := 24, locals := 110 } : Room).slots) (s₁.setTop (mkF m 0 #[.val (.ref o), .val (.int sv), .val (.int ev), .unset, .unset] []))
  refine g_iload_n X0 hx 1 (hb hby d_prog_17_method_5_0) rfl rfl ?_
  refine g_istore_n X0 hx 2 (hb hby d_prog_17_method_5_1) (l' := #[.val (.ref o), .val (.int sv), .val (.int ev), .val (.int sv), .unset]) rfl rfl ?_
  refine g_iload_n X0 hx 3 (hb hby d_prog_17_method_5_2) rfl rfl ?_
  refine g_istore X0 hx 5 (hb hby d_prog_17_method_5_3) (l' := #[.val (.ref o), .val (.int sv), .val (.int ev), .val (.int sv), .val (.int ev)]) rfl rfl ?_
  have fin : ∀ (ii : Int32) (jj : Int32) (TQ : State) (LQ : List Loc) (XQ : Stand p l e ({ frames := 7, cells := 3, slots := 24, locals := 110 } : Room) (s.setVm s.vm) m #[(.ref o), (.int sv), (.int ev)] below meth c TQ LQ 0 0) (eQ : TQ.heap = h0) (NQ : Fr n0 LQ) (hF : own_F (cs.map own_wb) ev.toInt.toNat 6 sv.toInt.toNat = ii.toInt.toNat) (hL : own_L (cs.map own_wb) ii.toInt.toNat 6 ev.toInt.toNat = jj.toInt.toNat) (hT : own_T ii jj), own_GoE p e below (fun oO vV UU LL => QW_tr Z o sv ev cs zc fm h0 n0 vV UU.vm UU.heap LL ∧ ReturnedEndW s oO UU LL ({ frames := 7, cells := 3, slots := 24, locals := 110 } : Room).cells ({ frames := 7, cells := 3, slots := 24, locals := 110 } : Room).slots) (TQ.setTop (mkF m 54 #[.val (.ref o), .val (.int sv), .val (.int ev), .val (.int ii), .val (.int jj)] [])) := by
    intro ii jj TQ LQ XQ eQ NQ hF hL hT
    rcases own_3 h5 hT with qw | qd | qe
    · show own_GoE p e below _ (TQ.setTop (mkF m 54 _ []))
      refine g_aload_n XQ hx 55 (hb hby d_prog_17_method_5_54) rfl rfl rfl ?_
      refine g_iload_n XQ hx 56 (hb hby d_prog_17_method_5_55) rfl rfl ?_
      refine g_iload XQ hx 58 (hb hby d_prog_17_method_5_56) rfl rfl ?_
      refine own_callV XQ hx hZ hown (hw _ (List.mem_of_getElem? (i := 39) rfl)) (hw _ (List.mem_of_getElem? (i := 40) rfl)) (own_nf hZ (hw _ (List.mem_of_getElem? (i := 42) rfl))) (hw _ (List.mem_of_getElem? (i := 42) rfl)) (hw _ (List.mem_of_getElem? (i := 41) rfl)) (by decide) (rm_suW l Z a0 hw [] o ii jj cs zc fm h0 n0 Z0 S_COMPACT_STRINGS S_SIOOBE_FORMATTER S__assertionsDisabled S_HI_BYTE_SHIFT S_LO_BYTE_SHIFT STR hz (Nat.le_of_eq h5) qw.1 qw.2 hfm) (hw _ (List.mem_of_getElem? (i := 43) rfl)) (hw _ (List.mem_of_getElem? (i := 7) rfl)) eQ 0 (by decide) (by decide) (by decide) (by decide) E_o [(.int ii), (.int jj)] [] rfl pd_24 rfl 61 rfl (by rw [hml]; rfl) rfl (hb hby d_prog_17_method_5_58) rfl fun T536 v536 L536 X536 hQ536 => ?_
      obtain ⟨rfl, Nq536, e536⟩ := hQ536
      have N536 := Fr.app NQ Nq536
      show own_GoE p e below _ (T536.setTop (mkF m 61 _ [(.ref o)]))
      refine own_retAW X536 hS (by rw [e536]; exact hSk) hx hlk hret rfl rfl (hb hby d_prog_17_method_5_61) ?_ (by decide) (by decide)
      rw [e536]
      refine ⟨?_, trivial⟩
      exact ⟨o, rfl, N536, (Keep.refl h0 []), (own_cutR (own_k1 hF hL h5 qw) STR)⟩
    · show own_GoE p e below _ (TQ.setTop (mkF m 54 _ []))
      refine g_aload_n XQ hx 55 (hb hby d_prog_17_method_5_54) rfl rfl rfl ?_
      refine g_iload_n XQ hx 56 (hb hby d_prog_17_method_5_55) rfl rfl ?_
      refine g_iload XQ hx 58 (hb hby d_prog_17_method_5_56) rfl rfl ?_
      refine own_callV XQ hx hZ hown (hw _ (List.mem_of_getElem? (i := 39) rfl)) (hw _ (List.mem_of_getElem? (i := 40) rfl)) (own_nf hZ (hw _ (List.mem_of_getElem? (i := 42) rfl))) (hw _ (List.mem_of_getElem? (i := 42) rfl)) (hw _ (List.mem_of_getElem? (i := 41) rfl)) (by decide) (rm_suN l Z a0 hw [] o ii jj cs zc fm h0 n0 Z0 S_COMPACT_STRINGS S_SIOOBE_FORMATTER S__assertionsDisabled S_HI_BYTE_SHIFT S_LO_BYTE_SHIFT STR hz (Nat.le_of_eq h5) qd hfm) (hw _ (List.mem_of_getElem? (i := 43) rfl)) (hw _ (List.mem_of_getElem? (i := 7) rfl)) eQ 0 (by decide) (by decide) (by decide) (by decide) E_o [(.int ii), (.int jj)] [] rfl pd_24 rfl 61 rfl (by rw [hml]; rfl) rfl (hb hby d_prog_17_method_5_58) rfl fun T537 v537 L537 X537 hQ537 => ?_
      obtain ⟨r_537, rfl, Nq537, Kq537, g_r_537, sz_r_537, st537_0⟩ := hQ537
      have ne538 : o ≠ r_537 := Nat.ne_of_lt (Nat.lt_of_lt_of_le E_o.lt sz_r_537)
      have N537 := Fr.app NQ Nq537
      have sq_r_537 : h0.size ≤ r_537 := Nat.le_trans (Keep.refl h0 []).1 sz_r_537
      have K539 : Keep h0 T537.heap [] := (Keep.refl h0 []).trans Kq537 all0
      have z540 : n0 ≤ T537.heap.size := (Nat.le_trans Z0 Kq537.1)
      have z541 : _ ≤ T537.heap.size := (Nat.le_trans hSk Kq537.1)
      show own_GoE p e below _ (T537.setTop (mkF m 61 _ [(.ref r_537)]))
      refine own_retAW X537 hS z541 hx hlk hret rfl rfl (hb hby d_prog_17_method_5_61) ?_ (by decide) (by decide)
      refine ⟨?_, trivial⟩
      exact ⟨r_537, rfl, N537, K539, (own_cutR (own_k2 hF hL hT) st537_0)⟩
    · rw [qe.1]
      show own_GoE p e below _ (TQ.setTop (mkF m 54 _ []))
      refine g_aload_n XQ hx 55 (hb hby d_prog_17_method_5_54) rfl rfl rfl ?_
      refine g_iload_n XQ hx 56 (hb hby d_prog_17_method_5_55) rfl rfl ?_
      refine g_iload XQ hx 58 (hb hby d_prog_17_method_5_56) rfl rfl ?_
      refine own_callVW XQ hx hZ hown (hw _ (List.mem_of_getElem? (i := 39) rfl)) (hw _ (List.mem_of_getElem? (i := 40) rfl)) (own_nf hZ (hw _ (List.mem_of_getElem? (i := 42) rfl))) (hw _ (List.mem_of_getElem? (i := 42) rfl)) (hw _ (List.mem_of_getElem? (i := 41) rfl)) (by decide) (rm_suE l Z a0 hw [] o ii cs zc fm h0 n0 Z0 S_COMPACT_STRINGS S_SIOOBE_FORMATTER S__assertionsDisabled S_HI_BYTE_SHIFT S_LO_BYTE_SHIFT STR hz (Nat.le_of_eq h5) qe.2 KZ hH1 hH2 hcw hfm) (hw _ (List.mem_of_getElem? (i := 43) rfl)) (hw _ (List.mem_of_getElem? (i := 7) rfl)) eQ D0 hS hSk 0 (by decide) (by decide) (by decide) (by decide) E_o [(.int ii), (.int ii)] [] rfl pd_24 rfl 61 rfl (by rw [hml]; rfl) rfl (hb hby d_prog_17_method_5_58) rfl fun T542 v542 L542 X542 hS hZ hown hQ542 D542 => ?_
      obtain ⟨r_542, rfl, Nq542, Kq542, st542_0⟩ := hQ542
      have N542 := Fr.app NQ Nq542
      have K543 : Keep h0 T542.heap [] := (Keep.refl h0 []).trans Kq542 all0
      have z544 : n0 ≤ T542.heap.size := (Nat.le_trans Z0 Kq542.1)
      show own_GoE p e below _ (T542.setTop (mkF m 61 _ [(.ref r_542)]))
      refine own_retAW X542 hS (Nat.le_refl _) hx hlk hret rfl rfl (hb hby d_prog_17_method_5_61) ?_ (by decide) (by decide)
      refine ⟨?_, trivial⟩
      exact ⟨r_542, rfl, N542, K543, (own_cutR (own_k3 hF hL qe.1) st542_0)⟩
  have l2 : ∀ (kq : Nat) (ii : Int32) (jj : Int32) (TQ : State) (LQ : List Loc) (XQ : Stand p l e ({ frames := 7, cells := 3, slots := 24, locals := 110 } : Room) (s.setVm s.vm) m #[(.ref o), (.int sv), (.int ev)] below meth c TQ LQ 0 0) (eQ : TQ.heap = h0) (NQ : Fr n0 LQ) (hF : own_F (cs.map own_wb) ev.toInt.toNat 6 sv.toInt.toNat = ii.toInt.toNat) (hL : own_L (cs.map own_wb) ii.toInt.toNat 6 ev.toInt.toNat = own_L (cs.map own_wb) ii.toInt.toNat kq jj.toInt.toNat) (hT : own_T ii jj) (hk : jj.toInt ≤ ii.toInt + (kq : Int)), own_GoE p e below (fun oO vV UU LL => QW_tr Z o sv ev cs zc fm h0 n0 vV UU.vm UU.heap LL ∧ ReturnedEndW s oO UU LL ({ frames := 7, cells := 3, slots := 24, locals := 110 } : Room).cells ({ frames := 7, cells := 3, slots := 24, locals := 110 } : Room).slots) (TQ.setTop (mkF m 28 #[.val (.ref o), .val (.int sv), .val (.int ev), .val (.int ii), .val (.int jj)] [])) := by
    intro kq
    induction kq with
    | zero =>
      intro ii jj TQ LQ XQ eQ NQ hF hL hT hk
      refine g_iload XQ hx 30 (hb hby d_prog_17_method_5_28) rfl rfl ?_
      refine g_iload_n XQ hx 31 (hb hby d_prog_17_method_5_30) rfl rfl ?_
      have c545 : ¬ (ii < jj) := own_i0 hk
      refine g_icmpYes XQ hx 54 (hb hby d_prog_17_method_5_31) (own_ii_le_t c545) (by decide) (by decide) ?_
      exact fin ii jj TQ _ XQ eQ NQ hF (hL.trans (own_Lx hT (Or.inl c545) _)) hT
    | succ kq ih =>
      intro ii jj TQ LQ XQ eQ NQ hF hL hT hk
      refine g_iload XQ hx 30 (hb hby d_prog_17_method_5_28) rfl rfl ?_
      refine g_iload_n XQ hx 31 (hb hby d_prog_17_method_5_30) rfl rfl ?_
      by_cases c546 : ii < jj
      · refine g_icmpNo XQ hx 34 (hb hby d_prog_17_method_5_31) (own_ii_le_f c546) rfl ?_
        refine g_aload_n XQ hx 35 (hb hby d_prog_17_method_5_34) rfl rfl rfl ?_
        refine g_iload XQ hx 37 (hb hby d_prog_17_method_5_35) rfl rfl ?_
        refine g_iconst XQ hx 38 (hb hby d_prog_17_method_5_37) (1 : Int32) rfl rfl ?_
        refine g_isub XQ hx 39 (hb hby d_prog_17_method_5_38) rfl ?_
        refine own_callV XQ hx hZ hown (hw _ (List.mem_of_getElem? (i := 86) rfl)) (hw _ (List.mem_of_getElem? (i := 87) rfl)) (own_nf hZ (hw _ (List.mem_of_getElem? (i := 89) rfl))) (hw _ (List.mem_of_getElem? (i := 89) rfl)) (hw _ (List.mem_of_getElem? (i := 88) rfl)) (by decide) (rm_chS l Z a0 hw [] o (jj - (1 : Int32)) cs zc fm h0 n0 Z0 S_COMPACT_STRINGS S_SIOOBE_FORMATTER S__assertionsDisabled S_HI_BYTE_SHIFT S_LO_BYTE_SHIFT STR hz (Nat.le_of_eq h5) (own_g1 c546 hT) (own_g2 h5 c546 hT) hfm) (hw _ (List.mem_of_getElem? (i := 90) rfl)) (hw _ (List.mem_of_getElem? (i := 7) rfl)) eQ 0 (by decide) (by decide) (by decide) (by decide) E_o [(.int (jj - (1 : Int32)))] [] rfl pd_25 rfl 42 rfl (by rw [hml]; rfl) rfl (hb hby d_prog_17_method_5_39) rfl fun T547 v547 L547 X547 hQ547 => ?_
        obtain ⟨rfl, Nq547, e547⟩ := hQ547
        have N547 := Fr.app NQ Nq547
        show own_GoE p e below _ (T547.setTop (mkF m 42 _ [(.int (own_at cs (jj - (1 : Int32))))]))
        refine own_callS X547 hx hZ hown (hw _ (List.mem_of_getElem? (i := 100) rfl)) (hw _ (List.mem_of_getElem? (i := 101) rfl)) (by decide) (rm_iws l Z a0 hw [] (own_at cs (jj - (1 : Int32))) h0 n0 Z0 ) (hw _ (List.mem_of_getElem? (i := 102) rfl)) (hw _ (List.mem_of_getElem? (i := 37) rfl)) e547 0 (by decide) (by decide) (by decide) (by decide) [(.int (own_at cs (jj - (1 : Int32))))] [] rfl pd_26 rfl 45 rfl (by rw [hml]; rfl) rfl (hb hby d_prog_17_method_5_42) rfl fun T548 v548 L548 X548 hQ548 => ?_
        obtain ⟨rfl, Nq548, e548⟩ := hQ548
        have N548 := Fr.app N547 Nq548
        show own_GoE p e below _ (T548.setTop (mkF m 45 _ [(.int (own_wi (own_at cs (jj - (1 : Int32)))))]))
        by_cases c549 : (own_wi (own_at cs (jj - (1 : Int32)))) = (0 : Int32)
        · refine g_ifYes X548 hx 54 (hb hby d_prog_17_method_5_45) (own_i0_eq_t c549) (by decide) (by decide) ?_
          exact fin ii jj T548 _ X548 e548 N548 hF (hL.trans (own_Lx hT (Or.inr ⟨c546, c549⟩) _)) hT
        · refine g_ifNo X548 hx 48 (hb hby d_prog_17_method_5_45) (own_i0_eq_f c549) rfl ?_
          refine g_iinc X548 hx 51 (hb hby d_prog_17_method_5_48) (z := (jj + (-1 : Int32))) rfl rfl (l' := #[.val (.ref o), .val (.int sv), .val (.int ev), .val (.int ii), .val (.int (jj + (-1 : Int32)))]) rfl rfl ?_
          refine g_goto X548 hx 28 (hb hby d_prog_17_method_5_51) (by decide) (by decide) ?_
          exact ih ii (jj + (-1 : Int32)) T548 _ X548 e548 N548 hF (hL.trans (own_Ly hT c546 c549 _)) (own_dT c546 hT) (own_dK c546 hT hk)
      · refine g_icmpYes XQ hx 54 (hb hby d_prog_17_method_5_31) (own_ii_le_t c546) (by decide) (by decide) ?_
        exact fin ii jj TQ _ XQ eQ NQ hF (hL.trans (own_Lx hT (Or.inl c546) _)) hT
  have l1 : ∀ (kq : Nat) (ii : Int32) (TQ : State) (LQ : List Loc) (XQ : Stand p l e ({ frames := 7, cells := 3, slots := 24, locals := 110 } : Room) (s.setVm s.vm) m #[(.ref o), (.int sv), (.int ev)] below meth c TQ LQ 0 0) (eQ : TQ.heap = h0) (NQ : Fr n0 LQ) (hF : own_F (cs.map own_wb) ev.toInt.toNat 6 sv.toInt.toNat = own_F (cs.map own_wb) ev.toInt.toNat kq ii.toInt.toNat) (hT : own_T ii ev) (hk : ev.toInt ≤ ii.toInt + (kq : Int)), own_GoE p e below (fun oO vV UU LL => QW_tr Z o sv ev cs zc fm h0 n0 vV UU.vm UU.heap LL ∧ ReturnedEndW s oO UU LL ({ frames := 7, cells := 3, slots := 24, locals := 110 } : Room).cells ({ frames := 7, cells := 3, slots := 24, locals := 110 } : Room).slots) (TQ.setTop (mkF m 5 #[.val (.ref o), .val (.int sv), .val (.int ev), .val (.int ii), .val (.int ev)] [])) := by
    intro kq
    induction kq with
    | zero =>
      intro ii TQ LQ XQ eQ NQ hF hT hk
      refine g_iload_n XQ hx 6 (hb hby d_prog_17_method_5_5) rfl rfl ?_
      refine g_iload XQ hx 8 (hb hby d_prog_17_method_5_6) rfl rfl ?_
      have c550 : ¬ (ii < ev) := own_i0 hk
      refine g_icmpYes XQ hx 28 (hb hby d_prog_17_method_5_8) (own_ii_ge_t c550) (by decide) (by decide) ?_
      exact l2 6 ii ev TQ _ XQ eQ NQ (hF.trans (own_Fx hT.1 (Or.inl c550) _)) rfl hT (own_T6 hT)
    | succ kq ih =>
      intro ii TQ LQ XQ eQ NQ hF hT hk
      refine g_iload_n XQ hx 6 (hb hby d_prog_17_method_5_5) rfl rfl ?_
      refine g_iload XQ hx 8 (hb hby d_prog_17_method_5_6) rfl rfl ?_
      by_cases c551 : ii < ev
      · refine g_icmpNo XQ hx 11 (hb hby d_prog_17_method_5_8) (own_ii_ge_f c551) rfl ?_
        refine g_aload_n XQ hx 12 (hb hby d_prog_17_method_5_11) rfl rfl rfl ?_
        refine g_iload_n XQ hx 13 (hb hby d_prog_17_method_5_12) rfl rfl ?_
        refine own_callV XQ hx hZ hown (hw _ (List.mem_of_getElem? (i := 86) rfl)) (hw _ (List.mem_of_getElem? (i := 87) rfl)) (own_nf hZ (hw _ (List.mem_of_getElem? (i := 89) rfl))) (hw _ (List.mem_of_getElem? (i := 89) rfl)) (hw _ (List.mem_of_getElem? (i := 88) rfl)) (by decide) (rm_chS l Z a0 hw [] o ii cs zc fm h0 n0 Z0 S_COMPACT_STRINGS S_SIOOBE_FORMATTER S__assertionsDisabled S_HI_BYTE_SHIFT S_LO_BYTE_SHIFT STR hz (Nat.le_of_eq h5) (own_ig hT.1) (own_g3 h5 c551 hT) hfm) (hw _ (List.mem_of_getElem? (i := 90) rfl)) (hw _ (List.mem_of_getElem? (i := 7) rfl)) eQ 0 (by decide) (by decide) (by decide) (by decide) E_o [(.int ii)] [] rfl pd_25 rfl 16 rfl (by rw [hml]; rfl) rfl (hb hby d_prog_17_method_5_13) rfl fun T552 v552 L552 X552 hQ552 => ?_
        obtain ⟨rfl, Nq552, e552⟩ := hQ552
        have N552 := Fr.app NQ Nq552
        show own_GoE p e below _ (T552.setTop (mkF m 16 _ [(.int (own_at cs ii))]))
        refine own_callS X552 hx hZ hown (hw _ (List.mem_of_getElem? (i := 100) rfl)) (hw _ (List.mem_of_getElem? (i := 101) rfl)) (by decide) (rm_iws l Z a0 hw [] (own_at cs ii) h0 n0 Z0 ) (hw _ (List.mem_of_getElem? (i := 102) rfl)) (hw _ (List.mem_of_getElem? (i := 37) rfl)) e552 0 (by decide) (by decide) (by decide) (by decide) [(.int (own_at cs ii))] [] rfl pd_26 rfl 19 rfl (by rw [hml]; rfl) rfl (hb hby d_prog_17_method_5_16) rfl fun T553 v553 L553 X553 hQ553 => ?_
        obtain ⟨rfl, Nq553, e553⟩ := hQ553
        have N553 := Fr.app N552 Nq553
        show own_GoE p e below _ (T553.setTop (mkF m 19 _ [(.int (own_wi (own_at cs ii)))]))
        by_cases c554 : (own_wi (own_at cs ii)) = (0 : Int32)
        · refine g_ifYes X553 hx 28 (hb hby d_prog_17_method_5_19) (own_i0_eq_t c554) (by decide) (by decide) ?_
          exact l2 6 ii ev T553 _ X553 e553 N553 (hF.trans (own_Fx hT.1 (Or.inr c554) _)) rfl hT (own_T6 hT)
        · refine g_ifNo X553 hx 22 (hb hby d_prog_17_method_5_19) (own_i0_eq_f c554) rfl ?_
          refine g_iinc X553 hx 25 (hb hby d_prog_17_method_5_22) (z := (ii + (1 : Int32))) rfl rfl (l' := #[.val (.ref o), .val (.int sv), .val (.int ev), .val (.int (ii + (1 : Int32))), .val (.int ev)]) rfl rfl ?_
          refine g_goto X553 hx 5 (hb hby d_prog_17_method_5_25) (by decide) (by decide) ?_
          exact ih (ii + (1 : Int32)) T553 _ X553 e553 N553 (hF.trans (own_Fy hT c551 c554 _)) (own_uT c551 hT) (own_uK c551 hT hk)
      · refine g_icmpYes XQ hx 28 (hb hby d_prog_17_method_5_8) (own_ii_ge_t c551) (by decide) (by decide) ?_
        exact l2 6 ii ev TQ _ XQ eQ NQ (hF.trans (own_Fx hT.1 (Or.inl c551) _)) rfl hT (own_T6 hT)
  exact l1 6 sv s₁ _ X0 e0 N0 rfl hse (own_T6 hse)
def own_ps (b : Bool) (i s e n : Int32) : Int32 := if i < s then n else if i < e then (if b = true then n else i) else n
def own_draw (p : Int32) : Int32 := if (p &&& (7 : Int32)) = 0 then 32 else if (p &&& (7 : Int32)) = 1 then 9 else if (p &&& (7 : Int32)) = 2 then 10 else if (p &&& (7 : Int32)) = 3 then 13 else if (p &&& (7 : Int32)) = 4 then 12 else if (p &&& (7 : Int32)) = 5 then 160 else nar .char (((((p.toUInt32 >>> ((3 : Int32) &&& 31).toUInt32).toInt32) &&& (65535 : Int32))).toUInt32.toUInt16.toUInt32.toInt32)
theorem own_drw (p : Int32) {x : Int32} (q : x = (own_draw p)) : 0 ≤ x.toInt ∧ x.toInt ≤ 65535 := by
  have h : ∀ z : Int32, 0 ≤ (nar .char z).toInt ∧ (nar .char z).toInt ≤ 65535 := fun z => by
    have c := c_i2c z
    have e : (nar .char z).toInt = z.toUInt32.toUInt16.toUInt32.toInt32.toInt := rfl
    omega
  rw [q]
  unfold own_draw
  repeat' split
  all_goals first | decide | exact h _
def own_E (x0 x1 x2 x3 x4 : Int32) (cs : List Int32) (f k : Int32) : Prop := k < (Int32.ofNat cs.length) → (¬ ((f + k) < (0 : Int32)) ∧ (f + k) < (5 : Int32)) ∧ [Value.int x0, .int x1, .int x2, .int x3, .int x4].getD (f + k).toNatClampNeg (.int (0 : Int32)) = .int (own_at cs k)
theorem own_mg : ∀ (xs : List Int32) (i : Nat), (xs.map Value.int).getD i (.int (0 : Int32)) = .int (xs.getD i 0)
  | [], _ => rfl
  | _ :: _, 0 => rfl
  | _ :: r, i + 1 => own_mg r i
theorem own_Ek {x0 x1 x2 x3 x4 : Int32} {ct : List Int32} {F L k : Nat} (h1 : F < L) (h2 : L ≤ 5) (hk : k ≤ 4) (hct : ct = ([x0, x1, x2, x3, x4].drop F).take (L - F)) : own_E x0 x1 x2 x3 x4 ct (Int32.ofNat F) (Int32.ofNat k) := by
  intro c
  have hl : ct.length = L - F := by
    rw [hct, List.length_take, List.length_drop]
    show min (L - F) (5 - F) = L - F
    omega
  have c := own_lt c
  rw [hl, (own_of5 (n := k) (by omega)).1, (own_of5 (n := L - F) (by omega)).1] at c
  have c : k < L - F := by omega
  have all : ∀ F k : Fin 6, F.val + k.val < 5 → (¬ ((Int32.ofNat F.val + Int32.ofNat k.val) < (0 : Int32)) ∧ (Int32.ofNat F.val + Int32.ofNat k.val) < (5 : Int32)) ∧ (Int32.ofNat F.val + Int32.ofNat k.val).toNatClampNeg = F.val + k.val := by decide +kernel
  obtain ⟨a1, a2⟩ := all ⟨F, by omega⟩ ⟨k, by omega⟩ (show F + k < 5 by omega)
  refine ⟨a1, ?_⟩
  rw [show (Int32.ofNat F + Int32.ofNat k).toNatClampNeg = F + k from a2]
  unfold own_at
  rw [(own_of5 (n := k) (by omega)).2, hct]
  show ([x0, x1, x2, x3, x4].map Value.int).getD (F + k) (.int (0 : Int32)) = _
  rw [own_mg, List.getD_eq_getElem?_getD, List.getD_eq_getElem?_getD, List.getElem?_take_of_lt c, List.getElem?_drop]
theorem d_method_5_0 : decode method_5_code 0 = .ok (.iload_n 1, 1) := by decide +kernel
theorem d_method_5_1 : decode method_5_code 1 = .ok (.iload_n 2, 1) := by decide +kernel
theorem d_method_5_2 : decode method_5_code 2 = .ok (.if_icmp .lt 19, 3) := by decide +kernel
theorem d_method_5_21 : decode method_5_code 21 = .ok (.iload 4, 2) := by decide +kernel
theorem d_method_5_23 : decode method_5_code 23 = .ok (.ireturn, 1) := by decide +kernel
theorem d_method_5_5 : decode method_5_code 5 = .ok (.iload_n 1, 1) := by decide +kernel
theorem d_method_5_6 : decode method_5_code 6 = .ok (.iload_n 3, 1) := by decide +kernel
theorem d_method_5_7 : decode method_5_code 7 = .ok (.if_icmp .ge 14, 3) := by decide +kernel
theorem d_method_5_10 : decode method_5_code 10 = .ok (.aload_n 0, 1) := by decide +kernel
theorem d_method_5_11 : decode method_5_code 11 = .ok (.iload_n 1, 1) := by decide +kernel
theorem d_method_5_12 : decode method_5_code 12 = .ok (.caload, 1) := by decide +kernel
theorem d_method_5_13 : decode method_5_code 13 = .ok (.invokestatic 50, 3) := by decide +kernel
theorem d_method_5_16 : decode method_5_code 16 = .ok (.ifCond .ne 5, 3) := by decide +kernel
theorem d_method_5_19 : decode method_5_code 19 = .ok (.iload_n 1, 1) := by decide +kernel
theorem d_method_5_20 : decode method_5_code 20 = .ok (.ireturn, 1) := by decide +kernel
theorem ef_16 (m : MethodId) (x0 : Addr) (x1 : Int32) (x2 : Int32) (x3 : Int32) (x4 : Int32) : entryFrame m #[(.ref x0), (.int x1), (.int x2), (.int x3), (.int x4)] 5 = mkF m 0 #[.val (.ref x0), .val (.int x1), .val (.int x2), .val (.int x3), .val (.int x4)] [] := by first | (simp [entryFrame, mkF, argsToLocals, Value.category]; done) | rfl
def Q_pos0 (Z : State) (ca : Addr) (kc : ClassId) (sv : Int32) (ev : Int32) (nn : Int32) (x0 : Int32) (x1 : Int32) (x2 : Int32) (x3 : Int32) (x4 : Int32) (h0 : Heap) (n0 : Nat) (v : Option Value) (h : Heap) (L : List Loc) : Prop := v = some (.int (own_ps (own_wb x0) (0 : Int32) sv ev nn)) ∧ Fr n0 L ∧ h = h0
set_option maxRecDepth 65536 in
set_option maxHeartbeats 40000000 in
theorem rm_pos0 (l : Launch) (Z : State) (a0 : Array Value) (hw : ∀ d ∈ tables_1, d.before a0 Z = true) (ws : List Jvm.Cond) (ca : Addr) (kc : ClassId) (sv : Int32) (ev : Int32) (nn : Int32) (x0 : Int32) (x1 : Int32) (x2 : Int32) (x3 : Int32) (x4 : Int32) (h0 : Heap) (n0 : Nat) (Z0 : n0 ≤ h0.size) (V_ca : Arv Z h0 ca kc .char (5 : Int32) [(.int x0), (.int x1), (.int x2), (.int x3), (.int x4)] (.int (0 : Int32))) :
    MetFree l (⟨"com/example/honbun/honbun/WhiteSpaceTrimPinLaw", "pos", "([CIIII)I"⟩ : MethodName) (head1 (Jvm.Cond.code (⟨"com/example/honbun/honbun/WhiteSpaceTrimPinLaw", "pos", "([CIIII)I"⟩ : MethodName) method_5_code 5 (some .int) :: ws) ({ frames := 1, cells := 0, slots := 0, locals := 12 } : Room)) (fun aA U => aA = #[(.ref ca), (.int (0 : Int32)), (.int sv), (.int ev), (.int nn)] ∧ Z.Warmed39 U.vm ∧ U.heap = h0) (fun _ _ _ _ _ => True) (fun _ U oO U' => ∃ vV LL, oO = .returned vV ∧ Q_pos0 Z ca kc sv ev nn x0 x1 x2 x3 x4 h0 n0 vV U'.heap LL ∧ FrameEnd U oO U' LL ({ frames := 1, cells := 0, slots := 0, locals := 12 } : Room).cells ({ frames := 1, cells := 0, slots := 0, locals := 12 } : Room).slots) := by
  refine MetFree.of_bodySF (plainFor_of_name pn_8) hisR ?_
  intro p e s m args below meth c s₁ Bd hml0 hP hK
  obtain ⟨rfl, hZ, hh⟩ := hP
  have hx := Bd.exec
  have hby := Bd.bytes
  have hml : c.maxLocals = 5 := hml0
  have hown : s.vm.findClass "com/example/honbun/honbun/WhiteSpaceTrimPinLaw" = some m.cls := findClass_of_methodNamed Bd.named
  have hnm := (name_of_methodNamed Bd.named Bd.method).1
  have X0 : Stand p l e ({ frames := 1, cells := 0, slots := 0, locals := 12 } : Room) s m #[(.ref ca), (.int (0 : Int32)), (.int sv), (.int ev), (.int nn)] below meth c s₁ [] 0 0 := Stand.of_body Bd
  have e0 : s₁.heap = h0 := by rw [← hh, Bd.state]; rfl
  have N0 := Fr.nil n0
  have hret := Bd.returns
  have hlk : meth.locks = false := Bd.notSynchronized
  refine own_start (ef_16 m ca (0 : Int32) sv ev nn) ?_
  show own_Go p e below s (Q_pos0 Z ca kc sv ev nn x0 x1 x2 x3 x4 h0 n0) ({ frames := 1, cells := 0, slots := 0, locals := 12 } : Room).cells ({ frames := 1, cells := 0, slots := 0, locals := 12 } : Room).slots (s₁.setTop (mkF m 0 #[.val (.ref ca), .val (.int (0 : Int32)), .val (.int sv), .val (.int ev), .val (.int nn)] []))
  refine g_iload_n X0 hx 1 (hb hby d_method_5_0) rfl rfl ?_
  refine g_iload_n X0 hx 2 (hb hby d_method_5_1) rfl rfl ?_
  by_cases c555 : (0 : Int32) < sv
  · refine g_icmpYes X0 hx 21 (hb hby d_method_5_2) (own_ii_lt_t c555) (by decide) (by decide) ?_
    refine g_iload X0 hx 23 (hb hby d_method_5_21) rfl rfl ?_
    refine own_retI X0 hx hlk hret (hb hby d_method_5_23) ?_ (by decide) (by decide)
    rw [e0]
    exact ⟨(congrArg some (congrArg Value.int (by simp [own_ps, c555]))), N0, rfl⟩
  · refine g_icmpNo X0 hx 5 (hb hby d_method_5_2) (own_ii_lt_f c555) rfl ?_
    refine g_iload_n X0 hx 6 (hb hby d_method_5_5) rfl rfl ?_
    refine g_iload_n X0 hx 7 (hb hby d_method_5_6) rfl rfl ?_
    by_cases c556 : (0 : Int32) < ev
    · refine g_icmpNo X0 hx 10 (hb hby d_method_5_7) (own_ii_ge_f c556) rfl ?_
      refine g_aload_n X0 hx 11 (hb hby d_method_5_10) rfl rfl rfl ?_
      refine g_iload_n X0 hx 12 (hb hby d_method_5_11) rfl rfl ?_
      obtain ⟨cl557, Ar557, q557, S557, P557, H557, G557⟩ := id V_ca
      have hin557 := inb_of (j := (0 : Int32)) S557 ⟨by decide, by decide⟩
      refine own_caload X0 hx hZ e0 Ar557 (v := (.int x0)) hin557 (Has.at H557 hin557 rfl) 13 (hb hby d_method_5_12) rfl ?_
      refine own_callS X0 hx hZ hown (hw _ (List.mem_of_getElem? (i := 122) rfl)) (hw _ (List.mem_of_getElem? (i := 123) rfl)) (by decide) (rm_lws l Z a0 hw [] x0 h0 n0 Z0 ) (hw _ (List.mem_of_getElem? (i := 124) rfl)) (hw _ (List.mem_of_getElem? (i := 3) rfl)) e0 0 (by decide) (by decide) (by decide) (by decide) [(.int x0)] [] rfl pd_26 rfl 16 rfl (by rw [hml]; rfl) rfl (hb hby d_method_5_13) rfl fun T558 v558 L558 X558 hQ558 => ?_
      obtain ⟨rfl, Nq558, e558⟩ := hQ558
      have N558 := Fr.app N0 Nq558
      show own_GoE p e below _ (T558.setTop (mkF m 16 _ [(.int (own_wi x0))]))
      by_cases c559 : (own_wi x0) = (0 : Int32)
      · refine g_ifNo X558 hx 19 (hb hby d_method_5_16) (own_i0_ne_f c559) rfl ?_
        refine g_iload_n X558 hx 20 (hb hby d_method_5_19) rfl rfl ?_
        refine own_retI X558 hx hlk hret (hb hby d_method_5_20) ?_ (by decide) (by decide)
        rw [e558]
        exact ⟨(congrArg some (congrArg Value.int (by simp [own_ps, own_wi0 c559, c555, c556]))), N558, rfl⟩
      · refine g_ifYes X558 hx 21 (hb hby d_method_5_16) (own_i0_ne_t c559) (by decide) (by decide) ?_
        refine g_iload X558 hx 23 (hb hby d_method_5_21) rfl rfl ?_
        refine own_retI X558 hx hlk hret (hb hby d_method_5_23) ?_ (by decide) (by decide)
        rw [e558]
        exact ⟨(congrArg some (congrArg Value.int (by simp [own_ps, own_wi1 c559, c555, c556]))), N558, rfl⟩
    · refine g_icmpYes X0 hx 21 (hb hby d_method_5_7) (own_ii_ge_t c556) (by decide) (by decide) ?_
      refine g_iload X0 hx 23 (hb hby d_method_5_21) rfl rfl ?_
      refine own_retI X0 hx hlk hret (hb hby d_method_5_23) ?_ (by decide) (by decide)
      rw [e0]
      exact ⟨(congrArg some (congrArg Value.int (by simp [own_ps, c555, c556]))), N0, rfl⟩
def Q_pos1 (Z : State) (ca : Addr) (kc : ClassId) (sv : Int32) (ev : Int32) (nn : Int32) (x0 : Int32) (x1 : Int32) (x2 : Int32) (x3 : Int32) (x4 : Int32) (h0 : Heap) (n0 : Nat) (v : Option Value) (h : Heap) (L : List Loc) : Prop := v = some (.int (own_ps (own_wb x1) (1 : Int32) sv ev nn)) ∧ Fr n0 L ∧ h = h0
set_option maxRecDepth 65536 in
set_option maxHeartbeats 40000000 in
theorem rm_pos1 (l : Launch) (Z : State) (a0 : Array Value) (hw : ∀ d ∈ tables_1, d.before a0 Z = true) (ws : List Jvm.Cond) (ca : Addr) (kc : ClassId) (sv : Int32) (ev : Int32) (nn : Int32) (x0 : Int32) (x1 : Int32) (x2 : Int32) (x3 : Int32) (x4 : Int32) (h0 : Heap) (n0 : Nat) (Z0 : n0 ≤ h0.size) (V_ca : Arv Z h0 ca kc .char (5 : Int32) [(.int x0), (.int x1), (.int x2), (.int x3), (.int x4)] (.int (0 : Int32))) :
    MetFree l (⟨"com/example/honbun/honbun/WhiteSpaceTrimPinLaw", "pos", "([CIIII)I"⟩ : MethodName) (head1 (Jvm.Cond.code (⟨"com/example/honbun/honbun/WhiteSpaceTrimPinLaw", "pos", "([CIIII)I"⟩ : MethodName) method_5_code 5 (some .int) :: ws) ({ frames := 1, cells := 0, slots := 0, locals := 12 } : Room)) (fun aA U => aA = #[(.ref ca), (.int (1 : Int32)), (.int sv), (.int ev), (.int nn)] ∧ Z.Warmed39 U.vm ∧ U.heap = h0) (fun _ _ _ _ _ => True) (fun _ U oO U' => ∃ vV LL, oO = .returned vV ∧ Q_pos1 Z ca kc sv ev nn x0 x1 x2 x3 x4 h0 n0 vV U'.heap LL ∧ FrameEnd U oO U' LL ({ frames := 1, cells := 0, slots := 0, locals := 12 } : Room).cells ({ frames := 1, cells := 0, slots := 0, locals := 12 } : Room).slots) := by
  refine MetFree.of_bodySF (plainFor_of_name pn_8) hisR ?_
  intro p e s m args below meth c s₁ Bd hml0 hP hK
  obtain ⟨rfl, hZ, hh⟩ := hP
  have hx := Bd.exec
  have hby := Bd.bytes
  have hml : c.maxLocals = 5 := hml0
  have hown : s.vm.findClass "com/example/honbun/honbun/WhiteSpaceTrimPinLaw" = some m.cls := findClass_of_methodNamed Bd.named
  have hnm := (name_of_methodNamed Bd.named Bd.method).1
  have X0 : Stand p l e ({ frames := 1, cells := 0, slots := 0, locals := 12 } : Room) s m #[(.ref ca), (.int (1 : Int32)), (.int sv), (.int ev), (.int nn)] below meth c s₁ [] 0 0 := Stand.of_body Bd
  have e0 : s₁.heap = h0 := by rw [← hh, Bd.state]; rfl
  have N0 := Fr.nil n0
  have hret := Bd.returns
  have hlk : meth.locks = false := Bd.notSynchronized
  refine own_start (ef_16 m ca (1 : Int32) sv ev nn) ?_
  show own_Go p e below s (Q_pos1 Z ca kc sv ev nn x0 x1 x2 x3 x4 h0 n0) ({ frames := 1, cells := 0, slots := 0, locals := 12 } : Room).cells ({ frames := 1, cells := 0, slots := 0, locals := 12 } : Room).slots (s₁.setTop (mkF m 0 #[.val (.ref ca), .val (.int (1 : Int32)), .val (.int sv), .val (.int ev), .val (.int nn)] []))
  refine g_iload_n X0 hx 1 (hb hby d_method_5_0) rfl rfl ?_
  refine g_iload_n X0 hx 2 (hb hby d_method_5_1) rfl rfl ?_
  by_cases c560 : (1 : Int32) < sv
  · refine g_icmpYes X0 hx 21 (hb hby d_method_5_2) (own_ii_lt_t c560) (by decide) (by decide) ?_
    refine g_iload X0 hx 23 (hb hby d_method_5_21) rfl rfl ?_
    refine own_retI X0 hx hlk hret (hb hby d_method_5_23) ?_ (by decide) (by decide)
    rw [e0]
    exact ⟨(congrArg some (congrArg Value.int (by simp [own_ps, c560]))), N0, rfl⟩
  · refine g_icmpNo X0 hx 5 (hb hby d_method_5_2) (own_ii_lt_f c560) rfl ?_
    refine g_iload_n X0 hx 6 (hb hby d_method_5_5) rfl rfl ?_
    refine g_iload_n X0 hx 7 (hb hby d_method_5_6) rfl rfl ?_
    by_cases c561 : (1 : Int32) < ev
    · refine g_icmpNo X0 hx 10 (hb hby d_method_5_7) (own_ii_ge_f c561) rfl ?_
      refine g_aload_n X0 hx 11 (hb hby d_method_5_10) rfl rfl rfl ?_
      refine g_iload_n X0 hx 12 (hb hby d_method_5_11) rfl rfl ?_
      obtain ⟨cl562, Ar562, q562, S562, P562, H562, G562⟩ := id V_ca
      have hin562 := inb_of (j := (1 : Int32)) S562 ⟨by decide, by decide⟩
      refine own_caload X0 hx hZ e0 Ar562 (v := (.int x1)) hin562 (Has.at H562 hin562 rfl) 13 (hb hby d_method_5_12) rfl ?_
      refine own_callS X0 hx hZ hown (hw _ (List.mem_of_getElem? (i := 122) rfl)) (hw _ (List.mem_of_getElem? (i := 123) rfl)) (by decide) (rm_lws l Z a0 hw [] x1 h0 n0 Z0 ) (hw _ (List.mem_of_getElem? (i := 124) rfl)) (hw _ (List.mem_of_getElem? (i := 3) rfl)) e0 0 (by decide) (by decide) (by decide) (by decide) [(.int x1)] [] rfl pd_26 rfl 16 rfl (by rw [hml]; rfl) rfl (hb hby d_method_5_13) rfl fun T563 v563 L563 X563 hQ563 => ?_
      obtain ⟨rfl, Nq563, e563⟩ := hQ563
      have N563 := Fr.app N0 Nq563
      show own_GoE p e below _ (T563.setTop (mkF m 16 _ [(.int (own_wi x1))]))
      by_cases c564 : (own_wi x1) = (0 : Int32)
      · refine g_ifNo X563 hx 19 (hb hby d_method_5_16) (own_i0_ne_f c564) rfl ?_
        refine g_iload_n X563 hx 20 (hb hby d_method_5_19) rfl rfl ?_
        refine own_retI X563 hx hlk hret (hb hby d_method_5_20) ?_ (by decide) (by decide)
        rw [e563]
        exact ⟨(congrArg some (congrArg Value.int (by simp [own_ps, own_wi0 c564, c560, c561]))), N563, rfl⟩
      · refine g_ifYes X563 hx 21 (hb hby d_method_5_16) (own_i0_ne_t c564) (by decide) (by decide) ?_
        refine g_iload X563 hx 23 (hb hby d_method_5_21) rfl rfl ?_
        refine own_retI X563 hx hlk hret (hb hby d_method_5_23) ?_ (by decide) (by decide)
        rw [e563]
        exact ⟨(congrArg some (congrArg Value.int (by simp [own_ps, own_wi1 c564, c560, c561]))), N563, rfl⟩
    · refine g_icmpYes X0 hx 21 (hb hby d_method_5_7) (own_ii_ge_t c561) (by decide) (by decide) ?_
      refine g_iload X0 hx 23 (hb hby d_method_5_21) rfl rfl ?_
      refine own_retI X0 hx hlk hret (hb hby d_method_5_23) ?_ (by decide) (by decide)
      rw [e0]
      exact ⟨(congrArg some (congrArg Value.int (by simp [own_ps, c560, c561]))), N0, rfl⟩
def Q_pos2 (Z : State) (ca : Addr) (kc : ClassId) (sv : Int32) (ev : Int32) (nn : Int32) (x0 : Int32) (x1 : Int32) (x2 : Int32) (x3 : Int32) (x4 : Int32) (h0 : Heap) (n0 : Nat) (v : Option Value) (h : Heap) (L : List Loc) : Prop := v = some (.int (own_ps (own_wb x2) (2 : Int32) sv ev nn)) ∧ Fr n0 L ∧ h = h0
set_option maxRecDepth 65536 in
set_option maxHeartbeats 40000000 in
theorem rm_pos2 (l : Launch) (Z : State) (a0 : Array Value) (hw : ∀ d ∈ tables_1, d.before a0 Z = true) (ws : List Jvm.Cond) (ca : Addr) (kc : ClassId) (sv : Int32) (ev : Int32) (nn : Int32) (x0 : Int32) (x1 : Int32) (x2 : Int32) (x3 : Int32) (x4 : Int32) (h0 : Heap) (n0 : Nat) (Z0 : n0 ≤ h0.size) (V_ca : Arv Z h0 ca kc .char (5 : Int32) [(.int x0), (.int x1), (.int x2), (.int x3), (.int x4)] (.int (0 : Int32))) :
    MetFree l (⟨"com/example/honbun/honbun/WhiteSpaceTrimPinLaw", "pos", "([CIIII)I"⟩ : MethodName) (head1 (Jvm.Cond.code (⟨"com/example/honbun/honbun/WhiteSpaceTrimPinLaw", "pos", "([CIIII)I"⟩ : MethodName) method_5_code 5 (some .int) :: ws) ({ frames := 1, cells := 0, slots := 0, locals := 12 } : Room)) (fun aA U => aA = #[(.ref ca), (.int (2 : Int32)), (.int sv), (.int ev), (.int nn)] ∧ Z.Warmed39 U.vm ∧ U.heap = h0) (fun _ _ _ _ _ => True) (fun _ U oO U' => ∃ vV LL, oO = .returned vV ∧ Q_pos2 Z ca kc sv ev nn x0 x1 x2 x3 x4 h0 n0 vV U'.heap LL ∧ FrameEnd U oO U' LL ({ frames := 1, cells := 0, slots := 0, locals := 12 } : Room).cells ({ frames := 1, cells := 0, slots := 0, locals := 12 } : Room).slots) := by
  refine MetFree.of_bodySF (plainFor_of_name pn_8) hisR ?_
  intro p e s m args below meth c s₁ Bd hml0 hP hK
  obtain ⟨rfl, hZ, hh⟩ := hP
  have hx := Bd.exec
  have hby := Bd.bytes
  have hml : c.maxLocals = 5 := hml0
  have hown : s.vm.findClass "com/example/honbun/honbun/WhiteSpaceTrimPinLaw" = some m.cls := findClass_of_methodNamed Bd.named
  have hnm := (name_of_methodNamed Bd.named Bd.method).1
  have X0 : Stand p l e ({ frames := 1, cells := 0, slots := 0, locals := 12 } : Room) s m #[(.ref ca), (.int (2 : Int32)), (.int sv), (.int ev), (.int nn)] below meth c s₁ [] 0 0 := Stand.of_body Bd
  have e0 : s₁.heap = h0 := by rw [← hh, Bd.state]; rfl
  have N0 := Fr.nil n0
  have hret := Bd.returns
  have hlk : meth.locks = false := Bd.notSynchronized
  refine own_start (ef_16 m ca (2 : Int32) sv ev nn) ?_
  show own_Go p e below s (Q_pos2 Z ca kc sv ev nn x0 x1 x2 x3 x4 h0 n0) ({ frames := 1, cells := 0, slots := 0, locals := 12 } : Room).cells ({ frames := 1, cells := 0, slots := 0, locals := 12 } : Room).slots (s₁.setTop (mkF m 0 #[.val (.ref ca), .val (.int (2 : Int32)), .val (.int sv), .val (.int ev), .val (.int nn)] []))
  refine g_iload_n X0 hx 1 (hb hby d_method_5_0) rfl rfl ?_
  refine g_iload_n X0 hx 2 (hb hby d_method_5_1) rfl rfl ?_
  by_cases c565 : (2 : Int32) < sv
  · refine g_icmpYes X0 hx 21 (hb hby d_method_5_2) (own_ii_lt_t c565) (by decide) (by decide) ?_
    refine g_iload X0 hx 23 (hb hby d_method_5_21) rfl rfl ?_
    refine own_retI X0 hx hlk hret (hb hby d_method_5_23) ?_ (by decide) (by decide)
    rw [e0]
    exact ⟨(congrArg some (congrArg Value.int (by simp [own_ps, c565]))), N0, rfl⟩
  · refine g_icmpNo X0 hx 5 (hb hby d_method_5_2) (own_ii_lt_f c565) rfl ?_
    refine g_iload_n X0 hx 6 (hb hby d_method_5_5) rfl rfl ?_
    refine g_iload_n X0 hx 7 (hb hby d_method_5_6) rfl rfl ?_
    by_cases c566 : (2 : Int32) < ev
    · refine g_icmpNo X0 hx 10 (hb hby d_method_5_7) (own_ii_ge_f c566) rfl ?_
      refine g_aload_n X0 hx 11 (hb hby d_method_5_10) rfl rfl rfl ?_
      refine g_iload_n X0 hx 12 (hb hby d_method_5_11) rfl rfl ?_
      obtain ⟨cl567, Ar567, q567, S567, P567, H567, G567⟩ := id V_ca
      have hin567 := inb_of (j := (2 : Int32)) S567 ⟨by decide, by decide⟩
      refine own_caload X0 hx hZ e0 Ar567 (v := (.int x2)) hin567 (Has.at H567 hin567 rfl) 13 (hb hby d_method_5_12) rfl ?_
      refine own_callS X0 hx hZ hown (hw _ (List.mem_of_getElem? (i := 122) rfl)) (hw _ (List.mem_of_getElem? (i := 123) rfl)) (by decide) (rm_lws l Z a0 hw [] x2 h0 n0 Z0 ) (hw _ (List.mem_of_getElem? (i := 124) rfl)) (hw _ (List.mem_of_getElem? (i := 3) rfl)) e0 0 (by decide) (by decide) (by decide) (by decide) [(.int x2)] [] rfl pd_26 rfl 16 rfl (by rw [hml]; rfl) rfl (hb hby d_method_5_13) rfl fun T568 v568 L568 X568 hQ568 => ?_
      obtain ⟨rfl, Nq568, e568⟩ := hQ568
      have N568 := Fr.app N0 Nq568
      show own_GoE p e below _ (T568.setTop (mkF m 16 _ [(.int (own_wi x2))]))
      by_cases c569 : (own_wi x2) = (0 : Int32)
      · refine g_ifNo X568 hx 19 (hb hby d_method_5_16) (own_i0_ne_f c569) rfl ?_
        refine g_iload_n X568 hx 20 (hb hby d_method_5_19) rfl rfl ?_
        refine own_retI X568 hx hlk hret (hb hby d_method_5_20) ?_ (by decide) (by decide)
        rw [e568]
        exact ⟨(congrArg some (congrArg Value.int (by simp [own_ps, own_wi0 c569, c565, c566]))), N568, rfl⟩
      · refine g_ifYes X568 hx 21 (hb hby d_method_5_16) (own_i0_ne_t c569) (by decide) (by decide) ?_
        refine g_iload X568 hx 23 (hb hby d_method_5_21) rfl rfl ?_
        refine own_retI X568 hx hlk hret (hb hby d_method_5_23) ?_ (by decide) (by decide)
        rw [e568]
        exact ⟨(congrArg some (congrArg Value.int (by simp [own_ps, own_wi1 c569, c565, c566]))), N568, rfl⟩
    · refine g_icmpYes X0 hx 21 (hb hby d_method_5_7) (own_ii_ge_t c566) (by decide) (by decide) ?_
      refine g_iload X0 hx 23 (hb hby d_method_5_21) rfl rfl ?_
      refine own_retI X0 hx hlk hret (hb hby d_method_5_23) ?_ (by decide) (by decide)
      rw [e0]
      exact ⟨(congrArg some (congrArg Value.int (by simp [own_ps, c565, c566]))), N0, rfl⟩
def Q_pos3 (Z : State) (ca : Addr) (kc : ClassId) (sv : Int32) (ev : Int32) (nn : Int32) (x0 : Int32) (x1 : Int32) (x2 : Int32) (x3 : Int32) (x4 : Int32) (h0 : Heap) (n0 : Nat) (v : Option Value) (h : Heap) (L : List Loc) : Prop := v = some (.int (own_ps (own_wb x3) (3 : Int32) sv ev nn)) ∧ Fr n0 L ∧ h = h0
set_option maxRecDepth 65536 in
set_option maxHeartbeats 40000000 in
theorem rm_pos3 (l : Launch) (Z : State) (a0 : Array Value) (hw : ∀ d ∈ tables_1, d.before a0 Z = true) (ws : List Jvm.Cond) (ca : Addr) (kc : ClassId) (sv : Int32) (ev : Int32) (nn : Int32) (x0 : Int32) (x1 : Int32) (x2 : Int32) (x3 : Int32) (x4 : Int32) (h0 : Heap) (n0 : Nat) (Z0 : n0 ≤ h0.size) (V_ca : Arv Z h0 ca kc .char (5 : Int32) [(.int x0), (.int x1), (.int x2), (.int x3), (.int x4)] (.int (0 : Int32))) :
    MetFree l (⟨"com/example/honbun/honbun/WhiteSpaceTrimPinLaw", "pos", "([CIIII)I"⟩ : MethodName) (head1 (Jvm.Cond.code (⟨"com/example/honbun/honbun/WhiteSpaceTrimPinLaw", "pos", "([CIIII)I"⟩ : MethodName) method_5_code 5 (some .int) :: ws) ({ frames := 1, cells := 0, slots := 0, locals := 12 } : Room)) (fun aA U => aA = #[(.ref ca), (.int (3 : Int32)), (.int sv), (.int ev), (.int nn)] ∧ Z.Warmed39 U.vm ∧ U.heap = h0) (fun _ _ _ _ _ => True) (fun _ U oO U' => ∃ vV LL, oO = .returned vV ∧ Q_pos3 Z ca kc sv ev nn x0 x1 x2 x3 x4 h0 n0 vV U'.heap LL ∧ FrameEnd U oO U' LL ({ frames := 1, cells := 0, slots := 0, locals := 12 } : Room).cells ({ frames := 1, cells := 0, slots := 0, locals := 12 } : Room).slots) := by
  refine MetFree.of_bodySF (plainFor_of_name pn_8) hisR ?_
  intro p e s m args below meth c s₁ Bd hml0 hP hK
  obtain ⟨rfl, hZ, hh⟩ := hP
  have hx := Bd.exec
  have hby := Bd.bytes
  have hml : c.maxLocals = 5 := hml0
  have hown : s.vm.findClass "com/example/honbun/honbun/WhiteSpaceTrimPinLaw" = some m.cls := findClass_of_methodNamed Bd.named
  have hnm := (name_of_methodNamed Bd.named Bd.method).1
  have X0 : Stand p l e ({ frames := 1, cells := 0, slots := 0, locals := 12 } : Room) s m #[(.ref ca), (.int (3 : Int32)), (.int sv), (.int ev), (.int nn)] below meth c s₁ [] 0 0 := Stand.of_body Bd
  have e0 : s₁.heap = h0 := by rw [← hh, Bd.state]; rfl
  have N0 := Fr.nil n0
  have hret := Bd.returns
  have hlk : meth.locks = false := Bd.notSynchronized
  refine own_start (ef_16 m ca (3 : Int32) sv ev nn) ?_
  show own_Go p e below s (Q_pos3 Z ca kc sv ev nn x0 x1 x2 x3 x4 h0 n0) ({ frames := 1, cells := 0, slots := 0, locals := 12 } : Room).cells ({ frames := 1, cells := 0, slots := 0, locals := 12 } : Room).slots (s₁.setTop (mkF m 0 #[.val (.ref ca), .val (.int (3 : Int32)), .val (.int sv), .val (.int ev), .val (.int nn)] []))
  refine g_iload_n X0 hx 1 (hb hby d_method_5_0) rfl rfl ?_
  refine g_iload_n X0 hx 2 (hb hby d_method_5_1) rfl rfl ?_
  by_cases c570 : (3 : Int32) < sv
  · refine g_icmpYes X0 hx 21 (hb hby d_method_5_2) (own_ii_lt_t c570) (by decide) (by decide) ?_
    refine g_iload X0 hx 23 (hb hby d_method_5_21) rfl rfl ?_
    refine own_retI X0 hx hlk hret (hb hby d_method_5_23) ?_ (by decide) (by decide)
    rw [e0]
    exact ⟨(congrArg some (congrArg Value.int (by simp [own_ps, c570]))), N0, rfl⟩
  · refine g_icmpNo X0 hx 5 (hb hby d_method_5_2) (own_ii_lt_f c570) rfl ?_
    refine g_iload_n X0 hx 6 (hb hby d_method_5_5) rfl rfl ?_
    refine g_iload_n X0 hx 7 (hb hby d_method_5_6) rfl rfl ?_
    by_cases c571 : (3 : Int32) < ev
    · refine g_icmpNo X0 hx 10 (hb hby d_method_5_7) (own_ii_ge_f c571) rfl ?_
      refine g_aload_n X0 hx 11 (hb hby d_method_5_10) rfl rfl rfl ?_
      refine g_iload_n X0 hx 12 (hb hby d_method_5_11) rfl rfl ?_
      obtain ⟨cl572, Ar572, q572, S572, P572, H572, G572⟩ := id V_ca
      have hin572 := inb_of (j := (3 : Int32)) S572 ⟨by decide, by decide⟩
      refine own_caload X0 hx hZ e0 Ar572 (v := (.int x3)) hin572 (Has.at H572 hin572 rfl) 13 (hb hby d_method_5_12) rfl ?_
      refine own_callS X0 hx hZ hown (hw _ (List.mem_of_getElem? (i := 122) rfl)) (hw _ (List.mem_of_getElem? (i := 123) rfl)) (by decide) (rm_lws l Z a0 hw [] x3 h0 n0 Z0 ) (hw _ (List.mem_of_getElem? (i := 124) rfl)) (hw _ (List.mem_of_getElem? (i := 3) rfl)) e0 0 (by decide) (by decide) (by decide) (by decide) [(.int x3)] [] rfl pd_26 rfl 16 rfl (by rw [hml]; rfl) rfl (hb hby d_method_5_13) rfl fun T573 v573 L573 X573 hQ573 => ?_
      obtain ⟨rfl, Nq573, e573⟩ := hQ573
      have N573 := Fr.app N0 Nq573
      show own_GoE p e below _ (T573.setTop (mkF m 16 _ [(.int (own_wi x3))]))
      by_cases c574 : (own_wi x3) = (0 : Int32)
      · refine g_ifNo X573 hx 19 (hb hby d_method_5_16) (own_i0_ne_f c574) rfl ?_
        refine g_iload_n X573 hx 20 (hb hby d_method_5_19) rfl rfl ?_
        refine own_retI X573 hx hlk hret (hb hby d_method_5_20) ?_ (by decide) (by decide)
        rw [e573]
        exact ⟨(congrArg some (congrArg Value.int (by simp [own_ps, own_wi0 c574, c570, c571]))), N573, rfl⟩
      · refine g_ifYes X573 hx 21 (hb hby d_method_5_16) (own_i0_ne_t c574) (by decide) (by decide) ?_
        refine g_iload X573 hx 23 (hb hby d_method_5_21) rfl rfl ?_
        refine own_retI X573 hx hlk hret (hb hby d_method_5_23) ?_ (by decide) (by decide)
        rw [e573]
        exact ⟨(congrArg some (congrArg Value.int (by simp [own_ps, own_wi1 c574, c570, c571]))), N573, rfl⟩
    · refine g_icmpYes X0 hx 21 (hb hby d_method_5_7) (own_ii_ge_t c571) (by decide) (by decide) ?_
      refine g_iload X0 hx 23 (hb hby d_method_5_21) rfl rfl ?_
      refine own_retI X0 hx hlk hret (hb hby d_method_5_23) ?_ (by decide) (by decide)
      rw [e0]
      exact ⟨(congrArg some (congrArg Value.int (by simp [own_ps, c570, c571]))), N0, rfl⟩
def Q_pos4 (Z : State) (ca : Addr) (kc : ClassId) (sv : Int32) (ev : Int32) (nn : Int32) (x0 : Int32) (x1 : Int32) (x2 : Int32) (x3 : Int32) (x4 : Int32) (h0 : Heap) (n0 : Nat) (v : Option Value) (h : Heap) (L : List Loc) : Prop := v = some (.int (own_ps (own_wb x4) (4 : Int32) sv ev nn)) ∧ Fr n0 L ∧ h = h0
set_option maxRecDepth 65536 in
set_option maxHeartbeats 40000000 in
theorem rm_pos4 (l : Launch) (Z : State) (a0 : Array Value) (hw : ∀ d ∈ tables_1, d.before a0 Z = true) (ws : List Jvm.Cond) (ca : Addr) (kc : ClassId) (sv : Int32) (ev : Int32) (nn : Int32) (x0 : Int32) (x1 : Int32) (x2 : Int32) (x3 : Int32) (x4 : Int32) (h0 : Heap) (n0 : Nat) (Z0 : n0 ≤ h0.size) (V_ca : Arv Z h0 ca kc .char (5 : Int32) [(.int x0), (.int x1), (.int x2), (.int x3), (.int x4)] (.int (0 : Int32))) :
    MetFree l (⟨"com/example/honbun/honbun/WhiteSpaceTrimPinLaw", "pos", "([CIIII)I"⟩ : MethodName) (head1 (Jvm.Cond.code (⟨"com/example/honbun/honbun/WhiteSpaceTrimPinLaw", "pos", "([CIIII)I"⟩ : MethodName) method_5_code 5 (some .int) :: ws) ({ frames := 1, cells := 0, slots := 0, locals := 12 } : Room)) (fun aA U => aA = #[(.ref ca), (.int (4 : Int32)), (.int sv), (.int ev), (.int nn)] ∧ Z.Warmed39 U.vm ∧ U.heap = h0) (fun _ _ _ _ _ => True) (fun _ U oO U' => ∃ vV LL, oO = .returned vV ∧ Q_pos4 Z ca kc sv ev nn x0 x1 x2 x3 x4 h0 n0 vV U'.heap LL ∧ FrameEnd U oO U' LL ({ frames := 1, cells := 0, slots := 0, locals := 12 } : Room).cells ({ frames := 1, cells := 0, slots := 0, locals := 12 } : Room).slots) := by
  refine MetFree.of_bodySF (plainFor_of_name pn_8) hisR ?_
  intro p e s m args below meth c s₁ Bd hml0 hP hK
  obtain ⟨rfl, hZ, hh⟩ := hP
  have hx := Bd.exec
  have hby := Bd.bytes
  have hml : c.maxLocals = 5 := hml0
  have hown : s.vm.findClass "com/example/honbun/honbun/WhiteSpaceTrimPinLaw" = some m.cls := findClass_of_methodNamed Bd.named
  have hnm := (name_of_methodNamed Bd.named Bd.method).1
  have X0 : Stand p l e ({ frames := 1, cells := 0, slots := 0, locals := 12 } : Room) s m #[(.ref ca), (.int (4 : Int32)), (.int sv), (.int ev), (.int nn)] below meth c s₁ [] 0 0 := Stand.of_body Bd
  have e0 : s₁.heap = h0 := by rw [← hh, Bd.state]; rfl
  have N0 := Fr.nil n0
  have hret := Bd.returns
  have hlk : meth.locks = false := Bd.notSynchronized
  refine own_start (ef_16 m ca (4 : Int32) sv ev nn) ?_
  show own_Go p e below s (Q_pos4 Z ca kc sv ev nn x0 x1 x2 x3 x4 h0 n0) ({ frames := 1, cells := 0, slots := 0, locals := 12 } : Room).cells ({ frames := 1, cells := 0, slots := 0, locals := 12 } : Room).slots (s₁.setTop (mkF m 0 #[.val (.ref ca), .val (.int (4 : Int32)), .val (.int sv), .val (.int ev), .val (.int nn)] []))
  refine g_iload_n X0 hx 1 (hb hby d_method_5_0) rfl rfl ?_
  refine g_iload_n X0 hx 2 (hb hby d_method_5_1) rfl rfl ?_
  by_cases c575 : (4 : Int32) < sv
  · refine g_icmpYes X0 hx 21 (hb hby d_method_5_2) (own_ii_lt_t c575) (by decide) (by decide) ?_
    refine g_iload X0 hx 23 (hb hby d_method_5_21) rfl rfl ?_
    refine own_retI X0 hx hlk hret (hb hby d_method_5_23) ?_ (by decide) (by decide)
    rw [e0]
    exact ⟨(congrArg some (congrArg Value.int (by simp [own_ps, c575]))), N0, rfl⟩
  · refine g_icmpNo X0 hx 5 (hb hby d_method_5_2) (own_ii_lt_f c575) rfl ?_
    refine g_iload_n X0 hx 6 (hb hby d_method_5_5) rfl rfl ?_
    refine g_iload_n X0 hx 7 (hb hby d_method_5_6) rfl rfl ?_
    by_cases c576 : (4 : Int32) < ev
    · refine g_icmpNo X0 hx 10 (hb hby d_method_5_7) (own_ii_ge_f c576) rfl ?_
      refine g_aload_n X0 hx 11 (hb hby d_method_5_10) rfl rfl rfl ?_
      refine g_iload_n X0 hx 12 (hb hby d_method_5_11) rfl rfl ?_
      obtain ⟨cl577, Ar577, q577, S577, P577, H577, G577⟩ := id V_ca
      have hin577 := inb_of (j := (4 : Int32)) S577 ⟨by decide, by decide⟩
      refine own_caload X0 hx hZ e0 Ar577 (v := (.int x4)) hin577 (Has.at H577 hin577 rfl) 13 (hb hby d_method_5_12) rfl ?_
      refine own_callS X0 hx hZ hown (hw _ (List.mem_of_getElem? (i := 122) rfl)) (hw _ (List.mem_of_getElem? (i := 123) rfl)) (by decide) (rm_lws l Z a0 hw [] x4 h0 n0 Z0 ) (hw _ (List.mem_of_getElem? (i := 124) rfl)) (hw _ (List.mem_of_getElem? (i := 3) rfl)) e0 0 (by decide) (by decide) (by decide) (by decide) [(.int x4)] [] rfl pd_26 rfl 16 rfl (by rw [hml]; rfl) rfl (hb hby d_method_5_13) rfl fun T578 v578 L578 X578 hQ578 => ?_
      obtain ⟨rfl, Nq578, e578⟩ := hQ578
      have N578 := Fr.app N0 Nq578
      show own_GoE p e below _ (T578.setTop (mkF m 16 _ [(.int (own_wi x4))]))
      by_cases c579 : (own_wi x4) = (0 : Int32)
      · refine g_ifNo X578 hx 19 (hb hby d_method_5_16) (own_i0_ne_f c579) rfl ?_
        refine g_iload_n X578 hx 20 (hb hby d_method_5_19) rfl rfl ?_
        refine own_retI X578 hx hlk hret (hb hby d_method_5_20) ?_ (by decide) (by decide)
        rw [e578]
        exact ⟨(congrArg some (congrArg Value.int (by simp [own_ps, own_wi0 c579, c575, c576]))), N578, rfl⟩
      · refine g_ifYes X578 hx 21 (hb hby d_method_5_16) (own_i0_ne_t c579) (by decide) (by decide) ?_
        refine g_iload X578 hx 23 (hb hby d_method_5_21) rfl rfl ?_
        refine own_retI X578 hx hlk hret (hb hby d_method_5_23) ?_ (by decide) (by decide)
        rw [e578]
        exact ⟨(congrArg some (congrArg Value.int (by simp [own_ps, own_wi1 c579, c575, c576]))), N578, rfl⟩
    · refine g_icmpYes X0 hx 21 (hb hby d_method_5_7) (own_ii_ge_t c576) (by decide) (by decide) ?_
      refine g_iload X0 hx 23 (hb hby d_method_5_21) rfl rfl ?_
      refine own_retI X0 hx hlk hret (hb hby d_method_5_23) ?_ (by decide) (by decide)
      rw [e0]
      exact ⟨(congrArg some (congrArg Value.int (by simp [own_ps, c575, c576]))), N0, rfl⟩
theorem d_method_3_0 : decode method_3_code 0 = .ok (.iload_n 0, 1) := by decide +kernel
theorem d_method_3_1 : decode method_3_code 1 = .ok (.bipush 7, 2) := by decide +kernel
theorem d_method_3_3 : decode method_3_code 3 = .ok (.iand, 1) := by decide +kernel
theorem d_method_3_4 : decode method_3_code 4 = .ok (.istore_n 1, 1) := by decide +kernel
theorem d_method_3_5 : decode method_3_code 5 = .ok (.iload_n 1, 1) := by decide +kernel
theorem d_method_3_6 : decode method_3_code 6 = .ok (.ifCond .ne 6, 3) := by decide +kernel
theorem d_method_3_9 : decode method_3_code 9 = .ok (.bipush 32, 2) := by decide +kernel
theorem d_method_3_11 : decode method_3_code 11 = .ok (.ireturn, 1) := by decide +kernel
theorem d_method_3_12 : decode method_3_code 12 = .ok (.iload_n 1, 1) := by decide +kernel
theorem d_method_3_13 : decode method_3_code 13 = .ok (.iconst 1, 1) := by decide +kernel
theorem d_method_3_14 : decode method_3_code 14 = .ok (.if_icmp .ne 6, 3) := by decide +kernel
theorem d_method_3_17 : decode method_3_code 17 = .ok (.bipush 9, 2) := by decide +kernel
theorem d_method_3_19 : decode method_3_code 19 = .ok (.ireturn, 1) := by decide +kernel
theorem d_method_3_20 : decode method_3_code 20 = .ok (.iload_n 1, 1) := by decide +kernel
theorem d_method_3_21 : decode method_3_code 21 = .ok (.iconst 2, 1) := by decide +kernel
theorem d_method_3_22 : decode method_3_code 22 = .ok (.if_icmp .ne 6, 3) := by decide +kernel
theorem d_method_3_25 : decode method_3_code 25 = .ok (.bipush 10, 2) := by decide +kernel
theorem d_method_3_27 : decode method_3_code 27 = .ok (.ireturn, 1) := by decide +kernel
theorem d_method_3_28 : decode method_3_code 28 = .ok (.iload_n 1, 1) := by decide +kernel
theorem d_method_3_29 : decode method_3_code 29 = .ok (.iconst 3, 1) := by decide +kernel
theorem d_method_3_30 : decode method_3_code 30 = .ok (.if_icmp .ne 6, 3) := by decide +kernel
theorem d_method_3_33 : decode method_3_code 33 = .ok (.bipush 13, 2) := by decide +kernel
theorem d_method_3_35 : decode method_3_code 35 = .ok (.ireturn, 1) := by decide +kernel
theorem d_method_3_36 : decode method_3_code 36 = .ok (.iload_n 1, 1) := by decide +kernel
theorem d_method_3_37 : decode method_3_code 37 = .ok (.iconst 4, 1) := by decide +kernel
theorem d_method_3_38 : decode method_3_code 38 = .ok (.if_icmp .ne 6, 3) := by decide +kernel
theorem d_method_3_41 : decode method_3_code 41 = .ok (.bipush 12, 2) := by decide +kernel
theorem d_method_3_43 : decode method_3_code 43 = .ok (.ireturn, 1) := by decide +kernel
theorem d_method_3_44 : decode method_3_code 44 = .ok (.iload_n 1, 1) := by decide +kernel
theorem d_method_3_45 : decode method_3_code 45 = .ok (.iconst 5, 1) := by decide +kernel
theorem d_method_3_46 : decode method_3_code 46 = .ok (.if_icmp .ne 7, 3) := by decide +kernel
theorem d_method_3_49 : decode method_3_code 49 = .ok (.sipush 160, 3) := by decide +kernel
theorem d_method_3_52 : decode method_3_code 52 = .ok (.ireturn, 1) := by decide +kernel
theorem d_method_3_53 : decode method_3_code 53 = .ok (.iload_n 0, 1) := by decide +kernel
theorem d_method_3_54 : decode method_3_code 54 = .ok (.iconst 3, 1) := by decide +kernel
theorem d_method_3_55 : decode method_3_code 55 = .ok (.iushr, 1) := by decide +kernel
theorem d_method_3_56 : decode method_3_code 56 = .ok (.ldc 18, 2) := by decide +kernel
theorem d_method_3_58 : decode method_3_code 58 = .ok (.iand, 1) := by decide +kernel
theorem d_method_3_59 : decode method_3_code 59 = .ok (.i2c, 1) := by decide +kernel
theorem d_method_3_60 : decode method_3_code 60 = .ok (.ireturn, 1) := by decide +kernel
theorem ef_17 (m : MethodId) (x0 : Int32) : entryFrame m #[(.int x0)] 2 = mkF m 0 #[.val (.int x0), .unset] [] := by first | (simp [entryFrame, mkF, argsToLocals, Value.category]; done) | rfl
def Q_draw (Z : State) (pp : Int32) (h0 : Heap) (n0 : Nat) (v : Option Value) (h : Heap) (L : List Loc) : Prop := v = some (.int (own_draw pp)) ∧ Fr n0 L ∧ h = h0
set_option maxRecDepth 65536 in
set_option maxHeartbeats 40000000 in
theorem rm_draw (l : Launch) (Z : State) (a0 : Array Value) (hw : ∀ d ∈ tables_1, d.before a0 Z = true) (ws : List Jvm.Cond) (pp : Int32) (h0 : Heap) (n0 : Nat) (Z0 : n0 ≤ h0.size) :
    MetFree l (⟨"com/example/honbun/honbun/WhiteSpaceTrimPinLaw", "draw", "(I)C"⟩ : MethodName) (head1 (Jvm.Cond.code (⟨"com/example/honbun/honbun/WhiteSpaceTrimPinLaw", "draw", "(I)C"⟩ : MethodName) method_3_code 2 (some .char) :: ws) ({ frames := 0, cells := 0, slots := 0, locals := 0 } : Room)) (fun aA U => aA = #[(.int pp)] ∧ Z.Warmed39 U.vm ∧ U.heap = h0) (fun _ _ _ _ _ => True) (fun _ U oO U' => ∃ vV LL, oO = .returned vV ∧ Q_draw Z pp h0 n0 vV U'.heap LL ∧ FrameEnd U oO U' LL ({ frames := 0, cells := 0, slots := 0, locals := 0 } : Room).cells ({ frames := 0, cells := 0, slots := 0, locals := 0 } : Room).slots) := by
  refine MetFree.of_bodySF (plainFor_of_name pn_8) hisR ?_
  intro p e s m args below meth c s₁ Bd hml0 hP hK
  obtain ⟨rfl, hZ, hh⟩ := hP
  have hx := Bd.exec
  have hby := Bd.bytes
  have hml : c.maxLocals = 2 := hml0
  have hown : s.vm.findClass "com/example/honbun/honbun/WhiteSpaceTrimPinLaw" = some m.cls := findClass_of_methodNamed Bd.named
  have hnm := (name_of_methodNamed Bd.named Bd.method).1
  have X0 : Stand p l e ({ frames := 0, cells := 0, slots := 0, locals := 0 } : Room) s m #[(.int pp)] below meth c s₁ [] 0 0 := Stand.of_body Bd
  have e0 : s₁.heap = h0 := by rw [← hh, Bd.state]; rfl
  have N0 := Fr.nil n0
  have hret := Bd.returns
  have hlk : meth.locks = false := Bd.notSynchronized
  refine own_start (ef_17 m pp) ?_
  show own_Go p e below s (Q_draw Z pp h0 n0) ({ frames := 0, cells := 0, slots := 0, locals := 0 } : Room).cells ({ frames := 0, cells := 0, slots := 0, locals := 0 } : Room).slots (s₁.setTop (mkF m 0 #[.val (.int pp), .unset] []))
  refine g_iload_n X0 hx 1 (hb hby d_method_3_0) rfl rfl ?_
  refine g_bipush X0 hx 3 (hb hby d_method_3_1) (7 : Int32) rfl rfl ?_
  refine g_iand X0 hx 4 (hb hby d_method_3_3) rfl ?_
  refine g_istore_n X0 hx 5 (hb hby d_method_3_4) (l' := #[.val (.int pp), .val (.int (pp &&& (7 : Int32)))]) rfl rfl ?_
  refine g_iload_n X0 hx 6 (hb hby d_method_3_5) rfl rfl ?_
  by_cases c580 : (pp &&& (7 : Int32)) = (0 : Int32)
  · refine g_ifNo X0 hx 9 (hb hby d_method_3_6) (own_i0_ne_f c580) rfl ?_
    refine g_bipush X0 hx 11 (hb hby d_method_3_9) (32 : Int32) rfl rfl ?_
    refine own_retN X0 hx hlk (t := .char) hret (by simp) (hb hby d_method_3_11) ?_ (by decide) (by decide)
    rw [e0]
    exact ⟨(congrArg some (congrArg Value.int (by simp [own_draw, c580] <;> rfl))), N0, rfl⟩
  · refine g_ifYes X0 hx 12 (hb hby d_method_3_6) (own_i0_ne_t c580) (by decide) (by decide) ?_
    refine g_iload_n X0 hx 13 (hb hby d_method_3_12) rfl rfl ?_
    refine g_iconst X0 hx 14 (hb hby d_method_3_13) (1 : Int32) rfl rfl ?_
    by_cases c581 : (pp &&& (7 : Int32)) = (1 : Int32)
    · refine g_icmpNo X0 hx 17 (hb hby d_method_3_14) (own_ii_ne_f c581) rfl ?_
      refine g_bipush X0 hx 19 (hb hby d_method_3_17) (9 : Int32) rfl rfl ?_
      refine own_retN X0 hx hlk (t := .char) hret (by simp) (hb hby d_method_3_19) ?_ (by decide) (by decide)
      rw [e0]
      exact ⟨(congrArg some (congrArg Value.int (by simp [own_draw, c580, c581] <;> rfl))), N0, rfl⟩
    · refine g_icmpYes X0 hx 20 (hb hby d_method_3_14) (own_ii_ne_t c581) (by decide) (by decide) ?_
      refine g_iload_n X0 hx 21 (hb hby d_method_3_20) rfl rfl ?_
      refine g_iconst X0 hx 22 (hb hby d_method_3_21) (2 : Int32) rfl rfl ?_
      by_cases c582 : (pp &&& (7 : Int32)) = (2 : Int32)
      · refine g_icmpNo X0 hx 25 (hb hby d_method_3_22) (own_ii_ne_f c582) rfl ?_
        refine g_bipush X0 hx 27 (hb hby d_method_3_25) (10 : Int32) rfl rfl ?_
        refine own_retN X0 hx hlk (t := .char) hret (by simp) (hb hby d_method_3_27) ?_ (by decide) (by decide)
        rw [e0]
        exact ⟨(congrArg some (congrArg Value.int (by simp [own_draw, c580, c581, c582] <;> rfl))), N0, rfl⟩
      · refine g_icmpYes X0 hx 28 (hb hby d_method_3_22) (own_ii_ne_t c582) (by decide) (by decide) ?_
        refine g_iload_n X0 hx 29 (hb hby d_method_3_28) rfl rfl ?_
        refine g_iconst X0 hx 30 (hb hby d_method_3_29) (3 : Int32) rfl rfl ?_
        by_cases c583 : (pp &&& (7 : Int32)) = (3 : Int32)
        · refine g_icmpNo X0 hx 33 (hb hby d_method_3_30) (own_ii_ne_f c583) rfl ?_
          refine g_bipush X0 hx 35 (hb hby d_method_3_33) (13 : Int32) rfl rfl ?_
          refine own_retN X0 hx hlk (t := .char) hret (by simp) (hb hby d_method_3_35) ?_ (by decide) (by decide)
          rw [e0]
          exact ⟨(congrArg some (congrArg Value.int (by simp [own_draw, c580, c581, c582, c583] <;> rfl))), N0, rfl⟩
        · refine g_icmpYes X0 hx 36 (hb hby d_method_3_30) (own_ii_ne_t c583) (by decide) (by decide) ?_
          refine g_iload_n X0 hx 37 (hb hby d_method_3_36) rfl rfl ?_
          refine g_iconst X0 hx 38 (hb hby d_method_3_37) (4 : Int32) rfl rfl ?_
          by_cases c584 : (pp &&& (7 : Int32)) = (4 : Int32)
          · refine g_icmpNo X0 hx 41 (hb hby d_method_3_38) (own_ii_ne_f c584) rfl ?_
            refine g_bipush X0 hx 43 (hb hby d_method_3_41) (12 : Int32) rfl rfl ?_
            refine own_retN X0 hx hlk (t := .char) hret (by simp) (hb hby d_method_3_43) ?_ (by decide) (by decide)
            rw [e0]
            exact ⟨(congrArg some (congrArg Value.int (by simp [own_draw, c580, c581, c582, c583, c584] <;> rfl))), N0, rfl⟩
          · refine g_icmpYes X0 hx 44 (hb hby d_method_3_38) (own_ii_ne_t c584) (by decide) (by decide) ?_
            refine g_iload_n X0 hx 45 (hb hby d_method_3_44) rfl rfl ?_
            refine g_iconst X0 hx 46 (hb hby d_method_3_45) (5 : Int32) rfl rfl ?_
            by_cases c585 : (pp &&& (7 : Int32)) = (5 : Int32)
            · refine g_icmpNo X0 hx 49 (hb hby d_method_3_46) (own_ii_ne_f c585) rfl ?_
              refine g_sipush X0 hx 52 (hb hby d_method_3_49) (160 : Int32) rfl rfl ?_
              refine own_retN X0 hx hlk (t := .char) hret (by simp) (hb hby d_method_3_52) ?_ (by decide) (by decide)
              rw [e0]
              exact ⟨(congrArg some (congrArg Value.int (by simp [own_draw, c580, c581, c582, c583, c584, c585] <;> rfl))), N0, rfl⟩
            · refine g_icmpYes X0 hx 53 (hb hby d_method_3_46) (own_ii_ne_t c585) (by decide) (by decide) ?_
              refine g_iload_n X0 hx 54 (hb hby d_method_3_53) rfl rfl ?_
              refine g_iconst X0 hx 55 (hb hby d_method_3_54) (3 : Int32) rfl rfl ?_
              refine g_iushr X0 hx 56 (hb hby d_method_3_55) rfl ?_
              refine g_ldc X0 hx hown 58 (z := (65535 : Int32)) (mvT hZ (hw _ (List.mem_of_getElem? (i := 34) rfl))) (hb hby d_method_3_56) rfl ?_
              refine g_iand X0 hx 59 (hb hby d_method_3_58) rfl ?_
              refine g_i2c X0 hx 60 (hb hby d_method_3_59) rfl ?_
              refine own_retN X0 hx hlk (t := .char) hret (by simp) (hb hby d_method_3_60) ?_ (by decide) (by decide)
              rw [e0]
              exact ⟨(congrArg some (congrArg Value.int (by simp [own_draw, c580, c581, c582, c583, c584, c585] <;> rfl))), N0, rfl⟩
theorem d_method_6_0 : decode method_6_code 0 = .ok (.iload_n 1, 1) := by decide +kernel
theorem d_method_6_1 : decode method_6_code 1 = .ok (.aload_n 0, 1) := by decide +kernel
theorem d_method_6_2 : decode method_6_code 2 = .ok (.invokevirtual 42, 3) := by decide +kernel
theorem d_method_6_5 : decode method_6_code 5 = .ok (.if_icmp .lt 5, 3) := by decide +kernel
theorem d_method_6_10 : decode method_6_code 10 = .ok (.aload_n 0, 1) := by decide +kernel
theorem d_method_6_11 : decode method_6_code 11 = .ok (.iload_n 1, 1) := by decide +kernel
theorem d_method_6_12 : decode method_6_code 12 = .ok (.invokevirtual 54, 3) := by decide +kernel
theorem d_method_6_15 : decode method_6_code 15 = .ok (.aload_n 2, 1) := by decide +kernel
theorem d_method_6_16 : decode method_6_code 16 = .ok (.iload_n 3, 1) := by decide +kernel
theorem d_method_6_17 : decode method_6_code 17 = .ok (.iload_n 1, 1) := by decide +kernel
theorem d_method_6_18 : decode method_6_code 18 = .ok (.iadd, 1) := by decide +kernel
theorem d_method_6_19 : decode method_6_code 19 = .ok (.caload, 1) := by decide +kernel
theorem d_method_6_20 : decode method_6_code 20 = .ok (.if_icmp .ne 7, 3) := by decide +kernel
theorem d_method_6_23 : decode method_6_code 23 = .ok (.iconst 1, 1) := by decide +kernel
theorem d_method_6_24 : decode method_6_code 24 = .ok (.goto 4, 3) := by decide +kernel
theorem d_method_6_28 : decode method_6_code 28 = .ok (.ireturn, 1) := by decide +kernel
theorem d_method_6_8 : decode method_6_code 8 = .ok (.iconst 1, 1) := by decide +kernel
theorem d_method_6_9 : decode method_6_code 9 = .ok (.ireturn, 1) := by decide +kernel
theorem ef_18 (m : MethodId) (x0 : Addr) (x1 : Int32) (x2 : Addr) (x3 : Int32) : entryFrame m #[(.ref x0), (.int x1), (.ref x2), (.int x3)] 4 = mkF m 0 #[.val (.ref x0), .val (.int x1), .val (.ref x2), .val (.int x3)] [] := by first | (simp [entryFrame, mkF, argsToLocals, Value.category]; done) | rfl
def Q_at (Z : State) (o : Addr) (ca : Addr) (kc : ClassId) (x0 : Int32) (x1 : Int32) (x2 : Int32) (x3 : Int32) (x4 : Int32) (kk : Int32) (ff : Int32) (cs : List Int32) (zc : Int32) (fm : Value) (h0 : Heap) (n0 : Nat) (v : Option Value) (h : Heap) (L : List Loc) : Prop := v = some (.int (1 : Int32)) ∧ Fr n0 L ∧ h = h0
set_option maxRecDepth 65536 in
set_option maxHeartbeats 40000000 in
theorem rm_at (l : Launch) (Z : State) (a0 : Array Value) (hw : ∀ d ∈ tables_1, d.before a0 Z = true) (ws : List Jvm.Cond) (o : Addr) (ca : Addr) (kc : ClassId) (x0 : Int32) (x1 : Int32) (x2 : Int32) (x3 : Int32) (x4 : Int32) (kk : Int32) (ff : Int32) (cs : List Int32) (zc : Int32) (fm : Value) (h0 : Heap) (n0 : Nat) (Z0 : n0 ≤ h0.size) (E_o : Exa Z h0 o "java/lang/String") (V_ca : Arv Z h0 ca kc .char (5 : Int32) [(.int x0), (.int x1), (.int x2), (.int x3), (.int x4)] (.int (0 : Int32))) (S_COMPACT_STRINGS : Sta Z h0 "java/lang/String" "COMPACT_STRINGS" "Z" (.int zc)) (S_SIOOBE_FORMATTER : Sta Z h0 "jdk/internal/util/Preconditions" "SIOOBE_FORMATTER" "Ljava/util/function/BiFunction;" fm) (S__assertionsDisabled : Sta Z h0 "java/lang/StringUTF16" "$assertionsDisabled" "Z" (.int (1 : Int32))) (S_HI_BYTE_SHIFT : Sta Z h0 "java/lang/StringUTF16" "HI_BYTE_SHIFT" "I" (.int (0 : Int32))) (S_LO_BYTE_SHIFT : Sta Z h0 "java/lang/StringUTF16" "LO_BYTE_SHIFT" "I" (.int (8 : Int32))) (STR : own_Str Z h0 o cs) (hz : ¬ (zc = (0 : Int32))) (hn : cs.length ≤ 5) (g1 : ¬ (kk < (0 : Int32))) (hE : own_E x0 x1 x2 x3 x4 cs ff kk) (hfm : fm.isRef = true) :
    MetFree l (⟨"com/example/honbun/honbun/WhiteSpaceTrimPinLaw", "at", "(Ljava/lang/String;I[CI)Z"⟩ : MethodName) (head1 (Jvm.Cond.code (⟨"com/example/honbun/honbun/WhiteSpaceTrimPinLaw", "at", "(Ljava/lang/String;I[CI)Z"⟩ : MethodName) method_6_code 4 (some .boolean) :: ws) ({ frames := 5, cells := 0, slots := 0, locals := 66 } : Room)) (fun aA U => aA = #[(.ref o), (.int kk), (.ref ca), (.int ff)] ∧ Z.Warmed39 U.vm ∧ U.heap = h0) (fun _ _ _ _ _ => True) (fun _ U oO U' => ∃ vV LL, oO = .returned vV ∧ Q_at Z o ca kc x0 x1 x2 x3 x4 kk ff cs zc fm h0 n0 vV U'.heap LL ∧ FrameEnd U oO U' LL ({ frames := 5, cells := 0, slots := 0, locals := 66 } : Room).cells ({ frames := 5, cells := 0, slots := 0, locals := 66 } : Room).slots) := by
  refine MetFree.of_bodySF (plainFor_of_name pn_8) hisR ?_
  intro p e s m args below meth c s₁ Bd hml0 hP hK
  obtain ⟨rfl, hZ, hh⟩ := hP
  have hx := Bd.exec
  have hby := Bd.bytes
  have hml : c.maxLocals = 4 := hml0
  have hown : s.vm.findClass "com/example/honbun/honbun/WhiteSpaceTrimPinLaw" = some m.cls := findClass_of_methodNamed Bd.named
  have hnm := (name_of_methodNamed Bd.named Bd.method).1
  have X0 : Stand p l e ({ frames := 5, cells := 0, slots := 0, locals := 66 } : Room) s m #[(.ref o), (.int kk), (.ref ca), (.int ff)] below meth c s₁ [] 0 0 := Stand.of_body Bd
  have e0 : s₁.heap = h0 := by rw [← hh, Bd.state]; rfl
  have N0 := Fr.nil n0
  have hret := Bd.returns
  have hlk : meth.locks = false := Bd.notSynchronized
  refine own_start (ef_18 m o kk ca ff) ?_
  show own_Go p e below s (Q_at Z o ca kc x0 x1 x2 x3 x4 kk ff cs zc fm h0 n0) ({ frames := 5, cells := 0, slots := 0, locals := 66 } : Room).cells ({ frames := 5, cells := 0, slots := 0, locals := 66 } : Room).slots (s₁.setTop (mkF m 0 #[.val (.ref o), .val (.int kk), .val (.ref ca), .val (.int ff)] []))
  refine g_iload_n X0 hx 1 (hb hby d_method_6_0) rfl rfl ?_
  refine g_aload_n X0 hx 2 (hb hby d_method_6_1) rfl rfl rfl ?_
  refine own_callV X0 hx hZ hown (hw _ (List.mem_of_getElem? (i := 128) rfl)) (hw _ (List.mem_of_getElem? (i := 45) rfl)) (own_nf hZ (hw _ (List.mem_of_getElem? (i := 47) rfl))) (hw _ (List.mem_of_getElem? (i := 47) rfl)) (hw _ (List.mem_of_getElem? (i := 46) rfl)) (by decide) (rm_lnS l Z a0 hw [] o cs zc h0 n0 Z0 S_COMPACT_STRINGS STR hz hn) (hw _ (List.mem_of_getElem? (i := 48) rfl)) (hw _ (List.mem_of_getElem? (i := 7) rfl)) e0 1 (by decide) (by decide) (by decide) (by decide) E_o [] [(.int kk)] rfl pd_21 rfl 5 rfl (by rw [hml]; rfl) rfl (hb hby d_method_6_2) rfl fun T586 v586 L586 X586 hQ586 => ?_
  obtain ⟨rfl, Nq586, e586⟩ := hQ586
  have N586 := Fr.app N0 Nq586
  show own_GoE p e below _ (T586.setTop (mkF m 5 _ [(.int (Int32.ofNat cs.length)), (.int kk)]))
  by_cases c587 : kk < (Int32.ofNat cs.length)
  · refine g_icmpYes X586 hx 10 (hb hby d_method_6_5) (own_ii_lt_t c587) (by decide) (by decide) ?_
    refine g_aload_n X586 hx 11 (hb hby d_method_6_10) rfl rfl rfl ?_
    refine g_iload_n X586 hx 12 (hb hby d_method_6_11) rfl rfl ?_
    refine own_callV X586 hx hZ hown (hw _ (List.mem_of_getElem? (i := 132) rfl)) (hw _ (List.mem_of_getElem? (i := 87) rfl)) (own_nf hZ (hw _ (List.mem_of_getElem? (i := 89) rfl))) (hw _ (List.mem_of_getElem? (i := 89) rfl)) (hw _ (List.mem_of_getElem? (i := 88) rfl)) (by decide) (rm_chS l Z a0 hw [] o kk cs zc fm h0 n0 Z0 S_COMPACT_STRINGS S_SIOOBE_FORMATTER S__assertionsDisabled S_HI_BYTE_SHIFT S_LO_BYTE_SHIFT STR hz hn g1 c587 hfm) (hw _ (List.mem_of_getElem? (i := 90) rfl)) (hw _ (List.mem_of_getElem? (i := 7) rfl)) e586 0 (by decide) (by decide) (by decide) (by decide) E_o [(.int kk)] [] rfl pd_25 rfl 15 rfl (by rw [hml]; rfl) rfl (hb hby d_method_6_12) rfl fun T588 v588 L588 X588 hQ588 => ?_
    obtain ⟨rfl, Nq588, e588⟩ := hQ588
    have N588 := Fr.app N586 Nq588
    show own_GoE p e below _ (T588.setTop (mkF m 15 _ [(.int (own_at cs kk))]))
    refine g_aload_n X588 hx 16 (hb hby d_method_6_15) rfl rfl rfl ?_
    refine g_iload_n X588 hx 17 (hb hby d_method_6_16) rfl rfl ?_
    refine g_iload_n X588 hx 18 (hb hby d_method_6_17) rfl rfl ?_
    refine g_iadd X588 hx 19 (hb hby d_method_6_18) rfl ?_
    obtain ⟨cl589, Ar589, q589, S589, P589, H589, G589⟩ := id V_ca
    have hin589 := inb_of (j := (ff + kk)) S589 (hE c587).1
    refine own_caload X588 hx hZ e588 Ar589 (v := (.int (own_at cs kk))) hin589 (Has.at H589 hin589 (hE c587).2) 20 (hb hby d_method_6_19) rfl ?_
    refine g_icmpNo X588 hx 23 (hb hby d_method_6_20) (own_ii_ne_f rfl) rfl ?_
    refine g_iconst X588 hx 24 (hb hby d_method_6_23) (1 : Int32) rfl rfl ?_
    refine g_goto X588 hx 28 (hb hby d_method_6_24) (by decide) (by decide) ?_
    refine own_retN X588 hx hlk (t := .boolean) hret (by simp) (hb hby d_method_6_28) ?_ (by decide) (by decide)
    rw [e588]
    exact ⟨(own_rb rfl), N588, rfl⟩
  · refine g_icmpNo X586 hx 8 (hb hby d_method_6_5) (own_ii_lt_f c587) rfl ?_
    refine g_iconst X586 hx 9 (hb hby d_method_6_8) (1 : Int32) rfl rfl ?_
    refine own_retN X586 hx hlk (t := .boolean) hret (by simp) (hb hby d_method_6_9) ?_ (by decide) (by decide)
    rw [e586]
    exact ⟨(own_rb rfl), N586, rfl⟩
theorem own_dec : ∀ (w0 w1 w2 w3 w4 : Bool) (s e : Fin 6), s.val ≤ e.val →
    (fun (sv ev : Int32) => ((own_min (own_min (own_min (own_ps w0 (0 : Int32) sv ev 99) (own_ps w1 (1 : Int32) sv ev 99)) (own_min (own_ps w2 (2 : Int32) sv ev 99) (own_ps w3 (3 : Int32) sv ev 99))) (own_ps w4 (4 : Int32) sv ev 99)) = 99 ∧ own_L [w0, w1, w2, w3, w4] (own_F [w0, w1, w2, w3, w4] e.val 6 s.val) 6 e.val = own_F [w0, w1, w2, w3, w4] e.val 6 s.val) ∨
      (own_F [w0, w1, w2, w3, w4] e.val 6 s.val < own_L [w0, w1, w2, w3, w4] (own_F [w0, w1, w2, w3, w4] e.val 6 s.val) 6 e.val ∧ own_L [w0, w1, w2, w3, w4] (own_F [w0, w1, w2, w3, w4] e.val 6 s.val) 6 e.val ≤ 5 ∧ (own_min (own_min (own_min (own_ps w0 (0 : Int32) sv ev 99) (own_ps w1 (1 : Int32) sv ev 99)) (own_min (own_ps w2 (2 : Int32) sv ev 99) (own_ps w3 (3 : Int32) sv ev 99))) (own_ps w4 (4 : Int32) sv ev 99)) = Int32.ofNat (own_F [w0, w1, w2, w3, w4] e.val 6 s.val) ∧ (own_max (own_max (own_max (own_ps w0 (0 : Int32) sv ev (-1)) (own_ps w1 (1 : Int32) sv ev (-1))) (own_max (own_ps w2 (2 : Int32) sv ev (-1)) (own_ps w3 (3 : Int32) sv ev (-1)))) (own_ps w4 (4 : Int32) sv ev (-1))) = Int32.ofNat (own_L [w0, w1, w2, w3, w4] (own_F [w0, w1, w2, w3, w4] e.val 6 s.val) 6 e.val - 1))) (Int32.ofNat s.val) (Int32.ofNat e.val) := by decide +kernel
theorem own_T_fin {sv ev : Int32} (h : own_T sv ev) : ∃ s e : Fin 6, s.val ≤ e.val ∧ sv = Int32.ofNat s.val ∧ ev = Int32.ofNat e.val ∧ sv.toInt.toNat = s.val ∧ ev.toInt.toNat = e.val := by
  obtain ⟨s, rfl⟩ := own_fin h.1 (Int.le_trans h.2.1 h.2.2)
  obtain ⟨e, rfl⟩ := own_fin (Int.le_trans h.1 h.2.1) h.2.2
  have a := (own_of5 (n := s.val) (by omega)).1
  have b := (own_of5 (n := e.val) (by omega)).1
  have c := h.2.1
  exact ⟨s, e, by omega, rfl, rfl, by omega, by omega⟩
theorem own_e99 {x0 x1 x2 x3 x4 sv ev fi : Int32} (h : own_T sv ev) (q : fi = (own_min (own_min (own_min (own_ps (own_wb x0) (0 : Int32) sv ev (99 : Int32)) (own_ps (own_wb x1) (1 : Int32) sv ev (99 : Int32))) (own_min (own_ps (own_wb x2) (2 : Int32) sv ev (99 : Int32)) (own_ps (own_wb x3) (3 : Int32) sv ev (99 : Int32)))) (own_ps (own_wb x4) (4 : Int32) sv ev (99 : Int32)))) (c : fi = (99 : Int32)) : own_cut sv.toInt.toNat ev.toInt.toNat [x0, x1, x2, x3, x4] = [] := by
  obtain ⟨s, e, hse, rfl, rfl, e1, e2⟩ := own_T_fin h
  rw [e1, e2]
  rcases own_dec (own_wb x0) (own_wb x1) (own_wb x2) (own_wb x3) (own_wb x4) s e hse with ⟨-, d⟩ | ⟨d1, d2, d3, -⟩
  · unfold own_cut
    simp only [List.map]
    rw [d, Nat.sub_self, List.take_zero]
  · exfalso
    rw [← q, c] at d3
    generalize own_L _ _ _ _ = L at *
    generalize own_F _ _ _ _ = F at *
    have : F < 6 := by omega
    have all : ∀ n : Fin 6, (99 : Int32) ≠ Int32.ofNat n.val := by decide
    exact all ⟨F, this⟩ d3
theorem own_main {x0 x1 x2 x3 x4 sv ev fi la : Int32} {ct : List Int32} (h : own_T sv ev) (q : fi = (own_min (own_min (own_min (own_ps (own_wb x0) (0 : Int32) sv ev (99 : Int32)) (own_ps (own_wb x1) (1 : Int32) sv ev (99 : Int32))) (own_min (own_ps (own_wb x2) (2 : Int32) sv ev (99 : Int32)) (own_ps (own_wb x3) (3 : Int32) sv ev (99 : Int32)))) (own_ps (own_wb x4) (4 : Int32) sv ev (99 : Int32)))) (c : ¬ (fi = (99 : Int32))) (q2 : la = (own_max (own_max (own_max (own_ps (own_wb x0) (0 : Int32) sv ev (-1 : Int32)) (own_ps (own_wb x1) (1 : Int32) sv ev (-1 : Int32))) (own_max (own_ps (own_wb x2) (2 : Int32) sv ev (-1 : Int32)) (own_ps (own_wb x3) (3 : Int32) sv ev (-1 : Int32)))) (own_ps (own_wb x4) (4 : Int32) sv ev (-1 : Int32)))) (hct : ct = own_cut sv.toInt.toNat ev.toInt.toNat [x0, x1, x2, x3, x4]) :
    ct.length ≤ 5 ∧ (Int32.ofNat ct.length) = ((la + (1 : Int32)) - fi) ∧ own_E x0 x1 x2 x3 x4 ct fi (0 : Int32) ∧ own_E x0 x1 x2 x3 x4 ct fi (1 : Int32) ∧ own_E x0 x1 x2 x3 x4 ct fi (2 : Int32) ∧ own_E x0 x1 x2 x3 x4 ct fi (3 : Int32) ∧ own_E x0 x1 x2 x3 x4 ct fi (4 : Int32) := by
  obtain ⟨s, e, hse, rfl, rfl, e1, e2⟩ := own_T_fin h
  rw [e1, e2] at hct
  rcases own_dec (own_wb x0) (own_wb x1) (own_wb x2) (own_wb x3) (own_wb x4) s e hse with ⟨d, -⟩ | ⟨d1, d2, d3, d4⟩
  · exact absurd (q.trans d) c
  · rw [← q] at d3
    rw [← q2] at d4
    unfold own_cut at hct
    simp only [List.map] at hct
    clear q q2 c
    generalize own_L _ _ _ _ = L at *
    generalize own_F _ _ _ _ = F at *
    have hl : ct.length = L - F := by
      rw [hct, List.length_take, List.length_drop]
      show min (L - F) (5 - F) = L - F
      omega
    have all : ∀ F L : Fin 6, F.val < L.val → Int32.ofNat (L.val - F.val) = ((Int32.ofNat (L.val - 1) + (1 : Int32)) - Int32.ofNat F.val) := by decide +kernel
    subst d3 d4
    exact ⟨by omega, by rw [hl]; exact all ⟨F, by omega⟩ ⟨L, by omega⟩ d1, own_Ek (k := 0) d1 d2 (by decide) hct, own_Ek (k := 1) d1 d2 (by decide) hct, own_Ek (k := 2) d1 d2 (by decide) hct, own_Ek (k := 3) d1 d2 (by decide) hct, own_Ek (k := 4) d1 d2 (by decide) hct⟩
theorem own_sv (p : Int32) {i : Int32} (q : i = ((p &&& (65535 : Int32)) % (6 : Int32))) : 0 ≤ i.toInt ∧ i.toInt ≤ 5 := by
  have h := c_mask p 65535 16 (by decide) (by decide)
  have r := (c_irem (p &&& (65535 : Int32)) 6 6 rfl).1 (by rw [h]; omega)
  rw [← q] at r
  omega
theorem own_6 {i : Int32} (h : 0 ≤ i.toInt ∧ i.toInt ≤ 5) : ((6 : Int32) - i).toInt = 6 - i.toInt := by
  have a := c_isub 6 i
  have r := rng32 ((6 : Int32) - i)
  have k : (6 : Int32).toInt = 6 := rfl
  omega
theorem own_nz {i : Int32} (h : 0 ≤ i.toInt ∧ i.toInt ≤ 5) : ((6 : Int32) - i) ≠ 0 := fun q => by
  have e := own_6 h
  rw [q] at e
  have k : (0 : Int32).toInt = 0 := rfl
  omega
theorem own_ev (p : Int32) {sv ev : Int32} (h : 0 ≤ sv.toInt ∧ sv.toInt ≤ 5) (q : ev = (sv + (((p.toUInt32 >>> ((16 : Int32) &&& 31).toUInt32).toInt32) % ((6 : Int32) - sv)))) : own_T sv ev := by
  have a := c_iushr p 16 16 (by decide) (by decide)
  have e := own_6 h
  have r := (c_iremV ((p.toUInt32 >>> ((16 : Int32) &&& 31).toUInt32).toInt32) ((6 : Int32) - sv)).1 (by rw [a]; omega) (by omega)
  have s := c_iadd sv (((p.toUInt32 >>> ((16 : Int32) &&& 31).toUInt32).toInt32) % ((6 : Int32) - sv))
  rw [← q] at s
  have g := rng32 ev
  unfold own_T
  omega
theorem pd_27 : parseMethodDescriptor "([C)V" = some ⟨[(.array .char)], none⟩ := by decide +kernel
theorem pd_28 : parseMethodDescriptor "(Ljava/lang/String;II)Ljava/lang/String;" = some ⟨[(.object "java/lang/String"), .int, .int], some (.object "java/lang/String")⟩ := by decide +kernel
theorem pd_29 : parseMethodDescriptor "([CIIII)I" = some ⟨[(.array .char), .int, .int, .int, .int], some .int⟩ := by decide +kernel
theorem pd_30 : parseMethodDescriptor "(Ljava/lang/String;I[CI)Z" = some ⟨[(.object "java/lang/String"), .int, (.array .char), .int], some .boolean⟩ := by decide +kernel
theorem ef_19 (m : MethodId) (x0 : Int32) (x1 : Int32) (x2 : Int32) (x3 : Int32) (x4 : Int32) (x5 : Int32) : entryFrame m #[(.int x0), (.int x1), (.int x2), (.int x3), (.int x4), (.int x5)] maxLocals = mkF m 0 #[.val (.int x0), .val (.int x1), .val (.int x2), .val (.int x3), .val (.int x4), .val (.int x5), .unset, .unset, .unset, .unset, .unset, .unset, .unset, .unset] [] := by first | (simp [entryFrame, mkF, argsToLocals, Value.category, maxLocals]; done) | rfl
def Q_law (Z : State) (p0 p1 p2 p3 p4 p5 zc : Int32) (fm : Value) (h0 : Heap) (n0 : Nat) (v : Option Value) (h : Heap) (L : List Loc) : Prop := v = some (.int 1) ∧ Fr n0 L
def QW_law (Z : State) (p0 p1 p2 p3 p4 p5 zc : Int32) (fm : Value) (h0 : Heap) (n0 : Nat) (v : Option Value) (vm : Vm) (h : Heap) (L : List Loc) : Prop := Q_law Z p0 p1 p2 p3 p4 p5 zc fm h0 n0 v h L
set_option maxRecDepth 65536 in
set_option maxHeartbeats 40000000 in
theorem rm_law (l : Launch) (Z : State) (a0 : Array Value) (hw : ∀ d ∈ tables_1, d.before a0 Z = true) (ws : List Jvm.Cond) (p0 p1 p2 p3 p4 p5 zc : Int32) (fm : Value) (h0 : Heap) (n0 : Nat) (Z0 : n0 ≤ h0.size) (S_c : Sta Z h0 "java/lang/String" "COMPACT_STRINGS" "Z" (.int zc)) (S_f : Sta Z h0 "jdk/internal/util/Preconditions" "SIOOBE_FORMATTER" "Ljava/util/function/BiFunction;" fm) (S_a : Sta Z h0 "java/lang/StringUTF16" "$assertionsDisabled" "Z" (.int (1 : Int32))) (S_h : Sta Z h0 "java/lang/StringUTF16" "HI_BYTE_SHIFT" "I" (.int (0 : Int32))) (S_l : Sta Z h0 "java/lang/StringUTF16" "LO_BYTE_SHIFT" "I" (.int (8 : Int32))) (hz : ¬ (zc = (0 : Int32))) (hfm : fm.isRef = true) (KZ : ∀ (b : Addr) (cl : Cell), Z.heap[b]? = some cl → h0[b]? = some cl) (hH1 : Jvm.Lit.constHeld Z "java/lang/StringLatin1" 151) (hH2 : Jvm.Lit.constHeld Z "java/lang/StringUTF16" 295) (hcw : Jvm.Lit.compactW.before a0 Z = true) :
    MetFree l x (head1 (Jvm.Cond.code x code maxLocals ret :: ws) room_1) (fun aA U => aA = #[(.int p0), (.int p1), (.int p2), (.int p3), (.int p4), (.int p5)] ∧ Z.Warmed39 U.vm ∧ U.heap = h0 ∧ own_LD Z U.vm h0) (fun _ _ _ _ _ => True) (fun _ U oO U' => ∃ vV LL, oO = .returned vV ∧ Q_law Z p0 p1 p2 p3 p4 p5 zc fm h0 n0 vV U'.heap LL ∧ ReturnedEndW U oO U' LL room_1.cells room_1.slots) := by
  refine MetFree.of_bodySF (plainFor_of_name pn_8) hisR ?_
  intro p e s m args below meth c s₁ Bd hml0 hP hK
  obtain ⟨rfl, hZ0, hh, D0⟩ := hP
  have hx := Bd.exec
  have hby := Bd.bytes
  have hml : c.maxLocals = 14 := hml0
  have hZ : Z.Warmed39 (s.setVm s.vm).vm := hZ0
  have hown : (s.setVm s.vm).vm.findClass "com/example/honbun/honbun/WhiteSpaceTrimPinLaw" = some m.cls := findClass_of_methodNamed Bd.named
  have hnm := (name_of_methodNamed Bd.named Bd.method).1
  have X0 : Stand p l e room_1 (s.setVm s.vm) m #[(.int p0), (.int p1), (.int p2), (.int p3), (.int p4), (.int p5)] below meth c s₁ [] 0 0 := Stand.of_body Bd
  have hS : s.Since s.vm 0 := (State.WarmedH.refl s).since 0
  have hSk : 0 ≤ h0.size := Nat.zero_le _
  have e0 : s₁.heap = h0 := by rw [← hh, Bd.state]; rfl
  have N0 := Fr.nil n0
  have hret := Bd.returns
  have hlk : meth.locks = false := Bd.notSynchronized
  refine own_start (ef_19 m p0 p1 p2 p3 p4 p5) ?_
  show own_GoE p e below (fun oO vV UU LL => QW_law Z p0 p1 p2 p3 p4 p5 zc fm h0 n0 vV UU.vm UU.heap LL ∧ ReturnedEndW s oO UU LL room_1.cells room_1.slots) (s₁.setTop (mkF m 0 #[.val (.int p0), .val (.int p1), .val (.int p2), .val (.int p3), .val (.int p4), .val (.int p5), .unset, .unset, .unset, .unset, .unset, .unset, .unset, .unset] []))
  refine g_iconst X0 hx 1 (hb hby at_0) (5 : Int32) rfl rfl ?_
  refine own_newP X0 hx hZ (hw _ (List.mem_of_getElem? (i := 0) rfl)) e0 3 (hb hby at_1) rfl (by decide) 5 (by decide) (by decide) (by decide) (by decide) fun T590 h590 k590 b590 X590 e590 g590 E590 A590 => ?_
  have g_b590 : n0 ≤ b590 := Nat.le_trans Z0 (Nat.le_of_eq g590.symm)
  have sz_b590 : h0.size ≤ b590 := Nat.le_trans (Keep.refl h0 []).1 (Nat.le_of_eq g590.symm)
  have K591 : Keep h0 h590 [] := (Keep.refl h0 []).ext E590
  have z592 : n0 ≤ h590.size := (Nat.le_trans Z0 E590.1)
  have z593 : _ ≤ h590.size := (Nat.le_trans hSk E590.1)
  have V590 : Arv Z h590 b590 k590 .char (5 : Int32) [(.int (0 : Int32)), (.int (0 : Int32)), (.int (0 : Int32)), (.int (0 : Int32)), (.int (0 : Int32))] (.int (0 : Int32)) := (Arv.new A590 (by decide)).pad (pad_rep [] (.int (0 : Int32)) 5)
  refine g_astore X590 hx 5 (hb hby at_3) rfl (l' := #[.val (.int p0), .val (.int p1), .val (.int p2), .val (.int p3), .val (.int p4), .val (.int p5), .val (.ref b590), .unset, .unset, .unset, .unset, .unset, .unset, .unset]) rfl rfl ?_
  refine g_aload X590 hx 7 (hb hby at_5) rfl rfl rfl ?_
  refine g_iconst X590 hx 8 (hb hby at_7) (0 : Int32) rfl rfl ?_
  refine g_iload_n X590 hx 9 (hb hby at_8) rfl rfl ?_
  refine own_callS X590 hx hZ hown (hw _ (List.mem_of_getElem? (i := 1) rfl)) (hw _ (List.mem_of_getElem? (i := 2) rfl)) (by decide) (rm_draw l Z a0 hw [] p0 h590 n0 z592 ) (hw _ (List.mem_of_getElem? (i := 4) rfl)) (hw _ (List.mem_of_getElem? (i := 3) rfl)) e590 2 (by decide) (by decide) (by decide) (by decide) [(.int p0)] [(.int (0 : Int32)), (.ref b590)] rfl pd_25 rfl 12 rfl (by rw [hml]; rfl) rfl (hb hby at_9) rfl fun T594 v594 L594 X594 hQ594 => ?_
  obtain ⟨rfl, Nq594, e594⟩ := hQ594
  have N594 := Fr.app N0 Nq594
  show own_GoE p e below _ (T594.setTop (mkF m 12 _ [(.int (own_draw p0)), (.int (0 : Int32)), (.ref b590)]))
  obtain ⟨x0, q_x0⟩ : ∃ z, z = (own_draw p0) := ⟨_, rfl⟩
  have hr_x0 := own_drw p0 q_x0
  rw [← q_x0]
  obtain ⟨cl595, Ar595, q595, S595, P595, H595, G595⟩ := id V590
  have hin595 := inb_of (j := (0 : Int32)) S595 ⟨by decide, by decide⟩
  refine own_stC X594 hx hZ e594 Ar595 hin595 13 (hb hby at_12) rfl fun T595 h595 X595 e595 W595 => ?_
  rw [show nar .char x0 = x0 from (own_nc hr_x0)] at W595
  have V595 : Arv Z h595 b590 k590 .char (5 : Int32) [(.int x0), (.int (0 : Int32)), (.int (0 : Int32)), (.int (0 : Int32)), (.int (0 : Int32))] (.int (0 : Int32)) := Arv.set Ar595 q595 S595 P595 H595 G595 (v := (.int x0)) (by rw [← ((own_nc hr_x0) : nar .char x0 = x0)]; exact fits_nar_char _) W595 0 rfl (Nat.le_of_ble_eq_true rfl)
  have N595 := Fr.snoc X595 N594 g_b590
  have z596 : n0 ≤ h595.size := (Nat.le_trans z592 (Keep.of_wr W595).1)
  have z597 : _ ≤ h595.size := (Nat.le_trans z593 (Keep.of_wr W595).1)
  have K598 : Keep h0 h595 [] := K591.wr W595 (Or.inr sz_b590)
  refine g_aload X595 hx 15 (hb hby at_13) rfl rfl rfl ?_
  refine g_iconst X595 hx 16 (hb hby at_15) (1 : Int32) rfl rfl ?_
  refine g_iload_n X595 hx 17 (hb hby at_16) rfl rfl ?_
  refine own_callS X595 hx hZ hown (hw _ (List.mem_of_getElem? (i := 1) rfl)) (hw _ (List.mem_of_getElem? (i := 2) rfl)) (by decide) (rm_draw l Z a0 hw [] p1 h595 n0 z596 ) (hw _ (List.mem_of_getElem? (i := 4) rfl)) (hw _ (List.mem_of_getElem? (i := 3) rfl)) e595 2 (by decide) (by decide) (by decide) (by decide) [(.int p1)] [(.int (1 : Int32)), (.ref b590)] rfl pd_25 rfl 20 rfl (by rw [hml]; rfl) rfl (hb hby at_17) rfl fun T599 v599 L599 X599 hQ599 => ?_
  obtain ⟨rfl, Nq599, e599⟩ := hQ599
  have N599 := Fr.app N595 Nq599
  show own_GoE p e below _ (T599.setTop (mkF m 20 _ [(.int (own_draw p1)), (.int (1 : Int32)), (.ref b590)]))
  obtain ⟨x1, q_x1⟩ : ∃ z, z = (own_draw p1) := ⟨_, rfl⟩
  have hr_x1 := own_drw p1 q_x1
  rw [← q_x1]
  obtain ⟨cl600, Ar600, q600, S600, P600, H600, G600⟩ := id V595
  have hin600 := inb_of (j := (1 : Int32)) S600 ⟨by decide, by decide⟩
  refine own_stC X599 hx hZ e599 Ar600 hin600 21 (hb hby at_20) rfl fun T600 h600 X600 e600 W600 => ?_
  rw [show nar .char x1 = x1 from (own_nc hr_x1)] at W600
  have V600 : Arv Z h600 b590 k590 .char (5 : Int32) [(.int x0), (.int x1), (.int (0 : Int32)), (.int (0 : Int32)), (.int (0 : Int32))] (.int (0 : Int32)) := Arv.set Ar600 q600 S600 P600 H600 G600 (v := (.int x1)) (by rw [← ((own_nc hr_x1) : nar .char x1 = x1)]; exact fits_nar_char _) W600 1 rfl (Nat.le_of_ble_eq_true rfl)
  have N600 := Fr.snoc X600 N599 g_b590
  have z601 : n0 ≤ h600.size := (Nat.le_trans z596 (Keep.of_wr W600).1)
  have z602 : _ ≤ h600.size := (Nat.le_trans z597 (Keep.of_wr W600).1)
  have K603 : Keep h0 h600 [] := K598.wr W600 (Or.inr sz_b590)
  refine g_aload X600 hx 23 (hb hby at_21) rfl rfl rfl ?_
  refine g_iconst X600 hx 24 (hb hby at_23) (2 : Int32) rfl rfl ?_
  refine g_iload_n X600 hx 25 (hb hby at_24) rfl rfl ?_
  refine own_callS X600 hx hZ hown (hw _ (List.mem_of_getElem? (i := 1) rfl)) (hw _ (List.mem_of_getElem? (i := 2) rfl)) (by decide) (rm_draw l Z a0 hw [] p2 h600 n0 z601 ) (hw _ (List.mem_of_getElem? (i := 4) rfl)) (hw _ (List.mem_of_getElem? (i := 3) rfl)) e600 2 (by decide) (by decide) (by decide) (by decide) [(.int p2)] [(.int (2 : Int32)), (.ref b590)] rfl pd_25 rfl 28 rfl (by rw [hml]; rfl) rfl (hb hby at_25) rfl fun T604 v604 L604 X604 hQ604 => ?_
  obtain ⟨rfl, Nq604, e604⟩ := hQ604
  have N604 := Fr.app N600 Nq604
  show own_GoE p e below _ (T604.setTop (mkF m 28 _ [(.int (own_draw p2)), (.int (2 : Int32)), (.ref b590)]))
  obtain ⟨x2, q_x2⟩ : ∃ z, z = (own_draw p2) := ⟨_, rfl⟩
  have hr_x2 := own_drw p2 q_x2
  rw [← q_x2]
  obtain ⟨cl605, Ar605, q605, S605, P605, H605, G605⟩ := id V600
  have hin605 := inb_of (j := (2 : Int32)) S605 ⟨by decide, by decide⟩
  refine own_stC X604 hx hZ e604 Ar605 hin605 29 (hb hby at_28) rfl fun T605 h605 X605 e605 W605 => ?_
  rw [show nar .char x2 = x2 from (own_nc hr_x2)] at W605
  have V605 : Arv Z h605 b590 k590 .char (5 : Int32) [(.int x0), (.int x1), (.int x2), (.int (0 : Int32)), (.int (0 : Int32))] (.int (0 : Int32)) := Arv.set Ar605 q605 S605 P605 H605 G605 (v := (.int x2)) (by rw [← ((own_nc hr_x2) : nar .char x2 = x2)]; exact fits_nar_char _) W605 2 rfl (Nat.le_of_ble_eq_true rfl)
  have N605 := Fr.snoc X605 N604 g_b590
  have z606 : n0 ≤ h605.size := (Nat.le_trans z601 (Keep.of_wr W605).1)
  have z607 : _ ≤ h605.size := (Nat.le_trans z602 (Keep.of_wr W605).1)
  have K608 : Keep h0 h605 [] := K603.wr W605 (Or.inr sz_b590)
  refine g_aload X605 hx 31 (hb hby at_29) rfl rfl rfl ?_
  refine g_iconst X605 hx 32 (hb hby at_31) (3 : Int32) rfl rfl ?_
  refine g_iload_n X605 hx 33 (hb hby at_32) rfl rfl ?_
  refine own_callS X605 hx hZ hown (hw _ (List.mem_of_getElem? (i := 1) rfl)) (hw _ (List.mem_of_getElem? (i := 2) rfl)) (by decide) (rm_draw l Z a0 hw [] p3 h605 n0 z606 ) (hw _ (List.mem_of_getElem? (i := 4) rfl)) (hw _ (List.mem_of_getElem? (i := 3) rfl)) e605 2 (by decide) (by decide) (by decide) (by decide) [(.int p3)] [(.int (3 : Int32)), (.ref b590)] rfl pd_25 rfl 36 rfl (by rw [hml]; rfl) rfl (hb hby at_33) rfl fun T609 v609 L609 X609 hQ609 => ?_
  obtain ⟨rfl, Nq609, e609⟩ := hQ609
  have N609 := Fr.app N605 Nq609
  show own_GoE p e below _ (T609.setTop (mkF m 36 _ [(.int (own_draw p3)), (.int (3 : Int32)), (.ref b590)]))
  obtain ⟨x3, q_x3⟩ : ∃ z, z = (own_draw p3) := ⟨_, rfl⟩
  have hr_x3 := own_drw p3 q_x3
  rw [← q_x3]
  obtain ⟨cl610, Ar610, q610, S610, P610, H610, G610⟩ := id V605
  have hin610 := inb_of (j := (3 : Int32)) S610 ⟨by decide, by decide⟩
  refine own_stC X609 hx hZ e609 Ar610 hin610 37 (hb hby at_36) rfl fun T610 h610 X610 e610 W610 => ?_
  rw [show nar .char x3 = x3 from (own_nc hr_x3)] at W610
  have V610 : Arv Z h610 b590 k590 .char (5 : Int32) [(.int x0), (.int x1), (.int x2), (.int x3), (.int (0 : Int32))] (.int (0 : Int32)) := Arv.set Ar610 q610 S610 P610 H610 G610 (v := (.int x3)) (by rw [← ((own_nc hr_x3) : nar .char x3 = x3)]; exact fits_nar_char _) W610 3 rfl (Nat.le_of_ble_eq_true rfl)
  have N610 := Fr.snoc X610 N609 g_b590
  have z611 : n0 ≤ h610.size := (Nat.le_trans z606 (Keep.of_wr W610).1)
  have z612 : _ ≤ h610.size := (Nat.le_trans z607 (Keep.of_wr W610).1)
  have K613 : Keep h0 h610 [] := K608.wr W610 (Or.inr sz_b590)
  refine g_aload X610 hx 39 (hb hby at_37) rfl rfl rfl ?_
  refine g_iconst X610 hx 40 (hb hby at_39) (4 : Int32) rfl rfl ?_
  refine g_iload X610 hx 42 (hb hby at_40) rfl rfl ?_
  refine own_callS X610 hx hZ hown (hw _ (List.mem_of_getElem? (i := 1) rfl)) (hw _ (List.mem_of_getElem? (i := 2) rfl)) (by decide) (rm_draw l Z a0 hw [] p4 h610 n0 z611 ) (hw _ (List.mem_of_getElem? (i := 4) rfl)) (hw _ (List.mem_of_getElem? (i := 3) rfl)) e610 2 (by decide) (by decide) (by decide) (by decide) [(.int p4)] [(.int (4 : Int32)), (.ref b590)] rfl pd_25 rfl 45 rfl (by rw [hml]; rfl) rfl (hb hby at_42) rfl fun T614 v614 L614 X614 hQ614 => ?_
  obtain ⟨rfl, Nq614, e614⟩ := hQ614
  have N614 := Fr.app N610 Nq614
  show own_GoE p e below _ (T614.setTop (mkF m 45 _ [(.int (own_draw p4)), (.int (4 : Int32)), (.ref b590)]))
  obtain ⟨x4, q_x4⟩ : ∃ z, z = (own_draw p4) := ⟨_, rfl⟩
  have hr_x4 := own_drw p4 q_x4
  rw [← q_x4]
  obtain ⟨cl615, Ar615, q615, S615, P615, H615, G615⟩ := id V610
  have hin615 := inb_of (j := (4 : Int32)) S615 ⟨by decide, by decide⟩
  refine own_stC X614 hx hZ e614 Ar615 hin615 46 (hb hby at_45) rfl fun T615 h615 X615 e615 W615 => ?_
  rw [show nar .char x4 = x4 from (own_nc hr_x4)] at W615
  have V615 : Arv Z h615 b590 k590 .char (5 : Int32) [(.int x0), (.int x1), (.int x2), (.int x3), (.int x4)] (.int (0 : Int32)) := Arv.set Ar615 q615 S615 P615 H615 G615 (v := (.int x4)) (by rw [← ((own_nc hr_x4) : nar .char x4 = x4)]; exact fits_nar_char _) W615 4 rfl (Nat.le_of_ble_eq_true rfl)
  have N615 := Fr.snoc X615 N614 g_b590
  have z616 : n0 ≤ h615.size := (Nat.le_trans z611 (Keep.of_wr W615).1)
  have z617 : _ ≤ h615.size := (Nat.le_trans z612 (Keep.of_wr W615).1)
  have K618 : Keep h0 h615 [] := K613.wr W615 (Or.inr sz_b590)
  have hr : ∀ x ∈ [x0, x1, x2, x3, x4], 0 ≤ x.toInt ∧ x.toInt ≤ 65535 := own_allS hr_x0 (own_allS hr_x1 (own_allS hr_x2 (own_allS hr_x3 (own_allS hr_x4 (own_all0)))))
  refine own_newO X615 hx hZ hown (hw _ (List.mem_of_getElem? (i := 5) rfl)) (hw _ (List.mem_of_getElem? (i := 6) rfl)) (hw _ (List.mem_of_getElem? (i := 7) rfl)) e615 49 (hb hby at_46) rfl (by decide) (by decide) fun T619 h619 b619 X619 e619 g619 E619 A619 D619 => ?_
  have ne620 : b590 ≠ b619 := Nat.ne_of_lt (Nat.lt_of_lt_of_le V615.lt (Nat.le_of_eq g619.symm))
  have g_b619 : n0 ≤ b619 := Nat.le_trans z616 (Nat.le_of_eq g619.symm)
  have sz_b619 : h0.size ≤ b619 := Nat.le_trans K618.1 (Nat.le_of_eq g619.symm)
  have K621 : Keep h0 h619 [] := K618.ext E619
  have z622 : n0 ≤ h619.size := (Nat.le_trans z616 E619.1)
  have z623 : _ ≤ h619.size := (Nat.le_trans z617 E619.1)
  have f624 : Fld Z h619 b619 "java/lang/String" "coder" "B" (.int (0 : Int32)) := D619 (Or.inr (hw _ (List.mem_of_getElem? (i := 31) rfl))) (ty := .byte) (by decide)
  have f625 : Fld Z h619 b619 "java/lang/String" "value" "[B" .null := D619 (Or.inr (hw _ (List.mem_of_getElem? (i := 33) rfl))) (ty := (.array .byte)) (by decide)
  refine g_dup X619 hx 50 (hb hby at_49) rfl rfl ?_
  refine g_aload X619 hx 52 (hb hby at_50) rfl rfl rfl ?_
  have f627 : Arv Z h619 b590 k590 .char (5 : Int32) [(.int x0), (.int x1), (.int x2), (.int x3), (.int x4)] (.int (0 : Int32)) := (V615.ext E619)
  have f628 : Sta Z h619 "java/lang/String" "COMPACT_STRINGS" "Z" (.int zc) := (own_Sta_keep K621 S_c all0)
  have f629 : Sta Z h619 "java/lang/StringUTF16" "$assertionsDisabled" "Z" (.int (1 : Int32)) := (own_Sta_keep K621 S_a all0)
  have f630 : Sta Z h619 "java/lang/StringUTF16" "HI_BYTE_SHIFT" "I" (.int (0 : Int32)) := (own_Sta_keep K621 S_h all0)
  have f631 : Sta Z h619 "java/lang/StringUTF16" "LO_BYTE_SHIFT" "I" (.int (8 : Int32)) := (own_Sta_keep K621 S_l all0)
  refine own_callI X619 hx hZ hown rfl (hw _ (List.mem_of_getElem? (i := 8) rfl)) (hw _ (List.mem_of_getElem? (i := 9) rfl)) (by decide) (rm_in1 l Z a0 hw [] b619 b590 k590 x0 x1 x2 x3 x4 zc h619 n0 z622 A619 f625 f624 f627 f628 f629 f630 f631 g_b619 hz hr) (hw _ (List.mem_of_getElem? (i := 10) rfl)) (hw _ (List.mem_of_getElem? (i := 7) rfl)) e619 1 (by decide) (by decide) (by decide) (by decide) b619 [(.ref b590)] [(.ref b619)] rfl pd_27 rfl 55 rfl (by rw [hml]; rfl) rfl (hb hby at_52) rfl fun T626 v626 L626 X626 hQ626 => ?_
  obtain ⟨rfl, Nq626, Kq626, st626_0⟩ := hQ626
  have N626 := Fr.app N615 Nq626
  have K632 : Keep h0 T626.heap [] := K621.trans Kq626 (allS (Or.inr sz_b619) all0)
  have z633 : n0 ≤ T626.heap.size := (Nat.le_trans z622 Kq626.1)
  have z634 : _ ≤ T626.heap.size := (Nat.le_trans z623 Kq626.1)
  show own_GoE p e below _ (T626.setTop (mkF m 55 _ [(.ref b619)]))
  refine g_astore X626 hx 57 (hb hby at_55) rfl (l' := #[.val (.int p0), .val (.int p1), .val (.int p2), .val (.int p3), .val (.int p4), .val (.int p5), .val (.ref b590), .val (.ref b619), .unset, .unset, .unset, .unset, .unset, .unset]) rfl rfl ?_
  refine g_iload X626 hx 59 (hb hby at_57) rfl rfl ?_
  refine g_ldc X626 hx hown 61 (z := (65535 : Int32)) (mvT hZ (hw _ (List.mem_of_getElem? (i := 34) rfl))) (hb hby at_59) rfl ?_
  refine g_iand X626 hx 62 (hb hby at_61) rfl ?_
  refine g_bipush X626 hx 64 (hb hby at_62) (6 : Int32) rfl rfl ?_
  refine g_irem X626 hx 65 (hb hby at_64) rfl (by decide) ?_
  obtain ⟨sv, q_sv⟩ : ∃ z, z = ((p5 &&& (65535 : Int32)) % (6 : Int32)) := ⟨_, rfl⟩
  have h_sv := own_sv p5 q_sv
  rw [← q_sv]
  refine g_istore X626 hx 67 (hb hby at_65) (l' := #[.val (.int p0), .val (.int p1), .val (.int p2), .val (.int p3), .val (.int p4), .val (.int p5), .val (.ref b590), .val (.ref b619), .val (.int sv), .unset, .unset, .unset, .unset, .unset]) rfl rfl ?_
  refine g_iload X626 hx 69 (hb hby at_67) rfl rfl ?_
  refine g_iload X626 hx 71 (hb hby at_69) rfl rfl ?_
  refine g_bipush X626 hx 73 (hb hby at_71) (16 : Int32) rfl rfl ?_
  refine g_iushr X626 hx 74 (hb hby at_73) rfl ?_
  refine g_bipush X626 hx 76 (hb hby at_74) (6 : Int32) rfl rfl ?_
  refine g_iload X626 hx 78 (hb hby at_76) rfl rfl ?_
  refine g_isub X626 hx 79 (hb hby at_78) rfl ?_
  refine g_irem X626 hx 80 (hb hby at_79) rfl (own_nz h_sv) ?_
  refine g_iadd X626 hx 81 (hb hby at_80) rfl ?_
  obtain ⟨ev, q_ev⟩ : ∃ z, z = (sv + (((p5.toUInt32 >>> ((16 : Int32) &&& 31).toUInt32).toInt32) % ((6 : Int32) - sv))) := ⟨_, rfl⟩
  have h_se := own_ev p5 h_sv q_ev
  rw [← q_ev]
  refine g_istore X626 hx 83 (hb hby at_81) (l' := #[.val (.int p0), .val (.int p1), .val (.int p2), .val (.int p3), .val (.int p4), .val (.int p5), .val (.ref b590), .val (.ref b619), .val (.int sv), .val (.int ev), .unset, .unset, .unset, .unset]) rfl rfl ?_
  refine g_aload X626 hx 85 (hb hby at_83) rfl rfl rfl ?_
  refine g_iload X626 hx 87 (hb hby at_85) rfl rfl ?_
  refine g_iload X626 hx 89 (hb hby at_87) rfl rfl ?_
  have f636 : Exa Z T626.heap b619 "java/lang/String" := (A619.keep Kq626)
  have f637 : Sta Z T626.heap "java/lang/String" "COMPACT_STRINGS" "Z" (.int zc) := (own_Sta_keep Kq626 f628 (allS (own_plainE A619) all0))
  have f638 : Sta Z T626.heap "jdk/internal/util/Preconditions" "SIOOBE_FORMATTER" "Ljava/util/function/BiFunction;" fm := (own_Sta_keep K632 S_f all0)
  have f639 : Sta Z T626.heap "java/lang/StringUTF16" "$assertionsDisabled" "Z" (.int (1 : Int32)) := (own_Sta_keep Kq626 f629 (allS (own_plainE A619) all0))
  have f640 : Sta Z T626.heap "java/lang/StringUTF16" "HI_BYTE_SHIFT" "I" (.int (0 : Int32)) := (own_Sta_keep Kq626 f630 (allS (own_plainE A619) all0))
  have f641 : Sta Z T626.heap "java/lang/StringUTF16" "LO_BYTE_SHIFT" "I" (.int (8 : Int32)) := (own_Sta_keep Kq626 f631 (allS (own_plainE A619) all0))
  refine own_callSW X626 hx hZ hown (hw _ (List.mem_of_getElem? (i := 35) rfl)) (hw _ (List.mem_of_getElem? (i := 36) rfl)) (by decide) (rm_tr l Z a0 hw [] b619 sv ev [x0, x1, x2, x3, x4] zc fm T626.heap n0 z633 f636 f637 f638 f639 f640 f641 st626_0 hz (own_kz KZ K632) hH1 hH2 hcw rfl h_se hfm) (hw _ (List.mem_of_getElem? (i := 38) rfl)) (hw _ (List.mem_of_getElem? (i := 37) rfl)) rfl (D0.keep K632) hS z634 0 (by decide) (by decide) (by decide) (by decide) [(.ref b619), (.int sv), (.int ev)] [] rfl pd_28 rfl 92 rfl (by rw [hml]; rfl) rfl (hb hby at_89) rfl fun T635 v635 L635 X635 hS hZ hown hQ635 D635 => ?_
  obtain ⟨r_635, rfl, Nq635, Kq635, qx635_0⟩ := hQ635
  have N635 := Fr.app N626 Nq635
  have K642 : Keep h0 T635.heap [] := K632.trans Kq635 all0
  have z643 : n0 ≤ T635.heap.size := (Nat.le_trans z633 Kq635.1)
  show own_GoE p e below _ (T635.setTop (mkF m 92 _ [(.ref r_635)]))
  refine g_astore X635 hx 94 (hb hby at_92) rfl (l' := #[.val (.int p0), .val (.int p1), .val (.int p2), .val (.int p3), .val (.int p4), .val (.int p5), .val (.ref b590), .val (.ref b619), .val (.int sv), .val (.int ev), .val (.ref r_635), .unset, .unset, .unset]) rfl rfl ?_
  refine g_aload X635 hx 96 (hb hby at_94) rfl rfl rfl ?_
  refine g_iconst X635 hx 97 (hb hby at_96) (0 : Int32) rfl rfl ?_
  refine g_iload X635 hx 99 (hb hby at_97) rfl rfl ?_
  refine g_iload X635 hx 101 (hb hby at_99) rfl rfl ?_
  refine g_bipush X635 hx 103 (hb hby at_101) (99 : Int32) rfl rfl ?_
  have f645 : Arv Z T635.heap b590 k590 .char (5 : Int32) [(.int x0), (.int x1), (.int x2), (.int x3), (.int x4)] (.int (0 : Int32)) := ((f627.keep Kq626 (ninS ne620 nin0)).keep Kq635 nin0)
  refine own_callS X635 hx hZ hown (hw _ (List.mem_of_getElem? (i := 74) rfl)) (hw _ (List.mem_of_getElem? (i := 75) rfl)) (by decide) (rm_pos0 l Z a0 hw [] b590 k590 sv ev (99 : Int32) x0 x1 x2 x3 x4 T635.heap n0 z643 f645) (hw _ (List.mem_of_getElem? (i := 76) rfl)) (hw _ (List.mem_of_getElem? (i := 3) rfl)) rfl 0 (by decide) (by decide) (by decide) (by decide) [(.ref b590), (.int (0 : Int32)), (.int sv), (.int ev), (.int (99 : Int32))] [] rfl pd_29 rfl 106 rfl (by rw [hml]; rfl) rfl (hb hby at_103) rfl fun T644 v644 L644 X644 hQ644 => ?_
  obtain ⟨rfl, Nq644, e644⟩ := hQ644
  have N644 := Fr.app N635 Nq644
  show own_GoE p e below _ (T644.setTop (mkF m 106 _ [(.int (own_ps (own_wb x0) (0 : Int32) sv ev (99 : Int32)))]))
  refine g_aload X644 hx 108 (hb hby at_106) rfl rfl rfl ?_
  refine g_iconst X644 hx 109 (hb hby at_108) (1 : Int32) rfl rfl ?_
  refine g_iload X644 hx 111 (hb hby at_109) rfl rfl ?_
  refine g_iload X644 hx 113 (hb hby at_111) rfl rfl ?_
  refine g_bipush X644 hx 115 (hb hby at_113) (99 : Int32) rfl rfl ?_
  refine own_callS X644 hx hZ hown (hw _ (List.mem_of_getElem? (i := 74) rfl)) (hw _ (List.mem_of_getElem? (i := 75) rfl)) (by decide) (rm_pos1 l Z a0 hw [] b590 k590 sv ev (99 : Int32) x0 x1 x2 x3 x4 T635.heap n0 z643 f645) (hw _ (List.mem_of_getElem? (i := 76) rfl)) (hw _ (List.mem_of_getElem? (i := 3) rfl)) e644 1 (by decide) (by decide) (by decide) (by decide) [(.ref b590), (.int (1 : Int32)), (.int sv), (.int ev), (.int (99 : Int32))] [(.int (own_ps (own_wb x0) (0 : Int32) sv ev (99 : Int32)))] rfl pd_29 rfl 118 rfl (by rw [hml]; rfl) rfl (hb hby at_115) rfl fun T646 v646 L646 X646 hQ646 => ?_
  obtain ⟨rfl, Nq646, e646⟩ := hQ646
  have N646 := Fr.app N644 Nq646
  show own_GoE p e below _ (T646.setTop (mkF m 118 _ [(.int (own_ps (own_wb x1) (1 : Int32) sv ev (99 : Int32))), (.int (own_ps (own_wb x0) (0 : Int32) sv ev (99 : Int32)))]))
  refine own_callS X646 hx hZ hown (hw _ (List.mem_of_getElem? (i := 77) rfl)) (hw _ (List.mem_of_getElem? (i := 78) rfl)) (by decide) (rm_mnS l Z a0 hw [] (own_ps (own_wb x0) (0 : Int32) sv ev (99 : Int32)) (own_ps (own_wb x1) (1 : Int32) sv ev (99 : Int32)) T635.heap n0 z643 ) (hw _ (List.mem_of_getElem? (i := 80) rfl)) (hw _ (List.mem_of_getElem? (i := 79) rfl)) e646 0 (by decide) (by decide) (by decide) (by decide) [(.int (own_ps (own_wb x0) (0 : Int32) sv ev (99 : Int32))), (.int (own_ps (own_wb x1) (1 : Int32) sv ev (99 : Int32)))] [] rfl pd_8 rfl 121 rfl (by rw [hml]; rfl) rfl (hb hby at_118) rfl fun T647 v647 L647 X647 hQ647 => ?_
  obtain ⟨rfl, Nq647, e647⟩ := hQ647
  have N647 := Fr.app N646 Nq647
  show own_GoE p e below _ (T647.setTop (mkF m 121 _ [(.int (own_min (own_ps (own_wb x0) (0 : Int32) sv ev (99 : Int32)) (own_ps (own_wb x1) (1 : Int32) sv ev (99 : Int32))))]))
  refine g_aload X647 hx 123 (hb hby at_121) rfl rfl rfl ?_
  refine g_iconst X647 hx 124 (hb hby at_123) (2 : Int32) rfl rfl ?_
  refine g_iload X647 hx 126 (hb hby at_124) rfl rfl ?_
  refine g_iload X647 hx 128 (hb hby at_126) rfl rfl ?_
  refine g_bipush X647 hx 130 (hb hby at_128) (99 : Int32) rfl rfl ?_
  refine own_callS X647 hx hZ hown (hw _ (List.mem_of_getElem? (i := 74) rfl)) (hw _ (List.mem_of_getElem? (i := 75) rfl)) (by decide) (rm_pos2 l Z a0 hw [] b590 k590 sv ev (99 : Int32) x0 x1 x2 x3 x4 T635.heap n0 z643 f645) (hw _ (List.mem_of_getElem? (i := 76) rfl)) (hw _ (List.mem_of_getElem? (i := 3) rfl)) e647 1 (by decide) (by decide) (by decide) (by decide) [(.ref b590), (.int (2 : Int32)), (.int sv), (.int ev), (.int (99 : Int32))] [(.int (own_min (own_ps (own_wb x0) (0 : Int32) sv ev (99 : Int32)) (own_ps (own_wb x1) (1 : Int32) sv ev (99 : Int32))))] rfl pd_29 rfl 133 rfl (by rw [hml]; rfl) rfl (hb hby at_130) rfl fun T648 v648 L648 X648 hQ648 => ?_
  obtain ⟨rfl, Nq648, e648⟩ := hQ648
  have N648 := Fr.app N647 Nq648
  show own_GoE p e below _ (T648.setTop (mkF m 133 _ [(.int (own_ps (own_wb x2) (2 : Int32) sv ev (99 : Int32))), (.int (own_min (own_ps (own_wb x0) (0 : Int32) sv ev (99 : Int32)) (own_ps (own_wb x1) (1 : Int32) sv ev (99 : Int32))))]))
  refine g_aload X648 hx 135 (hb hby at_133) rfl rfl rfl ?_
  refine g_iconst X648 hx 136 (hb hby at_135) (3 : Int32) rfl rfl ?_
  refine g_iload X648 hx 138 (hb hby at_136) rfl rfl ?_
  refine g_iload X648 hx 140 (hb hby at_138) rfl rfl ?_
  refine g_bipush X648 hx 142 (hb hby at_140) (99 : Int32) rfl rfl ?_
  refine own_callS X648 hx hZ hown (hw _ (List.mem_of_getElem? (i := 74) rfl)) (hw _ (List.mem_of_getElem? (i := 75) rfl)) (by decide) (rm_pos3 l Z a0 hw [] b590 k590 sv ev (99 : Int32) x0 x1 x2 x3 x4 T635.heap n0 z643 f645) (hw _ (List.mem_of_getElem? (i := 76) rfl)) (hw _ (List.mem_of_getElem? (i := 3) rfl)) e648 2 (by decide) (by decide) (by decide) (by decide) [(.ref b590), (.int (3 : Int32)), (.int sv), (.int ev), (.int (99 : Int32))] [(.int (own_ps (own_wb x2) (2 : Int32) sv ev (99 : Int32))), (.int (own_min (own_ps (own_wb x0) (0 : Int32) sv ev (99 : Int32)) (own_ps (own_wb x1) (1 : Int32) sv ev (99 : Int32))))] rfl pd_29 rfl 145 rfl (by rw [hml]; rfl) rfl (hb hby at_142) rfl fun T649 v649 L649 X649 hQ649 => ?_
  obtain ⟨rfl, Nq649, e649⟩ := hQ649
  have N649 := Fr.app N648 Nq649
  show own_GoE p e below _ (T649.setTop (mkF m 145 _ [(.int (own_ps (own_wb x3) (3 : Int32) sv ev (99 : Int32))), (.int (own_ps (own_wb x2) (2 : Int32) sv ev (99 : Int32))), (.int (own_min (own_ps (own_wb x0) (0 : Int32) sv ev (99 : Int32)) (own_ps (own_wb x1) (1 : Int32) sv ev (99 : Int32))))]))
  refine own_callS X649 hx hZ hown (hw _ (List.mem_of_getElem? (i := 77) rfl)) (hw _ (List.mem_of_getElem? (i := 78) rfl)) (by decide) (rm_mnS l Z a0 hw [] (own_ps (own_wb x2) (2 : Int32) sv ev (99 : Int32)) (own_ps (own_wb x3) (3 : Int32) sv ev (99 : Int32)) T635.heap n0 z643 ) (hw _ (List.mem_of_getElem? (i := 80) rfl)) (hw _ (List.mem_of_getElem? (i := 79) rfl)) e649 1 (by decide) (by decide) (by decide) (by decide) [(.int (own_ps (own_wb x2) (2 : Int32) sv ev (99 : Int32))), (.int (own_ps (own_wb x3) (3 : Int32) sv ev (99 : Int32)))] [(.int (own_min (own_ps (own_wb x0) (0 : Int32) sv ev (99 : Int32)) (own_ps (own_wb x1) (1 : Int32) sv ev (99 : Int32))))] rfl pd_8 rfl 148 rfl (by rw [hml]; rfl) rfl (hb hby at_145) rfl fun T650 v650 L650 X650 hQ650 => ?_
  obtain ⟨rfl, Nq650, e650⟩ := hQ650
  have N650 := Fr.app N649 Nq650
  show own_GoE p e below _ (T650.setTop (mkF m 148 _ [(.int (own_min (own_ps (own_wb x2) (2 : Int32) sv ev (99 : Int32)) (own_ps (own_wb x3) (3 : Int32) sv ev (99 : Int32)))), (.int (own_min (own_ps (own_wb x0) (0 : Int32) sv ev (99 : Int32)) (own_ps (own_wb x1) (1 : Int32) sv ev (99 : Int32))))]))
  refine own_callS X650 hx hZ hown (hw _ (List.mem_of_getElem? (i := 77) rfl)) (hw _ (List.mem_of_getElem? (i := 78) rfl)) (by decide) (rm_mnS l Z a0 hw [] (own_min (own_ps (own_wb x0) (0 : Int32) sv ev (99 : Int32)) (own_ps (own_wb x1) (1 : Int32) sv ev (99 : Int32))) (own_min (own_ps (own_wb x2) (2 : Int32) sv ev (99 : Int32)) (own_ps (own_wb x3) (3 : Int32) sv ev (99 : Int32))) T635.heap n0 z643 ) (hw _ (List.mem_of_getElem? (i := 80) rfl)) (hw _ (List.mem_of_getElem? (i := 79) rfl)) e650 0 (by decide) (by decide) (by decide) (by decide) [(.int (own_min (own_ps (own_wb x0) (0 : Int32) sv ev (99 : Int32)) (own_ps (own_wb x1) (1 : Int32) sv ev (99 : Int32)))), (.int (own_min (own_ps (own_wb x2) (2 : Int32) sv ev (99 : Int32)) (own_ps (own_wb x3) (3 : Int32) sv ev (99 : Int32))))] [] rfl pd_8 rfl 151 rfl (by rw [hml]; rfl) rfl (hb hby at_148) rfl fun T651 v651 L651 X651 hQ651 => ?_
  obtain ⟨rfl, Nq651, e651⟩ := hQ651
  have N651 := Fr.app N650 Nq651
  show own_GoE p e below _ (T651.setTop (mkF m 151 _ [(.int (own_min (own_min (own_ps (own_wb x0) (0 : Int32) sv ev (99 : Int32)) (own_ps (own_wb x1) (1 : Int32) sv ev (99 : Int32))) (own_min (own_ps (own_wb x2) (2 : Int32) sv ev (99 : Int32)) (own_ps (own_wb x3) (3 : Int32) sv ev (99 : Int32)))))]))
  refine g_aload X651 hx 153 (hb hby at_151) rfl rfl rfl ?_
  refine g_iconst X651 hx 154 (hb hby at_153) (4 : Int32) rfl rfl ?_
  refine g_iload X651 hx 156 (hb hby at_154) rfl rfl ?_
  refine g_iload X651 hx 158 (hb hby at_156) rfl rfl ?_
  refine g_bipush X651 hx 160 (hb hby at_158) (99 : Int32) rfl rfl ?_
  refine own_callS X651 hx hZ hown (hw _ (List.mem_of_getElem? (i := 74) rfl)) (hw _ (List.mem_of_getElem? (i := 75) rfl)) (by decide) (rm_pos4 l Z a0 hw [] b590 k590 sv ev (99 : Int32) x0 x1 x2 x3 x4 T635.heap n0 z643 f645) (hw _ (List.mem_of_getElem? (i := 76) rfl)) (hw _ (List.mem_of_getElem? (i := 3) rfl)) e651 1 (by decide) (by decide) (by decide) (by decide) [(.ref b590), (.int (4 : Int32)), (.int sv), (.int ev), (.int (99 : Int32))] [(.int (own_min (own_min (own_ps (own_wb x0) (0 : Int32) sv ev (99 : Int32)) (own_ps (own_wb x1) (1 : Int32) sv ev (99 : Int32))) (own_min (own_ps (own_wb x2) (2 : Int32) sv ev (99 : Int32)) (own_ps (own_wb x3) (3 : Int32) sv ev (99 : Int32)))))] rfl pd_29 rfl 163 rfl (by rw [hml]; rfl) rfl (hb hby at_160) rfl fun T652 v652 L652 X652 hQ652 => ?_
  obtain ⟨rfl, Nq652, e652⟩ := hQ652
  have N652 := Fr.app N651 Nq652
  show own_GoE p e below _ (T652.setTop (mkF m 163 _ [(.int (own_ps (own_wb x4) (4 : Int32) sv ev (99 : Int32))), (.int (own_min (own_min (own_ps (own_wb x0) (0 : Int32) sv ev (99 : Int32)) (own_ps (own_wb x1) (1 : Int32) sv ev (99 : Int32))) (own_min (own_ps (own_wb x2) (2 : Int32) sv ev (99 : Int32)) (own_ps (own_wb x3) (3 : Int32) sv ev (99 : Int32)))))]))
  refine own_callS X652 hx hZ hown (hw _ (List.mem_of_getElem? (i := 77) rfl)) (hw _ (List.mem_of_getElem? (i := 78) rfl)) (by decide) (rm_mnS l Z a0 hw [] (own_min (own_min (own_ps (own_wb x0) (0 : Int32) sv ev (99 : Int32)) (own_ps (own_wb x1) (1 : Int32) sv ev (99 : Int32))) (own_min (own_ps (own_wb x2) (2 : Int32) sv ev (99 : Int32)) (own_ps (own_wb x3) (3 : Int32) sv ev (99 : Int32)))) (own_ps (own_wb x4) (4 : Int32) sv ev (99 : Int32)) T635.heap n0 z643 ) (hw _ (List.mem_of_getElem? (i := 80) rfl)) (hw _ (List.mem_of_getElem? (i := 79) rfl)) e652 0 (by decide) (by decide) (by decide) (by decide) [(.int (own_min (own_min (own_ps (own_wb x0) (0 : Int32) sv ev (99 : Int32)) (own_ps (own_wb x1) (1 : Int32) sv ev (99 : Int32))) (own_min (own_ps (own_wb x2) (2 : Int32) sv ev (99 : Int32)) (own_ps (own_wb x3) (3 : Int32) sv ev (99 : Int32))))), (.int (own_ps (own_wb x4) (4 : Int32) sv ev (99 : Int32)))] [] rfl pd_8 rfl 166 rfl (by rw [hml]; rfl) rfl (hb hby at_163) rfl fun T653 v653 L653 X653 hQ653 => ?_
  obtain ⟨rfl, Nq653, e653⟩ := hQ653
  have N653 := Fr.app N652 Nq653
  show own_GoE p e below _ (T653.setTop (mkF m 166 _ [(.int (own_min (own_min (own_min (own_ps (own_wb x0) (0 : Int32) sv ev (99 : Int32)) (own_ps (own_wb x1) (1 : Int32) sv ev (99 : Int32))) (own_min (own_ps (own_wb x2) (2 : Int32) sv ev (99 : Int32)) (own_ps (own_wb x3) (3 : Int32) sv ev (99 : Int32)))) (own_ps (own_wb x4) (4 : Int32) sv ev (99 : Int32))))]))
  obtain ⟨fi, q_fi⟩ : ∃ z, z = (own_min (own_min (own_min (own_ps (own_wb x0) (0 : Int32) sv ev (99 : Int32)) (own_ps (own_wb x1) (1 : Int32) sv ev (99 : Int32))) (own_min (own_ps (own_wb x2) (2 : Int32) sv ev (99 : Int32)) (own_ps (own_wb x3) (3 : Int32) sv ev (99 : Int32)))) (own_ps (own_wb x4) (4 : Int32) sv ev (99 : Int32))) := ⟨_, rfl⟩
  rw [← q_fi]
  refine g_istore X653 hx 168 (hb hby at_166) (l' := #[.val (.int p0), .val (.int p1), .val (.int p2), .val (.int p3), .val (.int p4), .val (.int p5), .val (.ref b590), .val (.ref b619), .val (.int sv), .val (.int ev), .val (.ref r_635), .val (.int fi), .unset, .unset]) rfl rfl ?_
  refine g_iload X653 hx 170 (hb hby at_168) rfl rfl ?_
  refine g_bipush X653 hx 172 (hb hby at_170) (99 : Int32) rfl rfl ?_
  by_cases c654 : fi = (99 : Int32)
  · refine g_icmpNo X653 hx 175 (hb hby at_172) (own_ii_ne_f c654) rfl ?_
    have hs655 := own_cutR (own_e99 h_se q_fi c654).symm qx635_0
    have E_r_635 := hs655.exa
    refine g_aload X653 hx 177 (hb hby at_175) rfl rfl rfl ?_
    refine own_callV X653 hx hZ hown (hw _ (List.mem_of_getElem? (i := 81) rfl)) (hw _ (List.mem_of_getElem? (i := 82) rfl)) (own_nf hZ (hw _ (List.mem_of_getElem? (i := 84) rfl))) (hw _ (List.mem_of_getElem? (i := 84) rfl)) (hw _ (List.mem_of_getElem? (i := 83) rfl)) (by decide) (rm_ieS l Z a0 hw [] r_635 ([] : List Int32) T635.heap n0 z643 hs655 rfl) (hw _ (List.mem_of_getElem? (i := 85) rfl)) (hw _ (List.mem_of_getElem? (i := 7) rfl)) e653 0 (by decide) (by decide) (by decide) (by decide) E_r_635 [] [] rfl pd_7 rfl 180 rfl (by rw [hml]; rfl) rfl (hb hby at_177) rfl fun T656 v656 L656 X656 hQ656 => ?_
    obtain ⟨rfl, Nq656, e656⟩ := hQ656
    have N656 := Fr.app N653 Nq656
    show own_GoE p e below _ (T656.setTop (mkF m 180 _ [(.int (1 : Int32))]))
    refine own_retNW X656 hS (by rw [e656]; exact (Nat.le_refl _)) hx hlk (t := .boolean) hret (by simp) (hb hby at_180) ?_ (by decide) (by decide)
    rw [e656]
    exact ⟨rfl, N656⟩
  · refine g_icmpYes X653 hx 181 (hb hby at_172) (own_ii_ne_t c654) (by decide) (by decide) ?_
    refine g_aload X653 hx 183 (hb hby at_181) rfl rfl rfl ?_
    refine g_iconst X653 hx 184 (hb hby at_183) (0 : Int32) rfl rfl ?_
    refine g_iload X653 hx 186 (hb hby at_184) rfl rfl ?_
    refine g_iload X653 hx 188 (hb hby at_186) rfl rfl ?_
    refine g_iconst X653 hx 189 (hb hby at_188) (-1 : Int32) rfl rfl ?_
    refine own_callS X653 hx hZ hown (hw _ (List.mem_of_getElem? (i := 74) rfl)) (hw _ (List.mem_of_getElem? (i := 75) rfl)) (by decide) (rm_pos0 l Z a0 hw [] b590 k590 sv ev (-1 : Int32) x0 x1 x2 x3 x4 T635.heap n0 z643 f645) (hw _ (List.mem_of_getElem? (i := 76) rfl)) (hw _ (List.mem_of_getElem? (i := 3) rfl)) e653 0 (by decide) (by decide) (by decide) (by decide) [(.ref b590), (.int (0 : Int32)), (.int sv), (.int ev), (.int (-1 : Int32))] [] rfl pd_29 rfl 192 rfl (by rw [hml]; rfl) rfl (hb hby at_189) rfl fun T657 v657 L657 X657 hQ657 => ?_
    obtain ⟨rfl, Nq657, e657⟩ := hQ657
    have N657 := Fr.app N653 Nq657
    show own_GoE p e below _ (T657.setTop (mkF m 192 _ [(.int (own_ps (own_wb x0) (0 : Int32) sv ev (-1 : Int32)))]))
    refine g_aload X657 hx 194 (hb hby at_192) rfl rfl rfl ?_
    refine g_iconst X657 hx 195 (hb hby at_194) (1 : Int32) rfl rfl ?_
    refine g_iload X657 hx 197 (hb hby at_195) rfl rfl ?_
    refine g_iload X657 hx 199 (hb hby at_197) rfl rfl ?_
    refine g_iconst X657 hx 200 (hb hby at_199) (-1 : Int32) rfl rfl ?_
    refine own_callS X657 hx hZ hown (hw _ (List.mem_of_getElem? (i := 74) rfl)) (hw _ (List.mem_of_getElem? (i := 75) rfl)) (by decide) (rm_pos1 l Z a0 hw [] b590 k590 sv ev (-1 : Int32) x0 x1 x2 x3 x4 T635.heap n0 z643 f645) (hw _ (List.mem_of_getElem? (i := 76) rfl)) (hw _ (List.mem_of_getElem? (i := 3) rfl)) e657 1 (by decide) (by decide) (by decide) (by decide) [(.ref b590), (.int (1 : Int32)), (.int sv), (.int ev), (.int (-1 : Int32))] [(.int (own_ps (own_wb x0) (0 : Int32) sv ev (-1 : Int32)))] rfl pd_29 rfl 203 rfl (by rw [hml]; rfl) rfl (hb hby at_200) rfl fun T658 v658 L658 X658 hQ658 => ?_
    obtain ⟨rfl, Nq658, e658⟩ := hQ658
    have N658 := Fr.app N657 Nq658
    show own_GoE p e below _ (T658.setTop (mkF m 203 _ [(.int (own_ps (own_wb x1) (1 : Int32) sv ev (-1 : Int32))), (.int (own_ps (own_wb x0) (0 : Int32) sv ev (-1 : Int32)))]))
    refine own_callS X658 hx hZ hown (hw _ (List.mem_of_getElem? (i := 125) rfl)) (hw _ (List.mem_of_getElem? (i := 126) rfl)) (by decide) (rm_mxS l Z a0 hw [] (own_ps (own_wb x0) (0 : Int32) sv ev (-1 : Int32)) (own_ps (own_wb x1) (1 : Int32) sv ev (-1 : Int32)) T635.heap n0 z643 ) (hw _ (List.mem_of_getElem? (i := 127) rfl)) (hw _ (List.mem_of_getElem? (i := 79) rfl)) e658 0 (by decide) (by decide) (by decide) (by decide) [(.int (own_ps (own_wb x0) (0 : Int32) sv ev (-1 : Int32))), (.int (own_ps (own_wb x1) (1 : Int32) sv ev (-1 : Int32)))] [] rfl pd_8 rfl 206 rfl (by rw [hml]; rfl) rfl (hb hby at_203) rfl fun T659 v659 L659 X659 hQ659 => ?_
    obtain ⟨rfl, Nq659, e659⟩ := hQ659
    have N659 := Fr.app N658 Nq659
    show own_GoE p e below _ (T659.setTop (mkF m 206 _ [(.int (own_max (own_ps (own_wb x0) (0 : Int32) sv ev (-1 : Int32)) (own_ps (own_wb x1) (1 : Int32) sv ev (-1 : Int32))))]))
    refine g_aload X659 hx 208 (hb hby at_206) rfl rfl rfl ?_
    refine g_iconst X659 hx 209 (hb hby at_208) (2 : Int32) rfl rfl ?_
    refine g_iload X659 hx 211 (hb hby at_209) rfl rfl ?_
    refine g_iload X659 hx 213 (hb hby at_211) rfl rfl ?_
    refine g_iconst X659 hx 214 (hb hby at_213) (-1 : Int32) rfl rfl ?_
    refine own_callS X659 hx hZ hown (hw _ (List.mem_of_getElem? (i := 74) rfl)) (hw _ (List.mem_of_getElem? (i := 75) rfl)) (by decide) (rm_pos2 l Z a0 hw [] b590 k590 sv ev (-1 : Int32) x0 x1 x2 x3 x4 T635.heap n0 z643 f645) (hw _ (List.mem_of_getElem? (i := 76) rfl)) (hw _ (List.mem_of_getElem? (i := 3) rfl)) e659 1 (by decide) (by decide) (by decide) (by decide) [(.ref b590), (.int (2 : Int32)), (.int sv), (.int ev), (.int (-1 : Int32))] [(.int (own_max (own_ps (own_wb x0) (0 : Int32) sv ev (-1 : Int32)) (own_ps (own_wb x1) (1 : Int32) sv ev (-1 : Int32))))] rfl pd_29 rfl 217 rfl (by rw [hml]; rfl) rfl (hb hby at_214) rfl fun T660 v660 L660 X660 hQ660 => ?_
    obtain ⟨rfl, Nq660, e660⟩ := hQ660
    have N660 := Fr.app N659 Nq660
    show own_GoE p e below _ (T660.setTop (mkF m 217 _ [(.int (own_ps (own_wb x2) (2 : Int32) sv ev (-1 : Int32))), (.int (own_max (own_ps (own_wb x0) (0 : Int32) sv ev (-1 : Int32)) (own_ps (own_wb x1) (1 : Int32) sv ev (-1 : Int32))))]))
    refine g_aload X660 hx 219 (hb hby at_217) rfl rfl rfl ?_
    refine g_iconst X660 hx 220 (hb hby at_219) (3 : Int32) rfl rfl ?_
    refine g_iload X660 hx 222 (hb hby at_220) rfl rfl ?_
    refine g_iload X660 hx 224 (hb hby at_222) rfl rfl ?_
    refine g_iconst X660 hx 225 (hb hby at_224) (-1 : Int32) rfl rfl ?_
    refine own_callS X660 hx hZ hown (hw _ (List.mem_of_getElem? (i := 74) rfl)) (hw _ (List.mem_of_getElem? (i := 75) rfl)) (by decide) (rm_pos3 l Z a0 hw [] b590 k590 sv ev (-1 : Int32) x0 x1 x2 x3 x4 T635.heap n0 z643 f645) (hw _ (List.mem_of_getElem? (i := 76) rfl)) (hw _ (List.mem_of_getElem? (i := 3) rfl)) e660 2 (by decide) (by decide) (by decide) (by decide) [(.ref b590), (.int (3 : Int32)), (.int sv), (.int ev), (.int (-1 : Int32))] [(.int (own_ps (own_wb x2) (2 : Int32) sv ev (-1 : Int32))), (.int (own_max (own_ps (own_wb x0) (0 : Int32) sv ev (-1 : Int32)) (own_ps (own_wb x1) (1 : Int32) sv ev (-1 : Int32))))] rfl pd_29 rfl 228 rfl (by rw [hml]; rfl) rfl (hb hby at_225) rfl fun T661 v661 L661 X661 hQ661 => ?_
    obtain ⟨rfl, Nq661, e661⟩ := hQ661
    have N661 := Fr.app N660 Nq661
    show own_GoE p e below _ (T661.setTop (mkF m 228 _ [(.int (own_ps (own_wb x3) (3 : Int32) sv ev (-1 : Int32))), (.int (own_ps (own_wb x2) (2 : Int32) sv ev (-1 : Int32))), (.int (own_max (own_ps (own_wb x0) (0 : Int32) sv ev (-1 : Int32)) (own_ps (own_wb x1) (1 : Int32) sv ev (-1 : Int32))))]))
    refine own_callS X661 hx hZ hown (hw _ (List.mem_of_getElem? (i := 125) rfl)) (hw _ (List.mem_of_getElem? (i := 126) rfl)) (by decide) (rm_mxS l Z a0 hw [] (own_ps (own_wb x2) (2 : Int32) sv ev (-1 : Int32)) (own_ps (own_wb x3) (3 : Int32) sv ev (-1 : Int32)) T635.heap n0 z643 ) (hw _ (List.mem_of_getElem? (i := 127) rfl)) (hw _ (List.mem_of_getElem? (i := 79) rfl)) e661 1 (by decide) (by decide) (by decide) (by decide) [(.int (own_ps (own_wb x2) (2 : Int32) sv ev (-1 : Int32))), (.int (own_ps (own_wb x3) (3 : Int32) sv ev (-1 : Int32)))] [(.int (own_max (own_ps (own_wb x0) (0 : Int32) sv ev (-1 : Int32)) (own_ps (own_wb x1) (1 : Int32) sv ev (-1 : Int32))))] rfl pd_8 rfl 231 rfl (by rw [hml]; rfl) rfl (hb hby at_228) rfl fun T662 v662 L662 X662 hQ662 => ?_
    obtain ⟨rfl, Nq662, e662⟩ := hQ662
    have N662 := Fr.app N661 Nq662
    show own_GoE p e below _ (T662.setTop (mkF m 231 _ [(.int (own_max (own_ps (own_wb x2) (2 : Int32) sv ev (-1 : Int32)) (own_ps (own_wb x3) (3 : Int32) sv ev (-1 : Int32)))), (.int (own_max (own_ps (own_wb x0) (0 : Int32) sv ev (-1 : Int32)) (own_ps (own_wb x1) (1 : Int32) sv ev (-1 : Int32))))]))
    refine own_callS X662 hx hZ hown (hw _ (List.mem_of_getElem? (i := 125) rfl)) (hw _ (List.mem_of_getElem? (i := 126) rfl)) (by decide) (rm_mxS l Z a0 hw [] (own_max (own_ps (own_wb x0) (0 : Int32) sv ev (-1 : Int32)) (own_ps (own_wb x1) (1 : Int32) sv ev (-1 : Int32))) (own_max (own_ps (own_wb x2) (2 : Int32) sv ev (-1 : Int32)) (own_ps (own_wb x3) (3 : Int32) sv ev (-1 : Int32))) T635.heap n0 z643 ) (hw _ (List.mem_of_getElem? (i := 127) rfl)) (hw _ (List.mem_of_getElem? (i := 79) rfl)) e662 0 (by decide) (by decide) (by decide) (by decide) [(.int (own_max (own_ps (own_wb x0) (0 : Int32) sv ev (-1 : Int32)) (own_ps (own_wb x1) (1 : Int32) sv ev (-1 : Int32)))), (.int (own_max (own_ps (own_wb x2) (2 : Int32) sv ev (-1 : Int32)) (own_ps (own_wb x3) (3 : Int32) sv ev (-1 : Int32))))] [] rfl pd_8 rfl 234 rfl (by rw [hml]; rfl) rfl (hb hby at_231) rfl fun T663 v663 L663 X663 hQ663 => ?_
    obtain ⟨rfl, Nq663, e663⟩ := hQ663
    have N663 := Fr.app N662 Nq663
    show own_GoE p e below _ (T663.setTop (mkF m 234 _ [(.int (own_max (own_max (own_ps (own_wb x0) (0 : Int32) sv ev (-1 : Int32)) (own_ps (own_wb x1) (1 : Int32) sv ev (-1 : Int32))) (own_max (own_ps (own_wb x2) (2 : Int32) sv ev (-1 : Int32)) (own_ps (own_wb x3) (3 : Int32) sv ev (-1 : Int32)))))]))
    refine g_aload X663 hx 236 (hb hby at_234) rfl rfl rfl ?_
    refine g_iconst X663 hx 237 (hb hby at_236) (4 : Int32) rfl rfl ?_
    refine g_iload X663 hx 239 (hb hby at_237) rfl rfl ?_
    refine g_iload X663 hx 241 (hb hby at_239) rfl rfl ?_
    refine g_iconst X663 hx 242 (hb hby at_241) (-1 : Int32) rfl rfl ?_
    refine own_callS X663 hx hZ hown (hw _ (List.mem_of_getElem? (i := 74) rfl)) (hw _ (List.mem_of_getElem? (i := 75) rfl)) (by decide) (rm_pos4 l Z a0 hw [] b590 k590 sv ev (-1 : Int32) x0 x1 x2 x3 x4 T635.heap n0 z643 f645) (hw _ (List.mem_of_getElem? (i := 76) rfl)) (hw _ (List.mem_of_getElem? (i := 3) rfl)) e663 1 (by decide) (by decide) (by decide) (by decide) [(.ref b590), (.int (4 : Int32)), (.int sv), (.int ev), (.int (-1 : Int32))] [(.int (own_max (own_max (own_ps (own_wb x0) (0 : Int32) sv ev (-1 : Int32)) (own_ps (own_wb x1) (1 : Int32) sv ev (-1 : Int32))) (own_max (own_ps (own_wb x2) (2 : Int32) sv ev (-1 : Int32)) (own_ps (own_wb x3) (3 : Int32) sv ev (-1 : Int32)))))] rfl pd_29 rfl 245 rfl (by rw [hml]; rfl) rfl (hb hby at_242) rfl fun T664 v664 L664 X664 hQ664 => ?_
    obtain ⟨rfl, Nq664, e664⟩ := hQ664
    have N664 := Fr.app N663 Nq664
    show own_GoE p e below _ (T664.setTop (mkF m 245 _ [(.int (own_ps (own_wb x4) (4 : Int32) sv ev (-1 : Int32))), (.int (own_max (own_max (own_ps (own_wb x0) (0 : Int32) sv ev (-1 : Int32)) (own_ps (own_wb x1) (1 : Int32) sv ev (-1 : Int32))) (own_max (own_ps (own_wb x2) (2 : Int32) sv ev (-1 : Int32)) (own_ps (own_wb x3) (3 : Int32) sv ev (-1 : Int32)))))]))
    refine own_callS X664 hx hZ hown (hw _ (List.mem_of_getElem? (i := 125) rfl)) (hw _ (List.mem_of_getElem? (i := 126) rfl)) (by decide) (rm_mxS l Z a0 hw [] (own_max (own_max (own_ps (own_wb x0) (0 : Int32) sv ev (-1 : Int32)) (own_ps (own_wb x1) (1 : Int32) sv ev (-1 : Int32))) (own_max (own_ps (own_wb x2) (2 : Int32) sv ev (-1 : Int32)) (own_ps (own_wb x3) (3 : Int32) sv ev (-1 : Int32)))) (own_ps (own_wb x4) (4 : Int32) sv ev (-1 : Int32)) T635.heap n0 z643 ) (hw _ (List.mem_of_getElem? (i := 127) rfl)) (hw _ (List.mem_of_getElem? (i := 79) rfl)) e664 0 (by decide) (by decide) (by decide) (by decide) [(.int (own_max (own_max (own_ps (own_wb x0) (0 : Int32) sv ev (-1 : Int32)) (own_ps (own_wb x1) (1 : Int32) sv ev (-1 : Int32))) (own_max (own_ps (own_wb x2) (2 : Int32) sv ev (-1 : Int32)) (own_ps (own_wb x3) (3 : Int32) sv ev (-1 : Int32))))), (.int (own_ps (own_wb x4) (4 : Int32) sv ev (-1 : Int32)))] [] rfl pd_8 rfl 248 rfl (by rw [hml]; rfl) rfl (hb hby at_245) rfl fun T665 v665 L665 X665 hQ665 => ?_
    obtain ⟨rfl, Nq665, e665⟩ := hQ665
    have N665 := Fr.app N664 Nq665
    show own_GoE p e below _ (T665.setTop (mkF m 248 _ [(.int (own_max (own_max (own_max (own_ps (own_wb x0) (0 : Int32) sv ev (-1 : Int32)) (own_ps (own_wb x1) (1 : Int32) sv ev (-1 : Int32))) (own_max (own_ps (own_wb x2) (2 : Int32) sv ev (-1 : Int32)) (own_ps (own_wb x3) (3 : Int32) sv ev (-1 : Int32)))) (own_ps (own_wb x4) (4 : Int32) sv ev (-1 : Int32))))]))
    obtain ⟨la, q_la⟩ : ∃ z, z = (own_max (own_max (own_max (own_ps (own_wb x0) (0 : Int32) sv ev (-1 : Int32)) (own_ps (own_wb x1) (1 : Int32) sv ev (-1 : Int32))) (own_max (own_ps (own_wb x2) (2 : Int32) sv ev (-1 : Int32)) (own_ps (own_wb x3) (3 : Int32) sv ev (-1 : Int32)))) (own_ps (own_wb x4) (4 : Int32) sv ev (-1 : Int32))) := ⟨_, rfl⟩
    rw [← q_la]
    refine g_istore X665 hx 250 (hb hby at_248) (l' := #[.val (.int p0), .val (.int p1), .val (.int p2), .val (.int p3), .val (.int p4), .val (.int p5), .val (.ref b590), .val (.ref b619), .val (.int sv), .val (.int ev), .val (.ref r_635), .val (.int fi), .val (.int la), .unset]) rfl rfl ?_
    obtain ⟨ct, hct⟩ : ∃ z, z = own_cut sv.toInt.toNat ev.toInt.toNat [x0, x1, x2, x3, x4] := ⟨_, rfl⟩
    have hm := own_main h_se q_fi c654 q_la hct
    have hs666 := own_cutR hct qx635_0
    have E_r_635 := hs666.exa
    refine g_iload X665 hx 252 (hb hby at_250) rfl rfl ?_
    refine g_iconst X665 hx 253 (hb hby at_252) (1 : Int32) rfl rfl ?_
    refine g_iadd X665 hx 254 (hb hby at_253) rfl ?_
    refine g_iload X665 hx 256 (hb hby at_254) rfl rfl ?_
    refine g_isub X665 hx 257 (hb hby at_256) rfl ?_
    refine g_istore X665 hx 259 (hb hby at_257) (l' := #[.val (.int p0), .val (.int p1), .val (.int p2), .val (.int p3), .val (.int p4), .val (.int p5), .val (.ref b590), .val (.ref b619), .val (.int sv), .val (.int ev), .val (.ref r_635), .val (.int fi), .val (.int la), .val (.int ((la + (1 : Int32)) - fi))]) rfl rfl ?_
    refine g_aload X665 hx 261 (hb hby at_259) rfl rfl rfl ?_
    have f668 : Sta Z T635.heap "java/lang/String" "COMPACT_STRINGS" "Z" (.int zc) := (own_Sta_keep Kq635 f637 all0)
    refine own_callV X665 hx hZ hown (hw _ (List.mem_of_getElem? (i := 128) rfl)) (hw _ (List.mem_of_getElem? (i := 45) rfl)) (own_nf hZ (hw _ (List.mem_of_getElem? (i := 47) rfl))) (hw _ (List.mem_of_getElem? (i := 47) rfl)) (hw _ (List.mem_of_getElem? (i := 46) rfl)) (by decide) (rm_lnS l Z a0 hw [] r_635 ct zc T635.heap n0 z643 f668 hs666 hz hm.1) (hw _ (List.mem_of_getElem? (i := 48) rfl)) (hw _ (List.mem_of_getElem? (i := 7) rfl)) e665 0 (by decide) (by decide) (by decide) (by decide) E_r_635 [] [] rfl pd_21 rfl 264 rfl (by rw [hml]; rfl) rfl (hb hby at_261) rfl fun T667 v667 L667 X667 hQ667 => ?_
    obtain ⟨rfl, Nq667, e667⟩ := hQ667
    have N667 := Fr.app N665 Nq667
    show own_GoE p e below _ (T667.setTop (mkF m 264 _ [(.int (Int32.ofNat ct.length))]))
    refine g_iload X667 hx 266 (hb hby at_264) rfl rfl ?_
    have c669 : (Int32.ofNat ct.length) = ((la + (1 : Int32)) - fi) := hm.2.1
    refine g_icmpYes X667 hx 271 (hb hby at_266) (own_ii_eq_t c669) (by decide) (by decide) ?_
    refine g_aload X667 hx 273 (hb hby at_271) rfl rfl rfl ?_
    refine g_iconst X667 hx 274 (hb hby at_273) (0 : Int32) rfl rfl ?_
    refine g_aload X667 hx 276 (hb hby at_274) rfl rfl rfl ?_
    refine g_iload X667 hx 278 (hb hby at_276) rfl rfl ?_
    have f671 : Sta Z T635.heap "jdk/internal/util/Preconditions" "SIOOBE_FORMATTER" "Ljava/util/function/BiFunction;" fm := (own_Sta_keep Kq635 f638 all0)
    have f672 : Sta Z T635.heap "java/lang/StringUTF16" "$assertionsDisabled" "Z" (.int (1 : Int32)) := (own_Sta_keep Kq635 f639 all0)
    have f673 : Sta Z T635.heap "java/lang/StringUTF16" "HI_BYTE_SHIFT" "I" (.int (0 : Int32)) := (own_Sta_keep Kq635 f640 all0)
    have f674 : Sta Z T635.heap "java/lang/StringUTF16" "LO_BYTE_SHIFT" "I" (.int (8 : Int32)) := (own_Sta_keep Kq635 f641 all0)
    refine own_callS X667 hx hZ hown (hw _ (List.mem_of_getElem? (i := 129) rfl)) (hw _ (List.mem_of_getElem? (i := 130) rfl)) (by decide) (rm_at l Z a0 hw [] r_635 b590 k590 x0 x1 x2 x3 x4 (0 : Int32) fi ct zc fm T635.heap n0 z643 E_r_635 f645 f668 f671 f672 f673 f674 hs666 hz hm.1 (by decide) hm.2.2.1 hfm) (hw _ (List.mem_of_getElem? (i := 131) rfl)) (hw _ (List.mem_of_getElem? (i := 3) rfl)) e667 0 (by decide) (by decide) (by decide) (by decide) [(.ref r_635), (.int (0 : Int32)), (.ref b590), (.int fi)] [] rfl pd_30 rfl 281 rfl (by rw [hml]; rfl) rfl (hb hby at_278) rfl fun T670 v670 L670 X670 hQ670 => ?_
    obtain ⟨rfl, Nq670, e670⟩ := hQ670
    have N670 := Fr.app N667 Nq670
    show own_GoE p e below _ (T670.setTop (mkF m 281 _ [(.int (1 : Int32))]))
    refine g_ifNo X670 hx 284 (hb hby at_281) (own_i0_eq_f (by decide)) rfl ?_
    refine g_aload X670 hx 286 (hb hby at_284) rfl rfl rfl ?_
    refine g_iconst X670 hx 287 (hb hby at_286) (1 : Int32) rfl rfl ?_
    refine g_aload X670 hx 289 (hb hby at_287) rfl rfl rfl ?_
    refine g_iload X670 hx 291 (hb hby at_289) rfl rfl ?_
    refine own_callS X670 hx hZ hown (hw _ (List.mem_of_getElem? (i := 129) rfl)) (hw _ (List.mem_of_getElem? (i := 130) rfl)) (by decide) (rm_at l Z a0 hw [] r_635 b590 k590 x0 x1 x2 x3 x4 (1 : Int32) fi ct zc fm T635.heap n0 z643 E_r_635 f645 f668 f671 f672 f673 f674 hs666 hz hm.1 (by decide) hm.2.2.2.1 hfm) (hw _ (List.mem_of_getElem? (i := 131) rfl)) (hw _ (List.mem_of_getElem? (i := 3) rfl)) e670 0 (by decide) (by decide) (by decide) (by decide) [(.ref r_635), (.int (1 : Int32)), (.ref b590), (.int fi)] [] rfl pd_30 rfl 294 rfl (by rw [hml]; rfl) rfl (hb hby at_291) rfl fun T675 v675 L675 X675 hQ675 => ?_
    obtain ⟨rfl, Nq675, e675⟩ := hQ675
    have N675 := Fr.app N670 Nq675
    show own_GoE p e below _ (T675.setTop (mkF m 294 _ [(.int (1 : Int32))]))
    refine g_ifNo X675 hx 297 (hb hby at_294) (own_i0_eq_f (by decide)) rfl ?_
    refine g_aload X675 hx 299 (hb hby at_297) rfl rfl rfl ?_
    refine g_iconst X675 hx 300 (hb hby at_299) (2 : Int32) rfl rfl ?_
    refine g_aload X675 hx 302 (hb hby at_300) rfl rfl rfl ?_
    refine g_iload X675 hx 304 (hb hby at_302) rfl rfl ?_
    refine own_callS X675 hx hZ hown (hw _ (List.mem_of_getElem? (i := 129) rfl)) (hw _ (List.mem_of_getElem? (i := 130) rfl)) (by decide) (rm_at l Z a0 hw [] r_635 b590 k590 x0 x1 x2 x3 x4 (2 : Int32) fi ct zc fm T635.heap n0 z643 E_r_635 f645 f668 f671 f672 f673 f674 hs666 hz hm.1 (by decide) hm.2.2.2.2.1 hfm) (hw _ (List.mem_of_getElem? (i := 131) rfl)) (hw _ (List.mem_of_getElem? (i := 3) rfl)) e675 0 (by decide) (by decide) (by decide) (by decide) [(.ref r_635), (.int (2 : Int32)), (.ref b590), (.int fi)] [] rfl pd_30 rfl 307 rfl (by rw [hml]; rfl) rfl (hb hby at_304) rfl fun T676 v676 L676 X676 hQ676 => ?_
    obtain ⟨rfl, Nq676, e676⟩ := hQ676
    have N676 := Fr.app N675 Nq676
    show own_GoE p e below _ (T676.setTop (mkF m 307 _ [(.int (1 : Int32))]))
    refine g_ifNo X676 hx 310 (hb hby at_307) (own_i0_eq_f (by decide)) rfl ?_
    refine g_aload X676 hx 312 (hb hby at_310) rfl rfl rfl ?_
    refine g_iconst X676 hx 313 (hb hby at_312) (3 : Int32) rfl rfl ?_
    refine g_aload X676 hx 315 (hb hby at_313) rfl rfl rfl ?_
    refine g_iload X676 hx 317 (hb hby at_315) rfl rfl ?_
    refine own_callS X676 hx hZ hown (hw _ (List.mem_of_getElem? (i := 129) rfl)) (hw _ (List.mem_of_getElem? (i := 130) rfl)) (by decide) (rm_at l Z a0 hw [] r_635 b590 k590 x0 x1 x2 x3 x4 (3 : Int32) fi ct zc fm T635.heap n0 z643 E_r_635 f645 f668 f671 f672 f673 f674 hs666 hz hm.1 (by decide) hm.2.2.2.2.2.1 hfm) (hw _ (List.mem_of_getElem? (i := 131) rfl)) (hw _ (List.mem_of_getElem? (i := 3) rfl)) e676 0 (by decide) (by decide) (by decide) (by decide) [(.ref r_635), (.int (3 : Int32)), (.ref b590), (.int fi)] [] rfl pd_30 rfl 320 rfl (by rw [hml]; rfl) rfl (hb hby at_317) rfl fun T677 v677 L677 X677 hQ677 => ?_
    obtain ⟨rfl, Nq677, e677⟩ := hQ677
    have N677 := Fr.app N676 Nq677
    show own_GoE p e below _ (T677.setTop (mkF m 320 _ [(.int (1 : Int32))]))
    refine g_ifNo X677 hx 323 (hb hby at_320) (own_i0_eq_f (by decide)) rfl ?_
    refine g_aload X677 hx 325 (hb hby at_323) rfl rfl rfl ?_
    refine g_iconst X677 hx 326 (hb hby at_325) (4 : Int32) rfl rfl ?_
    refine g_aload X677 hx 328 (hb hby at_326) rfl rfl rfl ?_
    refine g_iload X677 hx 330 (hb hby at_328) rfl rfl ?_
    refine own_callS X677 hx hZ hown (hw _ (List.mem_of_getElem? (i := 129) rfl)) (hw _ (List.mem_of_getElem? (i := 130) rfl)) (by decide) (rm_at l Z a0 hw [] r_635 b590 k590 x0 x1 x2 x3 x4 (4 : Int32) fi ct zc fm T635.heap n0 z643 E_r_635 f645 f668 f671 f672 f673 f674 hs666 hz hm.1 (by decide) hm.2.2.2.2.2.2 hfm) (hw _ (List.mem_of_getElem? (i := 131) rfl)) (hw _ (List.mem_of_getElem? (i := 3) rfl)) e677 0 (by decide) (by decide) (by decide) (by decide) [(.ref r_635), (.int (4 : Int32)), (.ref b590), (.int fi)] [] rfl pd_30 rfl 333 rfl (by rw [hml]; rfl) rfl (hb hby at_330) rfl fun T678 v678 L678 X678 hQ678 => ?_
    obtain ⟨rfl, Nq678, e678⟩ := hQ678
    have N678 := Fr.app N677 Nq678
    show own_GoE p e below _ (T678.setTop (mkF m 333 _ [(.int (1 : Int32))]))
    refine g_ifNo X678 hx 336 (hb hby at_333) (own_i0_eq_f (by decide)) rfl ?_
    refine g_iconst X678 hx 337 (hb hby at_336) (1 : Int32) rfl rfl ?_
    refine g_goto X678 hx 341 (hb hby at_337) (by decide) (by decide) ?_
    refine own_retNW X678 hS (by rw [e678]; exact (Nat.le_refl _)) hx hlk (t := .boolean) hret (by simp) (hb hby at_341) ?_ (by decide) (by decide)
    rw [e678]
    exact ⟨rfl, N678⟩
theorem own_ne0 {args : Array Value} {s : State} {t : Term} {z : Int32} (ht : t.eval args s none [] s = some (.int z)) (h : (Jvm.Cond.not (.eq t (.int 0))).before args s = true) : ¬ (z = (0 : Int32)) := by
  intro q
  subst q
  simp [Cond.before, Cond.holds, Cond.value, ht, Term.eval] at h
set_option maxRecDepth 65536 in
set_option maxHeartbeats 40000000 in
theorem comes_1 {Post : Tables → Env → Array Value → State → Outcome → State → Prop} (hpost : ∀ tb e args s v u, (limb_1_1.after args s (.returned v) u = true ∧ limb_1_2.after args s (.returned v) u = true ∧ True) → ReturnedEndW s (.returned v) u (Jvm.fieldLocs frame_1_writes args s ++ Jvm.arrayLocs frame_1_arrays args s ++ Jvm.staticLocs frame_1_statics s) 32 2240 → Post tb e args s (.returned v) u) :
    ArmFor flags0 classFile x code maxLocals ret World_1 tables_1 room_1 Calls_1 rest_1 Pre_1 Post := by
  intro l hfl _ _ p e ha hc hk s m args below hf hA hF happ hP
  obtain ⟨hcalls, hrest, hpre⟩ := hP
  obtain ⟨-, -, -, hnamed, -, -, -, hat⟩ := (Spec.applies_iff hf).mp happ
  obtain ⟨hg, hn⟩ := and_e (Cond.before_iff.mp (show (Jvm.Cond.and given_1 narrow_1).before args s = true from hpre))
  obtain ⟨gc, q0⟩ := and_e hg
  obtain ⟨ga0, q1⟩ := and_e q0
  obtain ⟨ga1, q2⟩ := and_e q1
  obtain ⟨ga2, q3⟩ := and_e q2
  obtain ⟨ga3, q4⟩ := and_e q3
  obtain ⟨ga4, q5⟩ := and_e q4
  have ga5 := q5
  obtain ⟨w0, w1, w2, w3, w4, w5, rfl⟩ : ∃ w0 w1 w2 w3 w4 w5 : Value, args = #[w0, w1, w2, w3, w4, w5] := by
    have hs : args.size = 6 := by simpa [Cond.value, given_1] using gc
    obtain ⟨L⟩ := args
    match L, hs with
    | [w0, w1, w2, w3, w4, w5], _ => exact ⟨w0, w1, w2, w3, w4, w5, rfl⟩
  have hw := fun d (hd : d ∈ tables_1) => atoms_spec (ws := Jvm.Cond.code x code maxLocals ret :: tables_1) hat d (List.mem_cons_of_mem _ hd)
  have hfit : Fit s := fun {y c} hc i hi => by
    obtain ⟨ha, rfl⟩ := Array.getElem?_eq_some_iff.mp hc
    have q := List.all_eq_true.mp ((Array.all_eq_true_iff_forall_mem.mp hF) _ (Array.getElem_mem ha)) i (List.mem_range.mpr hi)
    simpa [Array.getElem?_eq_getElem hi] using q
  obtain ⟨hsets, hown0⟩ := atoms_of _ (rest_1_c_eq ▸ (show rest_1_c.before _ s = true from hrest))
  have hr0 := Cond.before_iff.mp hown0
  obtain ⟨i0, ei0⟩ := is_v ga0
  obtain rfl : w0 = (.int i0) := Option.some.inj ei0
  obtain ⟨i1, ei1⟩ := is_v ga1
  obtain rfl : w1 = (.int i1) := Option.some.inj ei1
  obtain ⟨i2, ei2⟩ := is_v ga2
  obtain rfl : w2 = (.int i2) := Option.some.inj ei2
  obtain ⟨i3, ei3⟩ := is_v ga3
  obtain rfl : w3 = (.int i3) := Option.some.inj ei3
  obtain ⟨i4, ei4⟩ := is_v ga4
  obtain rfl : w4 = (.int i4) := Option.some.inj ei4
  obtain ⟨i5, ei5⟩ := is_v ga5
  obtain rfl : w5 = (.int i5) := Option.some.inj ei5
  obtain ⟨zc, ezc⟩ := is_v (Cond.before_iff.mp (hsets _ (List.mem_of_getElem? (i := 1) rfl)))
  obtain ⟨fm, efm, hfm⟩ := isR_v (Cond.before_iff.mp (hsets _ (List.mem_of_getElem? (i := 8) rfl)))
  obtain ⟨n, o, h1, h2, h3, _, L, rfl, ⟨rfl, N⟩, hq⟩ := rm_law l s _ hw tables_1 i0 i1 i2 i3 i4 i5 zc fm s.heap s.heap.size (Nat.le_refl _) (Sta.start ezc (Or.inl (hsets _ (List.mem_of_getElem? (i := 0) rfl)))) (Sta.start efm (Or.inl (hsets _ (List.mem_of_getElem? (i := 7) rfl)))) (Sta.start (eqv_i (idx := []) rfl (Cond.before_iff.mp (hsets _ (List.mem_of_getElem? (i := 12) rfl)))) (Or.inl (hsets _ (List.mem_of_getElem? (i := 11) rfl)))) (Sta.start (eqv_i (idx := []) rfl (Cond.before_iff.mp (hsets _ (List.mem_of_getElem? (i := 15) rfl)))) (Or.inl (hsets _ (List.mem_of_getElem? (i := 14) rfl)))) (Sta.start (eqv_i (idx := []) rfl (Cond.before_iff.mp (hsets _ (List.mem_of_getElem? (i := 18) rfl)))) (Or.inl (hsets _ (List.mem_of_getElem? (i := 17) rfl)))) (own_ne0 ezc (hsets _ (List.mem_of_getElem? (i := 2) rfl))) hfm (fun _ _ q => q) (hcalls.1 ("java/lang/StringLatin1", 151) (List.mem_of_getElem? (i := 0) rfl)) (hcalls.1 ("java/lang/StringUTF16", 295) (List.mem_of_getElem? (i := 1) rfl)) (hsets _ (List.mem_of_getElem? (i := 2) rfl)) p e ha hc hk s m _ below hf ((Spec.applies_iff_loose hf).mp happ).1 ⟨rfl, State.Warmed39.refl s, rfl, IB.start⟩ trivial
  refine ⟨n, _, h1, h2, h3, hpost _ _ _ _ _ _ ⟨Cond.after_iff.mpr rfl, Cond.after_iff.mpr (eq_i res_at (Term.int_eval (1)) rfl), trivial⟩ ⟨hq.1, hq.2.1, hq.2.2.1, (hq.2.2.2.sift fun y hy => Or.inr (N y hy)).mono (by decide) (by decide)⟩⟩
theorem main_1_1 : Claimed_1_1 := comes_1 fun _ _ _ _ _ _ h hF => ⟨h.1, hF⟩
theorem main_1_2 : Claimed_1_2 := comes_1 fun _ _ _ _ _ _ h hF => ⟨h.2.1, hF⟩
end Jvm.Pilot.@@N@@
namespace Jvm.Pilot.@@N@@
open Jvm Jvm.ClassFile Sem Op Lib Jvm.Free Jvm.Stand Jvm.Pilot.@@N@@.Jvm.D
/-! MADE BY PROGRAM (witnessworld.py) out of the Statement's table words and the real class files: 23 classes; the members and pool entries that the words name. The judged class is class 1, her method 1. -/
namespace start1
open Jvm.ClassFile
def u (s : String) : CpInfo := .utf8 (stringToUtf16 s)
/-- a pool by its gaps: so many unusable entries, then the entry; so many at the end -/
def gap : Nat → List CpInfo → List CpInfo
  | 0, r => r
  | n + 1, r => .unusable :: gap n r
def poolList (es : List (Nat × CpInfo)) (last : Nat) : List CpInfo := es.foldr (fun e r => gap e.1 (e.2 :: r)) (gap last [])
def pool (es : List (Nat × CpInfo)) (last : Nat) : Array CpInfo := ⟨poolList es last⟩
def fileOf (pool : Array CpInfo) (this : Nat) (attrs : Array Attribute := #[]) (ms : Array MethodInfo := #[]) (fl : Nat := 33) (sup : Nat := 0) (ifs : Array Nat := #[]) (fds : Array FieldInfo := #[]) : ClassFile where
  minorVersion := 0
  majorVersion := 65
  constantPool := pool
  accessFlags := fl
  thisClass := this
  superClass := sup
  interfaces := ifs
  fields := fds
  methods := ms
  attributes := attrs
def plain (name : String) (sup : Option ClassId) : Class where
  name := name
  kind := .ordinary
  loader := none
  accessFlags := 33
  super := sup
  interfaces := #[]
  cf := none
  fields := #[]
  methods := #[]
  instanceTypes := #[]
  staticTypes := #[]
  resolved := #[]
  callSites := []
  init := .initialized
  statics := none
  mirror := none

def pool0 : Array CpInfo := pool [(5, u "<init>"), (0, u "()V"), (1, .class_ 10), (1, u "java/lang/Object")] 113

def k0c0 : Code := { maxStack := 0, maxLocals := 1, code := object_method_1_code, exceptionTable := #[], attributes := #[] }
def k0m0 : Method := { name := "<init>", desc := "()V", sig := { parameters := [], returnType := none }, accessFlags := 1, code := some k0c0 }
/-- java/lang/Object -/
def k0 : Class := { plain "java/lang/Object" none with
  accessFlags := 33
  interfaces := #[]
  cf := some (fileOf pool0 8 #[] #[{ accessFlags := 1, nameIndex := 5, descriptorIndex := 6, attributes := #[] }] 33 0 #[] #[])
  fields := #[]
  methods := #[k0m0]
  instanceTypes := #[]
  staticTypes := #[]
  resolved := Array.replicate 124 none
  statics := none }

def pool1 : Array CpInfo := pool [(2, .class_ 4), (1, u "java/lang/Object"), (0, u "<init>"), (0, u "()V"), (0, .methodref 8 9), (0, .class_ 10), (0, .nameAndType 11 12), (0, u "com/example/honbun/honbun/WhiteSpaceTrimPinLaw"), (0, u "draw"), (0, u "(I)C"), (0, .class_ 14), (0, u "java/lang/String"), (0, .methodref 13 16), (0, .nameAndType 5 17), (0, u "([C)V"), (0, .integer 65535), (0, .methodref 20 21), (0, .class_ 22), (0, .nameAndType 23 24), (0, u "com/example/honbun/honbun/WhiteSpace"), (0, u "trim"), (0, u "(Ljava/lang/String;II)Ljava/lang/String;"), (0, .methodref 8 26), (0, .nameAndType 27 28), (0, u "pos"), (0, u "([CIIII)I"), (0, .methodref 30 31), (0, .class_ 32), (0, .nameAndType 33 34), (0, u "java/lang/Math"), (0, u "min"), (0, u "(II)I"), (0, .methodref 13 36), (0, .nameAndType 37 38), (0, u "isEmpty"), (0, u "()Z"), (0, .methodref 30 40), (0, .nameAndType 41 34), (0, u "max"), (0, .methodref 13 43), (0, .nameAndType 44 45), (0, u "length"), (0, u "()I"), (0, .methodref 8 47), (0, .nameAndType 48 49), (0, u "at"), (0, u "(Ljava/lang/String;I[CI)Z"), (0, .methodref 8 51), (0, .nameAndType 52 53), (0, u "ws"), (0, u "(C)Z"), (0, .methodref 13 55), (0, .nameAndType 56 12), (0, u "charAt"), (2, u "law"), (0, u "(IIIIII)Z")] 5

def k1m0 : Method := { name := "<init>", desc := "()V", sig := { parameters := [], returnType := none }, accessFlags := 2, code := none }
def k1c1 : Code := { maxStack := 7, maxLocals := 14, code := code, exceptionTable := #[], attributes := #[] }
def k1m1 : Method := { name := "law", desc := "(IIIIII)Z", sig := { parameters := [.int, .int, .int, .int, .int, .int], returnType := some .boolean }, accessFlags := 9, code := some k1c1 }
def k1c2 : Code := { maxStack := 2, maxLocals := 2, code := method_3_code, exceptionTable := #[], attributes := #[] }
def k1m2 : Method := { name := "draw", desc := "(I)C", sig := { parameters := [.int], returnType := some .char }, accessFlags := 10, code := some k1c2 }
def k1c3 : Code := { maxStack := 2, maxLocals := 1, code := method_4_code, exceptionTable := #[], attributes := #[] }
def k1m3 : Method := { name := "ws", desc := "(C)Z", sig := { parameters := [.char], returnType := some .boolean }, accessFlags := 10, code := some k1c3 }
def k1c4 : Code := { maxStack := 2, maxLocals := 5, code := method_5_code, exceptionTable := #[], attributes := #[] }
def k1m4 : Method := { name := "pos", desc := "([CIIII)I", sig := { parameters := [(.array .char), .int, .int, .int, .int], returnType := some .int }, accessFlags := 10, code := some k1c4 }
def k1c5 : Code := { maxStack := 4, maxLocals := 4, code := method_6_code, exceptionTable := #[], attributes := #[] }
def k1m5 : Method := { name := "at", desc := "(Ljava/lang/String;I[CI)Z", sig := { parameters := [(.object "java/lang/String"), .int, (.array .char), .int], returnType := some .boolean }, accessFlags := 10, code := some k1c5 }
/-- com/example/honbun/honbun/WhiteSpaceTrimPinLaw -/
def k1 : Class := { plain "com/example/honbun/honbun/WhiteSpaceTrimPinLaw" (some 0) with
  accessFlags := 49
  interfaces := #[]
  cf := some (fileOf pool1 8 #[] #[{ accessFlags := 2, nameIndex := 5, descriptorIndex := 6, attributes := #[] }, { accessFlags := 9, nameIndex := 59, descriptorIndex := 60, attributes := #[] }, { accessFlags := 10, nameIndex := 11, descriptorIndex := 12, attributes := #[] }, { accessFlags := 10, nameIndex := 52, descriptorIndex := 53, attributes := #[] }, { accessFlags := 10, nameIndex := 27, descriptorIndex := 28, attributes := #[] }, { accessFlags := 10, nameIndex := 48, descriptorIndex := 49, attributes := #[] }] 49 2 #[] #[])
  fields := #[]
  methods := #[k1m0, k1m1, k1m2, k1m3, k1m4, k1m5]
  instanceTypes := #[]
  staticTypes := #[]
  resolved := Array.replicate 66 none
  statics := none }

def pool2 : Array CpInfo := pool [(1, .class_ 2), (0, u "java/io/Serializable"), (0, .class_ 4), (0, u "java/lang/Object")] 2

/-- java/io/Serializable -/
def k2 : Class := { plain "java/io/Serializable" (some 0) with
  accessFlags := 1537
  interfaces := #[]
  cf := some (fileOf pool2 1 #[] #[] 1537 3 #[] #[])
  fields := #[]
  methods := #[]
  instanceTypes := #[]
  staticTypes := #[]
  resolved := Array.replicate 7 none
  statics := none }

def pool3 : Array CpInfo := pool [(1, .class_ 2), (0, u "java/lang/Comparable"), (0, .class_ 4), (0, u "java/lang/Object")] 7

/-- java/lang/Comparable -/
def k3 : Class := { plain "java/lang/Comparable" (some 0) with
  accessFlags := 1537
  interfaces := #[]
  cf := some (fileOf pool3 1 #[] #[] 1537 3 #[] #[])
  fields := #[]
  methods := #[]
  instanceTypes := #[]
  staticTypes := #[]
  resolved := Array.replicate 12 none
  statics := none }

def pool4 : Array CpInfo := pool [(2, .class_ 4), (1, u "java/lang/CharSequence"), (42, .class_ 48), (0, u "java/lang/CharSequence$1CodePointIterator"), (10, .class_ 60), (0, u "java/lang/CharSequence$1CharIterator"), (5, .class_ 67), (0, u "java/lang/Object")] 63

/-- java/lang/CharSequence -/
def k4 : Class := { plain "java/lang/CharSequence" (some 0) with
  accessFlags := 1537
  interfaces := #[]
  cf := some (fileOf pool4 2 #[.nestMembers #[47, 59]] #[] 1537 66 #[] #[])
  fields := #[]
  methods := #[]
  instanceTypes := #[]
  staticTypes := #[]
  resolved := Array.replicate 131 none
  statics := none }

def pool5 : Array CpInfo := pool [(1, .class_ 2), (0, u "java/lang/constant/Constable"), (0, .class_ 4), (0, u "java/lang/Object")] 6

/-- java/lang/constant/Constable -/
def k5 : Class := { plain "java/lang/constant/Constable" (some 0) with
  accessFlags := 1537
  interfaces := #[]
  cf := some (fileOf pool5 1 #[] #[] 1537 3 #[] #[])
  fields := #[]
  methods := #[]
  instanceTypes := #[]
  staticTypes := #[]
  resolved := Array.replicate 11 none
  statics := none }

def pool6 : Array CpInfo := pool [(1, .class_ 2), (0, u "java/lang/constant/ConstantDesc"), (0, .class_ 4), (0, u "java/lang/Object")] 32

/-- java/lang/constant/ConstantDesc -/
def k6 : Class := { plain "java/lang/constant/ConstantDesc" (some 0) with
  accessFlags := 1537
  interfaces := #[]
  cf := some (fileOf pool6 1 #[] #[] 1537 3 #[] #[])
  fields := #[]
  methods := #[]
  instanceTypes := #[]
  staticTypes := #[]
  resolved := Array.replicate 37 none
  statics := none }

def pool7 : Array CpInfo := pool [(1, .methodref 2 3), (0, .class_ 4), (0, .nameAndType 5 6), (0, u "java/lang/Object"), (0, u "<init>"), (0, u "()V"), (2, .fieldref 10 11), (0, .class_ 12), (0, .nameAndType 13 14), (0, u "java/lang/String"), (0, u "value"), (0, u "[B"), (0, .fieldref 10 16), (0, .nameAndType 17 18), (0, u "coder"), (0, u "B"), (2, u "hash"), (0, u "I"), (2, u "hashIsZero"), (0, u "Z"), (0, .methodref 10 28), (0, .nameAndType 5 29), (0, u "([CIILjava/lang/Void;)V"), (6, u "checkBoundsOffCount"), (0, u "(III)I"), (0, .fieldref 10 39), (0, .nameAndType 40 26), (0, u "COMPACT_STRINGS"), (1, .class_ 44), (1, u "java/lang/StringUTF16"), (0, u "compress"), (1, .methodref 42 48), (0, .nameAndType 49 50), (0, u "coderFromArrayLen"), (0, u "([BI)B"), (56, .class_ 109), (1, u "java/lang/StringLatin1"), (32, u "()Z"), (34, .methodref 42 178), (0, .nameAndType 45 179), (0, u "([CII)[B"), (31, u "([BB)V"), (122, u "()I"), (0, .methodref 10 336), (0, .nameAndType 17 337), (0, u "()B"), (25, u "([BI)C"), (27, u "(II)V"), (35, u "(I)C"), (64, .methodref 10 493), (0, .nameAndType 494 142), (0, u "isLatin1"), (0, .methodref 107 496), (0, .nameAndType 497 363), (0, u "charAt"), (0, .methodref 42 496), (2, u "checkIndex"), (3, .methodref 10 506), (0, .nameAndType 507 334), (0, u "length"), (5, u "checkFromToIndex"), (7, .methodref 10 522), (0, .nameAndType 523 524), (0, u "checkBoundsBeginEnd"), (0, u "(III)V"), (50, .class_ 576), (0, u "java/lang/CharSequence"), (22, u "CASE_INSENSITIVE_ORDER"), (0, u "Ljava/util/Comparator;"), (82, u "substring"), (0, u "(II)Ljava/lang/String;"), (0, .methodref 107 686), (0, .nameAndType 687 688), (0, u "newString"), (0, u "([BII)Ljava/lang/String;"), (0, .methodref 42 686), (2, u "isEmpty"), (317, u "([C)V"), (42, .fieldref 1054 1055), (0, .class_ 1056), (0, .nameAndType 1057 1058), (0, u "jdk/internal/util/Preconditions"), (0, u "SIOOBE_FORMATTER"), (0, u "Ljava/util/function/BiFunction;"), (0, .methodref 1054 1060), (0, .nameAndType 501 1061), (0, u "(IILjava/util/function/BiFunction;)I"), (0, .methodref 1054 1063), (0, .nameAndType 513 1064), (0, u "(IIILjava/util/function/BiFunction;)I"), (0, .methodref 1054 1066), (0, .nameAndType 1067 1064), (0, u "checkFromIndexSize"), (33, u "serialPersistentFields"), (0, u "[Ljava/io/ObjectStreamField;"), (0, .class_ 1104), (0, u "java/lang/String$CaseInsensitiveComparator"), (1, .class_ 1107), (0, u "java/io/Serializable"), (0, .class_ 1109), (0, u "java/lang/Comparable"), (0, .class_ 1111), (0, u "java/lang/constant/Constable"), (0, .class_ 1113), (0, u "java/lang/constant/ConstantDesc"), (2, u "serialVersionUID"), (0, u "J"), (3, u "REPL"), (0, u "C"), (2, u "LATIN1"), (1, u "UTF16")] 323

def k7m0 : Method := { name := "<init>", desc := "()V", sig := { parameters := [], returnType := none }, accessFlags := 1, code := none }
def k7c1 : Code := { maxStack := 5, maxLocals := 2, code := jdk_42_method_3_code, exceptionTable := #[], attributes := #[] }
def k7m1 : Method := { name := "<init>", desc := "([C)V", sig := { parameters := [(.array .char)], returnType := none }, accessFlags := 1, code := some k7c1 }
def k7c2 : Code := { maxStack := 2, maxLocals := 1, code := jdk_42_method_54_code, exceptionTable := #[], attributes := #[] }
def k7m2 : Method := { name := "length", desc := "()I", sig := { parameters := [], returnType := some .int }, accessFlags := 1, code := some k7c2 }
def k7c3 : Code := { maxStack := 1, maxLocals := 1, code := jdk_42_method_55_code, exceptionTable := #[], attributes := #[] }
def k7m3 : Method := { name := "isEmpty", desc := "()Z", sig := { parameters := [], returnType := some .boolean }, accessFlags := 1, code := some k7c3 }
def k7c4 : Code := { maxStack := 2, maxLocals := 2, code := jdk_42_method_56_code, exceptionTable := #[], attributes := #[] }
def k7m4 : Method := { name := "charAt", desc := "(I)C", sig := { parameters := [.int], returnType := some .char }, accessFlags := 1, code := some k7c4 }
def k7c5 : Code := { maxStack := 3, maxLocals := 5, code := jdk_42_method_92_code, exceptionTable := #[], attributes := #[] }
def k7m5 : Method := { name := "substring", desc := "(II)Ljava/lang/String;", sig := { parameters := [.int, .int], returnType := some (.object "java/lang/String") }, accessFlags := 1, code := some k7c5 }
def k7c6 : Code := { maxStack := 4, maxLocals := 6, code := jdk_42_method_149_code, exceptionTable := #[], attributes := #[] }
def k7m6 : Method := { name := "<init>", desc := "([CIILjava/lang/Void;)V", sig := { parameters := [(.array .char), .int, .int, (.object "java/lang/Void")], returnType := none }, accessFlags := 2, code := some k7c6 }
def k7c7 : Code := { maxStack := 2, maxLocals := 3, code := jdk_42_method_151_code, exceptionTable := #[], attributes := #[] }
def k7m7 : Method := { name := "<init>", desc := "([BB)V", sig := { parameters := [(.array .byte), .byte], returnType := none }, accessFlags := 0, code := some k7c7 }
def k7c8 : Code := { maxStack := 1, maxLocals := 1, code := jdk_42_method_152_code, exceptionTable := #[], attributes := #[] }
def k7m8 : Method := { name := "coder", desc := "()B", sig := { parameters := [], returnType := some .byte }, accessFlags := 0, code := some k7c8 }
def k7c9 : Code := { maxStack := 1, maxLocals := 1, code := jdk_42_method_154_code, exceptionTable := #[], attributes := #[] }
def k7m9 : Method := { name := "isLatin1", desc := "()Z", sig := { parameters := [], returnType := some .boolean }, accessFlags := 0, code := some k7c9 }
def k7c10 : Code := { maxStack := 3, maxLocals := 2, code := jdk_42_method_155_code, exceptionTable := #[], attributes := #[] }
def k7m10 : Method := { name := "checkIndex", desc := "(II)V", sig := { parameters := [.int, .int], returnType := none }, accessFlags := 8, code := some k7c10 }
def k7c11 : Code := { maxStack := 4, maxLocals := 3, code := jdk_42_method_157_code, exceptionTable := #[], attributes := #[] }
def k7m11 : Method := { name := "checkBoundsOffCount", desc := "(III)I", sig := { parameters := [.int, .int, .int], returnType := some .int }, accessFlags := 8, code := some k7c11 }
def k7c12 : Code := { maxStack := 4, maxLocals := 3, code := jdk_42_method_158_code, exceptionTable := #[], attributes := #[] }
def k7m12 : Method := { name := "checkBoundsBeginEnd", desc := "(III)V", sig := { parameters := [.int, .int, .int], returnType := none }, accessFlags := 8, code := some k7c12 }
/-- java/lang/String -/
def k7 : Class := { plain "java/lang/String" (some 0) with
  accessFlags := 49
  interfaces := #[2, 3, 4, 5, 6]
  cf := some (fileOf pool7 10 #[.nestMembers #[1103]] #[{ accessFlags := 1, nameIndex := 5, descriptorIndex := 6, attributes := #[] }, { accessFlags := 1, nameIndex := 5, descriptorIndex := 1010, attributes := #[] }, { accessFlags := 1, nameIndex := 507, descriptorIndex := 334, attributes := #[] }, { accessFlags := 1, nameIndex := 692, descriptorIndex := 142, attributes := #[] }, { accessFlags := 1, nameIndex := 497, descriptorIndex := 427, attributes := #[] }, { accessFlags := 1, nameIndex := 683, descriptorIndex := 684, attributes := #[] }, { accessFlags := 2, nameIndex := 5, descriptorIndex := 29, attributes := #[] }, { accessFlags := 0, nameIndex := 5, descriptorIndex := 211, attributes := #[] }, { accessFlags := 0, nameIndex := 17, descriptorIndex := 337, attributes := #[] }, { accessFlags := 0, nameIndex := 494, descriptorIndex := 142, attributes := #[] }, { accessFlags := 8, nameIndex := 501, descriptorIndex := 391, attributes := #[] }, { accessFlags := 8, nameIndex := 36, descriptorIndex := 37, attributes := #[] }, { accessFlags := 8, nameIndex := 523, descriptorIndex := 524, attributes := #[] }] 49 2 #[1106, 1108, 575, 1110, 1112] #[{ accessFlags := 18, nameIndex := 13, descriptorIndex := 14, attributes := #[] }, { accessFlags := 18, nameIndex := 17, descriptorIndex := 18, attributes := #[] }, { accessFlags := 2, nameIndex := 21, descriptorIndex := 22, attributes := #[] }, { accessFlags := 2, nameIndex := 25, descriptorIndex := 26, attributes := #[] }, { accessFlags := 26, nameIndex := 1116, descriptorIndex := 1117, attributes := #[] }, { accessFlags := 24, nameIndex := 40, descriptorIndex := 26, attributes := #[] }, { accessFlags := 26, nameIndex := 1101, descriptorIndex := 1102, attributes := #[] }, { accessFlags := 26, nameIndex := 1121, descriptorIndex := 1122, attributes := #[] }, { accessFlags := 25, nameIndex := 599, descriptorIndex := 600, attributes := #[] }, { accessFlags := 24, nameIndex := 1125, descriptorIndex := 18, attributes := #[] }, { accessFlags := 24, nameIndex := 1127, descriptorIndex := 18, attributes := #[] }])
  fields := #[{ name := "value", type := (.array .byte), accessFlags := 18, slot := 0, constantValue := 0 }, { name := "coder", type := .byte, accessFlags := 18, slot := 1, constantValue := 0 }, { name := "hash", type := .int, accessFlags := 2, slot := 2, constantValue := 0 }, { name := "hashIsZero", type := .boolean, accessFlags := 2, slot := 3, constantValue := 0 }, { name := "serialVersionUID", type := .long, accessFlags := 26, slot := 0, constantValue := 0 }, { name := "COMPACT_STRINGS", type := .boolean, accessFlags := 24, slot := 1, constantValue := 0 }, { name := "serialPersistentFields", type := (.array (.object "java/io/ObjectStreamField")), accessFlags := 26, slot := 2, constantValue := 0 }, { name := "REPL", type := .char, accessFlags := 26, slot := 3, constantValue := 0 }, { name := "CASE_INSENSITIVE_ORDER", type := (.object "java/util/Comparator"), accessFlags := 25, slot := 4, constantValue := 0 }, { name := "LATIN1", type := .byte, accessFlags := 24, slot := 5, constantValue := 0 }, { name := "UTF16", type := .byte, accessFlags := 24, slot := 6, constantValue := 0 }]
  methods := #[k7m0, k7m1, k7m2, k7m3, k7m4, k7m5, k7m6, k7m7, k7m8, k7m9, k7m10, k7m11, k7m12]
  instanceTypes := #[(.array .byte), .byte, .int, .boolean]
  staticTypes := #[.long, .boolean, (.array (.object "java/io/ObjectStreamField")), .char, (.object "java/util/Comparator"), .byte, .byte]
  resolved := Array.replicate 1451 none
  statics := some 0 }

def pool8 : Array CpInfo := pool [(3, .class_ 4), (0, u "java/lang/String"), (1, .class_ 8), (1, u "java/lang/Object"), (0, u "<init>"), (0, u "()V"), (0, .methodref 12 13), (0, .class_ 14), (0, .nameAndType 15 16), (0, u "java/lang/StringUTF16"), (0, u "newBytesLength"), (0, u "(I)I"), (3, .integer 1073741823), (23, .fieldref 12 45), (0, .nameAndType 46 47), (0, u "$assertionsDisabled"), (0, u "Z"), (0, .methodref 12 49), (0, .nameAndType 50 51), (0, u "length"), (0, u "([B)I"), (7, .fieldref 12 60), (0, .nameAndType 61 62), (0, u "HI_BYTE_SHIFT"), (0, u "I"), (0, .fieldref 12 64), (0, .nameAndType 65 62), (0, u "LO_BYTE_SHIFT"), (1, .methodref 12 68), (0, .nameAndType 69 70), (0, u "checkIndex"), (0, u "(I[B)V"), (0, .methodref 12 72), (0, .nameAndType 73 74), (0, u "getChar"), (0, u "([BI)C"), (24, u "(II[B)V"), (7, .methodref 12 108), (0, .nameAndType 109 110), (0, u "newBytesFor"), (0, u "(I)[B"), (0, .methodref 12 112), (0, .nameAndType 113 114), (0, u "putChar"), (0, u "([BII)V"), (0, .methodref 12 116), (0, .nameAndType 117 118), (0, u "compress"), (0, u "([CI[BII)I"), (0, .methodref 12 120), (0, .nameAndType 121 122), (0, u "toBytes"), (0, u "([CII)[B"), (0, .methodref 12 124), (0, .nameAndType 117 125), (0, u "([BI[BII)I"), (0, .methodref 127 128), (0, .class_ 129), (0, .nameAndType 130 131), (0, u "java/util/Arrays"), (0, u "copyOfRange"), (0, u "([BII)[B"), (41, .methodref 12 174), (0, .nameAndType 175 99), (0, u "checkBoundsOffCount"), (75, .fieldref 3 252), (0, .nameAndType 253 47), (0, u "COMPACT_STRINGS"), (3, .methodref 12 258), (0, .nameAndType 117 131), (0, .methodref 12 260), (0, .nameAndType 261 262), (0, u "coderFromArrayLen"), (0, u "([BI)B"), (0, .methodref 3 264), (0, .nameAndType 9 265), (0, u "([BB)V"), (15, u "(III)I"), (13, .string 296), (0, u ""), (30, u "newString"), (0, u "([BII)Ljava/lang/String;"), (40, .class_ 371), (1, u "java/lang/StringUTF16$LinesSpliterator"), (20, u "charAt"), (21, .methodref 3 415), (0, .nameAndType 69 416), (0, u "(II)V"), (2, .methodref 3 420), (0, .nameAndType 175 281), (9, u "MAX_LENGTH"), (196, .class_ 628), (0, u "java/lang/StringUTF16$CodePointsSpliterator"), (0, .class_ 630), (0, u "java/lang/StringUTF16$CharsSpliterator")] 4

def k8m0 : Method := { name := "<init>", desc := "()V", sig := { parameters := [], returnType := none }, accessFlags := 0, code := none }
def k8c1 : Code := { maxStack := 1, maxLocals := 1, code := jdk_52_method_2_code, exceptionTable := #[], attributes := #[] }
def k8m1 : Method := { name := "newBytesFor", desc := "(I)[B", sig := { parameters := [.int], returnType := some (.array .byte) }, accessFlags := 9, code := some k8c1 }
def k8c2 : Code := { maxStack := 4, maxLocals := 1, code := jdk_52_method_3_code, exceptionTable := #[], attributes := #[] }
def k8m2 : Method := { name := "newBytesLength", desc := "(I)I", sig := { parameters := [.int], returnType := some .int }, accessFlags := 9, code := some k8c2 }
def k8c3 : Code := { maxStack := 4, maxLocals := 3, code := jdk_52_method_4_code, exceptionTable := #[], attributes := #[] }
def k8m3 : Method := { name := "putChar", desc := "([BII)V", sig := { parameters := [(.array .byte), .int, .int], returnType := none }, accessFlags := 8, code := some k8c3 }
def k8c4 : Code := { maxStack := 3, maxLocals := 2, code := jdk_52_method_5_code, exceptionTable := #[], attributes := #[] }
def k8m4 : Method := { name := "getChar", desc := "([BI)C", sig := { parameters := [(.array .byte), .int], returnType := some .char }, accessFlags := 8, code := some k8c4 }
def k8c5 : Code := { maxStack := 2, maxLocals := 1, code := jdk_52_method_6_code, exceptionTable := #[], attributes := #[] }
def k8m5 : Method := { name := "length", desc := "([B)I", sig := { parameters := [(.array .byte)], returnType := some .int }, accessFlags := 9, code := some k8c5 }
def k8c6 : Code := { maxStack := 4, maxLocals := 5, code := jdk_52_method_14_code, exceptionTable := #[], attributes := #[] }
def k8m6 : Method := { name := "toBytes", desc := "([CII)[B", sig := { parameters := [(.array .char), .int, .int], returnType := some (.array .byte) }, accessFlags := 9, code := some k8c6 }
def k8c7 : Code := { maxStack := 2, maxLocals := 2, code := jdk_52_method_15_code, exceptionTable := #[], attributes := #[] }
def k8m7 : Method := { name := "coderFromArrayLen", desc := "([BI)B", sig := { parameters := [(.array .byte), .int], returnType := some .byte }, accessFlags := 8, code := some k8c7 }
def k8c8 : Code := { maxStack := 5, maxLocals := 6, code := jdk_52_method_16_code, exceptionTable := #[], attributes := #[] }
def k8m8 : Method := { name := "compress", desc := "([CII)[B", sig := { parameters := [(.array .char), .int, .int], returnType := some (.array .byte) }, accessFlags := 9, code := some k8c8 }
def k8c9 : Code := { maxStack := 5, maxLocals := 6, code := jdk_52_method_17_code, exceptionTable := #[], attributes := #[] }
def k8m9 : Method := { name := "compress", desc := "([BII)[B", sig := { parameters := [(.array .byte), .int, .int], returnType := some (.array .byte) }, accessFlags := 9, code := some k8c9 }
def k8c10 : Code := { maxStack := 3, maxLocals := 7, code := jdk_52_method_21_code, exceptionTable := #[], attributes := #[] }
def k8m10 : Method := { name := "compress", desc := "([CI[BII)I", sig := { parameters := [(.array .char), .int, (.array .byte), .int, .int], returnType := some .int }, accessFlags := 9, code := some k8c10 }
def k8c11 : Code := { maxStack := 3, maxLocals := 7, code := jdk_52_method_22_code, exceptionTable := #[], attributes := #[] }
def k8m11 : Method := { name := "compress", desc := "([BI[BII)I", sig := { parameters := [(.array .byte), .int, (.array .byte), .int, .int], returnType := some .int }, accessFlags := 9, code := some k8c11 }
def k8c12 : Code := { maxStack := 6, maxLocals := 5, code := jdk_52_method_69_code, exceptionTable := #[], attributes := #[] }
def k8m12 : Method := { name := "newString", desc := "([BII)Ljava/lang/String;", sig := { parameters := [(.array .byte), .int, .int], returnType := some (.object "java/lang/String") }, accessFlags := 9, code := some k8c12 }
def k8c13 : Code := { maxStack := 2, maxLocals := 2, code := jdk_52_method_83_code, exceptionTable := #[], attributes := #[] }
def k8m13 : Method := { name := "charAt", desc := "([BI)C", sig := { parameters := [(.array .byte), .int], returnType := some .char }, accessFlags := 9, code := some k8c13 }
def k8c14 : Code := { maxStack := 2, maxLocals := 2, code := jdk_52_method_91_code, exceptionTable := #[], attributes := #[] }
def k8m14 : Method := { name := "checkIndex", desc := "(I[B)V", sig := { parameters := [.int, (.array .byte)], returnType := none }, accessFlags := 9, code := some k8c14 }
def k8c15 : Code := { maxStack := 3, maxLocals := 3, code := jdk_52_method_94_code, exceptionTable := #[], attributes := #[] }
def k8m15 : Method := { name := "checkBoundsOffCount", desc := "(II[B)V", sig := { parameters := [.int, .int, (.array .byte)], returnType := none }, accessFlags := 9, code := some k8c15 }
/-- java/lang/StringUTF16 -/
def k8 : Class := { plain "java/lang/StringUTF16" (some 0) with
  accessFlags := 48
  interfaces := #[]
  cf := some (fileOf pool8 12 #[.nestMembers #[627, 629, 369]] #[{ accessFlags := 0, nameIndex := 9, descriptorIndex := 10, attributes := #[] }, { accessFlags := 9, nameIndex := 109, descriptorIndex := 110, attributes := #[] }, { accessFlags := 9, nameIndex := 15, descriptorIndex := 16, attributes := #[] }, { accessFlags := 8, nameIndex := 113, descriptorIndex := 114, attributes := #[] }, { accessFlags := 8, nameIndex := 73, descriptorIndex := 74, attributes := #[] }, { accessFlags := 9, nameIndex := 50, descriptorIndex := 51, attributes := #[] }, { accessFlags := 9, nameIndex := 121, descriptorIndex := 122, attributes := #[] }, { accessFlags := 8, nameIndex := 261, descriptorIndex := 262, attributes := #[] }, { accessFlags := 9, nameIndex := 117, descriptorIndex := 122, attributes := #[] }, { accessFlags := 9, nameIndex := 117, descriptorIndex := 131, attributes := #[] }, { accessFlags := 9, nameIndex := 117, descriptorIndex := 118, attributes := #[] }, { accessFlags := 9, nameIndex := 117, descriptorIndex := 125, attributes := #[] }, { accessFlags := 9, nameIndex := 327, descriptorIndex := 328, attributes := #[] }, { accessFlags := 9, nameIndex := 392, descriptorIndex := 74, attributes := #[] }, { accessFlags := 9, nameIndex := 69, descriptorIndex := 70, attributes := #[] }, { accessFlags := 9, nameIndex := 175, descriptorIndex := 99, attributes := #[] }] 48 6 #[] #[{ accessFlags := 26, nameIndex := 61, descriptorIndex := 62, attributes := #[] }, { accessFlags := 26, nameIndex := 65, descriptorIndex := 62, attributes := #[] }, { accessFlags := 24, nameIndex := 430, descriptorIndex := 62, attributes := #[] }, { accessFlags := 4120, nameIndex := 46, descriptorIndex := 47, attributes := #[] }])
  fields := #[{ name := "HI_BYTE_SHIFT", type := .int, accessFlags := 26, slot := 0, constantValue := 0 }, { name := "LO_BYTE_SHIFT", type := .int, accessFlags := 26, slot := 1, constantValue := 0 }, { name := "MAX_LENGTH", type := .int, accessFlags := 24, slot := 2, constantValue := 0 }, { name := "$assertionsDisabled", type := .boolean, accessFlags := 4120, slot := 3, constantValue := 0 }]
  methods := #[k8m0, k8m1, k8m2, k8m3, k8m4, k8m5, k8m6, k8m7, k8m8, k8m9, k8m10, k8m11, k8m12, k8m13, k8m14, k8m15]
  instanceTypes := #[]
  staticTypes := #[.int, .int, .int, .boolean]
  resolved := Array.replicate 635 none
  statics := some 1 }

def pool9 : Array CpInfo := pool [(2, .class_ 4), (1, u "java/lang/Object"), (0, u "<init>"), (0, u "()V"), (7, .nameAndType 15 16), (0, u "charAt"), (0, u "(I)C"), (0, .methodref 18 19), (0, .class_ 20), (0, .nameAndType 21 22), (0, u "com/example/honbun/honbun/WhiteSpace"), (0, u "isWhiteSpace"), (0, u "(C)Z"), (1, .class_ 25), (0, u "java/lang/String"), (2, u "trim"), (0, u "(Ljava/lang/String;II)Ljava/lang/String;"), (0, .methodref 24 14), (0, .methodref 24 32), (0, .nameAndType 33 34), (0, u "substring"), (0, u "(II)Ljava/lang/String;"), (0, .class_ 36), (0, u "com/example/honbun/honbun/WhiteSpace$Collapsed")] 24

def k9m0 : Method := { name := "<init>", desc := "()V", sig := { parameters := [], returnType := none }, accessFlags := 2, code := none }
def k9c1 : Code := { maxStack := 2, maxLocals := 1, code := prog_17_method_2_code, exceptionTable := #[], attributes := #[] }
def k9m1 : Method := { name := "isWhiteSpace", desc := "(C)Z", sig := { parameters := [.char], returnType := some .boolean }, accessFlags := 8, code := some k9c1 }
def k9c2 : Code := { maxStack := 3, maxLocals := 5, code := prog_17_method_5_code, exceptionTable := #[], attributes := #[] }
def k9m2 : Method := { name := "trim", desc := "(Ljava/lang/String;II)Ljava/lang/String;", sig := { parameters := [(.object "java/lang/String"), .int, .int], returnType := some (.object "java/lang/String") }, accessFlags := 8, code := some k9c2 }
/-- com/example/honbun/honbun/WhiteSpace -/
def k9 : Class := { plain "com/example/honbun/honbun/WhiteSpace" (some 0) with
  accessFlags := 32
  interfaces := #[]
  cf := some (fileOf pool9 18 #[.nestMembers #[35]] #[{ accessFlags := 2, nameIndex := 5, descriptorIndex := 6, attributes := #[] }, { accessFlags := 8, nameIndex := 21, descriptorIndex := 22, attributes := #[] }, { accessFlags := 8, nameIndex := 28, descriptorIndex := 29, attributes := #[] }] 32 2 #[] #[])
  fields := #[]
  methods := #[k9m0, k9m1, k9m2]
  instanceTypes := #[]
  staticTypes := #[]
  resolved := Array.replicate 61 none
  statics := none }

def pool10 : Array CpInfo := pool [(2, .class_ 4), (1, u "java/lang/Object"), (0, u "<init>"), (0, u "()V"), (17, .class_ 26), (1, u "jdk/internal/util/Preconditions"), (6, u "checkIndex"), (13, u "checkFromToIndex"), (1, u "checkFromIndexSize"), (5, .class_ 56), (0, u "jdk/internal/util/Preconditions$4"), (57, .class_ 115), (0, u "jdk/internal/util/Preconditions$1"), (7, u "SIOOBE_FORMATTER"), (0, u "Ljava/util/function/BiFunction;"), (0, .class_ 126), (0, u "jdk/internal/util/Preconditions$2"), (3, u "AIOOBE_FORMATTER"), (0, .class_ 132), (0, u "jdk/internal/util/Preconditions$3"), (3, u "IOOBE_FORMATTER"), (41, u "(IILjava/util/function/BiFunction;)I"), (4, u "(IIILjava/util/function/BiFunction;)I")] 10

def k10m0 : Method := { name := "<init>", desc := "()V", sig := { parameters := [], returnType := none }, accessFlags := 1, code := none }
def k10c1 : Code := { maxStack := 3, maxLocals := 3, code := jdk_41_method_11_code, exceptionTable := #[], attributes := #[] }
def k10m1 : Method := { name := "checkIndex", desc := "(IILjava/util/function/BiFunction;)I", sig := { parameters := [.int, .int, (.object "java/util/function/BiFunction")], returnType := some .int }, accessFlags := 9, code := some k10c1 }
def k10c2 : Code := { maxStack := 4, maxLocals := 4, code := jdk_41_method_12_code, exceptionTable := #[], attributes := #[] }
def k10m2 : Method := { name := "checkFromToIndex", desc := "(IIILjava/util/function/BiFunction;)I", sig := { parameters := [.int, .int, .int, (.object "java/util/function/BiFunction")], returnType := some .int }, accessFlags := 9, code := some k10c2 }
def k10c3 : Code := { maxStack := 4, maxLocals := 4, code := jdk_41_method_13_code, exceptionTable := #[], attributes := #[] }
def k10m3 : Method := { name := "checkFromIndexSize", desc := "(IIILjava/util/function/BiFunction;)I", sig := { parameters := [.int, .int, .int, (.object "java/util/function/BiFunction")], returnType := some .int }, accessFlags := 9, code := some k10c3 }
/-- jdk/internal/util/Preconditions -/
def k10 : Class := { plain "jdk/internal/util/Preconditions" (some 0) with
  accessFlags := 33
  interfaces := #[]
  cf := some (fileOf pool10 24 #[.nestMembers #[55, 131, 125, 114]] #[{ accessFlags := 1, nameIndex := 5, descriptorIndex := 6, attributes := #[] }, { accessFlags := 9, nameIndex := 33, descriptorIndex := 178, attributes := #[] }, { accessFlags := 9, nameIndex := 47, descriptorIndex := 183, attributes := #[] }, { accessFlags := 9, nameIndex := 49, descriptorIndex := 183, attributes := #[] }] 33 2 #[] #[{ accessFlags := 25, nameIndex := 123, descriptorIndex := 124, attributes := #[] }, { accessFlags := 25, nameIndex := 130, descriptorIndex := 124, attributes := #[] }, { accessFlags := 25, nameIndex := 136, descriptorIndex := 124, attributes := #[] }])
  fields := #[{ name := "SIOOBE_FORMATTER", type := (.object "java/util/function/BiFunction"), accessFlags := 25, slot := 0, constantValue := 0 }, { name := "AIOOBE_FORMATTER", type := (.object "java/util/function/BiFunction"), accessFlags := 25, slot := 1, constantValue := 0 }, { name := "IOOBE_FORMATTER", type := (.object "java/util/function/BiFunction"), accessFlags := 25, slot := 2, constantValue := 0 }]
  methods := #[k10m0, k10m1, k10m2, k10m3]
  instanceTypes := #[]
  staticTypes := #[(.object "java/util/function/BiFunction"), (.object "java/util/function/BiFunction"), (.object "java/util/function/BiFunction")]
  resolved := Array.replicate 194 none
  statics := some 2 }

def pool11 : Array CpInfo := pool [(1, .class_ 2), (0, u "java/lang/String"), (1, .class_ 6), (1, u "java/lang/Object"), (0, u "<init>"), (0, u "()V"), (0, .methodref 1 10), (0, .nameAndType 11 12), (0, u "checkIndex"), (0, u "(II)V"), (1, .class_ 16), (1, u "java/lang/StringLatin1"), (36, u "([BI)C"), (58, .methodref 1 113), (0, .nameAndType 7 114), (0, u "([BB)V"), (6, u "$assertionsDisabled"), (0, u "Z"), (8, .class_ 133), (1, u "java/util/Arrays"), (17, .string 152), (0, u ""), (43, u "newString"), (0, u "([BII)Ljava/lang/String;"), (23, .class_ 223), (1, u "java/lang/StringLatin1$LinesSpliterator"), (8, .methodref 131 233), (0, .nameAndType 234 235), (0, u "copyOfRange"), (0, u "([BII)[B"), (16, u "charAt"), (137, .class_ 391), (0, u "java/lang/StringLatin1$CharsSpliterator")] 3

def k11m0 : Method := { name := "<init>", desc := "()V", sig := { parameters := [], returnType := none }, accessFlags := 0, code := none }
def k11c1 : Code := { maxStack := 2, maxLocals := 2, code := jdk_43_method_2_code, exceptionTable := #[], attributes := #[] }
def k11m1 : Method := { name := "charAt", desc := "([BI)C", sig := { parameters := [(.array .byte), .int], returnType := some .char }, accessFlags := 9, code := some k11c1 }
def k11c2 : Code := { maxStack := 6, maxLocals := 3, code := jdk_43_method_47_code, exceptionTable := #[], attributes := #[] }
def k11m2 : Method := { name := "newString", desc := "([BII)Ljava/lang/String;", sig := { parameters := [(.array .byte), .int, .int], returnType := some (.object "java/lang/String") }, accessFlags := 9, code := some k11c2 }
/-- java/lang/StringLatin1 -/
def k11 : Class := { plain "java/lang/StringLatin1" (some 0) with
  accessFlags := 48
  interfaces := #[]
  cf := some (fileOf pool11 14 #[.nestMembers #[390, 221]] #[{ accessFlags := 0, nameIndex := 7, descriptorIndex := 8, attributes := #[] }, { accessFlags := 9, nameIndex := 252, descriptorIndex := 53, attributes := #[] }, { accessFlags := 9, nameIndex := 196, descriptorIndex := 197, attributes := #[] }] 48 4 #[] #[{ accessFlags := 4120, nameIndex := 121, descriptorIndex := 122, attributes := #[] }])
  fields := #[{ name := "$assertionsDisabled", type := .boolean, accessFlags := 4120, slot := 0, constantValue := 0 }]
  methods := #[k11m0, k11m1, k11m2]
  instanceTypes := #[]
  staticTypes := #[.boolean]
  resolved := Array.replicate 395 none
  statics := none }

def pool12 : Array CpInfo := pool [(1, .class_ 2), (0, u "java/lang/Math"), (1, .class_ 6), (1, u "java/lang/Object"), (0, u "<init>"), (0, u "()V"), (89, .class_ 100), (1, u "java/lang/Math$RandomNumberGeneratorHolder"), (71, u "negativeZeroFloatBits"), (0, u "J"), (2, u "negativeZeroDoubleBits"), (21, u "max"), (2, u "min"), (43, u "$assertionsDisabled"), (0, u "Z"), (88, u "(II)I"), (2, u "twoToTheDoubleScaleDown"), (0, u "D"), (4, u "twoToTheDoubleScaleUp"), (9, u "E"), (3, u "PI"), (2, u "TAU"), (2, u "DEGREES_TO_RADIANS"), (0, u "RADIANS_TO_DEGREES")] 94

def k12m0 : Method := { name := "<init>", desc := "()V", sig := { parameters := [], returnType := none }, accessFlags := 2, code := none }
def k12c1 : Code := { maxStack := 2, maxLocals := 2, code := jdk_29_method_65_code, exceptionTable := #[], attributes := #[] }
def k12m1 : Method := { name := "max", desc := "(II)I", sig := { parameters := [.int, .int], returnType := some .int }, accessFlags := 9, code := some k12c1 }
def k12c2 : Code := { maxStack := 2, maxLocals := 2, code := jdk_29_method_69_code, exceptionTable := #[], attributes := #[] }
def k12m2 : Method := { name := "min", desc := "(II)I", sig := { parameters := [.int, .int], returnType := some .int }, accessFlags := 9, code := some k12c2 }
/-- java/lang/Math -/
def k12 : Class := { plain "java/lang/Math" (some 0) with
  accessFlags := 49
  interfaces := #[]
  cf := some (fileOf pool12 1 #[.nestMembers #[98]] #[{ accessFlags := 2, nameIndex := 7, descriptorIndex := 8, attributes := #[] }, { accessFlags := 9, nameIndex := 198, descriptorIndex := 335, attributes := #[] }, { accessFlags := 9, nameIndex := 201, descriptorIndex := 335, attributes := #[] }] 49 4 #[] #[{ accessFlags := 25, nameIndex := 354, descriptorIndex := 339, attributes := #[] }, { accessFlags := 25, nameIndex := 358, descriptorIndex := 339, attributes := #[] }, { accessFlags := 25, nameIndex := 361, descriptorIndex := 339, attributes := #[] }, { accessFlags := 26, nameIndex := 364, descriptorIndex := 339, attributes := #[] }, { accessFlags := 26, nameIndex := 365, descriptorIndex := 339, attributes := #[] }, { accessFlags := 26, nameIndex := 172, descriptorIndex := 173, attributes := #[] }, { accessFlags := 26, nameIndex := 176, descriptorIndex := 173, attributes := #[] }, { accessFlags := 8, nameIndex := 344, descriptorIndex := 339, attributes := #[] }, { accessFlags := 8, nameIndex := 338, descriptorIndex := 339, attributes := #[] }, { accessFlags := 4120, nameIndex := 245, descriptorIndex := 246, attributes := #[] }])
  fields := #[{ name := "E", type := .double, accessFlags := 25, slot := 0, constantValue := 0 }, { name := "PI", type := .double, accessFlags := 25, slot := 1, constantValue := 0 }, { name := "TAU", type := .double, accessFlags := 25, slot := 2, constantValue := 0 }, { name := "DEGREES_TO_RADIANS", type := .double, accessFlags := 26, slot := 3, constantValue := 0 }, { name := "RADIANS_TO_DEGREES", type := .double, accessFlags := 26, slot := 4, constantValue := 0 }, { name := "negativeZeroFloatBits", type := .long, accessFlags := 26, slot := 5, constantValue := 0 }, { name := "negativeZeroDoubleBits", type := .long, accessFlags := 26, slot := 6, constantValue := 0 }, { name := "twoToTheDoubleScaleUp", type := .double, accessFlags := 8, slot := 7, constantValue := 0 }, { name := "twoToTheDoubleScaleDown", type := .double, accessFlags := 8, slot := 8, constantValue := 0 }, { name := "$assertionsDisabled", type := .boolean, accessFlags := 4120, slot := 9, constantValue := 0 }]
  methods := #[k12m0, k12m1, k12m2]
  instanceTypes := #[]
  staticTypes := #[.double, .double, .double, .double, .double, .long, .long, .double, .double, .boolean]
  resolved := Array.replicate 460 none
  statics := none }

def pool13 : Array CpInfo := pool [(2, .class_ 4), (1, u "java/lang/Object"), (0, u "<init>"), (0, u "()V"), (7, .class_ 16), (1, u "java/util/Arrays"), (57, .class_ 76), (1, u "java/util/Arrays$NaturalOrder"), (36, .class_ 115), (1, u "java/util/Arrays$LegacyMergeSort"), (1, u "Z"), (21, u "copyOfRange"), (10, .methodref 151 152), (0, .class_ 153), (0, .nameAndType 154 155), (0, u "java/lang/System"), (0, u "arraycopy"), (0, u "(Ljava/lang/Object;ILjava/lang/Object;II)V"), (148, .methodref 305 306), (0, .class_ 307), (0, .nameAndType 308 309), (0, u "java/lang/Math"), (0, u "min"), (0, u "(II)I"), (29, .methodref 14 340), (0, .nameAndType 341 342), (0, u "copyOfRangeByte"), (0, u "([BII)[B"), (0, .methodref 14 344), (0, .nameAndType 345 346), (0, u "checkLength"), (0, u "(II)V"), (28, .class_ 376), (0, u "java/util/Arrays$ArrayList"), (68, u "$assertionsDisabled"), (269, u "MIN_ARRAY_SORT_GRAN"), (0, u "I"), (2, u "INSERTIONSORT_THRESHOLD"), (255, .class_ 976), (0, u "java/util/Arrays$ArrayItr")] 52

def k13m0 : Method := { name := "<init>", desc := "()V", sig := { parameters := [], returnType := none }, accessFlags := 2, code := none }
def k13c1 : Code := { maxStack := 4, maxLocals := 2, code := jdk_65_method_131_code, exceptionTable := #[], attributes := #[] }
def k13m1 : Method := { name := "checkLength", desc := "(II)V", sig := { parameters := [.int, .int], returnType := none }, accessFlags := 10, code := some k13c1 }
def k13c2 : Code := { maxStack := 3, maxLocals := 3, code := jdk_65_method_132_code, exceptionTable := #[], attributes := #[] }
def k13m2 : Method := { name := "copyOfRange", desc := "([BII)[B", sig := { parameters := [(.array .byte), .int, .int], returnType := some (.array .byte) }, accessFlags := 9, code := some k13c2 }
def k13c3 : Code := { maxStack := 6, maxLocals := 5, code := jdk_65_method_133_code, exceptionTable := #[], attributes := #[] }
def k13m3 : Method := { name := "copyOfRangeByte", desc := "([BII)[B", sig := { parameters := [(.array .byte), .int, .int], returnType := some (.array .byte) }, accessFlags := 10, code := some k13c3 }
/-- java/util/Arrays -/
def k13 : Class := { plain "java/util/Arrays" (some 0) with
  accessFlags := 49
  interfaces := #[]
  cf := some (fileOf pool13 14 #[.nestMembers #[975, 375, 113, 74]] #[{ accessFlags := 2, nameIndex := 5, descriptorIndex := 6, attributes := #[] }, { accessFlags := 10, nameIndex := 345, descriptorIndex := 346, attributes := #[] }, { accessFlags := 9, nameIndex := 139, descriptorIndex := 342, attributes := #[] }, { accessFlags := 10, nameIndex := 341, descriptorIndex := 342, attributes := #[] }] 49 2 #[] #[{ accessFlags := 26, nameIndex := 715, descriptorIndex := 716, attributes := #[] }, { accessFlags := 26, nameIndex := 719, descriptorIndex := 716, attributes := #[] }, { accessFlags := 4120, nameIndex := 445, descriptorIndex := 117, attributes := #[] }])
  fields := #[{ name := "MIN_ARRAY_SORT_GRAN", type := .int, accessFlags := 26, slot := 0, constantValue := 0 }, { name := "INSERTIONSORT_THRESHOLD", type := .int, accessFlags := 26, slot := 1, constantValue := 0 }, { name := "$assertionsDisabled", type := .boolean, accessFlags := 4120, slot := 2, constantValue := 0 }]
  methods := #[k13m0, k13m1, k13m2, k13m3]
  instanceTypes := #[]
  staticTypes := #[.int, .int, .boolean]
  resolved := Array.replicate 1029 none
  statics := none }

def pool14 : Array CpInfo := pool [(2, .class_ 4), (1, u "java/lang/Object"), (0, u "<init>"), (0, u "()V"), (1, .class_ 10), (1, u "java/lang/System"), (0, u "allowSecurityManager"), (0, u "I"), (16, u "cons"), (0, u "Ljava/io/Console;"), (77, .class_ 110), (1, u "java/lang/System$CallersHolder"), (43, u "initialErrStream"), (0, u "Ljava/io/PrintStream;"), (19, u "security"), (0, u "Ljava/lang/SecurityManager;"), (31, .class_ 209), (0, u "java/lang/System$1"), (7, u "props"), (0, u "Ljava/util/Properties;"), (2, u "lineSeparator"), (0, u "Ljava/lang/String;"), (96, .class_ 321), (1, u "java/lang/System$LoggerFinder"), (5, .class_ 328), (0, u "java/lang/System$Logger"), (67, u "err"), (2, u "out"), (91, u "notSupportedJnuEncoding"), (15, u "in"), (17, u "initialIn"), (0, u "Ljava/io/InputStream;"), (35, u "bootLayer"), (0, u "Ljava/lang/ModuleLayer;"), (99, .class_ 664), (0, u "java/lang/System$2"), (9, u "NEVER"), (2, u "MAYBE"), (49, u "arraycopy"), (0, u "(Ljava/lang/Object;ILjava/lang/Object;II)V"), (72, .class_ 802), (0, u "java/lang/System$Logger$Level")] 31

def k14m0 : Method := { name := "<init>", desc := "()V", sig := { parameters := [], returnType := none }, accessFlags := 2, code := none }
def k14m1 : Method := { name := "arraycopy", desc := "(Ljava/lang/Object;ILjava/lang/Object;II)V", sig := { parameters := [(.object "java/lang/Object"), .int, (.object "java/lang/Object"), .int, .int], returnType := none }, accessFlags := 265, code := none }
/-- java/lang/System -/
def k14 : Class := { plain "java/lang/System" (some 0) with
  accessFlags := 49
  interfaces := #[]
  cf := some (fileOf pool14 8 #[.nestMembers #[319, 327, 801, 108, 663, 208]] #[{ accessFlags := 2, nameIndex := 5, descriptorIndex := 6, attributes := #[] }, { accessFlags := 265, nameIndex := 727, descriptorIndex := 728, attributes := #[] }] 49 2 #[] #[{ accessFlags := 25, nameIndex := 507, descriptorIndex := 526, attributes := #[] }, { accessFlags := 25, nameIndex := 399, descriptorIndex := 155, attributes := #[] }, { accessFlags := 25, nameIndex := 396, descriptorIndex := 155, attributes := #[] }, { accessFlags := 10, nameIndex := 525, descriptorIndex := 526, attributes := #[] }, { accessFlags := 26, nameIndex := 674, descriptorIndex := 12, attributes := #[] }, { accessFlags := 26, nameIndex := 677, descriptorIndex := 12, attributes := #[] }, { accessFlags := 10, nameIndex := 11, descriptorIndex := 12, attributes := #[] }, { accessFlags := 74, nameIndex := 175, descriptorIndex := 176, attributes := #[] }, { accessFlags := 10, nameIndex := 491, descriptorIndex := 222, attributes := #[] }, { accessFlags := 74, nameIndex := 29, descriptorIndex := 30, attributes := #[] }, { accessFlags := 74, nameIndex := 154, descriptorIndex := 155, attributes := #[] }, { accessFlags := 10, nameIndex := 217, descriptorIndex := 218, attributes := #[] }, { accessFlags := 10, nameIndex := 221, descriptorIndex := 222, attributes := #[] }, { accessFlags := 8, nameIndex := 562, descriptorIndex := 563, attributes := #[] }])
  fields := #[{ name := "in", type := (.object "java/io/InputStream"), accessFlags := 25, slot := 0, constantValue := 0 }, { name := "out", type := (.object "java/io/PrintStream"), accessFlags := 25, slot := 1, constantValue := 0 }, { name := "err", type := (.object "java/io/PrintStream"), accessFlags := 25, slot := 2, constantValue := 0 }, { name := "initialIn", type := (.object "java/io/InputStream"), accessFlags := 10, slot := 3, constantValue := 0 }, { name := "NEVER", type := .int, accessFlags := 26, slot := 4, constantValue := 0 }, { name := "MAYBE", type := .int, accessFlags := 26, slot := 5, constantValue := 0 }, { name := "allowSecurityManager", type := .int, accessFlags := 10, slot := 6, constantValue := 0 }, { name := "security", type := (.object "java/lang/SecurityManager"), accessFlags := 74, slot := 7, constantValue := 0 }, { name := "notSupportedJnuEncoding", type := (.object "java/lang/String"), accessFlags := 10, slot := 8, constantValue := 0 }, { name := "cons", type := (.object "java/io/Console"), accessFlags := 74, slot := 9, constantValue := 0 }, { name := "initialErrStream", type := (.object "java/io/PrintStream"), accessFlags := 74, slot := 10, constantValue := 0 }, { name := "props", type := (.object "java/util/Properties"), accessFlags := 10, slot := 11, constantValue := 0 }, { name := "lineSeparator", type := (.object "java/lang/String"), accessFlags := 10, slot := 12, constantValue := 0 }, { name := "bootLayer", type := (.object "java/lang/ModuleLayer"), accessFlags := 8, slot := 13, constantValue := 0 }]
  methods := #[k14m0, k14m1]
  instanceTypes := #[]
  staticTypes := #[(.object "java/io/InputStream"), (.object "java/io/PrintStream"), (.object "java/io/PrintStream"), (.object "java/io/InputStream"), .int, .int, .int, (.object "java/lang/SecurityManager"), (.object "java/lang/String"), (.object "java/io/Console"), (.object "java/io/PrintStream"), (.object "java/util/Properties"), (.object "java/lang/String"), (.object "java/lang/ModuleLayer")]
  resolved := Array.replicate 834 none
  statics := none }

def pool15 : Array CpInfo := pool [(9, u "<init>"), (6, .class_ 18), (1, u "java/lang/Object"), (0, u "()V"), (1, .class_ 23), (1, u "jdk/internal/util/ArraysSupport"), (0, u "LOG2_ARRAY_LONG_INDEX_SCALE"), (0, u "I"), (2, u "U"), (0, u "Ljdk/internal/misc/Unsafe;"), (8, u "BIG_ENDIAN"), (0, u "Z"), (8, u "LOG2_BYTE_BIT_SIZE"), (4, u "LOG2_ARRAY_INT_INDEX_SCALE"), (54, u "JLA"), (0, u "Ljdk/internal/access/JavaLangAccess;"), (11, u "LOG2_ARRAY_BOOLEAN_INDEX_SCALE"), (9, u "LOG2_ARRAY_BYTE_INDEX_SCALE"), (5, u "LOG2_ARRAY_CHAR_INDEX_SCALE"), (5, u "LOG2_ARRAY_SHORT_INDEX_SCALE"), (18, u "LOG2_ARRAY_FLOAT_INDEX_SCALE"), (24, u "LOG2_ARRAY_DOUBLE_INDEX_SCALE"), (89, u "T_BOOLEAN"), (2, u "T_CHAR"), (1, u "T_FLOAT"), (1, u "T_DOUBLE"), (1, u "T_BYTE"), (1, u "T_SHORT"), (1, u "T_INT"), (1, u "T_LONG"), (1, u "SOFT_MAX_ARRAY_LENGTH")] 83

def k15m0 : Method := { name := "<init>", desc := "()V", sig := { parameters := [], returnType := none }, accessFlags := 2, code := none }
/-- jdk/internal/util/ArraysSupport -/
def k15 : Class := { plain "jdk/internal/util/ArraysSupport" (some 0) with
  accessFlags := 33
  interfaces := #[]
  cf := some (fileOf pool15 21 #[] #[{ accessFlags := 2, nameIndex := 9, descriptorIndex := 19, attributes := #[] }] 33 16 #[] #[{ accessFlags := 24, nameIndex := 28, descriptorIndex := 29, attributes := #[] }, { accessFlags := 26, nameIndex := 38, descriptorIndex := 39, attributes := #[] }, { accessFlags := 25, nameIndex := 121, descriptorIndex := 25, attributes := #[] }, { accessFlags := 25, nameIndex := 131, descriptorIndex := 25, attributes := #[] }, { accessFlags := 25, nameIndex := 137, descriptorIndex := 25, attributes := #[] }, { accessFlags := 25, nameIndex := 143, descriptorIndex := 25, attributes := #[] }, { accessFlags := 25, nameIndex := 53, descriptorIndex := 25, attributes := #[] }, { accessFlags := 25, nameIndex := 24, descriptorIndex := 25, attributes := #[] }, { accessFlags := 25, nameIndex := 162, descriptorIndex := 25, attributes := #[] }, { accessFlags := 25, nameIndex := 187, descriptorIndex := 25, attributes := #[] }, { accessFlags := 26, nameIndex := 48, descriptorIndex := 25, attributes := #[] }, { accessFlags := 25, nameIndex := 277, descriptorIndex := 25, attributes := #[] }, { accessFlags := 25, nameIndex := 280, descriptorIndex := 25, attributes := #[] }, { accessFlags := 25, nameIndex := 282, descriptorIndex := 25, attributes := #[] }, { accessFlags := 25, nameIndex := 284, descriptorIndex := 25, attributes := #[] }, { accessFlags := 25, nameIndex := 286, descriptorIndex := 25, attributes := #[] }, { accessFlags := 25, nameIndex := 288, descriptorIndex := 25, attributes := #[] }, { accessFlags := 25, nameIndex := 290, descriptorIndex := 25, attributes := #[] }, { accessFlags := 25, nameIndex := 292, descriptorIndex := 25, attributes := #[] }, { accessFlags := 26, nameIndex := 108, descriptorIndex := 109, attributes := #[] }, { accessFlags := 25, nameIndex := 294, descriptorIndex := 25, attributes := #[] }])
  fields := #[{ name := "U", type := (.object "jdk/internal/misc/Unsafe"), accessFlags := 24, slot := 0, constantValue := 0 }, { name := "BIG_ENDIAN", type := .boolean, accessFlags := 26, slot := 1, constantValue := 0 }, { name := "LOG2_ARRAY_BOOLEAN_INDEX_SCALE", type := .int, accessFlags := 25, slot := 2, constantValue := 0 }, { name := "LOG2_ARRAY_BYTE_INDEX_SCALE", type := .int, accessFlags := 25, slot := 3, constantValue := 0 }, { name := "LOG2_ARRAY_CHAR_INDEX_SCALE", type := .int, accessFlags := 25, slot := 4, constantValue := 0 }, { name := "LOG2_ARRAY_SHORT_INDEX_SCALE", type := .int, accessFlags := 25, slot := 5, constantValue := 0 }, { name := "LOG2_ARRAY_INT_INDEX_SCALE", type := .int, accessFlags := 25, slot := 6, constantValue := 0 }, { name := "LOG2_ARRAY_LONG_INDEX_SCALE", type := .int, accessFlags := 25, slot := 7, constantValue := 0 }, { name := "LOG2_ARRAY_FLOAT_INDEX_SCALE", type := .int, accessFlags := 25, slot := 8, constantValue := 0 }, { name := "LOG2_ARRAY_DOUBLE_INDEX_SCALE", type := .int, accessFlags := 25, slot := 9, constantValue := 0 }, { name := "LOG2_BYTE_BIT_SIZE", type := .int, accessFlags := 26, slot := 10, constantValue := 0 }, { name := "T_BOOLEAN", type := .int, accessFlags := 25, slot := 11, constantValue := 0 }, { name := "T_CHAR", type := .int, accessFlags := 25, slot := 12, constantValue := 0 }, { name := "T_FLOAT", type := .int, accessFlags := 25, slot := 13, constantValue := 0 }, { name := "T_DOUBLE", type := .int, accessFlags := 25, slot := 14, constantValue := 0 }, { name := "T_BYTE", type := .int, accessFlags := 25, slot := 15, constantValue := 0 }, { name := "T_SHORT", type := .int, accessFlags := 25, slot := 16, constantValue := 0 }, { name := "T_INT", type := .int, accessFlags := 25, slot := 17, constantValue := 0 }, { name := "T_LONG", type := .int, accessFlags := 25, slot := 18, constantValue := 0 }, { name := "JLA", type := (.object "jdk/internal/access/JavaLangAccess"), accessFlags := 26, slot := 19, constantValue := 0 }, { name := "SOFT_MAX_ARRAY_LENGTH", type := .int, accessFlags := 25, slot := 20, constantValue := 0 }]
  methods := #[k15m0]
  instanceTypes := #[]
  staticTypes := #[(.object "jdk/internal/misc/Unsafe"), .boolean, .int, .int, .int, .int, .int, .int, .int, .int, .int, .int, .int, .int, .int, .int, .int, .int, .int, (.object "jdk/internal/access/JavaLangAccess"), .int]
  resolved := Array.replicate 378 none
  statics := none }

def pool16 : Array CpInfo := pool [(1, u "java/lang/Cloneable"), (0, .class_ 1), (0, u "java/lang/Object"), (0, .class_ 3)] 3

/-- java/lang/Cloneable -/
def k16 : Class := { plain "java/lang/Cloneable" (some 0) with
  accessFlags := 1537
  interfaces := #[]
  cf := some (fileOf pool16 2 #[] #[] 1537 4 #[] #[])
  fields := #[]
  methods := #[]
  instanceTypes := #[]
  staticTypes := #[]
  resolved := Array.replicate 8 none
  statics := none }

/-- the primitive byte -/
def k17 : Class := { plain "byte" none with kind := .primitive 'B', accessFlags := 0x411 }
/-- [B -/
def k18 : Class := { plain "[B" (some 0) with kind := .array 17 .byte, interfaces := #[16, 2], accessFlags := 1041 }

/-- the primitive char -/
def k19 : Class := { plain "char" none with kind := .primitive 'C', accessFlags := 0x411 }
/-- [C -/
def k20 : Class := { plain "[C" (some 0) with kind := .array 19 .char, interfaces := #[16, 2], accessFlags := 1041 }

/-- the primitive int -/
def k21 : Class := { plain "int" none with kind := .primitive 'I', accessFlags := 0x411 }
/-- [I -/
def k22 : Class := { plain "[I" (some 0) with kind := .array 21 .int, interfaces := #[16, 2], accessFlags := 1041 }

def heap : Heap := #[{ cls := 7, slots := #[.long 0, .int 1, .null, .int 0, .null, .int 0, .int 0], vm := .statics 7 },
  { cls := 8, slots := #[.int 0, .int 8, .int 0, .int 1], vm := .statics 8 },
  { cls := 10, slots := #[.null, .null, .null], vm := .statics 10 }]
def classes : Array Class := #[k0, k1, k2, k3, k4, k5, k6, k7, k8, k9, k10, k11, k12, k13, k14, k15, k16, k17, k18, k19, k20, k21, k22]
def interned : List (Array UInt16 × Addr) := []
def slotsUsed : Nat := 14
def theMethod : MethodId := ⟨1, 1⟩
def args0 : Array Value := #[.int 5, .int 5, .int 5, .int 5, .int 5, .int 5]
def aboutOver (below : List Frame) : State where
  vm := { classes := classes, interned := interned.toArray }
  heap := heap
  slotsUsed := slotsUsed
  threads := #[{ frames := .invoking theMethod args0 :: below }]
def below0 : List Frame := [.native { method := ⟨0, 0⟩, args := #[] }]
def about1 : State := aboutOver below0
def p0 : Program := .bare "" "" ""
def e0 : Env := launch0.env 0 0 0
theorem w_frames : about1.frames = Frame.invoking theMethod args0 :: below0 := rfl
set_option maxRecDepth 65536 in
theorem w_args : argsFit about1.vm theMethod args0 = true := by decide +kernel
set_option maxRecDepth 65536 in
theorem w_heap : heapFits about1 = true := by decide +kernel
set_option maxRecDepth 65536 in
theorem w_runnable : about1.curStatus? = some .runnable := by decide +kernel
set_option maxRecDepth 65536 in
theorem w_alone : about1.alone = true := by decide +kernel
set_option maxRecDepth 65536 in
theorem w_named : about1.methodNamed? x = some theMethod := by decide +kernel
set_option maxRecDepth 65536 in
theorem w_hears : about1.hears theMethod below0 = true := by decide +kernel
set_option maxRecDepth 65536 in
theorem w_ripe : about1.ripe theMethod args0 below0 = true := by decide +kernel
theorem w_running : about1.status = .running := rfl
set_option maxRecDepth 65536 in
theorem w_room : about1.hasRoom e0.platform room_1 = true :=
  launch0.hasRoom_least _ room_1 (by decide +kernel) (by decide +kernel) (by decide +kernel) (by decide +kernel) (by decide +kernel) (by decide +kernel)
theorem allAtoms_all (ts : List Jvm.Cond) (a : Array Jvm.Value) (st : Jvm.State) : (allAtoms ts).before a st = ts.all (fun c => c.before a st) := by
  induction ts with
  | nil => rfl
  | cons c t ih =>
    show (Jvm.Cond.and c (allAtoms t)).before a st = _
    rw [Jvm.Cond.before_and, ih, List.all_cons]
def words1 : List Jvm.Cond := Jvm.Cond.code x code maxLocals ret :: tables_1
/-- a 'code' word, met by the world's own term for the bytes: nothing is compared byte by byte -/
theorem code_word {y : MethodName} {bytes : ByteArray} {mx : Nat} {rt : Option FieldType} {a : Array Value} {s : State} {m : MethodId} {meth : Method} {c : Code} (h1 : s.methodNamed? y = some m) (h2 : s.vm.method? m = some meth) (h3 : meth.code = some c) (h4 : c.code = bytes)
    (h5 : (c.maxLocals == mx && c.exceptionTable.isEmpty && decide (c.maxStack ≤ mostOperands) && decide (meth.sig.returnType = rt) && !meth.locks && decide (parseMethodDescriptor y.desc = some meth.sig)) = true) : (Jvm.Cond.code y bytes mx rt).before a s = true := by
  simp only [Bool.and_eq_true, beq_iff_eq, Bool.not_eq_true', decide_eq_true_eq] at h5
  obtain ⟨⟨⟨⟨⟨g1, g2⟩, g3⟩, g4⟩, g5⟩, g6⟩ := h5
  simp [Cond.before, Cond.holds, Cond.value, h1, h2, h3, h4, g1, g2, g3, g4, g5, g6]
def isCode : Jvm.Cond → Bool
  | .code _ _ _ _ => true
  | _ => false
theorem all_split {L : List Jvm.Cond} {P : Jvm.Cond → Bool} (h1 : L.all (fun c => isCode c || P c) = true) (h2 : ∀ c ∈ L.filter isCode, P c = true) : L.all P = true := by
  refine List.all_eq_true.mpr fun c hc => ?_
  have h := List.all_eq_true.mp h1 c hc
  rcases Bool.eq_false_or_eq_true (isCode c) with hi | hi
  · exact h2 c (List.mem_filter.mpr ⟨hc, hi⟩)
  · simpa [hi] using h
set_option maxRecDepth 65536 in
theorem w_c0 : (Jvm.Cond.code x code maxLocals ret).before args0 about1 = true := code_word (m := ⟨1, 1⟩) (meth := k1m1) (c := k1c1) (by decide +kernel) rfl rfl rfl (by decide +kernel)
set_option maxRecDepth 65536 in
theorem w_c1 : (Jvm.Cond.code ({ cls := "com/example/honbun/honbun/WhiteSpaceTrimPinLaw", name := "draw", desc := "(I)C" } : Jvm.MethodName) method_3_code (2 : Nat) (Option.some Jvm.ClassFile.FieldType.char)).before args0 about1 = true := code_word (m := ⟨1, 2⟩) (meth := k1m2) (c := k1c2) (by decide +kernel) rfl rfl rfl (by decide +kernel)
set_option maxRecDepth 65536 in
theorem w_c2 : (Jvm.Cond.code ({ cls := "java/lang/String", name := "<init>", desc := "([C)V" } : Jvm.MethodName) jdk_42_method_3_code (2 : Nat) (Option.none : Option Jvm.ClassFile.FieldType)).before args0 about1 = true := code_word (m := ⟨7, 1⟩) (meth := k7m1) (c := k7c1) (by decide +kernel) rfl rfl rfl (by decide +kernel)
set_option maxRecDepth 65536 in
theorem w_c3 : (Jvm.Cond.code ({ cls := "java/lang/String", name := "<init>", desc := "([CIILjava/lang/Void;)V" } : Jvm.MethodName) jdk_42_method_149_code (6 : Nat) (Option.none : Option Jvm.ClassFile.FieldType)).before args0 about1 = true := code_word (m := ⟨7, 6⟩) (meth := k7m6) (c := k7c6) (by decide +kernel) rfl rfl rfl (by decide +kernel)
set_option maxRecDepth 65536 in
theorem w_c4 : (Jvm.Cond.code ({ cls := "java/lang/Object", name := "<init>", desc := "()V" } : Jvm.MethodName) object_method_1_code (1 : Nat) (Option.none : Option Jvm.ClassFile.FieldType)).before args0 about1 = true := code_word (m := ⟨0, 0⟩) (meth := k0m0) (c := k0c0) (by decide +kernel) rfl rfl rfl (by decide +kernel)
set_option maxRecDepth 65536 in
theorem w_c5 : (Jvm.Cond.code ({ cls := "java/lang/StringUTF16", name := "compress", desc := "([CII)[B" } : Jvm.MethodName) jdk_52_method_16_code (6 : Nat) (Option.some (Jvm.ClassFile.FieldType.array Jvm.ClassFile.FieldType.byte))).before args0 about1 = true := code_word (m := ⟨8, 8⟩) (meth := k8m8) (c := k8c8) (by decide +kernel) rfl rfl rfl (by decide +kernel)
set_option maxRecDepth 65536 in
theorem w_c6 : (Jvm.Cond.code ({ cls := "java/lang/StringUTF16", name := "compress", desc := "([CI[BII)I" } : Jvm.MethodName) jdk_52_method_21_code (7 : Nat) (Option.some Jvm.ClassFile.FieldType.int)).before args0 about1 = true := code_word (m := ⟨8, 10⟩) (meth := k8m10) (c := k8c10) (by decide +kernel) rfl rfl rfl (by decide +kernel)
set_option maxRecDepth 65536 in
theorem w_c7 : (Jvm.Cond.code ({ cls := "java/lang/StringUTF16", name := "coderFromArrayLen", desc := "([BI)B" } : Jvm.MethodName) jdk_52_method_15_code (2 : Nat) (Option.some Jvm.ClassFile.FieldType.byte)).before args0 about1 = true := code_word (m := ⟨8, 7⟩) (meth := k8m7) (c := k8c7) (by decide +kernel) rfl rfl rfl (by decide +kernel)
set_option maxRecDepth 65536 in
theorem w_c8 : (Jvm.Cond.code ({ cls := "com/example/honbun/honbun/WhiteSpace", name := "trim", desc := "(Ljava/lang/String;II)Ljava/lang/String;" } : Jvm.MethodName) prog_17_method_5_code (5 : Nat) (Option.some (Jvm.ClassFile.FieldType.object "java/lang/String"))).before args0 about1 = true := code_word (m := ⟨9, 2⟩) (meth := k9m2) (c := k9c2) (by decide +kernel) rfl rfl rfl (by decide +kernel)
set_option maxRecDepth 65536 in
theorem w_c9 : (Jvm.Cond.code ({ cls := "java/lang/String", name := "substring", desc := "(II)Ljava/lang/String;" } : Jvm.MethodName) jdk_42_method_92_code (5 : Nat) (Option.some (Jvm.ClassFile.FieldType.object "java/lang/String"))).before args0 about1 = true := code_word (m := ⟨7, 5⟩) (meth := k7m5) (c := k7c5) (by decide +kernel) rfl rfl rfl (by decide +kernel)
set_option maxRecDepth 65536 in
theorem w_c10 : (Jvm.Cond.code ({ cls := "java/lang/String", name := "length", desc := "()I" } : Jvm.MethodName) jdk_42_method_54_code (1 : Nat) (Option.some Jvm.ClassFile.FieldType.int)).before args0 about1 = true := code_word (m := ⟨7, 2⟩) (meth := k7m2) (c := k7c2) (by decide +kernel) rfl rfl rfl (by decide +kernel)
set_option maxRecDepth 65536 in
theorem w_c11 : (Jvm.Cond.code ({ cls := "java/lang/String", name := "coder", desc := "()B" } : Jvm.MethodName) jdk_42_method_152_code (1 : Nat) (Option.some Jvm.ClassFile.FieldType.byte)).before args0 about1 = true := code_word (m := ⟨7, 8⟩) (meth := k7m8) (c := k7c8) (by decide +kernel) rfl rfl rfl (by decide +kernel)
set_option maxRecDepth 65536 in
theorem w_c12 : (Jvm.Cond.code ({ cls := "java/lang/String", name := "checkBoundsBeginEnd", desc := "(III)V" } : Jvm.MethodName) jdk_42_method_158_code (3 : Nat) (Option.none : Option Jvm.ClassFile.FieldType)).before args0 about1 = true := code_word (m := ⟨7, 12⟩) (meth := k7m12) (c := k7c12) (by decide +kernel) rfl rfl rfl (by decide +kernel)
set_option maxRecDepth 65536 in
theorem w_c13 : (Jvm.Cond.code ({ cls := "jdk/internal/util/Preconditions", name := "checkFromToIndex", desc := "(IIILjava/util/function/BiFunction;)I" } : Jvm.MethodName) jdk_41_method_12_code (4 : Nat) (Option.some Jvm.ClassFile.FieldType.int)).before args0 about1 = true := code_word (m := ⟨10, 2⟩) (meth := k10m2) (c := k10c2) (by decide +kernel) rfl rfl rfl (by decide +kernel)
set_option maxRecDepth 65536 in
theorem w_c14 : (Jvm.Cond.code ({ cls := "java/lang/String", name := "isLatin1", desc := "()Z" } : Jvm.MethodName) jdk_42_method_154_code (1 : Nat) (Option.some Jvm.ClassFile.FieldType.boolean)).before args0 about1 = true := code_word (m := ⟨7, 9⟩) (meth := k7m9) (c := k7c9) (by decide +kernel) rfl rfl rfl (by decide +kernel)
set_option maxRecDepth 65536 in
theorem w_c15 : (Jvm.Cond.code ({ cls := "java/lang/StringLatin1", name := "newString", desc := "([BII)Ljava/lang/String;" } : Jvm.MethodName) jdk_43_method_47_code (3 : Nat) (Option.some (Jvm.ClassFile.FieldType.object "java/lang/String"))).before args0 about1 = true := code_word (m := ⟨11, 2⟩) (meth := k11m2) (c := k11c2) (by decide +kernel) rfl rfl rfl (by decide +kernel)
set_option maxRecDepth 65536 in
theorem w_c16 : (Jvm.Cond.code ({ cls := "com/example/honbun/honbun/WhiteSpaceTrimPinLaw", name := "pos", desc := "([CIIII)I" } : Jvm.MethodName) method_5_code (5 : Nat) (Option.some Jvm.ClassFile.FieldType.int)).before args0 about1 = true := code_word (m := ⟨1, 4⟩) (meth := k1m4) (c := k1c4) (by decide +kernel) rfl rfl rfl (by decide +kernel)
set_option maxRecDepth 65536 in
theorem w_c17 : (Jvm.Cond.code ({ cls := "java/lang/Math", name := "min", desc := "(II)I" } : Jvm.MethodName) jdk_29_method_69_code (2 : Nat) (Option.some Jvm.ClassFile.FieldType.int)).before args0 about1 = true := code_word (m := ⟨12, 2⟩) (meth := k12m2) (c := k12c2) (by decide +kernel) rfl rfl rfl (by decide +kernel)
set_option maxRecDepth 65536 in
theorem w_c18 : (Jvm.Cond.code ({ cls := "java/lang/String", name := "isEmpty", desc := "()Z" } : Jvm.MethodName) jdk_42_method_55_code (1 : Nat) (Option.some Jvm.ClassFile.FieldType.boolean)).before args0 about1 = true := code_word (m := ⟨7, 3⟩) (meth := k7m3) (c := k7c3) (by decide +kernel) rfl rfl rfl (by decide +kernel)
set_option maxRecDepth 65536 in
theorem w_c19 : (Jvm.Cond.code ({ cls := "java/lang/String", name := "charAt", desc := "(I)C" } : Jvm.MethodName) jdk_42_method_56_code (2 : Nat) (Option.some Jvm.ClassFile.FieldType.char)).before args0 about1 = true := code_word (m := ⟨7, 4⟩) (meth := k7m4) (c := k7c4) (by decide +kernel) rfl rfl rfl (by decide +kernel)
set_option maxRecDepth 65536 in
theorem w_c20 : (Jvm.Cond.code ({ cls := "java/lang/StringLatin1", name := "charAt", desc := "([BI)C" } : Jvm.MethodName) jdk_43_method_2_code (2 : Nat) (Option.some Jvm.ClassFile.FieldType.char)).before args0 about1 = true := code_word (m := ⟨11, 1⟩) (meth := k11m1) (c := k11c1) (by decide +kernel) rfl rfl rfl (by decide +kernel)
set_option maxRecDepth 65536 in
theorem w_c21 : (Jvm.Cond.code ({ cls := "java/lang/String", name := "checkIndex", desc := "(II)V" } : Jvm.MethodName) jdk_42_method_155_code (2 : Nat) (Option.none : Option Jvm.ClassFile.FieldType)).before args0 about1 = true := code_word (m := ⟨7, 10⟩) (meth := k7m10) (c := k7c10) (by decide +kernel) rfl rfl rfl (by decide +kernel)
set_option maxRecDepth 65536 in
theorem w_c22 : (Jvm.Cond.code ({ cls := "jdk/internal/util/Preconditions", name := "checkIndex", desc := "(IILjava/util/function/BiFunction;)I" } : Jvm.MethodName) jdk_41_method_11_code (3 : Nat) (Option.some Jvm.ClassFile.FieldType.int)).before args0 about1 = true := code_word (m := ⟨10, 1⟩) (meth := k10m1) (c := k10c1) (by decide +kernel) rfl rfl rfl (by decide +kernel)
set_option maxRecDepth 65536 in
theorem w_c23 : (Jvm.Cond.code ({ cls := "com/example/honbun/honbun/WhiteSpace", name := "isWhiteSpace", desc := "(C)Z" } : Jvm.MethodName) prog_17_method_2_code (1 : Nat) (Option.some Jvm.ClassFile.FieldType.boolean)).before args0 about1 = true := code_word (m := ⟨9, 1⟩) (meth := k9m1) (c := k9c1) (by decide +kernel) rfl rfl rfl (by decide +kernel)
set_option maxRecDepth 65536 in
theorem w_c24 : (Jvm.Cond.code ({ cls := "java/util/Arrays", name := "copyOfRange", desc := "([BII)[B" } : Jvm.MethodName) jdk_65_method_132_code (3 : Nat) (Option.some (Jvm.ClassFile.FieldType.array Jvm.ClassFile.FieldType.byte))).before args0 about1 = true := code_word (m := ⟨13, 2⟩) (meth := k13m2) (c := k13c2) (by decide +kernel) rfl rfl rfl (by decide +kernel)
set_option maxRecDepth 65536 in
theorem w_c25 : (Jvm.Cond.code ({ cls := "java/util/Arrays", name := "copyOfRangeByte", desc := "([BII)[B" } : Jvm.MethodName) jdk_65_method_133_code (5 : Nat) (Option.some (Jvm.ClassFile.FieldType.array Jvm.ClassFile.FieldType.byte))).before args0 about1 = true := code_word (m := ⟨13, 3⟩) (meth := k13m3) (c := k13c3) (by decide +kernel) rfl rfl rfl (by decide +kernel)
set_option maxRecDepth 65536 in
theorem w_c26 : (Jvm.Cond.code ({ cls := "java/util/Arrays", name := "checkLength", desc := "(II)V" } : Jvm.MethodName) jdk_65_method_131_code (2 : Nat) (Option.none : Option Jvm.ClassFile.FieldType)).before args0 about1 = true := code_word (m := ⟨13, 1⟩) (meth := k13m1) (c := k13c1) (by decide +kernel) rfl rfl rfl (by decide +kernel)
set_option maxRecDepth 65536 in
theorem w_c27 : (Jvm.Cond.code ({ cls := "java/lang/String", name := "<init>", desc := "([BB)V" } : Jvm.MethodName) jdk_42_method_151_code (3 : Nat) (Option.none : Option Jvm.ClassFile.FieldType)).before args0 about1 = true := code_word (m := ⟨7, 7⟩) (meth := k7m7) (c := k7c7) (by decide +kernel) rfl rfl rfl (by decide +kernel)
set_option maxRecDepth 65536 in
theorem w_c28 : (Jvm.Cond.code ({ cls := "com/example/honbun/honbun/WhiteSpaceTrimPinLaw", name := "ws", desc := "(C)Z" } : Jvm.MethodName) method_4_code (1 : Nat) (Option.some Jvm.ClassFile.FieldType.boolean)).before args0 about1 = true := code_word (m := ⟨1, 3⟩) (meth := k1m3) (c := k1c3) (by decide +kernel) rfl rfl rfl (by decide +kernel)
set_option maxRecDepth 65536 in
theorem w_c29 : (Jvm.Cond.code ({ cls := "java/lang/Math", name := "max", desc := "(II)I" } : Jvm.MethodName) jdk_29_method_65_code (2 : Nat) (Option.some Jvm.ClassFile.FieldType.int)).before args0 about1 = true := code_word (m := ⟨12, 1⟩) (meth := k12m1) (c := k12c1) (by decide +kernel) rfl rfl rfl (by decide +kernel)
set_option maxRecDepth 65536 in
theorem w_c30 : (Jvm.Cond.code ({ cls := "com/example/honbun/honbun/WhiteSpaceTrimPinLaw", name := "at", desc := "(Ljava/lang/String;I[CI)Z" } : Jvm.MethodName) method_6_code (4 : Nat) (Option.some Jvm.ClassFile.FieldType.boolean)).before args0 about1 = true := code_word (m := ⟨1, 5⟩) (meth := k1m5) (c := k1c5) (by decide +kernel) rfl rfl rfl (by decide +kernel)
set_option maxRecDepth 65536 in
theorem w_c31 : (Jvm.Cond.code ({ cls := "java/lang/StringUTF16", name := "toBytes", desc := "([CII)[B" } : Jvm.MethodName) jdk_52_method_14_code (5 : Nat) (Option.some (Jvm.ClassFile.FieldType.array Jvm.ClassFile.FieldType.byte))).before args0 about1 = true := code_word (m := ⟨8, 6⟩) (meth := k8m6) (c := k8c6) (by decide +kernel) rfl rfl rfl (by decide +kernel)
set_option maxRecDepth 65536 in
theorem w_c32 : (Jvm.Cond.code ({ cls := "java/lang/StringUTF16", name := "newBytesFor", desc := "(I)[B" } : Jvm.MethodName) jdk_52_method_2_code (1 : Nat) (Option.some (Jvm.ClassFile.FieldType.array Jvm.ClassFile.FieldType.byte))).before args0 about1 = true := code_word (m := ⟨8, 1⟩) (meth := k8m1) (c := k8c1) (by decide +kernel) rfl rfl rfl (by decide +kernel)
set_option maxRecDepth 65536 in
theorem w_c33 : (Jvm.Cond.code ({ cls := "java/lang/StringUTF16", name := "newBytesLength", desc := "(I)I" } : Jvm.MethodName) jdk_52_method_3_code (1 : Nat) (Option.some Jvm.ClassFile.FieldType.int)).before args0 about1 = true := code_word (m := ⟨8, 2⟩) (meth := k8m2) (c := k8c2) (by decide +kernel) rfl rfl rfl (by decide +kernel)
set_option maxRecDepth 65536 in
theorem w_c34 : (Jvm.Cond.code ({ cls := "java/lang/StringUTF16", name := "putChar", desc := "([BII)V" } : Jvm.MethodName) jdk_52_method_4_code (3 : Nat) (Option.none : Option Jvm.ClassFile.FieldType)).before args0 about1 = true := code_word (m := ⟨8, 3⟩) (meth := k8m3) (c := k8c3) (by decide +kernel) rfl rfl rfl (by decide +kernel)
set_option maxRecDepth 65536 in
theorem w_c35 : (Jvm.Cond.code ({ cls := "java/lang/StringUTF16", name := "getChar", desc := "([BI)C" } : Jvm.MethodName) jdk_52_method_5_code (2 : Nat) (Option.some Jvm.ClassFile.FieldType.char)).before args0 about1 = true := code_word (m := ⟨8, 4⟩) (meth := k8m4) (c := k8c4) (by decide +kernel) rfl rfl rfl (by decide +kernel)
set_option maxRecDepth 65536 in
theorem w_c36 : (Jvm.Cond.code ({ cls := "java/lang/StringUTF16", name := "charAt", desc := "([BI)C" } : Jvm.MethodName) jdk_52_method_83_code (2 : Nat) (Option.some Jvm.ClassFile.FieldType.char)).before args0 about1 = true := code_word (m := ⟨8, 13⟩) (meth := k8m13) (c := k8c13) (by decide +kernel) rfl rfl rfl (by decide +kernel)
set_option maxRecDepth 65536 in
theorem w_c37 : (Jvm.Cond.code ({ cls := "java/lang/StringUTF16", name := "checkIndex", desc := "(I[B)V" } : Jvm.MethodName) jdk_52_method_91_code (2 : Nat) (Option.none : Option Jvm.ClassFile.FieldType)).before args0 about1 = true := code_word (m := ⟨8, 14⟩) (meth := k8m14) (c := k8c14) (by decide +kernel) rfl rfl rfl (by decide +kernel)
set_option maxRecDepth 65536 in
theorem w_c38 : (Jvm.Cond.code ({ cls := "java/lang/StringUTF16", name := "length", desc := "([B)I" } : Jvm.MethodName) jdk_52_method_6_code (1 : Nat) (Option.some Jvm.ClassFile.FieldType.int)).before args0 about1 = true := code_word (m := ⟨8, 5⟩) (meth := k8m5) (c := k8c5) (by decide +kernel) rfl rfl rfl (by decide +kernel)
set_option maxRecDepth 65536 in
theorem w_c39 : (Jvm.Cond.code ({ cls := "java/lang/StringUTF16", name := "newString", desc := "([BII)Ljava/lang/String;" } : Jvm.MethodName) jdk_52_method_69_code (5 : Nat) (Option.some (Jvm.ClassFile.FieldType.object "java/lang/String"))).before args0 about1 = true := code_word (m := ⟨8, 12⟩) (meth := k8m12) (c := k8c12) (by decide +kernel) rfl rfl rfl (by decide +kernel)
set_option maxRecDepth 65536 in
theorem w_c40 : (Jvm.Cond.code ({ cls := "java/lang/StringUTF16", name := "compress", desc := "([BII)[B" } : Jvm.MethodName) jdk_52_method_17_code (6 : Nat) (Option.some (Jvm.ClassFile.FieldType.array Jvm.ClassFile.FieldType.byte))).before args0 about1 = true := code_word (m := ⟨8, 9⟩) (meth := k8m9) (c := k8c9) (by decide +kernel) rfl rfl rfl (by decide +kernel)
set_option maxRecDepth 65536 in
theorem w_c41 : (Jvm.Cond.code ({ cls := "java/lang/StringUTF16", name := "compress", desc := "([BI[BII)I" } : Jvm.MethodName) jdk_52_method_22_code (7 : Nat) (Option.some Jvm.ClassFile.FieldType.int)).before args0 about1 = true := code_word (m := ⟨8, 11⟩) (meth := k8m11) (c := k8c11) (by decide +kernel) rfl rfl rfl (by decide +kernel)
set_option maxRecDepth 65536 in
theorem w_c42 : (Jvm.Cond.code ({ cls := "java/lang/StringUTF16", name := "checkBoundsOffCount", desc := "(II[B)V" } : Jvm.MethodName) jdk_52_method_94_code (3 : Nat) (Option.none : Option Jvm.ClassFile.FieldType)).before args0 about1 = true := code_word (m := ⟨8, 15⟩) (meth := k8m15) (c := k8c15) (by decide +kernel) rfl rfl rfl (by decide +kernel)
set_option maxRecDepth 65536 in
theorem w_c43 : (Jvm.Cond.code ({ cls := "java/lang/String", name := "checkBoundsOffCount", desc := "(III)I" } : Jvm.MethodName) jdk_42_method_157_code (3 : Nat) (Option.some Jvm.ClassFile.FieldType.int)).before args0 about1 = true := code_word (m := ⟨7, 11⟩) (meth := k7m11) (c := k7c11) (by decide +kernel) rfl rfl rfl (by decide +kernel)
set_option maxRecDepth 65536 in
theorem w_c44 : (Jvm.Cond.code ({ cls := "jdk/internal/util/Preconditions", name := "checkFromIndexSize", desc := "(IIILjava/util/function/BiFunction;)I" } : Jvm.MethodName) jdk_41_method_13_code (4 : Nat) (Option.some Jvm.ClassFile.FieldType.int)).before args0 about1 = true := code_word (m := ⟨10, 3⟩) (meth := k10m3) (c := k10c3) (by decide +kernel) rfl rfl rfl (by decide +kernel)
def codes1 : List Jvm.Cond := [Jvm.Cond.code x code maxLocals ret, Jvm.Cond.code ({ cls := "com/example/honbun/honbun/WhiteSpaceTrimPinLaw", name := "draw", desc := "(I)C" } : Jvm.MethodName) method_3_code (2 : Nat) (Option.some Jvm.ClassFile.FieldType.char), Jvm.Cond.code ({ cls := "java/lang/String", name := "<init>", desc := "([C)V" } : Jvm.MethodName) jdk_42_method_3_code (2 : Nat) (Option.none : Option Jvm.ClassFile.FieldType), Jvm.Cond.code ({ cls := "java/lang/String", name := "<init>", desc := "([CIILjava/lang/Void;)V" } : Jvm.MethodName) jdk_42_method_149_code (6 : Nat) (Option.none : Option Jvm.ClassFile.FieldType), Jvm.Cond.code ({ cls := "java/lang/Object", name := "<init>", desc := "()V" } : Jvm.MethodName) object_method_1_code (1 : Nat) (Option.none : Option Jvm.ClassFile.FieldType), Jvm.Cond.code ({ cls := "java/lang/StringUTF16", name := "compress", desc := "([CII)[B" } : Jvm.MethodName) jdk_52_method_16_code (6 : Nat) (Option.some (Jvm.ClassFile.FieldType.array Jvm.ClassFile.FieldType.byte)), Jvm.Cond.code ({ cls := "java/lang/StringUTF16", name := "compress", desc := "([CI[BII)I" } : Jvm.MethodName) jdk_52_method_21_code (7 : Nat) (Option.some Jvm.ClassFile.FieldType.int), Jvm.Cond.code ({ cls := "java/lang/StringUTF16", name := "coderFromArrayLen", desc := "([BI)B" } : Jvm.MethodName) jdk_52_method_15_code (2 : Nat) (Option.some Jvm.ClassFile.FieldType.byte), Jvm.Cond.code ({ cls := "com/example/honbun/honbun/WhiteSpace", name := "trim", desc := "(Ljava/lang/String;II)Ljava/lang/String;" } : Jvm.MethodName) prog_17_method_5_code (5 : Nat) (Option.some (Jvm.ClassFile.FieldType.object "java/lang/String")), Jvm.Cond.code ({ cls := "java/lang/String", name := "substring", desc := "(II)Ljava/lang/String;" } : Jvm.MethodName) jdk_42_method_92_code (5 : Nat) (Option.some (Jvm.ClassFile.FieldType.object "java/lang/String")), Jvm.Cond.code ({ cls := "java/lang/String", name := "length", desc := "()I" } : Jvm.MethodName) jdk_42_method_54_code (1 : Nat) (Option.some Jvm.ClassFile.FieldType.int), Jvm.Cond.code ({ cls := "java/lang/String", name := "coder", desc := "()B" } : Jvm.MethodName) jdk_42_method_152_code (1 : Nat) (Option.some Jvm.ClassFile.FieldType.byte), Jvm.Cond.code ({ cls := "java/lang/String", name := "checkBoundsBeginEnd", desc := "(III)V" } : Jvm.MethodName) jdk_42_method_158_code (3 : Nat) (Option.none : Option Jvm.ClassFile.FieldType), Jvm.Cond.code ({ cls := "jdk/internal/util/Preconditions", name := "checkFromToIndex", desc := "(IIILjava/util/function/BiFunction;)I" } : Jvm.MethodName) jdk_41_method_12_code (4 : Nat) (Option.some Jvm.ClassFile.FieldType.int), Jvm.Cond.code ({ cls := "java/lang/String", name := "isLatin1", desc := "()Z" } : Jvm.MethodName) jdk_42_method_154_code (1 : Nat) (Option.some Jvm.ClassFile.FieldType.boolean), Jvm.Cond.code ({ cls := "java/lang/StringLatin1", name := "newString", desc := "([BII)Ljava/lang/String;" } : Jvm.MethodName) jdk_43_method_47_code (3 : Nat) (Option.some (Jvm.ClassFile.FieldType.object "java/lang/String")), Jvm.Cond.code ({ cls := "com/example/honbun/honbun/WhiteSpaceTrimPinLaw", name := "pos", desc := "([CIIII)I" } : Jvm.MethodName) method_5_code (5 : Nat) (Option.some Jvm.ClassFile.FieldType.int), Jvm.Cond.code ({ cls := "java/lang/Math", name := "min", desc := "(II)I" } : Jvm.MethodName) jdk_29_method_69_code (2 : Nat) (Option.some Jvm.ClassFile.FieldType.int), Jvm.Cond.code ({ cls := "java/lang/String", name := "isEmpty", desc := "()Z" } : Jvm.MethodName) jdk_42_method_55_code (1 : Nat) (Option.some Jvm.ClassFile.FieldType.boolean), Jvm.Cond.code ({ cls := "java/lang/String", name := "charAt", desc := "(I)C" } : Jvm.MethodName) jdk_42_method_56_code (2 : Nat) (Option.some Jvm.ClassFile.FieldType.char), Jvm.Cond.code ({ cls := "java/lang/StringLatin1", name := "charAt", desc := "([BI)C" } : Jvm.MethodName) jdk_43_method_2_code (2 : Nat) (Option.some Jvm.ClassFile.FieldType.char), Jvm.Cond.code ({ cls := "java/lang/String", name := "checkIndex", desc := "(II)V" } : Jvm.MethodName) jdk_42_method_155_code (2 : Nat) (Option.none : Option Jvm.ClassFile.FieldType), Jvm.Cond.code ({ cls := "jdk/internal/util/Preconditions", name := "checkIndex", desc := "(IILjava/util/function/BiFunction;)I" } : Jvm.MethodName) jdk_41_method_11_code (3 : Nat) (Option.some Jvm.ClassFile.FieldType.int), Jvm.Cond.code ({ cls := "com/example/honbun/honbun/WhiteSpace", name := "isWhiteSpace", desc := "(C)Z" } : Jvm.MethodName) prog_17_method_2_code (1 : Nat) (Option.some Jvm.ClassFile.FieldType.boolean), Jvm.Cond.code ({ cls := "java/util/Arrays", name := "copyOfRange", desc := "([BII)[B" } : Jvm.MethodName) jdk_65_method_132_code (3 : Nat) (Option.some (Jvm.ClassFile.FieldType.array Jvm.ClassFile.FieldType.byte)), Jvm.Cond.code ({ cls := "java/util/Arrays", name := "copyOfRangeByte", desc := "([BII)[B" } : Jvm.MethodName) jdk_65_method_133_code (5 : Nat) (Option.some (Jvm.ClassFile.FieldType.array Jvm.ClassFile.FieldType.byte)), Jvm.Cond.code ({ cls := "java/util/Arrays", name := "checkLength", desc := "(II)V" } : Jvm.MethodName) jdk_65_method_131_code (2 : Nat) (Option.none : Option Jvm.ClassFile.FieldType), Jvm.Cond.code ({ cls := "java/lang/String", name := "<init>", desc := "([BB)V" } : Jvm.MethodName) jdk_42_method_151_code (3 : Nat) (Option.none : Option Jvm.ClassFile.FieldType), Jvm.Cond.code ({ cls := "com/example/honbun/honbun/WhiteSpaceTrimPinLaw", name := "ws", desc := "(C)Z" } : Jvm.MethodName) method_4_code (1 : Nat) (Option.some Jvm.ClassFile.FieldType.boolean), Jvm.Cond.code ({ cls := "java/lang/Math", name := "max", desc := "(II)I" } : Jvm.MethodName) jdk_29_method_65_code (2 : Nat) (Option.some Jvm.ClassFile.FieldType.int), Jvm.Cond.code ({ cls := "com/example/honbun/honbun/WhiteSpaceTrimPinLaw", name := "at", desc := "(Ljava/lang/String;I[CI)Z" } : Jvm.MethodName) method_6_code (4 : Nat) (Option.some Jvm.ClassFile.FieldType.boolean), Jvm.Cond.code ({ cls := "java/lang/StringUTF16", name := "toBytes", desc := "([CII)[B" } : Jvm.MethodName) jdk_52_method_14_code (5 : Nat) (Option.some (Jvm.ClassFile.FieldType.array Jvm.ClassFile.FieldType.byte)), Jvm.Cond.code ({ cls := "java/lang/StringUTF16", name := "newBytesFor", desc := "(I)[B" } : Jvm.MethodName) jdk_52_method_2_code (1 : Nat) (Option.some (Jvm.ClassFile.FieldType.array Jvm.ClassFile.FieldType.byte)), Jvm.Cond.code ({ cls := "java/lang/StringUTF16", name := "newBytesLength", desc := "(I)I" } : Jvm.MethodName) jdk_52_method_3_code (1 : Nat) (Option.some Jvm.ClassFile.FieldType.int), Jvm.Cond.code ({ cls := "java/lang/StringUTF16", name := "putChar", desc := "([BII)V" } : Jvm.MethodName) jdk_52_method_4_code (3 : Nat) (Option.none : Option Jvm.ClassFile.FieldType), Jvm.Cond.code ({ cls := "java/lang/StringUTF16", name := "getChar", desc := "([BI)C" } : Jvm.MethodName) jdk_52_method_5_code (2 : Nat) (Option.some Jvm.ClassFile.FieldType.char), Jvm.Cond.code ({ cls := "java/lang/StringUTF16", name := "charAt", desc := "([BI)C" } : Jvm.MethodName) jdk_52_method_83_code (2 : Nat) (Option.some Jvm.ClassFile.FieldType.char), Jvm.Cond.code ({ cls := "java/lang/StringUTF16", name := "checkIndex", desc := "(I[B)V" } : Jvm.MethodName) jdk_52_method_91_code (2 : Nat) (Option.none : Option Jvm.ClassFile.FieldType), Jvm.Cond.code ({ cls := "java/lang/StringUTF16", name := "length", desc := "([B)I" } : Jvm.MethodName) jdk_52_method_6_code (1 : Nat) (Option.some Jvm.ClassFile.FieldType.int), Jvm.Cond.code ({ cls := "java/lang/StringUTF16", name := "newString", desc := "([BII)Ljava/lang/String;" } : Jvm.MethodName) jdk_52_method_69_code (5 : Nat) (Option.some (Jvm.ClassFile.FieldType.object "java/lang/String")), Jvm.Cond.code ({ cls := "java/lang/StringUTF16", name := "compress", desc := "([BII)[B" } : Jvm.MethodName) jdk_52_method_17_code (6 : Nat) (Option.some (Jvm.ClassFile.FieldType.array Jvm.ClassFile.FieldType.byte)), Jvm.Cond.code ({ cls := "java/lang/StringUTF16", name := "compress", desc := "([BI[BII)I" } : Jvm.MethodName) jdk_52_method_22_code (7 : Nat) (Option.some Jvm.ClassFile.FieldType.int), Jvm.Cond.code ({ cls := "java/lang/StringUTF16", name := "checkBoundsOffCount", desc := "(II[B)V" } : Jvm.MethodName) jdk_52_method_94_code (3 : Nat) (Option.none : Option Jvm.ClassFile.FieldType), Jvm.Cond.code ({ cls := "java/lang/String", name := "checkBoundsOffCount", desc := "(III)I" } : Jvm.MethodName) jdk_42_method_157_code (3 : Nat) (Option.some Jvm.ClassFile.FieldType.int), Jvm.Cond.code ({ cls := "jdk/internal/util/Preconditions", name := "checkFromIndexSize", desc := "(IIILjava/util/function/BiFunction;)I" } : Jvm.MethodName) jdk_41_method_13_code (4 : Nat) (Option.some Jvm.ClassFile.FieldType.int)]
set_option maxRecDepth 65536 in
theorem codes_eq : words1.filter isCode = codes1 := rfl
theorem w_codes : ∀ c ∈ words1.filter isCode, c.before args0 about1 = true := by
  rw [codes_eq]
  intro c hc
  simp only [codes1, List.mem_cons, List.not_mem_nil, or_false] at hc
  rcases hc with rfl | rfl | rfl | rfl | rfl | rfl | rfl | rfl | rfl | rfl | rfl | rfl | rfl | rfl | rfl | rfl | rfl | rfl | rfl | rfl | rfl | rfl | rfl | rfl | rfl | rfl | rfl | rfl | rfl | rfl | rfl | rfl | rfl | rfl | rfl | rfl | rfl | rfl | rfl | rfl | rfl | rfl | rfl | rfl | rfl
  · exact w_c0
  · exact w_c1
  · exact w_c2
  · exact w_c3
  · exact w_c4
  · exact w_c5
  · exact w_c6
  · exact w_c7
  · exact w_c8
  · exact w_c9
  · exact w_c10
  · exact w_c11
  · exact w_c12
  · exact w_c13
  · exact w_c14
  · exact w_c15
  · exact w_c16
  · exact w_c17
  · exact w_c18
  · exact w_c19
  · exact w_c20
  · exact w_c21
  · exact w_c22
  · exact w_c23
  · exact w_c24
  · exact w_c25
  · exact w_c26
  · exact w_c27
  · exact w_c28
  · exact w_c29
  · exact w_c30
  · exact w_c31
  · exact w_c32
  · exact w_c33
  · exact w_c34
  · exact w_c35
  · exact w_c36
  · exact w_c37
  · exact w_c38
  · exact w_c39
  · exact w_c40
  · exact w_c41
  · exact w_c42
  · exact w_c43
  · exact w_c44
set_option maxRecDepth 65536 in
theorem w_t1 : (words1.take 24).all (fun c => isCode c || c.before args0 about1) = true := by decide +kernel
set_option maxRecDepth 65536 in
theorem w_t2 : ((words1.drop 24).take 24).all (fun c => isCode c || c.before args0 about1) = true := by decide +kernel
set_option maxRecDepth 65536 in
theorem w_t3 : (((words1.drop 24).drop 24).take 24).all (fun c => isCode c || c.before args0 about1) = true := by decide +kernel
set_option maxRecDepth 65536 in
theorem w_t4 : ((((words1.drop 24).drop 24).drop 24).take 24).all (fun c => isCode c || c.before args0 about1) = true := by decide +kernel
set_option maxRecDepth 65536 in
theorem w_t5 : (((((words1.drop 24).drop 24).drop 24).drop 24).take 24).all (fun c => isCode c || c.before args0 about1) = true := by decide +kernel
set_option maxRecDepth 65536 in
theorem w_t6 : ((((((words1.drop 24).drop 24).drop 24).drop 24).drop 24).take 24).all (fun c => isCode c || c.before args0 about1) = true := by decide +kernel
set_option maxRecDepth 65536 in
theorem w_t7 : (((((((words1.drop 24).drop 24).drop 24).drop 24).drop 24).drop 24).take 24).all (fun c => isCode c || c.before args0 about1) = true := by decide +kernel
set_option maxRecDepth 65536 in
theorem w_t8 : (((((((words1.drop 24).drop 24).drop 24).drop 24).drop 24).drop 24).drop 24).all (fun c => isCode c || c.before args0 about1) = true := by decide +kernel
theorem w_tables : (allAtoms (Jvm.Cond.code x code maxLocals ret :: tables_1)).before args0 about1 = true := by
  rw [allAtoms_all]
  show words1.all (fun c => c.before args0 about1) = true
  refine all_split ?_ w_codes
  rw [← List.take_append_drop 24 words1, List.all_append, w_t1, ← List.take_append_drop 24 (words1.drop 24), List.all_append, w_t2, ← List.take_append_drop 24 ((words1.drop 24).drop 24), List.all_append, w_t3, ← List.take_append_drop 24 (((words1.drop 24).drop 24).drop 24), List.all_append, w_t4, ← List.take_append_drop 24 ((((words1.drop 24).drop 24).drop 24).drop 24), List.all_append, w_t5, ← List.take_append_drop 24 (((((words1.drop 24).drop 24).drop 24).drop 24).drop 24), List.all_append, w_t6, ← List.take_append_drop 24 ((((((words1.drop 24).drop 24).drop 24).drop 24).drop 24).drop 24), List.all_append, w_t7, w_t8]
  rfl
set_option maxRecDepth 65536 in
theorem w_rest : rest_1_c.before args0 about1 = true := by decide +kernel
set_option maxRecDepth 65536 in
theorem w_case : (Jvm.Cond.and given_1 narrow_1).before args0 about1 = true := by decide +kernel
set_option maxRecDepth 65536 in
theorem w_consts : constsHeld consts_1 about1 := Jvm.Lit.constsHeldB_iff.mp (by decide +kernel)
theorem w_applies : (headSpec (Jvm.Cond.code x code maxLocals ret :: tables_1) room_1).applies x e0.platform about1 = true :=
  (Spec.applies_iff w_frames).mpr ⟨w_running, w_runnable, w_alone, w_named, w_hears, w_ripe, w_room, w_tables⟩
theorem atStart : AtStart classFile x code maxLocals ret World_1 tables_1 room_1 Calls_1 rest_1 Pre_1 launch0 p0 e0 about1 theMethod args0 below0 :=
  ⟨lists_1, trivial, launch0.admits_env _ _ _, launch0.least_env, fairChoices_fair.cas, fairChoices_fair.clock, w_frames, w_args, w_heap, w_applies, ⟨w_consts, trivial⟩, w_rest, w_case⟩
end start1
theorem witness_1 : WitnessClaimed_1 := ⟨start1.p0, start1.e0, start1.about1, start1.theMethod, start1.args0, start1.below0, start1.atStart⟩
end Jvm.Pilot.@@N@@
