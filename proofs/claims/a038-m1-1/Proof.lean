import JvmDerived
import JvmDerived.Pilot.@@N@@Statement
import JvmDerived.Pilot.@@N@@Code
set_option linter.unusedVariables false
set_option linter.unusedSimpArgs false
namespace Jvm.Pilot.@@N@@
open Jvm Jvm.ClassFile Sem Op Lib Jvm.Free Jvm.Stand Jvm.LawKit Jvm.RoadKit Bundle Jvm.Pilot.@@N@@.Jvm.D
section Own
variable {p : Program} {l : Launch} {e : Env} {R : Room} {s : State} {m : MethodId} {args : Array Value} {below : List Frame} {meth : Method} {c : Code} {T : State} {locs : List Loc} {cells slots : Nat}
/-- from S0 the run ends as Q says, within the frame of k cells and n slots -/
def own_Go (p : Program) (e : Env) (below : List Frame) (s : State) (Q : Option Value → Heap → List Loc → Prop) (k n : Nat) (S0 : State) : Prop :=
  ∃ U o, Steps p.tables e below S0 U ∧ U.status = .running ∧ Ended U below o ∧ ∃ v L, o = .returned v ∧ Q v U.heap L ∧ FrameEnd s o U L k n
variable {Q : Option Value → Heap → List Loc → Prop} {K N : Nat} {S0 S1 : State}
theorem own_step (h : ∀ t, Steps p.tables e below S1 t → Steps p.tables e below S0 t) (G : own_Go p e below s Q K N S1) : own_Go p e below s Q K N S0 := by
  obtain ⟨U, o, h1, r⟩ := G
  exact ⟨U, o, h _ h1, r⟩
theorem own_start {g g' : JFrame} (q : g = g') (G : own_Go p e below s Q K N (T.setTop g')) : own_Go p e below s Q K N (T.setTop g) := q ▸ G
theorem own_end (X : Stand p l e R s m args below meth c T locs cells slots) {v : Option Value} (hv : meth.sig.returnType = none → v = none) (hlk : meth.locks = false) (hq : Q v T.heap locs) (hk : cells ≤ K) (hn : slots ≤ N)
    (go : ∀ fs, (∀ (f : JFrame) (acts : List Action), f.method = m → f.locked = none → f.entered = [] → (doReturn e (T.setTop f) acts v).1 = T.setFrames fs) → Steps p.tables e below S0 (T.setFrames fs)) : own_Go p e below s Q K N S0 := by
  obtain ⟨fs, hr, hrun, hended, hW, hsame⟩ := X.leave (v := v) hv hlk
  exact ⟨_, _, go fs hr, hrun, hended, _, _, rfl, hq, ⟨_, rfl⟩, hW, hsame.mono hk hn⟩
theorem own_retN (X : Stand p l e R s m args below meth c T locs cells slots) (hx : p.tables.exec = Jvm.exec) (hlk : meth.locks = false) {pc : Nat} {Ls : Array Slot} {z : Int32} {t : FieldType} {rest : List Value} (hret : meth.sig.returnType = some t) (ht : t = .boolean ∨ t = .byte ∨ t = .char ∨ t = .short)
    (hd : decode c.code pc = .ok (.ireturn, 1)) (hq : Q (some (.int (nar t z))) T.heap locs) (hk : cells ≤ K) (hn : slots ≤ N) : own_Go p e below s Q K N (T.setTop (mkF m pc Ls (.int z :: rest))) :=
  own_end X (fun h => by rw [hret] at h; cases h) hlk hq hk hn fun fs hr => retN X hx hret ht hd hr
theorem own_retI (X : Stand p l e R s m args below meth c T locs cells slots) (hx : p.tables.exec = Jvm.exec) (hlk : meth.locks = false) {pc : Nat} {Ls : Array Slot} {z : Int32} {rest : List Value} (hret : meth.sig.returnType = some .int)
    (hd : decode c.code pc = .ok (.ireturn, 1)) (hq : Q (some (.int z)) T.heap locs) (hk : cells ≤ K) (hn : slots ≤ N) : own_Go p e below s Q K N (T.setTop (mkF m pc Ls (.int z :: rest))) :=
  own_end X (fun h => by rw [hret] at h; cases h) hlk hq hk hn fun fs hr => retOut X hx hret rfl (Or.inl ⟨rfl, Or.inl rfl, _, rfl⟩) hd hr
theorem own_retJ (X : Stand p l e R s m args below meth c T locs cells slots) (hx : p.tables.exec = Jvm.exec) (hlk : meth.locks = false) {pc : Nat} {Ls : Array Slot} {z : Int64} {rest : List Value} (hret : meth.sig.returnType = some .long)
    (hd : decode c.code pc = .ok (.lreturn, 1)) (hq : Q (some (.long z)) T.heap locs) (hk : cells ≤ K) (hn : slots ≤ N) : own_Go p e below s Q K N (T.setTop (mkF m pc Ls (.long z :: rest))) :=
  own_end X (fun h => by rw [hret] at h; cases h) hlk hq hk hn fun fs hr => retOut X hx hret rfl (Or.inr (Or.inl ⟨rfl, rfl, _, rfl⟩)) hd hr
theorem own_retA (X : Stand p l e R s m args below meth c T locs cells slots) (hx : p.tables.exec = Jvm.exec) (hlk : meth.locks = false) {pc : Nat} {Ls : Array Slot} {w : Value} {t : FieldType} {rest : List Value} (hret : meth.sig.returnType = some t) (ht : t.isReference = true) (hw : w.isRef = true)
    (hd : decode c.code pc = .ok (.areturn, 1)) (hq : Q (some w) T.heap locs) (hk : cells ≤ K) (hn : slots ≤ N) : own_Go p e below s Q K N (T.setTop (mkF m pc Ls (w :: rest))) :=
  own_end X (fun h => by rw [hret] at h; cases h) hlk hq hk hn fun fs hr => retOut X hx hret (by cases t <;> first | (cases ht; done) | (cases w <;> rfl)) (Or.inr (Or.inr (Or.inr (Or.inr ⟨rfl, ht, hw⟩)))) hd hr
theorem own_retV (X : Stand p l e R s m args below meth c T locs cells slots) (hx : p.tables.exec = Jvm.exec) (hlk : meth.locks = false) {pc : Nat} {Ls : Array Slot} (hret : meth.sig.returnType = none)
    (hd : decode c.code pc = .ok (.return_, 1)) (hq : Q none T.heap locs) (hk : cells ≤ K) (hn : slots ≤ N) : own_Go p e below s Q K N (T.setTop (mkF m pc Ls [])) :=
  own_end X (fun _ => rfl) hlk hq hk hn fun fs hr => X.returnOut hx hret hd hr
theorem own_Sta_keep {Z : State} {h h' : Heap} {ws : List Addr} {C n d : String} {w : Value} (Kp : Keep h h' ws) (F : Sta Z h C n d w) (q : ∀ a ∈ ws, ∀ cell : Cell, h[a]? = some cell → cell.vm.isStatics = false) : Sta Z h' C n d w := by
  obtain ⟨cf, i, k, f, st, cell, h1, h2, h3, h4, h5, h6, h7⟩ := F
  exact ⟨cf, i, k, f, st, cell, h1, h2, h3, h4, Kp.2.1 _ _ h5 (fun hm => by rw [q _ hm _ h5] at h6; cases h6), h6, h7⟩
theorem g_iload_n (X : Stand p l e R s m args below meth c T locs cells slots) (hx : p.tables.exec = Jvm.exec) {pc : Nat} (pc' : Nat) {Ls : Array Slot} {k : Fin 4} {v : Int32} {st : List Value} (hd : decode c.code pc = .ok (.iload_n k, 1)) (hl : Ls[k.val]? = some (.val (.int v))) (hp : pc + 1 = pc') (G : own_Go p e below s Q K N (T.setTop (mkF m pc' Ls (.int v :: st)))) : own_Go p e below s Q K N (T.setTop (mkF m pc Ls (st))) := by
  subst hp; exact own_step (fun _ k => XS.iloadN X.here hx rfl hd hl k) G
theorem g_iload (X : Stand p l e R s m args below meth c T locs cells slots) (hx : p.tables.exec = Jvm.exec) {pc : Nat} (pc' : Nat) {Ls : Array Slot} {k : Nat} {v : Int32} {st : List Value} (hd : decode c.code pc = .ok (.iload k, 2)) (hl : Ls[k]? = some (.val (.int v))) (hp : pc + 2 = pc') (G : own_Go p e below s Q K N (T.setTop (mkF m pc' Ls (.int v :: st)))) : own_Go p e below s Q K N (T.setTop (mkF m pc Ls (st))) := by
  subst hp; exact own_step (fun _ k => XS.iload X.here hx rfl hd hl k) G
theorem g_istore_n (X : Stand p l e R s m args below meth c T locs cells slots) (hx : p.tables.exec = Jvm.exec) {pc : Nat} (pc' : Nat) {Ls : Array Slot} {k : Fin 4} {v : Int32} {st : List Value} {l' : Array Slot} (hd : decode c.code pc = .ok (.istore_n k, 1)) (hl : storeLocals Ls k.val (.int v) = some l') (hp : pc + 1 = pc') (G : own_Go p e below s Q K N (T.setTop (mkF m pc' l' (st)))) : own_Go p e below s Q K N (T.setTop (mkF m pc Ls (.int v :: st))) := by
  subst hp; exact own_step (fun _ k => XS.istoreN X.here hx rfl hd rfl hl k) G
theorem g_istore (X : Stand p l e R s m args below meth c T locs cells slots) (hx : p.tables.exec = Jvm.exec) {pc : Nat} (pc' : Nat) {Ls : Array Slot} {k : Nat} {v : Int32} {st : List Value} {l' : Array Slot} (hd : decode c.code pc = .ok (.istore k, 2)) (hl : storeLocals Ls k (.int v) = some l') (hp : pc + 2 = pc') (G : own_Go p e below s Q K N (T.setTop (mkF m pc' l' (st)))) : own_Go p e below s Q K N (T.setTop (mkF m pc Ls (.int v :: st))) := by
  subst hp; exact own_step (fun _ k => XS.istore X.here hx rfl hd rfl hl k) G
theorem g_lload_n (X : Stand p l e R s m args below meth c T locs cells slots) (hx : p.tables.exec = Jvm.exec) {pc : Nat} (pc' : Nat) {Ls : Array Slot} {k : Fin 4} {v : Int64} {st : List Value} (hd : decode c.code pc = .ok (.lload_n k, 1)) (hl : Ls[k.val]? = some (.val (.long v))) (hp : pc + 1 = pc') (G : own_Go p e below s Q K N (T.setTop (mkF m pc' Ls (.long v :: st)))) : own_Go p e below s Q K N (T.setTop (mkF m pc Ls (st))) := by
  subst hp; exact own_step (fun _ k => XS.lloadN X.here hx rfl hd hl k) G
theorem g_lload (X : Stand p l e R s m args below meth c T locs cells slots) (hx : p.tables.exec = Jvm.exec) {pc : Nat} (pc' : Nat) {Ls : Array Slot} {k : Nat} {v : Int64} {st : List Value} (hd : decode c.code pc = .ok (.lload k, 2)) (hl : Ls[k]? = some (.val (.long v))) (hp : pc + 2 = pc') (G : own_Go p e below s Q K N (T.setTop (mkF m pc' Ls (.long v :: st)))) : own_Go p e below s Q K N (T.setTop (mkF m pc Ls (st))) := by
  subst hp; exact own_step (fun _ k => XS.lload X.here hx rfl hd hl k) G
theorem g_lstore_n (X : Stand p l e R s m args below meth c T locs cells slots) (hx : p.tables.exec = Jvm.exec) {pc : Nat} (pc' : Nat) {Ls : Array Slot} {k : Fin 4} {v : Int64} {st : List Value} {l' : Array Slot} (hd : decode c.code pc = .ok (.lstore_n k, 1)) (hl : storeLocals Ls k.val (.long v) = some l') (hp : pc + 1 = pc') (G : own_Go p e below s Q K N (T.setTop (mkF m pc' l' (st)))) : own_Go p e below s Q K N (T.setTop (mkF m pc Ls (.long v :: st))) := by
  subst hp; exact own_step (fun _ k => XS.lstoreN X.here hx rfl hd rfl hl k) G
theorem g_lstore (X : Stand p l e R s m args below meth c T locs cells slots) (hx : p.tables.exec = Jvm.exec) {pc : Nat} (pc' : Nat) {Ls : Array Slot} {k : Nat} {v : Int64} {st : List Value} {l' : Array Slot} (hd : decode c.code pc = .ok (.lstore k, 2)) (hl : storeLocals Ls k (.long v) = some l') (hp : pc + 2 = pc') (G : own_Go p e below s Q K N (T.setTop (mkF m pc' l' (st)))) : own_Go p e below s Q K N (T.setTop (mkF m pc Ls (.long v :: st))) := by
  subst hp; exact own_step (fun _ k => XS.lstore X.here hx rfl hd rfl hl k) G
theorem g_aload_n (X : Stand p l e R s m args below meth c T locs cells slots) (hx : p.tables.exec = Jvm.exec) {pc : Nat} (pc' : Nat) {Ls : Array Slot} {k : Fin 4} {v : Value} {st : List Value} (hd : decode c.code pc = .ok (.aload_n k, 1)) (hl : Ls[k.val]? = some (.val v)) (hv : v.isRef = true) (hp : pc + 1 = pc') (G : own_Go p e below s Q K N (T.setTop (mkF m pc' Ls (v :: st)))) : own_Go p e below s Q K N (T.setTop (mkF m pc Ls (st))) := by
  subst hp; exact own_step (fun _ k => XS.aloadN X.here hx rfl hd hl hv k) G
theorem g_aload (X : Stand p l e R s m args below meth c T locs cells slots) (hx : p.tables.exec = Jvm.exec) {pc : Nat} (pc' : Nat) {Ls : Array Slot} {k : Nat} {v : Value} {st : List Value} (hd : decode c.code pc = .ok (.aload k, 2)) (hl : Ls[k]? = some (.val v)) (hv : v.isRef = true) (hp : pc + 2 = pc') (G : own_Go p e below s Q K N (T.setTop (mkF m pc' Ls (v :: st)))) : own_Go p e below s Q K N (T.setTop (mkF m pc Ls (st))) := by
  subst hp; exact own_step (fun _ k => XS.aload X.here hx rfl hd hl hv k) G
theorem g_astore_n (X : Stand p l e R s m args below meth c T locs cells slots) (hx : p.tables.exec = Jvm.exec) {pc : Nat} (pc' : Nat) {Ls : Array Slot} {k : Fin 4} {v : Value} {st : List Value} {l' : Array Slot} (hd : decode c.code pc = .ok (.astore_n k, 1)) (hv : v.isRef = true) (hl : storeLocals Ls k.val v = some l') (hp : pc + 1 = pc') (G : own_Go p e below s Q K N (T.setTop (mkF m pc' l' (st)))) : own_Go p e below s Q K N (T.setTop (mkF m pc Ls (v :: st))) := by
  subst hp; exact own_step (fun _ k => XS.astoreN X.here hx rfl hd rfl hv hl k) G
theorem g_astore (X : Stand p l e R s m args below meth c T locs cells slots) (hx : p.tables.exec = Jvm.exec) {pc : Nat} (pc' : Nat) {Ls : Array Slot} {k : Nat} {v : Value} {st : List Value} {l' : Array Slot} (hd : decode c.code pc = .ok (.astore k, 2)) (hv : v.isRef = true) (hl : storeLocals Ls k v = some l') (hp : pc + 2 = pc') (G : own_Go p e below s Q K N (T.setTop (mkF m pc' l' (st)))) : own_Go p e below s Q K N (T.setTop (mkF m pc Ls (v :: st))) := by
  subst hp; exact own_step (fun _ k => XS.astore X.here hx rfl hd rfl hv hl k) G
theorem g_iconst (X : Stand p l e R s m args below meth c T locs cells slots) (hx : p.tables.exec = Jvm.exec) {pc : Nat} (pc' : Nat) {Ls : Array Slot} {i : Int} {st : List Value} (hd : decode c.code pc = .ok (.iconst i, 1)) (z : Int32) (hz : Int32.ofInt i = z) (hp : pc + 1 = pc') (G : own_Go p e below s Q K N (T.setTop (mkF m pc' Ls (.int z :: st)))) : own_Go p e below s Q K N (T.setTop (mkF m pc Ls st)) := by
  subst hp hz; exact own_step (fun _ k => XS.iconst X.here hx rfl hd k) G
theorem g_bipush (X : Stand p l e R s m args below meth c T locs cells slots) (hx : p.tables.exec = Jvm.exec) {pc : Nat} (pc' : Nat) {Ls : Array Slot} {i : Int} {st : List Value} (hd : decode c.code pc = .ok (.bipush i, 2)) (z : Int32) (hz : (Int8.ofInt i).toInt32 = z) (hp : pc + 2 = pc') (G : own_Go p e below s Q K N (T.setTop (mkF m pc' Ls (.int z :: st)))) : own_Go p e below s Q K N (T.setTop (mkF m pc Ls st)) := by
  subst hp hz; exact own_step (fun _ k => XS.bipush X.here hx rfl hd k) G
theorem g_sipush (X : Stand p l e R s m args below meth c T locs cells slots) (hx : p.tables.exec = Jvm.exec) {pc : Nat} (pc' : Nat) {Ls : Array Slot} {i : Int} {st : List Value} (hd : decode c.code pc = .ok (.sipush i, 3)) (z : Int32) (hz : (Int16.ofInt i).toInt32 = z) (hp : pc + 3 = pc') (G : own_Go p e below s Q K N (T.setTop (mkF m pc' Ls (.int z :: st)))) : own_Go p e below s Q K N (T.setTop (mkF m pc Ls st)) := by
  subst hp hz; exact own_step (fun _ k => XS.sipush X.here hx rfl hd k) G
theorem g_lconst (X : Stand p l e R s m args below meth c T locs cells slots) (hx : p.tables.exec = Jvm.exec) {pc : Nat} (pc' : Nat) {Ls : Array Slot} {i : Fin 2} {st : List Value} (hd : decode c.code pc = .ok (.lconst i, 1)) (z : Int64) (hz : Int64.ofNat i.val = z) (hp : pc + 1 = pc') (G : own_Go p e below s Q K N (T.setTop (mkF m pc' Ls (.long z :: st)))) : own_Go p e below s Q K N (T.setTop (mkF m pc Ls st)) := by
  subst hp hz; exact own_step (fun _ k => XS.lconst X.here hx rfl hd k) G
theorem g_aconst_null (X : Stand p l e R s m args below meth c T locs cells slots) (hx : p.tables.exec = Jvm.exec) {pc : Nat} (pc' : Nat) {Ls : Array Slot} {st : List Value} (hd : decode c.code pc = .ok (.aconst_null, 1))  (hp : pc + 1 = pc') (G : own_Go p e below s Q K N (T.setTop (mkF m pc' Ls (.null :: st)))) : own_Go p e below s Q K N (T.setTop (mkF m pc Ls (st))) := by
  subst hp; exact own_step (fun _ k => XS.aconstNull X.here hx rfl hd k) G
theorem g_iadd (X : Stand p l e R s m args below meth c T locs cells slots) (hx : p.tables.exec = Jvm.exec) {pc : Nat} (pc' : Nat) {Ls : Array Slot} {x y : Int32} {st : List Value} (hd : decode c.code pc = .ok (.iadd, 1))  (hp : pc + 1 = pc') (G : own_Go p e below s Q K N (T.setTop (mkF m pc' Ls (.int (x + y) :: st)))) : own_Go p e below s Q K N (T.setTop (mkF m pc Ls (.int y :: .int x :: st))) := by
  subst hp; exact own_step (fun _ k => XS.iadd X.here hx rfl hd rfl k) G
theorem g_ladd (X : Stand p l e R s m args below meth c T locs cells slots) (hx : p.tables.exec = Jvm.exec) {pc : Nat} (pc' : Nat) {Ls : Array Slot} {x y : Int64} {st : List Value} (hd : decode c.code pc = .ok (.ladd, 1))  (hp : pc + 1 = pc') (G : own_Go p e below s Q K N (T.setTop (mkF m pc' Ls (.long (x + y) :: st)))) : own_Go p e below s Q K N (T.setTop (mkF m pc Ls (.long y :: .long x :: st))) := by
  subst hp; exact own_step (fun _ k => XS.ladd X.here hx rfl hd rfl k) G
theorem g_isub (X : Stand p l e R s m args below meth c T locs cells slots) (hx : p.tables.exec = Jvm.exec) {pc : Nat} (pc' : Nat) {Ls : Array Slot} {x y : Int32} {st : List Value} (hd : decode c.code pc = .ok (.isub, 1))  (hp : pc + 1 = pc') (G : own_Go p e below s Q K N (T.setTop (mkF m pc' Ls (.int (x - y) :: st)))) : own_Go p e below s Q K N (T.setTop (mkF m pc Ls (.int y :: .int x :: st))) := by
  subst hp; exact own_step (fun _ k => XS.isub X.here hx rfl hd rfl k) G
theorem g_lsub (X : Stand p l e R s m args below meth c T locs cells slots) (hx : p.tables.exec = Jvm.exec) {pc : Nat} (pc' : Nat) {Ls : Array Slot} {x y : Int64} {st : List Value} (hd : decode c.code pc = .ok (.lsub, 1))  (hp : pc + 1 = pc') (G : own_Go p e below s Q K N (T.setTop (mkF m pc' Ls (.long (x - y) :: st)))) : own_Go p e below s Q K N (T.setTop (mkF m pc Ls (.long y :: .long x :: st))) := by
  subst hp; exact own_step (fun _ k => XS.lsub X.here hx rfl hd rfl k) G
theorem g_imul (X : Stand p l e R s m args below meth c T locs cells slots) (hx : p.tables.exec = Jvm.exec) {pc : Nat} (pc' : Nat) {Ls : Array Slot} {x y : Int32} {st : List Value} (hd : decode c.code pc = .ok (.imul, 1))  (hp : pc + 1 = pc') (G : own_Go p e below s Q K N (T.setTop (mkF m pc' Ls (.int (x * y) :: st)))) : own_Go p e below s Q K N (T.setTop (mkF m pc Ls (.int y :: .int x :: st))) := by
  subst hp; exact own_step (fun _ k => XS.imul X.here hx rfl hd rfl k) G
theorem g_lmul (X : Stand p l e R s m args below meth c T locs cells slots) (hx : p.tables.exec = Jvm.exec) {pc : Nat} (pc' : Nat) {Ls : Array Slot} {x y : Int64} {st : List Value} (hd : decode c.code pc = .ok (.lmul, 1))  (hp : pc + 1 = pc') (G : own_Go p e below s Q K N (T.setTop (mkF m pc' Ls (.long (x * y) :: st)))) : own_Go p e below s Q K N (T.setTop (mkF m pc Ls (.long y :: .long x :: st))) := by
  subst hp; exact own_step (fun _ k => XS.lmul X.here hx rfl hd rfl k) G
theorem g_iand (X : Stand p l e R s m args below meth c T locs cells slots) (hx : p.tables.exec = Jvm.exec) {pc : Nat} (pc' : Nat) {Ls : Array Slot} {x y : Int32} {st : List Value} (hd : decode c.code pc = .ok (.iand, 1))  (hp : pc + 1 = pc') (G : own_Go p e below s Q K N (T.setTop (mkF m pc' Ls (.int (x &&& y) :: st)))) : own_Go p e below s Q K N (T.setTop (mkF m pc Ls (.int y :: .int x :: st))) := by
  subst hp; exact own_step (fun _ k => XS.iand X.here hx rfl hd rfl k) G
theorem g_land (X : Stand p l e R s m args below meth c T locs cells slots) (hx : p.tables.exec = Jvm.exec) {pc : Nat} (pc' : Nat) {Ls : Array Slot} {x y : Int64} {st : List Value} (hd : decode c.code pc = .ok (.land, 1))  (hp : pc + 1 = pc') (G : own_Go p e below s Q K N (T.setTop (mkF m pc' Ls (.long (x &&& y) :: st)))) : own_Go p e below s Q K N (T.setTop (mkF m pc Ls (.long y :: .long x :: st))) := by
  subst hp; exact own_step (fun _ k => XS.land X.here hx rfl hd rfl k) G
theorem g_ior (X : Stand p l e R s m args below meth c T locs cells slots) (hx : p.tables.exec = Jvm.exec) {pc : Nat} (pc' : Nat) {Ls : Array Slot} {x y : Int32} {st : List Value} (hd : decode c.code pc = .ok (.ior, 1))  (hp : pc + 1 = pc') (G : own_Go p e below s Q K N (T.setTop (mkF m pc' Ls (.int (x ||| y) :: st)))) : own_Go p e below s Q K N (T.setTop (mkF m pc Ls (.int y :: .int x :: st))) := by
  subst hp; exact own_step (fun _ k => XS.ior X.here hx rfl hd rfl k) G
theorem g_lor (X : Stand p l e R s m args below meth c T locs cells slots) (hx : p.tables.exec = Jvm.exec) {pc : Nat} (pc' : Nat) {Ls : Array Slot} {x y : Int64} {st : List Value} (hd : decode c.code pc = .ok (.lor, 1))  (hp : pc + 1 = pc') (G : own_Go p e below s Q K N (T.setTop (mkF m pc' Ls (.long (x ||| y) :: st)))) : own_Go p e below s Q K N (T.setTop (mkF m pc Ls (.long y :: .long x :: st))) := by
  subst hp; exact own_step (fun _ k => XS.lor X.here hx rfl hd rfl k) G
theorem g_ixor (X : Stand p l e R s m args below meth c T locs cells slots) (hx : p.tables.exec = Jvm.exec) {pc : Nat} (pc' : Nat) {Ls : Array Slot} {x y : Int32} {st : List Value} (hd : decode c.code pc = .ok (.ixor, 1))  (hp : pc + 1 = pc') (G : own_Go p e below s Q K N (T.setTop (mkF m pc' Ls (.int (x ^^^ y) :: st)))) : own_Go p e below s Q K N (T.setTop (mkF m pc Ls (.int y :: .int x :: st))) := by
  subst hp; exact own_step (fun _ k => XS.ixor X.here hx rfl hd rfl k) G
theorem g_lxor (X : Stand p l e R s m args below meth c T locs cells slots) (hx : p.tables.exec = Jvm.exec) {pc : Nat} (pc' : Nat) {Ls : Array Slot} {x y : Int64} {st : List Value} (hd : decode c.code pc = .ok (.lxor, 1))  (hp : pc + 1 = pc') (G : own_Go p e below s Q K N (T.setTop (mkF m pc' Ls (.long (x ^^^ y) :: st)))) : own_Go p e below s Q K N (T.setTop (mkF m pc Ls (.long y :: .long x :: st))) := by
  subst hp; exact own_step (fun _ k => XS.lxor X.here hx rfl hd rfl k) G
theorem g_ineg (X : Stand p l e R s m args below meth c T locs cells slots) (hx : p.tables.exec = Jvm.exec) {pc : Nat} (pc' : Nat) {Ls : Array Slot} {x : Int32} {st : List Value} (hd : decode c.code pc = .ok (.ineg, 1))  (hp : pc + 1 = pc') (G : own_Go p e below s Q K N (T.setTop (mkF m pc' Ls (.int (-x) :: st)))) : own_Go p e below s Q K N (T.setTop (mkF m pc Ls (.int x :: st))) := by
  subst hp; exact own_step (fun _ k => XS.ineg X.here hx rfl hd rfl k) G
theorem g_lneg (X : Stand p l e R s m args below meth c T locs cells slots) (hx : p.tables.exec = Jvm.exec) {pc : Nat} (pc' : Nat) {Ls : Array Slot} {x : Int64} {st : List Value} (hd : decode c.code pc = .ok (.lneg, 1))  (hp : pc + 1 = pc') (G : own_Go p e below s Q K N (T.setTop (mkF m pc' Ls (.long (-x) :: st)))) : own_Go p e below s Q K N (T.setTop (mkF m pc Ls (.long x :: st))) := by
  subst hp; exact own_step (fun _ k => XS.lneg X.here hx rfl hd rfl k) G
theorem g_i2l (X : Stand p l e R s m args below meth c T locs cells slots) (hx : p.tables.exec = Jvm.exec) {pc : Nat} (pc' : Nat) {Ls : Array Slot} {x : Int32} {st : List Value} (hd : decode c.code pc = .ok (.i2l, 1))  (hp : pc + 1 = pc') (G : own_Go p e below s Q K N (T.setTop (mkF m pc' Ls (.long (x.toInt64) :: st)))) : own_Go p e below s Q K N (T.setTop (mkF m pc Ls (.int x :: st))) := by
  subst hp; exact own_step (fun _ k => XS.i2l X.here hx rfl hd rfl k) G
theorem g_l2i (X : Stand p l e R s m args below meth c T locs cells slots) (hx : p.tables.exec = Jvm.exec) {pc : Nat} (pc' : Nat) {Ls : Array Slot} {x : Int64} {st : List Value} (hd : decode c.code pc = .ok (.l2i, 1))  (hp : pc + 1 = pc') (G : own_Go p e below s Q K N (T.setTop (mkF m pc' Ls (.int (x.toInt32) :: st)))) : own_Go p e below s Q K N (T.setTop (mkF m pc Ls (.long x :: st))) := by
  subst hp; exact own_step (fun _ k => XS.l2i X.here hx rfl hd rfl k) G
theorem g_i2b (X : Stand p l e R s m args below meth c T locs cells slots) (hx : p.tables.exec = Jvm.exec) {pc : Nat} (pc' : Nat) {Ls : Array Slot} {x : Int32} {st : List Value} (hd : decode c.code pc = .ok (.i2b, 1))  (hp : pc + 1 = pc') (G : own_Go p e below s Q K N (T.setTop (mkF m pc' Ls (.int (x.toInt8.toInt32) :: st)))) : own_Go p e below s Q K N (T.setTop (mkF m pc Ls (.int x :: st))) := by
  subst hp; exact own_step (fun _ k => XS.i2b X.here hx rfl hd rfl k) G
theorem g_i2s (X : Stand p l e R s m args below meth c T locs cells slots) (hx : p.tables.exec = Jvm.exec) {pc : Nat} (pc' : Nat) {Ls : Array Slot} {x : Int32} {st : List Value} (hd : decode c.code pc = .ok (.i2s, 1))  (hp : pc + 1 = pc') (G : own_Go p e below s Q K N (T.setTop (mkF m pc' Ls (.int (x.toInt16.toInt32) :: st)))) : own_Go p e below s Q K N (T.setTop (mkF m pc Ls (.int x :: st))) := by
  subst hp; exact own_step (fun _ k => XS.i2s X.here hx rfl hd rfl k) G
theorem g_i2c (X : Stand p l e R s m args below meth c T locs cells slots) (hx : p.tables.exec = Jvm.exec) {pc : Nat} (pc' : Nat) {Ls : Array Slot} {x : Int32} {st : List Value} (hd : decode c.code pc = .ok (.i2c, 1))  (hp : pc + 1 = pc') (G : own_Go p e below s Q K N (T.setTop (mkF m pc' Ls (.int (x.toUInt32.toUInt16.toUInt32.toInt32) :: st)))) : own_Go p e below s Q K N (T.setTop (mkF m pc Ls (.int x :: st))) := by
  subst hp; exact own_step (fun _ k => XS.i2c X.here hx rfl hd rfl k) G
theorem g_ishl (X : Stand p l e R s m args below meth c T locs cells slots) (hx : p.tables.exec = Jvm.exec) {pc : Nat} (pc' : Nat) {Ls : Array Slot} {x : Int32} {y : Int32} {st : List Value} (hd : decode c.code pc = .ok (.ishl, 1))  (hp : pc + 1 = pc') (G : own_Go p e below s Q K N (T.setTop (mkF m pc' Ls (.int (x <<< (y &&& 31)) :: st)))) : own_Go p e below s Q K N (T.setTop (mkF m pc Ls (.int y :: .int x :: st))) := by
  subst hp; exact own_step (fun _ k => XS.ishl X.here hx rfl hd rfl k) G
theorem g_ishr (X : Stand p l e R s m args below meth c T locs cells slots) (hx : p.tables.exec = Jvm.exec) {pc : Nat} (pc' : Nat) {Ls : Array Slot} {x : Int32} {y : Int32} {st : List Value} (hd : decode c.code pc = .ok (.ishr, 1))  (hp : pc + 1 = pc') (G : own_Go p e below s Q K N (T.setTop (mkF m pc' Ls (.int (x >>> (y &&& 31)) :: st)))) : own_Go p e below s Q K N (T.setTop (mkF m pc Ls (.int y :: .int x :: st))) := by
  subst hp; exact own_step (fun _ k => XS.ishr X.here hx rfl hd rfl k) G
theorem g_iushr (X : Stand p l e R s m args below meth c T locs cells slots) (hx : p.tables.exec = Jvm.exec) {pc : Nat} (pc' : Nat) {Ls : Array Slot} {x : Int32} {y : Int32} {st : List Value} (hd : decode c.code pc = .ok (.iushr, 1))  (hp : pc + 1 = pc') (G : own_Go p e below s Q K N (T.setTop (mkF m pc' Ls (.int ((x.toUInt32 >>> (y &&& 31).toUInt32).toInt32) :: st)))) : own_Go p e below s Q K N (T.setTop (mkF m pc Ls (.int y :: .int x :: st))) := by
  subst hp; exact own_step (fun _ k => XS.iushr X.here hx rfl hd rfl k) G
theorem g_lshl (X : Stand p l e R s m args below meth c T locs cells slots) (hx : p.tables.exec = Jvm.exec) {pc : Nat} (pc' : Nat) {Ls : Array Slot} {x : Int64} {y : Int32} {st : List Value} (hd : decode c.code pc = .ok (.lshl, 1))  (hp : pc + 1 = pc') (G : own_Go p e below s Q K N (T.setTop (mkF m pc' Ls (.long (x <<< (y &&& 0x3f).toInt64) :: st)))) : own_Go p e below s Q K N (T.setTop (mkF m pc Ls (.int y :: .long x :: st))) := by
  subst hp; exact own_step (fun _ k => XS.lshl X.here hx rfl hd rfl k) G
theorem g_lshr (X : Stand p l e R s m args below meth c T locs cells slots) (hx : p.tables.exec = Jvm.exec) {pc : Nat} (pc' : Nat) {Ls : Array Slot} {x : Int64} {y : Int32} {st : List Value} (hd : decode c.code pc = .ok (.lshr, 1))  (hp : pc + 1 = pc') (G : own_Go p e below s Q K N (T.setTop (mkF m pc' Ls (.long (x >>> (y &&& 0x3f).toInt64) :: st)))) : own_Go p e below s Q K N (T.setTop (mkF m pc Ls (.int y :: .long x :: st))) := by
  subst hp; exact own_step (fun _ k => XS.lshr X.here hx rfl hd rfl k) G
theorem g_lushr (X : Stand p l e R s m args below meth c T locs cells slots) (hx : p.tables.exec = Jvm.exec) {pc : Nat} (pc' : Nat) {Ls : Array Slot} {x : Int64} {y : Int32} {st : List Value} (hd : decode c.code pc = .ok (.lushr, 1))  (hp : pc + 1 = pc') (G : own_Go p e below s Q K N (T.setTop (mkF m pc' Ls (.long ((x.toUInt64 >>> (y &&& 0x3f).toInt64.toUInt64).toInt64) :: st)))) : own_Go p e below s Q K N (T.setTop (mkF m pc Ls (.int y :: .long x :: st))) := by
  subst hp; exact own_step (fun _ k => XS.lushr X.here hx rfl hd rfl k) G
theorem g_lcmp (X : Stand p l e R s m args below meth c T locs cells slots) (hx : p.tables.exec = Jvm.exec) {pc : Nat} (pc' : Nat) {Ls : Array Slot} {x y : Int64} {st : List Value} (hd : decode c.code pc = .ok (.lcmp, 1))  (hp : pc + 1 = pc') (G : own_Go p e below s Q K N (T.setTop (mkF m pc' Ls (.int (lcmpW x y) :: st)))) : own_Go p e below s Q K N (T.setTop (mkF m pc Ls (.long y :: .long x :: st))) := by
  subst hp; exact own_step (fun _ k => XS.lcmp X.here hx rfl hd rfl k) G
theorem g_idiv (X : Stand p l e R s m args below meth c T locs cells slots) (hx : p.tables.exec = Jvm.exec) {pc : Nat} (pc' : Nat) {Ls : Array Slot} {x y : Int32} {st : List Value} (hd : decode c.code pc = .ok (.idiv, 1)) (hp : pc + 1 = pc') (hy : y ≠ 0) (G : own_Go p e below s Q K N (T.setTop (mkF m pc' Ls (.int (x / y) :: st)))) : own_Go p e below s Q K N (T.setTop (mkF m pc Ls (.int y :: .int x :: st))) := by
  subst hp; exact own_step (fun _ k => XS.idiv X.here hx rfl hd rfl hy k) G
theorem g_ldiv (X : Stand p l e R s m args below meth c T locs cells slots) (hx : p.tables.exec = Jvm.exec) {pc : Nat} (pc' : Nat) {Ls : Array Slot} {x y : Int64} {st : List Value} (hd : decode c.code pc = .ok (.ldiv, 1)) (hp : pc + 1 = pc') (hy : y ≠ 0) (G : own_Go p e below s Q K N (T.setTop (mkF m pc' Ls (.long (x / y) :: st)))) : own_Go p e below s Q K N (T.setTop (mkF m pc Ls (.long y :: .long x :: st))) := by
  subst hp; exact own_step (fun _ k => XS.ldiv X.here hx rfl hd rfl hy k) G
theorem g_irem (X : Stand p l e R s m args below meth c T locs cells slots) (hx : p.tables.exec = Jvm.exec) {pc : Nat} (pc' : Nat) {Ls : Array Slot} {x y : Int32} {st : List Value} (hd : decode c.code pc = .ok (.irem, 1)) (hp : pc + 1 = pc') (hy : y ≠ 0) (G : own_Go p e below s Q K N (T.setTop (mkF m pc' Ls (.int (x % y) :: st)))) : own_Go p e below s Q K N (T.setTop (mkF m pc Ls (.int y :: .int x :: st))) := by
  subst hp; exact own_step (fun _ k => iremM X hx rfl hd rfl hy k) G
theorem g_lrem (X : Stand p l e R s m args below meth c T locs cells slots) (hx : p.tables.exec = Jvm.exec) {pc : Nat} (pc' : Nat) {Ls : Array Slot} {x y : Int64} {st : List Value} (hd : decode c.code pc = .ok (.lrem, 1)) (hp : pc + 1 = pc') (hy : y ≠ 0) (G : own_Go p e below s Q K N (T.setTop (mkF m pc' Ls (.long (x % y) :: st)))) : own_Go p e below s Q K N (T.setTop (mkF m pc Ls (.long y :: .long x :: st))) := by
  subst hp; rw [← lrem_mod] at G; exact own_step (fun _ k => XS.lrem X.here hx rfl hd rfl hy k) G
theorem g_iinc (X : Stand p l e R s m args below meth c T locs cells slots) (hx : p.tables.exec = Jvm.exec) {pc : Nat} (pc' : Nat) {Ls : Array Slot} {k : Nat} {cst : Int} {x z : Int32} {l' : Array Slot} {st : List Value} (hd : decode c.code pc = .ok (.iinc k cst, 3)) (hl : Ls[k]? = some (.val (.int x))) (hz : x + Int32.ofInt cst = z) (hl' : storeLocals Ls k (.int z) = some l') (hp : pc + 3 = pc') (G : own_Go p e below s Q K N (T.setTop (mkF m pc' l' st))) : own_Go p e below s Q K N (T.setTop (mkF m pc Ls st)) := by
  subst hp hz; exact own_step (fun _ k => XS.iinc X.here hx rfl hd hl hl' k) G
theorem g_dup (X : Stand p l e R s m args below meth c T locs cells slots) (hx : p.tables.exec = Jvm.exec) {pc : Nat} (pc' : Nat) {Ls : Array Slot} {x : Value} {st : List Value} (hd : decode c.code pc = .ok (.dup, 1)) (hc : x.category = 1) (hp : pc + 1 = pc') (G : own_Go p e below s Q K N (T.setTop (mkF m pc' Ls (x :: x :: st)))) : own_Go p e below s Q K N (T.setTop (mkF m pc Ls (x :: st))) := by
  subst hp; exact own_step (fun _ k => XS.dup X.here hx rfl hd rfl hc k) G
theorem g_pop (X : Stand p l e R s m args below meth c T locs cells slots) (hx : p.tables.exec = Jvm.exec) {pc : Nat} (pc' : Nat) {Ls : Array Slot} {x : Value} {st : List Value} (hd : decode c.code pc = .ok (.pop, 1)) (hc : x.category = 1) (hp : pc + 1 = pc') (G : own_Go p e below s Q K N (T.setTop (mkF m pc' Ls (st)))) : own_Go p e below s Q K N (T.setTop (mkF m pc Ls (x :: st))) := by
  subst hp; exact own_step (fun _ k => XS.pop X.here hx rfl hd rfl hc k) G
theorem g_dup_x1 (X : Stand p l e R s m args below meth c T locs cells slots) (hx : p.tables.exec = Jvm.exec) {pc : Nat} (pc' : Nat) {Ls : Array Slot} {x y : Value} {st : List Value} (hd : decode c.code pc = .ok (.dup_x1, 1)) (hc : x.category = 1) (hc' : y.category = 1) (hp : pc + 1 = pc') (G : own_Go p e below s Q K N (T.setTop (mkF m pc' Ls (x :: y :: x :: st)))) : own_Go p e below s Q K N (T.setTop (mkF m pc Ls (x :: y :: st))) := by
  subst hp; exact own_step (fun _ k => XS.dupX1 X.here hx rfl hd rfl hc hc' k) G
theorem g_dup2 (X : Stand p l e R s m args below meth c T locs cells slots) (hx : p.tables.exec = Jvm.exec) {pc : Nat} (pc' : Nat) {Ls : Array Slot} {x y : Value} {st : List Value} (hd : decode c.code pc = .ok (.dup2, 1)) (hc : x.category = 1) (hc' : y.category = 1) (hp : pc + 1 = pc') (G : own_Go p e below s Q K N (T.setTop (mkF m pc' Ls (x :: y :: x :: y :: st)))) : own_Go p e below s Q K N (T.setTop (mkF m pc Ls (x :: y :: st))) := by
  subst hp; exact own_step (fun _ k => XT.dup2 X.here hx rfl hd rfl hc hc' k) G
theorem g_dup2L (X : Stand p l e R s m args below meth c T locs cells slots) (hx : p.tables.exec = Jvm.exec) {pc : Nat} (pc' : Nat) {Ls : Array Slot} {x : Int64} {st : List Value} (hd : decode c.code pc = .ok (.dup2, 1))  (hp : pc + 1 = pc') (G : own_Go p e below s Q K N (T.setTop (mkF m pc' Ls (.long x :: .long x :: st)))) : own_Go p e below s Q K N (T.setTop (mkF m pc Ls (.long x :: st))) := by
  subst hp; exact own_step (fun _ k => XT.dup2L X.here hx rfl hd rfl k) G
theorem g_goto (X : Stand p l e R s m args below meth c T locs cells slots) (hx : p.tables.exec = Jvm.exec) {pc : Nat} (pc' : Nat) {Ls : Array Slot} {o : Int} {st : List Value} (hd : decode c.code pc = .ok (.goto o, 3)) (ho : 0 ≤ (pc : Int) + o) (hp : ((pc : Int) + o).toNat = pc') (G : own_Go p e below s Q K N (T.setTop (mkF m pc' Ls st))) : own_Go p e below s Q K N (T.setTop (mkF m pc Ls st)) :=
  own_step (fun _ k => XS.goto X.here hx rfl rfl hd ho hp k) G
theorem g_ifYes (X : Stand p l e R s m args below meth c T locs cells slots) (hx : p.tables.exec = Jvm.exec) {pc : Nat} (pc' : Nat) {Ls : Array Slot} {cd : ClassFile.Cond} {x : Int32} {o : Int} {st : List Value} (hd : decode c.code pc = .ok (.ifCond cd o, 3)) (hc : ifCond.holds cd x = true) (ho : 0 ≤ (pc : Int) + o) (hp : ((pc : Int) + o).toNat = pc') (G : own_Go p e below s Q K N (T.setTop (mkF m pc' Ls st))) : own_Go p e below s Q K N (T.setTop (mkF m pc Ls (.int x :: st))) :=
  own_step (fun _ k => XS.ifYes X.here hx rfl rfl hd rfl hc ho hp k) G
theorem g_ifNo (X : Stand p l e R s m args below meth c T locs cells slots) (hx : p.tables.exec = Jvm.exec) {pc : Nat} (pc' : Nat) {Ls : Array Slot} {cd : ClassFile.Cond} {x : Int32} {o : Int} {st : List Value} (hd : decode c.code pc = .ok (.ifCond cd o, 3)) (hc : ifCond.holds cd x = false) (hp : pc + 3 = pc') (G : own_Go p e below s Q K N (T.setTop (mkF m pc' Ls st))) : own_Go p e below s Q K N (T.setTop (mkF m pc Ls (.int x :: st))) := by
  subst hp; exact own_step (fun _ k => XS.ifNo X.here hx rfl hd rfl hc k) G
theorem g_icmpYes (X : Stand p l e R s m args below meth c T locs cells slots) (hx : p.tables.exec = Jvm.exec) {pc : Nat} (pc' : Nat) {Ls : Array Slot} {cd : ClassFile.Cond} {x y : Int32} {o : Int} {st : List Value} (hd : decode c.code pc = .ok (.if_icmp cd o, 3)) (hc : if_icmp.holds cd x y = true) (ho : 0 ≤ (pc : Int) + o) (hp : ((pc : Int) + o).toNat = pc') (G : own_Go p e below s Q K N (T.setTop (mkF m pc' Ls st))) : own_Go p e below s Q K N (T.setTop (mkF m pc Ls (.int y :: .int x :: st))) :=
  own_step (fun _ k => XS.icmpYes X.here hx rfl rfl hd rfl hc ho hp k) G
theorem g_icmpNo (X : Stand p l e R s m args below meth c T locs cells slots) (hx : p.tables.exec = Jvm.exec) {pc : Nat} (pc' : Nat) {Ls : Array Slot} {cd : ClassFile.Cond} {x y : Int32} {o : Int} {st : List Value} (hd : decode c.code pc = .ok (.if_icmp cd o, 3)) (hc : if_icmp.holds cd x y = false) (hp : pc + 3 = pc') (G : own_Go p e below s Q K N (T.setTop (mkF m pc' Ls st))) : own_Go p e below s Q K N (T.setTop (mkF m pc Ls (.int y :: .int x :: st))) := by
  subst hp; exact own_step (fun _ k => XS.icmpNo X.here hx rfl hd rfl hc k) G
theorem g_ifnullYes (X : Stand p l e R s m args below meth c T locs cells slots) (hx : p.tables.exec = Jvm.exec) {pc : Nat} (pc' : Nat) {Ls : Array Slot} {o : Int} {st : List Value} (hd : decode c.code pc = .ok (.ifnull o, 3)) (ho : 0 ≤ (pc : Int) + o) (hp : ((pc : Int) + o).toNat = pc') (G : own_Go p e below s Q K N (T.setTop (mkF m pc' Ls st))) : own_Go p e below s Q K N (T.setTop (mkF m pc Ls (.null :: st))) :=
  own_step (fun _ k => XS.ifnullYes X.here hx rfl rfl hd rfl ho hp k) G
theorem g_ifnullNo (X : Stand p l e R s m args below meth c T locs cells slots) (hx : p.tables.exec = Jvm.exec) {pc : Nat} (pc' : Nat) {Ls : Array Slot} {b : Addr} {o : Int} {st : List Value} (hd : decode c.code pc = .ok (.ifnull o, 3)) (hp : pc + 3 = pc') (G : own_Go p e below s Q K N (T.setTop (mkF m pc' Ls st))) : own_Go p e below s Q K N (T.setTop (mkF m pc Ls (.ref b :: st))) := by
  subst hp; exact own_step (fun _ k => XS.ifnullNo X.here hx rfl hd rfl k) G
theorem g_ifnonnullYes (X : Stand p l e R s m args below meth c T locs cells slots) (hx : p.tables.exec = Jvm.exec) {pc : Nat} (pc' : Nat) {Ls : Array Slot} {b : Addr} {o : Int} {st : List Value} (hd : decode c.code pc = .ok (.ifnonnull o, 3)) (ho : 0 ≤ (pc : Int) + o) (hp : ((pc : Int) + o).toNat = pc') (G : own_Go p e below s Q K N (T.setTop (mkF m pc' Ls st))) : own_Go p e below s Q K N (T.setTop (mkF m pc Ls (.ref b :: st))) :=
  own_step (fun _ k => XS.ifnonnullYes X.here hx rfl rfl hd rfl ho hp k) G
theorem g_ifnonnullNo (X : Stand p l e R s m args below meth c T locs cells slots) (hx : p.tables.exec = Jvm.exec) {pc : Nat} (pc' : Nat) {Ls : Array Slot} {o : Int} {st : List Value} (hd : decode c.code pc = .ok (.ifnonnull o, 3)) (hp : pc + 3 = pc') (G : own_Go p e below s Q K N (T.setTop (mkF m pc' Ls st))) : own_Go p e below s Q K N (T.setTop (mkF m pc Ls (.null :: st))) := by
  subst hp; exact own_step (fun _ k => XS.ifnonnullNo X.here hx rfl hd rfl k) G
theorem g_acmp (X : Stand p l e R s m args below meth c T locs cells slots) (hx : p.tables.exec = Jvm.exec) {pc : Nat} {Ls : Array Slot} {cd : ACond} {x y : Value} {o : Int} {st : List Value} {same : Bool} (pc' : Nat) (hd : decode c.code pc = .ok (.if_acmp cd o, 3)) (h1 : x.isRef = true) (h2 : y.isRef = true) (hq : decide (x = y) = same) (ho : 0 ≤ (pc : Int) + o) (hp : pc' = if acV cd same = true then ((pc : Int) + o).toNat else pc + 3) (G : own_Go p e below s Q K N (T.setTop (mkF m pc' Ls st))) : own_Go p e below s Q K N (T.setTop (mkF m pc Ls (y :: x :: st))) :=
  own_step (fun _ k => Jvm.RoadKit.acmp X hx rfl h1 h2 rfl hd rfl hq ho hp k) G
theorem g_ldc (X : Stand p l e R s m args below meth c T locs cells slots) (hx : p.tables.exec = Jvm.exec) {own : String} (hown : s.vm.findClass own = some m.cls) {pc : Nat} (pc' : Nat) {Ls : Array Slot} {i : Nat} {z : Int32} {st : List Value} (hw : (Jvm.Cond.constant own i z).before args s = true) (hd : decode c.code pc = .ok (.ldc i, 2)) (hp : pc + 2 = pc') (G : own_Go p e below s Q K N (T.setTop (mkF m pc' Ls (.int z :: st)))) : own_Go p e below s Q K N (T.setTop (mkF m pc Ls st)) := by
  subst hp; exact own_step (fun _ k => X.ldcInt hx hown hw (g := mkF m pc Ls st) rfl hd _ k) G
theorem g_ldc_w (X : Stand p l e R s m args below meth c T locs cells slots) (hx : p.tables.exec = Jvm.exec) {own : String} (hown : s.vm.findClass own = some m.cls) {pc : Nat} (pc' : Nat) {Ls : Array Slot} {i : Nat} {z : Int32} {st : List Value} (hw : (Jvm.Cond.constant own i z).before args s = true) (hd : decode c.code pc = .ok (.ldc_w i, 3)) (hp : pc + 3 = pc') (G : own_Go p e below s Q K N (T.setTop (mkF m pc' Ls (.int z :: st)))) : own_Go p e below s Q K N (T.setTop (mkF m pc Ls st)) := by
  subst hp; exact own_step (fun _ k => X.ldcwInt hx hown hw (g := mkF m pc Ls st) rfl hd _ k) G
theorem g_ldc2_w (X : Stand p l e R s m args below meth c T locs cells slots) (hx : p.tables.exec = Jvm.exec) {own : String} (hown : s.vm.findClass own = some m.cls) {pc : Nat} (pc' : Nat) {Ls : Array Slot} {i : Nat} {z : Int64} {st : List Value} (hw : (Jvm.Cond.constantLong own i z).before args s = true) (hd : decode c.code pc = .ok (.ldc2_w i, 3)) (hp : pc + 3 = pc') (G : own_Go p e below s Q K N (T.setTop (mkF m pc' Ls (.long z :: st)))) : own_Go p e below s Q K N (T.setTop (mkF m pc Ls st)) := by
  subst hp; exact own_step (fun _ k => X.ldc2Long hx hown hw (g := mkF m pc Ls st) rfl hd _ k) G
theorem g_tswIn (X : Stand p l e R s m args below meth c T locs cells slots) (hx : p.tables.exec = Jvm.exec) {pc : Nat} (pc' : Nat) {Ls : Array Slot} {dflt low high : Int} {offs : Array Int} {len : Nat} {o : Int} {i : Int32} {st : List Value} (hd : decode c.code pc = .ok (.tableswitch dflt low high offs, len)) (hin : ¬ (i.toInt < low ∨ i.toInt > high)) (hoff : offs[(i.toInt - low).toNat]? = some o) (ho : 0 ≤ (pc : Int) + o) (hp : ((pc : Int) + o).toNat = pc') (G : own_Go p e below s Q K N (T.setTop (mkF m pc' Ls st))) : own_Go p e below s Q K N (T.setTop (mkF m pc Ls (.int i :: st))) :=
  own_step (fun _ k => XS.tswIn X.here hx rfl rfl hd rfl hin hoff ho hp k) G
theorem g_tswOut (X : Stand p l e R s m args below meth c T locs cells slots) (hx : p.tables.exec = Jvm.exec) {pc : Nat} (pc' : Nat) {Ls : Array Slot} {dflt low high : Int} {offs : Array Int} {len : Nat} {i : Int32} {st : List Value} (hd : decode c.code pc = .ok (.tableswitch dflt low high offs, len)) (hout : i.toInt < low ∨ i.toInt > high) (ho : 0 ≤ (pc : Int) + dflt) (hp : ((pc : Int) + dflt).toNat = pc') (G : own_Go p e below s Q K N (T.setTop (mkF m pc' Ls st))) : own_Go p e below s Q K N (T.setTop (mkF m pc Ls (.int i :: st))) :=
  own_step (fun _ k => XS.tswOut X.here hx rfl rfl hd rfl hout ho hp k) G
theorem own_ii_eq_t {x y : Int32} (h : x = y) : if_icmp.holds .eq x y = true := XT.ii_eq_t h
theorem own_i0_eq_t {x : Int32} (h : x = 0) : ifCond.holds .eq x = true := XT.i0_eq_t h
theorem own_ll_eq_t {x y : Int64} (h : x = y) : ifCond.holds .eq (lcmpW x y) = true := XT.ll_eq_t h
theorem own_ii_eq_f {x y : Int32} (h : ¬ (x = y)) : if_icmp.holds .eq x y = false := XT.ii_eq_f h
theorem own_i0_eq_f {x : Int32} (h : ¬ (x = 0)) : ifCond.holds .eq x = false := XT.i0_eq_f h
theorem own_ll_eq_f {x y : Int64} (h : ¬ (x = y)) : ifCond.holds .eq (lcmpW x y) = false := XT.ll_eq_f h
theorem own_ii_ne_t {x y : Int32} (h : ¬ (x = y)) : if_icmp.holds .ne x y = true := XT.ii_ne_t h
theorem own_i0_ne_t {x : Int32} (h : ¬ (x = 0)) : ifCond.holds .ne x = true := XT.i0_ne_t h
theorem own_ll_ne_t {x y : Int64} (h : ¬ (x = y)) : ifCond.holds .ne (lcmpW x y) = true := XT.ll_ne_t h
theorem own_ii_ne_f {x y : Int32} (h : x = y) : if_icmp.holds .ne x y = false := XT.ii_ne_f h
theorem own_i0_ne_f {x : Int32} (h : x = 0) : ifCond.holds .ne x = false := XT.i0_ne_f h
theorem own_ll_ne_f {x y : Int64} (h : x = y) : ifCond.holds .ne (lcmpW x y) = false := XT.ll_ne_f h
theorem own_ii_lt_t {x y : Int32} (h : x < y) : if_icmp.holds .lt x y = true := XT.ii_lt_t h
theorem own_i0_lt_t {x : Int32} (h : x < 0) : ifCond.holds .lt x = true := XT.i0_lt_t h
theorem own_ll_lt_t {x y : Int64} (h : x < y) : ifCond.holds .lt (lcmpW x y) = true := XT.ll_lt_t h
theorem own_ii_lt_f {x y : Int32} (h : ¬ (x < y)) : if_icmp.holds .lt x y = false := XT.ii_lt_f h
theorem own_i0_lt_f {x : Int32} (h : ¬ (x < 0)) : ifCond.holds .lt x = false := XT.i0_lt_f h
theorem own_ll_lt_f {x y : Int64} (h : ¬ (x < y)) : ifCond.holds .lt (lcmpW x y) = false := XT.ll_lt_f h
theorem own_ii_ge_t {x y : Int32} (h : ¬ (x < y)) : if_icmp.holds .ge x y = true := XT.ii_ge_t h
theorem own_i0_ge_t {x : Int32} (h : ¬ (x < 0)) : ifCond.holds .ge x = true := XT.i0_ge_t h
theorem own_ll_ge_t {x y : Int64} (h : ¬ (x < y)) : ifCond.holds .ge (lcmpW x y) = true := XT.ll_ge_t h
theorem own_ii_ge_f {x y : Int32} (h : x < y) : if_icmp.holds .ge x y = false := XT.ii_ge_f h
theorem own_i0_ge_f {x : Int32} (h : x < 0) : ifCond.holds .ge x = false := XT.i0_ge_f h
theorem own_ll_ge_f {x y : Int64} (h : x < y) : ifCond.holds .ge (lcmpW x y) = false := XT.ll_ge_f h
theorem own_ii_gt_t {x y : Int32} (h : y < x) : if_icmp.holds .gt x y = true := XT.ii_gt_t h
theorem own_i0_gt_t {x : Int32} (h : 0 < x) : ifCond.holds .gt x = true := XT.i0_gt_t h
theorem own_ll_gt_t {x y : Int64} (h : y < x) : ifCond.holds .gt (lcmpW x y) = true := XT.ll_gt_t h
theorem own_ii_gt_f {x y : Int32} (h : ¬ (y < x)) : if_icmp.holds .gt x y = false := XT.ii_gt_f h
theorem own_i0_gt_f {x : Int32} (h : ¬ (0 < x)) : ifCond.holds .gt x = false := XT.i0_gt_f h
theorem own_ll_gt_f {x y : Int64} (h : ¬ (y < x)) : ifCond.holds .gt (lcmpW x y) = false := XT.ll_gt_f h
theorem own_ii_le_t {x y : Int32} (h : ¬ (y < x)) : if_icmp.holds .le x y = true := XT.ii_le_t h
theorem own_i0_le_t {x : Int32} (h : ¬ (0 < x)) : ifCond.holds .le x = true := XT.i0_le_t h
theorem own_ll_le_t {x y : Int64} (h : ¬ (y < x)) : ifCond.holds .le (lcmpW x y) = true := XT.ll_le_t h
theorem own_ii_le_f {x y : Int32} (h : y < x) : if_icmp.holds .le x y = false := XT.ii_le_f h
theorem own_i0_le_f {x : Int32} (h : 0 < x) : ifCond.holds .le x = false := XT.i0_le_f h
theorem own_ll_le_f {x y : Int64} (h : y < x) : ifCond.holds .le (lcmpW x y) = false := XT.ll_le_f h
theorem own_getF (X : Stand p l e R s m args below meth c T locs cells slots) (hx : p.tables.exec = Jvm.exec) {Z : State} {a0 : Array Value} {h : Heap} (hZ : Z.Warmed39 s.vm) {own : String} (hown : s.vm.findClass own = some m.cls) {R0 O n d host : String} {index : Nat} (w : (Jvm.Cond.fieldLink own index R0 n d).before a0 Z = true ∨ (Jvm.Cond.fieldLinkNest own index R0 n d host).before a0 Z = true) (via : Via Z R0 O n d) (eT : T.heap = h) {a : Addr} {v : Value} (F : Fld Z h a O n d v) {pc : Nat} (pc' : Nat) {Ls : Array Slot} {rest : List Value} (hd : decode c.code pc = .ok (.getfield index, 3)) (hp : pc + 3 = pc') (k : ∀ T', Stand p l e R s m args below meth c T' locs cells slots → T'.heap = h → own_Go p e below s Q K N (T'.setTop (mkF m pc' Ls (v :: rest)))) : own_Go p e below s Q K N (T.setTop (mkF m pc Ls (.ref a :: rest))) := by
  subst hp
  obtain ⟨T', X', e', st⟩ := getF X hx hZ hown w via eT F (g := mkF m pc Ls (.ref a :: rest)) rfl rfl hd
  exact own_step st (k T' X' e')
theorem own_getS (X : Stand p l e R s m args below meth c T locs cells slots) (hx : p.tables.exec = Jvm.exec) {Z : State} {a0 : Array Value} {h : Heap} (hZ : Z.Warmed39 s.vm) {own : String} (hown : s.vm.findClass own = some m.cls) {R0 O n d host : String} {index : Nat} (w : (Jvm.Cond.fieldLink own index R0 n d).before a0 Z = true ∨ (Jvm.Cond.fieldLinkNest own index R0 n d host).before a0 Z = true) (via : Via Z R0 O n d) (eT : T.heap = h) {v : Value} (F : Sta Z h O n d v) {pc : Nat} (pc' : Nat) {Ls : Array Slot} {rest : List Value} (hd : decode c.code pc = .ok (.getstatic index, 3)) (hp : pc + 3 = pc') (k : ∀ T', Stand p l e R s m args below meth c T' locs cells slots → T'.heap = h → own_Go p e below s Q K N (T'.setTop (mkF m pc' Ls (v :: rest)))) : own_Go p e below s Q K N (T.setTop (mkF m pc Ls rest)) := by
  subst hp
  obtain ⟨T', X', e', st⟩ := getS2 X hx hZ hown w via eT F (g := mkF m pc Ls rest) rfl hd
  exact own_step st (k T' X' e')
theorem own_putF (X : Stand p l e R s m args below meth c T locs cells slots) (hx : p.tables.exec = Jvm.exec) {Z : State} {a0 : Array Value} {h : Heap} (hZ : Z.Warmed39 s.vm) {own : String} (hown : s.vm.findClass own = some m.cls) {R0 O n d host : String} {index : Nat} (w : (Jvm.Cond.fieldLink own index R0 n d).before a0 Z = true ∨ (Jvm.Cond.fieldLinkNest own index R0 n d host).before a0 Z = true) (via : Via Z R0 O n d) (eT : T.heap = h) {a : Addr} {v old : Value} (F : Fld Z h a O n d old) {C : String} {kk : Nat} {ty : FieldType} (E : Exa Z h a C) (L : (Jvm.Cond.lays C O n d).before a0 Z = true ∨ ((Jvm.Cond.laysFinal C O n d).before a0 Z = true ∧ own = O ∧ meth.name = "<init>")) (wi : (Jvm.Cond.instantiable C kk).before a0 Z = true) (hty : parseFieldDescriptor d = some ty) (hn : narrow ty v = v) (hf : fits ty v = true) {pc : Nat} (pc' : Nat) {Ls : Array Slot} {rest : List Value} (hd : decode c.code pc = .ok (.putfield index, 3)) (hp : pc + 3 = pc') (k : ∀ T' h', Stand p l e R s m args below meth c T' (locs ++ [⟨a, Jvm.RoadKit.slotOf Z O n d⟩]) cells slots → T'.heap = h' → Wr h h' a (Jvm.RoadKit.slotOf Z O n d) v → own_Go p e below s Q K N (T'.setTop (mkF m pc' Ls rest))) : own_Go p e below s Q K N (T.setTop (mkF m pc Ls (v :: .ref a :: rest))) := by
  subst hp
  obtain ⟨T', h', X', e', W', st⟩ := putF X hx hZ hown w via eT F E L wi hty hn hf (g := mkF m pc Ls (v :: .ref a :: rest)) rfl rfl hd
  exact own_step st (k T' h' X' e' W')
theorem own_putFN (X : Stand p l e R s m args below meth c T locs cells slots) (hx : p.tables.exec = Jvm.exec) {Z : State} {a0 : Array Value} {h : Heap} (hZ : Z.Warmed39 s.vm) {own : String} (hown : s.vm.findClass own = some m.cls) {R0 O n d : String} {index : Nat} (w : (Jvm.Cond.fieldLink own index R0 n d).before a0 Z = true) (via : Via Z R0 O n d) (eT : T.heap = h) {a : Addr} {v old : Value} (v' : Value) (F : Fld Z h a O n d old) {C : String} {kk : Nat} {ty : FieldType} (E : Exa Z h a C) (L : (Jvm.Cond.lays C O n d).before a0 Z = true ∨ ((Jvm.Cond.laysFinal C O n d).before a0 Z = true ∧ own = O ∧ meth.name = "<init>")) (wi : (Jvm.Cond.instantiable C kk).before a0 Z = true) (hty : parseFieldDescriptor d = some ty) (hn : narrow ty v = v') (hf : fits ty v' = true) {pc : Nat} (pc' : Nat) {Ls : Array Slot} {rest : List Value} (hd : decode c.code pc = .ok (.putfield index, 3)) (hp : pc + 3 = pc') (k : ∀ T' h', Stand p l e R s m args below meth c T' (locs ++ [⟨a, Jvm.RoadKit.slotOf Z O n d⟩]) cells slots → T'.heap = h' → Wr h h' a (Jvm.RoadKit.slotOf Z O n d) v' → own_Go p e below s Q K N (T'.setTop (mkF m pc' Ls rest))) : own_Go p e below s Q K N (T.setTop (mkF m pc Ls (v :: .ref a :: rest))) := by
  subst hp
  obtain ⟨T', h', X', e', W', st⟩ := putFN X hx hZ hown w via eT F E L wi hty hn hf (g := mkF m pc Ls (v :: .ref a :: rest)) rfl rfl hd
  exact own_step st (k T' h' X' e' W')
theorem own_newO (X : Stand p l e R s m args below meth c T locs cells slots) (hx : p.tables.exec = Jvm.exec) {Z : State} {a0 : Array Value} {h : Heap} (hZ : Z.Warmed39 s.vm) {own : String} (hown : s.vm.findClass own = some m.cls) {C : String} {index n : Nat} (w : (Jvm.Cond.classLink own index C).before a0 Z = true) (wi : (Jvm.Cond.instantiable C n).before a0 Z = true) (wz : (Jvm.Cond.initialized C).before a0 Z = true) (eT : T.heap = h) {pc : Nat} (pc' : Nat) {Ls : Array Slot} {rest : List Value} (hd : decode c.code pc = .ok (.new index, 3)) (hp : pc + 3 = pc') (hc : cells + 1 ≤ R.cells) (hl : slots + n ≤ R.slots)
    (k : ∀ T' h' b, Stand p l e R s m args below meth c T' locs (cells + 1) (slots + n) → T'.heap = h' → b = h.size → Ext h h' → Exa Z h' b C → (∀ {O nm d : String} {ty : FieldType}, Laid Z a0 C O nm d → parseFieldDescriptor d = some ty → Fld Z h' b O nm d (defaultValue ty)) → own_Go p e below s Q K N (T'.setTop (mkF m pc' Ls (.ref b :: rest)))) : own_Go p e below s Q K N (T.setTop (mkF m pc Ls rest)) := by
  subst hp
  obtain ⟨T', h', X', e', E', A', D', -, st⟩ := newO X hx hZ hown w wi wz eT (g := mkF m pc Ls rest) rfl hd hc hl
  exact own_step st (k T' h' _ X' e' rfl E' A' D')
theorem own_newP (X : Stand p l e R s m args below meth c T locs cells slots) (hx : p.tables.exec = Jvm.exec) {Z : State} {a0 : Array Value} {h : Heap} (hZ : Z.Warmed39 s.vm) {aty : ArrayType} (w : (Jvm.Cond.arrayClass (newarray.typeOf aty)).before a0 Z = true) (eT : T.heap = h) {n : Int32} {pc : Nat} (pc' : Nat) {Ls : Array Slot} {rest : List Value} (hd : decode c.code pc = .ok (.newarray aty, 2)) (hp : pc + 2 = pc') (hn : ¬ n < 0) (cap : Nat) (hcap : n.toNatClampNeg ≤ cap) (hb : cap * 8 ≤ 536870912) (hc : cells + 1 ≤ R.cells) (hl : slots + cap ≤ R.slots)
    (k : ∀ T' h' cA b, Stand p l e R s m args below meth c T' locs (cells + 1) (slots + cap) → T'.heap = h' → b = h.size → Ext h h' → Arr Z h' b (newA cA (newarray.typeOf aty) n) (newarray.typeOf aty) → own_Go p e below s Q K N (T'.setTop (mkF m pc' Ls (.ref b :: rest)))) : own_Go p e below s Q K N (T.setTop (mkF m pc Ls (.int n :: rest))) := by
  subst hp
  obtain ⟨T', h', cA, X', e', E', A', st⟩ := newP X hx hZ w eT (g := mkF m pc Ls (.int n :: rest)) rfl hd rfl hn hcap hb hc hl
  exact own_step st (k T' h' cA _ X' e' rfl E' A')
theorem own_newR (X : Stand p l e R s m args below meth c T locs cells slots) (hx : p.tables.exec = Jvm.exec) {Z : State} {a0 : Array Value} {h : Heap} (hZ : Z.Warmed39 s.vm) {own : String} (hown : s.vm.findClass own = some m.cls) {C : String} {index : Nat} (w1 : (Jvm.Cond.classLink own index C).before a0 Z = true) (w2 : (Jvm.Cond.arrayOver (.object C)).before a0 Z = true) (eT : T.heap = h) {n : Int32} {pc : Nat} (pc' : Nat) {Ls : Array Slot} {rest : List Value} (hd : decode c.code pc = .ok (.anewarray index, 3)) (hp : pc + 3 = pc') (hn : ¬ n < 0) (cap : Nat) (hcap : n.toNatClampNeg ≤ cap) (hb : cap * 8 ≤ 536870912) (hc : cells + 1 ≤ R.cells) (hl : slots + cap ≤ R.slots)
    (k : ∀ T' h' cA b, Stand p l e R s m args below meth c T' locs (cells + 1) (slots + cap) → T'.heap = h' → b = h.size → Ext h h' → Arr Z h' b (newA cA (.object C) n) (.object C) → Ovr Z cA C → own_Go p e below s Q K N (T'.setTop (mkF m pc' Ls (.ref b :: rest)))) : own_Go p e below s Q K N (T.setTop (mkF m pc Ls (.int n :: rest))) := by
  subst hp
  obtain ⟨T', h', cA, X', e', E', A', O', st⟩ := newR X hx hZ hown w1 w2 eT (g := mkF m pc Ls (.int n :: rest)) rfl hd rfl hn hcap hb hc hl
  exact own_step st (k T' h' cA _ X' e' rfl E' A' O')
theorem own_stI (X : Stand p l e R s m args below meth c T locs cells slots) (hx : p.tables.exec = Jvm.exec) {Z : State} {h : Heap} (hZ : Z.Warmed39 s.vm) (eT : T.heap = h) {a : Addr} {cl : Cell} (A : Arr Z h a cl .int) {j : Int32} {x : Int32} (hj : ¬ (j < 0 ∨ cl.slots.size ≤ j.toNatClampNeg)) {pc : Nat} (pc' : Nat) {Ls : Array Slot} {rest : List Value} (hd : decode c.code pc = .ok (.iastore, 1)) (hp : pc + 1 = pc') (k : ∀ T' h', Stand p l e R s m args below meth c T' (locs ++ [⟨a, j.toNatClampNeg⟩]) cells slots → T'.heap = h' → Wr h h' a j.toNatClampNeg (.int x) → own_Go p e below s Q K N (T'.setTop (mkF m pc' Ls rest))) : own_Go p e below s Q K N (T.setTop (mkF m pc Ls (.int x :: .int j :: .ref a :: rest))) := by
  subst hp
  obtain ⟨T', h', X', e', W', st⟩ := stI X hx hZ eT A hj (g := mkF m pc Ls (.int x :: .int j :: .ref a :: rest)) rfl rfl hd
  exact own_step st (k T' h' X' e' W')
theorem own_stC (X : Stand p l e R s m args below meth c T locs cells slots) (hx : p.tables.exec = Jvm.exec) {Z : State} {h : Heap} (hZ : Z.Warmed39 s.vm) (eT : T.heap = h) {a : Addr} {cl : Cell} (A : Arr Z h a cl .char) {j : Int32} {x : Int32} (hj : ¬ (j < 0 ∨ cl.slots.size ≤ j.toNatClampNeg)) {pc : Nat} (pc' : Nat) {Ls : Array Slot} {rest : List Value} (hd : decode c.code pc = .ok (.castore, 1)) (hp : pc + 1 = pc') (k : ∀ T' h', Stand p l e R s m args below meth c T' (locs ++ [⟨a, j.toNatClampNeg⟩]) cells slots → T'.heap = h' → Wr h h' a j.toNatClampNeg (.int (nar .char x)) → own_Go p e below s Q K N (T'.setTop (mkF m pc' Ls rest))) : own_Go p e below s Q K N (T.setTop (mkF m pc Ls (.int x :: .int j :: .ref a :: rest))) := by
  subst hp
  obtain ⟨T', h', X', e', W', st⟩ := stC X hx hZ eT A hj (g := mkF m pc Ls (.int x :: .int j :: .ref a :: rest)) rfl rfl hd
  exact own_step st (k T' h' X' e' W')
theorem own_stZ (X : Stand p l e R s m args below meth c T locs cells slots) (hx : p.tables.exec = Jvm.exec) {Z : State} {h : Heap} (hZ : Z.Warmed39 s.vm) (eT : T.heap = h) {a : Addr} {cl : Cell} (A : Arr Z h a cl .boolean) {j : Int32} {x : Int32} (hj : ¬ (j < 0 ∨ cl.slots.size ≤ j.toNatClampNeg)) {pc : Nat} (pc' : Nat) {Ls : Array Slot} {rest : List Value} (hd : decode c.code pc = .ok (.bastore, 1)) (hp : pc + 1 = pc') (k : ∀ T' h', Stand p l e R s m args below meth c T' (locs ++ [⟨a, j.toNatClampNeg⟩]) cells slots → T'.heap = h' → Wr h h' a j.toNatClampNeg (.int (nar .boolean x)) → own_Go p e below s Q K N (T'.setTop (mkF m pc' Ls rest))) : own_Go p e below s Q K N (T.setTop (mkF m pc Ls (.int x :: .int j :: .ref a :: rest))) := by
  subst hp
  obtain ⟨T', h', X', e', W', st⟩ := stZ X hx hZ eT A hj (g := mkF m pc Ls (.int x :: .int j :: .ref a :: rest)) rfl rfl hd
  exact own_step st (k T' h' X' e' W')
theorem own_stB (X : Stand p l e R s m args below meth c T locs cells slots) (hx : p.tables.exec = Jvm.exec) {Z : State} {h : Heap} (hZ : Z.Warmed39 s.vm) (eT : T.heap = h) {a : Addr} {cl : Cell} (A : Arr Z h a cl .byte) {j : Int32} {x : Int32} (hj : ¬ (j < 0 ∨ cl.slots.size ≤ j.toNatClampNeg)) {pc : Nat} (pc' : Nat) {Ls : Array Slot} {rest : List Value} (hd : decode c.code pc = .ok (.bastore, 1)) (hp : pc + 1 = pc') (k : ∀ T' h', Stand p l e R s m args below meth c T' (locs ++ [⟨a, j.toNatClampNeg⟩]) cells slots → T'.heap = h' → Wr h h' a j.toNatClampNeg (.int (nar .byte x)) → own_Go p e below s Q K N (T'.setTop (mkF m pc' Ls rest))) : own_Go p e below s Q K N (T.setTop (mkF m pc Ls (.int x :: .int j :: .ref a :: rest))) := by
  subst hp
  obtain ⟨T', h', X', e', W', st⟩ := stB X hx hZ eT A hj (g := mkF m pc Ls (.int x :: .int j :: .ref a :: rest)) rfl rfl hd
  exact own_step st (k T' h' X' e' W')
theorem own_stS (X : Stand p l e R s m args below meth c T locs cells slots) (hx : p.tables.exec = Jvm.exec) {Z : State} {h : Heap} (hZ : Z.Warmed39 s.vm) (eT : T.heap = h) {a : Addr} {cl : Cell} (A : Arr Z h a cl .short) {j : Int32} {x : Int32} (hj : ¬ (j < 0 ∨ cl.slots.size ≤ j.toNatClampNeg)) {pc : Nat} (pc' : Nat) {Ls : Array Slot} {rest : List Value} (hd : decode c.code pc = .ok (.sastore, 1)) (hp : pc + 1 = pc') (k : ∀ T' h', Stand p l e R s m args below meth c T' (locs ++ [⟨a, j.toNatClampNeg⟩]) cells slots → T'.heap = h' → Wr h h' a j.toNatClampNeg (.int (nar .short x)) → own_Go p e below s Q K N (T'.setTop (mkF m pc' Ls rest))) : own_Go p e below s Q K N (T.setTop (mkF m pc Ls (.int x :: .int j :: .ref a :: rest))) := by
  subst hp
  obtain ⟨T', h', X', e', W', st⟩ := stS X hx hZ eT A hj (g := mkF m pc Ls (.int x :: .int j :: .ref a :: rest)) rfl rfl hd
  exact own_step st (k T' h' X' e' W')
theorem own_stJ (X : Stand p l e R s m args below meth c T locs cells slots) (hx : p.tables.exec = Jvm.exec) {Z : State} {h : Heap} (hZ : Z.Warmed39 s.vm) (eT : T.heap = h) {a : Addr} {cl : Cell} (A : Arr Z h a cl .long) {j : Int32} {x : Int64} (hj : ¬ (j < 0 ∨ cl.slots.size ≤ j.toNatClampNeg)) {pc : Nat} (pc' : Nat) {Ls : Array Slot} {rest : List Value} (hd : decode c.code pc = .ok (.lastore, 1)) (hp : pc + 1 = pc') (k : ∀ T' h', Stand p l e R s m args below meth c T' (locs ++ [⟨a, j.toNatClampNeg⟩]) cells slots → T'.heap = h' → Wr h h' a j.toNatClampNeg (.long x) → own_Go p e below s Q K N (T'.setTop (mkF m pc' Ls rest))) : own_Go p e below s Q K N (T.setTop (mkF m pc Ls (.long x :: .int j :: .ref a :: rest))) := by
  subst hp
  obtain ⟨T', h', X', e', W', st⟩ := stJ X hx hZ eT A hj (g := mkF m pc Ls (.long x :: .int j :: .ref a :: rest)) rfl rfl hd
  exact own_step st (k T' h' X' e' W')
theorem own_stR (X : Stand p l e R s m args below meth c T locs cells slots) (hx : p.tables.exec = Jvm.exec) {Z : State} {h : Heap} (hZ : Z.Warmed39 s.vm) (eT : T.heap = h) {a : Addr} {cl : Cell} {ty : FieldType} (A : Arr Z h a cl ty) {j : Int32} {v : Value} (hj : ¬ (j < 0 ∨ cl.slots.size ≤ j.toNatClampNeg)) (hty : ty.isReference = true) (F : Sto Z h a v) {pc : Nat} (pc' : Nat) {Ls : Array Slot} {rest : List Value} (hd : decode c.code pc = .ok (.aastore, 1)) (hp : pc + 1 = pc') (k : ∀ T' h', Stand p l e R s m args below meth c T' (locs ++ [⟨a, j.toNatClampNeg⟩]) cells slots → T'.heap = h' → Wr h h' a j.toNatClampNeg v → own_Go p e below s Q K N (T'.setTop (mkF m pc' Ls rest))) : own_Go p e below s Q K N (T.setTop (mkF m pc Ls (v :: .int j :: .ref a :: rest))) := by
  subst hp
  obtain ⟨T', h', X', e', W', st⟩ := stR X hx hZ eT A hj hty F (g := mkF m pc Ls (v :: .int j :: .ref a :: rest)) rfl rfl hd
  exact own_step st (k T' h' X' e' W')
theorem own_iaload (X : Stand p l e R s m args below meth c T locs cells slots) (hx : p.tables.exec = Jvm.exec) {Z : State} {h : Heap} (hZ : Z.Warmed39 s.vm) (eT : T.heap = h) {a : Addr} {cl : Cell} (A : Arr Z h a cl .int) {j : Int32} {v : Value} (hj : ¬ (j < 0 ∨ cl.slots.size ≤ j.toNatClampNeg)) (hv : cl.slots[j.toNatClampNeg]? = some v) {pc : Nat} (pc' : Nat) {Ls : Array Slot} {rest : List Value} (hd : decode c.code pc = .ok (.iaload, 1)) (hp : pc + 1 = pc') (G : own_Go p e below s Q K N (T.setTop (mkF m pc' Ls (v :: rest)))) : own_Go p e below s Q K N (T.setTop (mkF m pc Ls (.int j :: .ref a :: rest))) := by
  subst hp eT
  exact own_step (X.iaload hx (j := j) (v := v) A.1 (State.isArrayOf_alike hZ.alike A.2.1) A.2.2 hj hv (g := mkF m pc Ls (.int j :: .ref a :: rest)) rfl rfl hd) G
theorem own_caload (X : Stand p l e R s m args below meth c T locs cells slots) (hx : p.tables.exec = Jvm.exec) {Z : State} {h : Heap} (hZ : Z.Warmed39 s.vm) (eT : T.heap = h) {a : Addr} {cl : Cell} (A : Arr Z h a cl .char) {j : Int32} {v : Value} (hj : ¬ (j < 0 ∨ cl.slots.size ≤ j.toNatClampNeg)) (hv : cl.slots[j.toNatClampNeg]? = some v) {pc : Nat} (pc' : Nat) {Ls : Array Slot} {rest : List Value} (hd : decode c.code pc = .ok (.caload, 1)) (hp : pc + 1 = pc') (G : own_Go p e below s Q K N (T.setTop (mkF m pc' Ls (v :: rest)))) : own_Go p e below s Q K N (T.setTop (mkF m pc Ls (.int j :: .ref a :: rest))) := by
  subst hp eT
  exact own_step (X.caload hx (j := j) (v := v) A.1 (State.isArrayOf_alike hZ.alike A.2.1) A.2.2 hj hv (g := mkF m pc Ls (.int j :: .ref a :: rest)) rfl rfl hd) G
theorem own_laload (X : Stand p l e R s m args below meth c T locs cells slots) (hx : p.tables.exec = Jvm.exec) {Z : State} {h : Heap} (hZ : Z.Warmed39 s.vm) (eT : T.heap = h) {a : Addr} {cl : Cell} (A : Arr Z h a cl .long) {j : Int32} {v : Value} (hj : ¬ (j < 0 ∨ cl.slots.size ≤ j.toNatClampNeg)) (hv : cl.slots[j.toNatClampNeg]? = some v) {pc : Nat} (pc' : Nat) {Ls : Array Slot} {rest : List Value} (hd : decode c.code pc = .ok (.laload, 1)) (hp : pc + 1 = pc') (G : own_Go p e below s Q K N (T.setTop (mkF m pc' Ls (v :: rest)))) : own_Go p e below s Q K N (T.setTop (mkF m pc Ls (.int j :: .ref a :: rest))) := by
  subst hp eT
  exact own_step (X.laload hx (j := j) (v := v) A.1 (State.isArrayOf_alike hZ.alike A.2.1) A.2.2 hj hv (g := mkF m pc Ls (.int j :: .ref a :: rest)) rfl rfl hd) G
theorem own_baloadB (X : Stand p l e R s m args below meth c T locs cells slots) (hx : p.tables.exec = Jvm.exec) {Z : State} {h : Heap} (hZ : Z.Warmed39 s.vm) (eT : T.heap = h) {a : Addr} {cl : Cell} (A : Arr Z h a cl .byte) {j : Int32} {v : Value} (hj : ¬ (j < 0 ∨ cl.slots.size ≤ j.toNatClampNeg)) (hv : cl.slots[j.toNatClampNeg]? = some v) {pc : Nat} (pc' : Nat) {Ls : Array Slot} {rest : List Value} (hd : decode c.code pc = .ok (.baload, 1)) (hp : pc + 1 = pc') (G : own_Go p e below s Q K N (T.setTop (mkF m pc' Ls (v :: rest)))) : own_Go p e below s Q K N (T.setTop (mkF m pc Ls (.int j :: .ref a :: rest))) := by
  subst hp eT
  exact own_step (X.baloadBytes hx (j := j) (v := v) A.1 (State.isArrayOf_alike hZ.alike A.2.1) A.2.2 hj hv (g := mkF m pc Ls (.int j :: .ref a :: rest)) rfl rfl hd) G
theorem own_baloadZ (X : Stand p l e R s m args below meth c T locs cells slots) (hx : p.tables.exec = Jvm.exec) {Z : State} {h : Heap} (hZ : Z.Warmed39 s.vm) (eT : T.heap = h) {a : Addr} {cl : Cell} (A : Arr Z h a cl .boolean) {j : Int32} {v : Value} (hj : ¬ (j < 0 ∨ cl.slots.size ≤ j.toNatClampNeg)) (hv : cl.slots[j.toNatClampNeg]? = some v) {pc : Nat} (pc' : Nat) {Ls : Array Slot} {rest : List Value} (hd : decode c.code pc = .ok (.baload, 1)) (hp : pc + 1 = pc') (G : own_Go p e below s Q K N (T.setTop (mkF m pc' Ls (v :: rest)))) : own_Go p e below s Q K N (T.setTop (mkF m pc Ls (.int j :: .ref a :: rest))) := by
  subst hp eT
  exact own_step (X.baloadBooleans hx (j := j) (v := v) A.1 (State.isArrayOf_alike hZ.alike A.2.1) A.2.2 hj hv (g := mkF m pc Ls (.int j :: .ref a :: rest)) rfl rfl hd) G
theorem own_aaload (X : Stand p l e R s m args below meth c T locs cells slots) (hx : p.tables.exec = Jvm.exec) {Z : State} {h : Heap} (hZ : Z.Warmed39 s.vm) (eT : T.heap = h) {a : Addr} {cl : Cell} {ty : FieldType} (hty : ty.isReference = true) (A : Arr Z h a cl ty) {j : Int32} {v : Value} (hj : ¬ (j < 0 ∨ cl.slots.size ≤ j.toNatClampNeg)) (hv : cl.slots[j.toNatClampNeg]? = some v) {pc : Nat} (pc' : Nat) {Ls : Array Slot} {rest : List Value} (hd : decode c.code pc = .ok (.aaload, 1)) (hp : pc + 1 = pc') (G : own_Go p e below s Q K N (T.setTop (mkF m pc' Ls (v :: rest)))) : own_Go p e below s Q K N (T.setTop (mkF m pc Ls (.int j :: .ref a :: rest))) := by
  subst hp eT
  exact own_step (X.aaload hx (j := j) (v := v) A.1 (State.isArrayOf_alike hZ.alike A.2.1) hty A.2.2 hj hv (g := mkF m pc Ls (.int j :: .ref a :: rest)) rfl rfl hd) G
theorem own_arraylength (X : Stand p l e R s m args below meth c T locs cells slots) (hx : p.tables.exec = Jvm.exec) {Z : State} {h : Heap} (hZ : Z.Warmed39 s.vm) (eT : T.heap = h) {a : Addr} {cl : Cell} {ty : FieldType} (A : Arr Z h a cl ty) {z : Int32} (hz : cl.slots.size = z.toNatClampNeg) (h0 : ¬ z < 0) {pc : Nat} (pc' : Nat) {Ls : Array Slot} {rest : List Value} (hd : decode c.code pc = .ok (.arraylength, 1)) (hp : pc + 1 = pc') (G : own_Go p e below s Q K N (T.setTop (mkF m pc' Ls (.int z :: rest)))) : own_Go p e below s Q K N (T.setTop (mkF m pc Ls (.ref a :: rest))) := by
  subst hp eT
  refine own_step (X.arraylength hx A.1 (State.isArrayOf_alike hZ.alike A.2.1) (g := mkF m pc Ls (.ref a :: rest)) rfl rfl hd) ?_
  rw [len_of hz h0]
  exact G
theorem own_initO (X : Stand p l e R s m args below meth c T locs cells slots) (hx : p.tables.exec = Jvm.exec) {Z : State} {a0 : Array Value} {h : Heap} (hZ : Z.Warmed39 s.vm) {own : String} (hown : s.vm.findClass own = some m.cls) {idx : Nat} (w1 : (Jvm.Cond.methodLink own idx Lib.objectInit).before a0 Z = true) (w2 : (Jvm.Cond.instanceMethod Lib.objectInit).before a0 Z = true) (w3 : (Jvm.Cond.code Lib.objectInit ⟨#[0xb1]⟩ 1 none).before a0 Z = true) (eT : T.heap = h) {a : Addr} {pc : Nat} (pc' : Nat) {Ls : Array Slot} {rest : List Value} (hsize : Ls.size = c.maxLocals) (hd : decode c.code pc = .ok (.invokespecial idx, 3)) (hp : pc + 3 = pc') (hf : 1 ≤ R.frames) (W : Nat) (hW : (rest.map fun v => v.category).sum = W) (hl : W + 12 ≤ R.locals) (k : ∀ T', Stand p l e R s m args below meth c T' locs cells slots → T'.heap = h → own_Go p e below s Q K N (T'.setTop (mkF m pc' Ls rest))) : own_Go p e below s Q K N (T.setTop (mkF m pc Ls (.ref a :: rest))) := by
  subst hp
  obtain ⟨T', X', e', st⟩ := initO X hx hZ hown w1 w2 w3 eT (g := mkF m pc Ls (.ref a :: rest)) rfl hsize rfl hd hf (W := W) (by show 2 * 0 + _ ≤ _; omega) hl
  exact own_step st (k T' X' e')
theorem own_callS (X : Stand p l e R s m args below meth c T locs cells slots) (hx : p.tables.exec = Jvm.exec) {Z : State} {a0 : Array Value} {h : Heap} (hZ : Z.Warmed39 s.vm) {own : String} (hown : s.vm.findClass own = some m.cls) {index : Nat} {y : MethodName} {bytes : ByteArray} {maxL : Nat} {ret : Option FieldType} {rm : Room} {as' : Array Value} {Q' : Option Value → Heap → List Loc → Prop} (w1 : (Jvm.Cond.methodLink own index y).before a0 Z = true) (w2 : (Jvm.Cond.static y).before a0 Z = true) (hy : y.cls ≠ "java/lang/invoke/MethodHandle" ∧ y.cls ≠ "java/lang/invoke/VarHandle") (hM : MetFree l y (head1 [Jvm.Cond.code y bytes maxL ret] rm) (fun a U => a = as' ∧ Z.Warmed39 U.vm ∧ U.heap = h) (fun _ _ _ _ _ => True) (fun _ U o U' => ∃ v L, o = .returned v ∧ Q' v U'.heap L ∧ FrameEnd U o U' L rm.cells rm.slots)) (wc : (Jvm.Cond.code y bytes maxL ret).before a0 Z = true) (wz : (Jvm.Cond.initialized y.cls).before a0 Z = true) (eT : T.heap = h) (W : Nat) (hf : rm.frames + 1 ≤ R.frames) (hl : W + (maxL + 11) + rm.locals ≤ R.locals) (hc : cells + rm.cells ≤ R.cells) (hs : slots + rm.slots ≤ R.slots) (argsL rest : List Value) (has : argsL.toArray = as') {ps : List FieldType} {rr : Option FieldType} (hpd : parseMethodDescriptor y.desc = some ⟨ps, rr⟩) (hlen : argsL.length = ps.length) {pc : Nat} (pc' : Nat) {Ls : Array Slot} {stk : List Value} (hstk : stk = argsL.reverse ++ rest) (hsize : Ls.size = c.maxLocals) (hW : (rest.map fun v => v.category).sum = W) (hd : decode c.code pc = .ok (.invokestatic index, 3)) (hp : pc + 3 = pc') (k : ∀ T' v L, Stand p l e R s m args below meth c T' (locs ++ L) (cells + rm.cells) (slots + rm.slots) → Q' v T'.heap L → own_Go p e below s Q K N (T'.setTop (mkF m pc' Ls (v.toList ++ rest)))) : own_Go p e below s Q K N (T.setTop (mkF m pc Ls stk)) := by
  subst hp hstk
  obtain ⟨v', _, ⟨T', L', k', n'⟩, -, X', ⟨Lc', hQ', l', y', z'⟩, st'⟩ := Jvm.LawKit.callS X hx (y := y) hown (mvT hZ w1) (mvT hZ w2) (mvT hZ wz) (mvT hZ wc) hy (backOf (W := W) hM hZ wc wz hf hl) (g := mkF m pc Ls (argsL.reverse ++ rest)) rfl hsize (argsL := argsL) (rest := rest) (lenOf hpd hlen) rfl (by show 2 * 0 + _ ≤ _; omega) hd (fun _ _ => ⟨has, eT, hc, hs⟩)
  dsimp only [Pt.U, Pt.locs, Pt.cells, Pt.slots] at X' l' y' z' st' hQ'
  subst l' y' z'
  exact own_step (fun t kk => st' _ kk) (k T' v' _ X' hQ')
theorem own_callI (X : Stand p l e R s m args below meth c T locs cells slots) (hx : p.tables.exec = Jvm.exec) {Z : State} {a0 : Array Value} {h : Heap} (hZ : Z.Warmed39 s.vm) {own : String} (hown : s.vm.findClass own = some m.cls) {index : Nat} {y : MethodName} {bytes : ByteArray} {maxL : Nat} {rm : Room} {as' : Array Value} {Q' : Option Value → Heap → List Loc → Prop} (hy1 : y.name = "<init>") (w1 : (Jvm.Cond.methodLink own index y).before a0 Z = true) (w2 : (Jvm.Cond.instanceMethod y).before a0 Z = true) (hy : y.cls ≠ "java/lang/invoke/MethodHandle" ∧ y.cls ≠ "java/lang/invoke/VarHandle") (hM : MetFree l y (head1 [Jvm.Cond.code y bytes maxL none] rm) (fun a U => a = as' ∧ Z.Warmed39 U.vm ∧ U.heap = h) (fun _ _ _ _ _ => True) (fun _ U o U' => ∃ v L, o = .returned v ∧ Q' v U'.heap L ∧ FrameEnd U o U' L rm.cells rm.slots)) (wc : (Jvm.Cond.code y bytes maxL none).before a0 Z = true) (wz : (Jvm.Cond.initialized y.cls).before a0 Z = true) (eT : T.heap = h) (W : Nat) (hf : rm.frames + 1 ≤ R.frames) (hl : W + (maxL + 11) + rm.locals ≤ R.locals) (hc : cells + rm.cells ≤ R.cells) (hs : slots + rm.slots ≤ R.slots) (a : Addr) (argsL rest : List Value) (has : (.ref a :: argsL).toArray = as') {ps : List FieldType} {rr : Option FieldType} (hpd : parseMethodDescriptor y.desc = some ⟨ps, rr⟩) (hlen : argsL.length = ps.length) {pc : Nat} (pc' : Nat) {Ls : Array Slot} {stk : List Value} (hstk : stk = argsL.reverse ++ .ref a :: rest) (hsize : Ls.size = c.maxLocals) (hW : (rest.map fun v => v.category).sum = W) (hd : decode c.code pc = .ok (.invokespecial index, 3)) (hp : pc + 3 = pc') (k : ∀ T' v L, Stand p l e R s m args below meth c T' (locs ++ L) (cells + rm.cells) (slots + rm.slots) → Q' v T'.heap L → own_Go p e below s Q K N (T'.setTop (mkF m pc' Ls (v.toList ++ rest)))) : own_Go p e below s Q K N (T.setTop (mkF m pc Ls stk)) := by
  subst hp hstk
  obtain ⟨v', _, ⟨T', L', k', n'⟩, -, X', ⟨Lc', hQ', l', y', z'⟩, st'⟩ := X.specialBack hx (y := y) hy1 hown (mvT hZ w1) (mvT hZ w2) (mvT hZ wc) hy (backOf (W := W) hM hZ wc wz hf hl) (g := mkF m pc Ls (argsL.reverse ++ .ref a :: rest)) rfl hsize (Steps.refl _) (a := a) (argsL := argsL) (rest := rest) (lenOf hpd hlen) rfl (by show 2 * 0 + _ ≤ _; omega) hd (fun _ _ => ⟨has, eT, hc, hs⟩)
  dsimp only [Pt.U, Pt.locs, Pt.cells, Pt.slots] at X' l' y' z' st' hQ'
  subst l' y' z'
  exact own_step (fun t kk => st'.trans kk) (k T' v' _ X' hQ')
theorem own_callV (X : Stand p l e R s m args below meth c T locs cells slots) (hx : p.tables.exec = Jvm.exec) {Z : State} {a0 : Array Value} {h : Heap} (hZ : Z.Warmed39 s.vm) {own : String} (hown : s.vm.findClass own = some m.cls) {C : String} {index : Nat} {y z : MethodName} {bytes : ByteArray} {maxL : Nat} {ret : Option FieldType} {rm : Room} {as' : Array Value} {Q' : Option Value → Heap → List Loc → Prop} (w1 : (Jvm.Cond.methodLink own index y).before a0 Z = true) (w2 : (Jvm.Cond.declares y).before a0 Z = true) (hnf : NotFace s y) (w3 : (Jvm.Cond.selects C y z).before a0 Z = true) (w4 : (Jvm.Cond.instanceMethod z).before a0 Z = true) (hy : y.cls ≠ "java/lang/invoke/MethodHandle" ∧ y.cls ≠ "java/lang/invoke/VarHandle") (hM : MetFree l z (head1 [Jvm.Cond.code z bytes maxL ret] rm) (fun a U => a = as' ∧ Z.Warmed39 U.vm ∧ U.heap = h) (fun _ _ _ _ _ => True) (fun _ U o U' => ∃ v L, o = .returned v ∧ Q' v U'.heap L ∧ FrameEnd U o U' L rm.cells rm.slots)) (wc : (Jvm.Cond.code z bytes maxL ret).before a0 Z = true) (wz : (Jvm.Cond.initialized z.cls).before a0 Z = true) (eT : T.heap = h) (W : Nat) (hf : rm.frames + 1 ≤ R.frames) (hl : W + (maxL + 11) + rm.locals ≤ R.locals) (hc : cells + rm.cells ≤ R.cells) (hs : slots + rm.slots ≤ R.slots) {a : Addr} (E : Exa Z h a C) (argsL rest : List Value) (has : (.ref a :: argsL).toArray = as') {ps : List FieldType} {rr : Option FieldType} (hpd : parseMethodDescriptor y.desc = some ⟨ps, rr⟩) (hlen : argsL.length = ps.length) {pc : Nat} (pc' : Nat) {Ls : Array Slot} {stk : List Value} (hstk : stk = argsL.reverse ++ .ref a :: rest) (hsize : Ls.size = c.maxLocals) (hW : (rest.map fun v => v.category).sum = W) (hd : decode c.code pc = .ok (.invokevirtual index, 3)) (hp : pc + 3 = pc') (k : ∀ T' v L, Stand p l e R s m args below meth c T' (locs ++ L) (cells + rm.cells) (slots + rm.slots) → Q' v T'.heap L → own_Go p e below s Q K N (T'.setTop (mkF m pc' Ls (v.toList ++ rest)))) : own_Go p e below s Q K N (T.setTop (mkF m pc Ls stk)) := by
  subst hp hstk
  obtain ⟨cq, kq, qa, qb, qc⟩ := isOf hZ eT E
  obtain ⟨v', _, ⟨T', L', k', n'⟩, -, X', ⟨Lc', hQ', l', y', z'⟩, st'⟩ := X.virtualBack hx (y := y) (z := z) hown (mvT hZ w1) (mvT hZ w2) hnf (mvT hZ w3) (mvT hZ w4) hy (backOf (W := W) hM hZ wc wz hf hl) qa qc (g := mkF m pc Ls (argsL.reverse ++ .ref a :: rest)) rfl hsize (Steps.refl _) (argsL := argsL) (rest := rest) (lenOf hpd hlen) rfl (by show 2 * 0 + _ ≤ _; omega) hd (fun _ _ => ⟨has, eT, hc, hs⟩)
  dsimp only [Pt.U, Pt.locs, Pt.cells, Pt.slots] at X' l' y' z' st' hQ'
  subst l' y' z'
  exact own_step (fun t kk => st'.trans kk) (k T' v' _ X' hQ')
theorem own_callU (X : Stand p l e R s m args below meth c T locs cells slots) (hx : p.tables.exec = Jvm.exec) {Z : State} {a0 : Array Value} {h : Heap} (hZ : Z.Warmed39 s.vm) {own : String} (hown : s.vm.findClass own = some m.cls) {C owner : String} {index : Nat} {y z : MethodName} {bytes : ByteArray} {maxL : Nat} {ret : Option FieldType} {rm : Room} {as' : Array Value} {Q' : Option Value → Heap → List Loc → Prop} (w1 : (Jvm.Cond.methodLink own index y).before a0 Z = true) (w5 : (Jvm.Cond.sameMethod y.cls owner y.name y.desc).before a0 Z = true) (w2 : (Jvm.Cond.declares ⟨owner, y.name, y.desc⟩).before a0 Z = true) (ho : owner ≠ "java/lang/invoke/MethodHandle" ∧ owner ≠ "java/lang/invoke/VarHandle") (w3 : (Jvm.Cond.selects C y z).before a0 Z = true) (w4 : (Jvm.Cond.instanceMethod z).before a0 Z = true) (hM : MetFree l z (head1 [Jvm.Cond.code z bytes maxL ret] rm) (fun a U => a = as' ∧ Z.Warmed39 U.vm ∧ U.heap = h) (fun _ _ _ _ _ => True) (fun _ U o U' => ∃ v L, o = .returned v ∧ Q' v U'.heap L ∧ FrameEnd U o U' L rm.cells rm.slots)) (wc : (Jvm.Cond.code z bytes maxL ret).before a0 Z = true) (wz : (Jvm.Cond.initialized z.cls).before a0 Z = true) (eT : T.heap = h) (W : Nat) (hf : rm.frames + 1 ≤ R.frames) (hl : W + (maxL + 11) + rm.locals ≤ R.locals) (hc : cells + rm.cells ≤ R.cells) (hs : slots + rm.slots ≤ R.slots) {a : Addr} (E : Exa Z h a C) (argsL rest : List Value) (has : (.ref a :: argsL).toArray = as') {ps : List FieldType} {rr : Option FieldType} (hpd : parseMethodDescriptor y.desc = some ⟨ps, rr⟩) (hlen : argsL.length = ps.length) {pc : Nat} (pc' : Nat) {Ls : Array Slot} {stk : List Value} (hstk : stk = argsL.reverse ++ .ref a :: rest) (hsize : Ls.size = c.maxLocals) (hW : (rest.map fun v => v.category).sum = W) (hd : decode c.code pc = .ok (.invokevirtual index, 3)) (hp : pc + 3 = pc') (k : ∀ T' v L, Stand p l e R s m args below meth c T' (locs ++ L) (cells + rm.cells) (slots + rm.slots) → Q' v T'.heap L → own_Go p e below s Q K N (T'.setTop (mkF m pc' Ls (v.toList ++ rest)))) : own_Go p e below s Q K N (T.setTop (mkF m pc Ls stk)) := by
  subst hp hstk
  obtain ⟨cq, kq, qa, qb, qc⟩ := isOf hZ eT E
  obtain ⟨v', _, ⟨T', L', k', n'⟩, -, X', ⟨Lc', hQ', l', y', z'⟩, st'⟩ := X.virtualBackUp hx (owner := owner) (x := y) (y := z) hown (mvT hZ w1) (mvT hZ w5) (mvT hZ w2) ho (mvT hZ w3) (mvT hZ w4) (backOf (W := W) hM hZ wc wz hf hl) qa qc (g := mkF m pc Ls (argsL.reverse ++ .ref a :: rest)) rfl hsize (Steps.refl _) (argsL := argsL) (rest := rest) (lenOf hpd hlen) rfl (by show 2 * 0 + _ ≤ _; omega) hd (fun _ _ => ⟨has, eT, hc, hs⟩)
  dsimp only [Pt.U, Pt.locs, Pt.cells, Pt.slots] at X' l' y' z' st' hQ'
  subst l' y' z'
  exact own_step (fun t kk => st'.trans kk) (k T' v' _ X' hQ')
theorem own_nf {C : String} {y : MethodName} {Z : State} {a0 : Array Value} (hZ : Z.Warmed39 s.vm) (w : (Jvm.Cond.selects C y y).before a0 Z = true) : NotFace s y := notFace_of_selects (args := #[]) (mvT hZ w)
theorem own_selfsel {K : String} {y y' : MethodName} (w : (Jvm.Cond.selects K y' y').before args s = true) (hK : y'.cls = y.cls) (hp : s.PrivateAt y) (hi : (Jvm.Cond.instanceMethod y).before args s = true) (hy : y.cls ≠ "java/lang/invoke/MethodHandle" ∧ y.cls ≠ "java/lang/invoke/VarHandle") : (Jvm.Cond.selects y.cls y y).before args s = true := by
  obtain ⟨c2, r2, m2, -, -, q3, -, kP, hkP, hkPi⟩ := Cond.selects_spec w
  exact selects_self_of_private (by rw [← hK]; exact findClass_of_methodNamed q3) hkP hkPi hp hi hy
theorem own_callP (X : Stand p l e R s m args below meth c T locs cells slots) (hx : p.tables.exec = Jvm.exec) {Z : State} {a0 : Array Value} {h : Heap} (hZ : Z.Warmed39 s.vm) {own : String} (hown : s.vm.findClass own = some m.cls) {C K' : String} {index : Nat} {y y' : MethodName} {bytes : ByteArray} {maxL : Nat} {ret : Option FieldType} {rm : Room} {as' : Array Value} {Q' : Option Value → Heap → List Loc → Prop} (w1 : (Jvm.Cond.methodLink own index y).before a0 Z = true) (w2 : (Jvm.Cond.instanceMethod y).before a0 Z = true) (w3 : (Jvm.Cond.selects K' y' y').before a0 Z = true) (hK : y'.cls = y.cls) (w4 : (Jvm.Cond.privateMethod y).before a0 Z = true) (hy : y.cls ≠ "java/lang/invoke/MethodHandle" ∧ y.cls ≠ "java/lang/invoke/VarHandle") (hM : MetFree l y (head1 [Jvm.Cond.code y bytes maxL ret] rm) (fun a U => a = as' ∧ Z.Warmed39 U.vm ∧ U.heap = h) (fun _ _ _ _ _ => True) (fun _ U o U' => ∃ v L, o = .returned v ∧ Q' v U'.heap L ∧ FrameEnd U o U' L rm.cells rm.slots)) (wc : (Jvm.Cond.code y bytes maxL ret).before a0 Z = true) (wz : (Jvm.Cond.initialized y.cls).before a0 Z = true) (eT : T.heap = h) (W : Nat) (hf : rm.frames + 1 ≤ R.frames) (hl : W + (maxL + 11) + rm.locals ≤ R.locals) (hc : cells + rm.cells ≤ R.cells) (hs : slots + rm.slots ≤ R.slots) {a : Addr} (E : Exa Z h a C) (argsL rest : List Value) (has : (.ref a :: argsL).toArray = as') {ps : List FieldType} {rr : Option FieldType} (hpd : parseMethodDescriptor y.desc = some ⟨ps, rr⟩) (hlen : argsL.length = ps.length) {pc : Nat} (pc' : Nat) {Ls : Array Slot} {stk : List Value} (hstk : stk = argsL.reverse ++ .ref a :: rest) (hsize : Ls.size = c.maxLocals) (hW : (rest.map fun v => v.category).sum = W) (hd : decode c.code pc = .ok (.invokevirtual index, 3)) (hp : pc + 3 = pc') (k : ∀ T' v L, Stand p l e R s m args below meth c T' (locs ++ L) (cells + rm.cells) (slots + rm.slots) → Q' v T'.heap L → own_Go p e below s Q K N (T'.setTop (mkF m pc' Ls (v.toList ++ rest)))) : own_Go p e below s Q K N (T.setTop (mkF m pc Ls stk)) := by
  subst hp hstk
  obtain ⟨cq, qa, qb⟩ := E.cell
  have hpr := Cond.privateMethod_at (mvP hZ w4 (args := args))
  obtain ⟨v', _, ⟨T', L', k', n'⟩, -, X', ⟨Lc', hQ', l', y', z'⟩, st'⟩ := X.privateBack hx (y := y) hown (mvT hZ w1) (mvT hZ w2) (own_selfsel (mvT hZ w3) hK hpr (mvT hZ w2) hy) hpr (mvT hZ wc) hy (backOf (W := W) hM hZ wc wz hf hl) (g := mkF m pc Ls (argsL.reverse ++ .ref a :: rest)) rfl hsize (Steps.refl _) (a := a) (by rw [eT]; exact qa) qb (argsL := argsL) (rest := rest) (lenOf hpd hlen) rfl (by show 2 * 0 + _ ≤ _; omega) hd (fun _ _ => ⟨has, eT, hc, hs⟩)
  dsimp only [Pt.U, Pt.locs, Pt.cells, Pt.slots] at X' l' y' z' st' hQ'
  subst l' y' z'
  exact own_step (fun t kk => st'.trans kk) (k T' v' _ X' hQ')
theorem own_cpA (X : Stand p l e R s m args below meth c T locs cells slots) (hx : p.tables.exec = Jvm.exec) {Z : State} {a0 : Array Value} {h : Heap} (hZ : Z.Warmed39 s.vm) {own : String} (hown : s.vm.findClass own = some m.cls) {index : Nat} (w1 : (Jvm.Cond.methodLink own index Jvm.Stand.acN).before a0 Z = true) (w2 : (Jvm.Cond.native Jvm.Stand.acN).before a0 Z = true) (w3 : (Jvm.Cond.static Jvm.Stand.acN).before a0 Z = true) (w4 : (Jvm.Cond.initialized "java/lang/System").before a0 Z = true) (eT : T.heap = h)
    {a b : Addr} {k k' : ClassId} {ty ty' : FieldType} {z z' sp dp nn : Int32} {vs vd : List Value} {dv dd : Value} (us : List Value) (A : Arv Z h a k ty z vs dv) (B : Arv Z h b k' ty' z' vd dd) (hty : (ty = ty' ∧ refKind ty = false) ∨ (refKind ty = true ∧ refKind ty' = true ∧ StoL Z h b us))
    (h1 : ¬ sp < 0) (h2 : ¬ dp < 0) (h3 : ¬ nn < 0) (h4 : sp.toNatClampNeg + nn.toNatClampNeg ≤ z.toNatClampNeg) (h5 : dp.toNatClampNeg + nn.toNatClampNeg ≤ z'.toNatClampNeg) (hus : us = (List.range nn.toNatClampNeg).map fun i => vs.getD (sp.toNatClampNeg + i) dv) (hl : dp.toNatClampNeg + nn.toNatClampNeg ≤ vd.length) {n0 : Nat} (Nf : Fr n0 locs) (ge : n0 ≤ b)
    {pc : Nat} (pc' : Nat) {Ls : Array Slot} {rest : List Value} (hsize : Ls.size = c.maxLocals) (hd : decode c.code pc = .ok (.invokestatic index, 3)) (hp : pc + 3 = pc') (hf : 1 ≤ R.frames) (W : Nat) (hW : (rest.map fun v => v.category).sum = W) (hlo : W + (nativeFrameWords "java/lang/System" "arraycopy" 5 + 11) ≤ R.locals)
    (kk : ∀ T' h' L, Stand p l e R s m args below meth c T' L cells slots → T'.heap = h' → Fr n0 L → Keep h h' [b] → Arv Z h' b k' ty' z' (vd.take dp.toNatClampNeg ++ us ++ vd.drop (dp.toNatClampNeg + nn.toNatClampNeg)) dd → own_Go p e below s Q K N (T'.setTop (mkF m pc' Ls rest))) : own_Go p e below s Q K N (T.setTop (mkF m pc Ls (.int nn :: .int dp :: .ref b :: .int sp :: .ref a :: rest))) := by
  subst hp
  obtain ⟨T', h', L', X', e', N', K', B', st⟩ := cpA X hx hZ hown w1 w2 w3 w4 eT A B hty h1 h2 h3 h4 h5 hus hl Nf ge (g := mkF m pc Ls (.int nn :: .int dp :: .ref b :: .int sp :: .ref a :: rest)) rfl hsize rfl hd hf (W := W) (by show 2 * 0 + _ ≤ _; omega) hlo
  exact own_step st (kk T' h' L' X' e' N' K' B')
theorem own_plainE {Z : State} {h : Heap} {a : Addr} {C : String} (E : Exa Z h a C) : ∀ cell : Cell, h[a]? = some cell → cell.vm.isStatics = false := fun cell hc => by
  obtain ⟨c', k', h1, -, -, h2, -⟩ := E
  cases h1.symm.trans hc; exact h2
theorem own_plainA {Z : State} {h : Heap} {a : Addr} {k : ClassId} {ty : FieldType} {z : Int32} {vs : List Value} {dv : Value} (V : Arv Z h a k ty z vs dv) : ∀ cell : Cell, h[a]? = some cell → cell.vm.isStatics = false := fun cell hc => by
  obtain ⟨c', A, -⟩ := V
  cases A.1.symm.trans hc; exact A.plain
theorem own_castY (X : Stand p l e R s m args below meth c T locs cells slots) (hx : p.tables.exec = Jvm.exec) {Z : State} {a0 : Array Value} {h : Heap} (hZ : Z.Warmed39 s.vm) {own : String} (hown : s.vm.findClass own = some m.cls) {K' : String} {index : Nat} (w : (Jvm.Cond.classLink own index K').before a0 Z = true) (eT : T.heap = h) {a : Addr} (F : Ins Z h a K' true) {pc : Nat} (pc' : Nat) {Ls : Array Slot} {rest : List Value} (hd : decode c.code pc = .ok (.checkcast index, 3)) (hp : pc + 3 = pc') (k : ∀ T', Stand p l e R s m args below meth c T' locs cells slots → T'.heap = h → own_Go p e below s Q K N (T'.setTop (mkF m pc' Ls (.ref a :: rest)))) : own_Go p e below s Q K N (T.setTop (mkF m pc Ls (.ref a :: rest))) := by
  subst hp
  obtain ⟨T', X', e', st⟩ := castY X hx hZ hown w eT F (g := mkF m pc Ls (.ref a :: rest)) rfl rfl hd
  exact own_step st (k T' X' e')
theorem own_instY (X : Stand p l e R s m args below meth c T locs cells slots) (hx : p.tables.exec = Jvm.exec) {Z : State} {a0 : Array Value} {h : Heap} (hZ : Z.Warmed39 s.vm) {own : String} (hown : s.vm.findClass own = some m.cls) {K' : String} {index : Nat} (w : (Jvm.Cond.classLink own index K').before a0 Z = true) (eT : T.heap = h) {a : Addr} (F : Ins Z h a K' true) {pc : Nat} (pc' : Nat) {Ls : Array Slot} {rest : List Value} (hd : decode c.code pc = .ok (.instanceof index, 3)) (hp : pc + 3 = pc') (k : ∀ T', Stand p l e R s m args below meth c T' locs cells slots → T'.heap = h → own_Go p e below s Q K N (T'.setTop (mkF m pc' Ls (.int 1 :: rest)))) : own_Go p e below s Q K N (T.setTop (mkF m pc Ls (.ref a :: rest))) := by
  subst hp
  obtain ⟨T', X', e', st⟩ := instY X hx hZ hown w eT F (g := mkF m pc Ls (.ref a :: rest)) rfl rfl hd
  exact own_step st (k T' X' e')
theorem own_instNo (X : Stand p l e R s m args below meth c T locs cells slots) (hx : p.tables.exec = Jvm.exec) {Z : State} {a0 : Array Value} {h : Heap} (hZ : Z.Warmed39 s.vm) {own : String} (hown : s.vm.findClass own = some m.cls) {K' : String} {index : Nat} (w : (Jvm.Cond.classLink own index K').before a0 Z = true) (eT : T.heap = h) {a : Addr} {C : String} (E : Exa Z h a C) (F : ∃ c t, Z.vm.findClass C = some c ∧ Z.vm.findClass K' = some t ∧ Z.vm.assignable c t = false) {pc : Nat} (pc' : Nat) {Ls : Array Slot} {rest : List Value} (hd : decode c.code pc = .ok (.instanceof index, 3)) (hp : pc + 3 = pc') (k : ∀ T', Stand p l e R s m args below meth c T' locs cells slots → T'.heap = h → own_Go p e below s Q K N (T'.setTop (mkF m pc' Ls (.int 0 :: rest)))) : own_Go p e below s Q K N (T.setTop (mkF m pc Ls (.ref a :: rest))) := by
  subst hp
  obtain ⟨T', X', e', st⟩ := instNo X hx hZ hown w eT E F (g := mkF m pc Ls (.ref a :: rest)) rfl rfl hd
  exact own_step st (k T' X' e')
theorem own_instNull (X : Stand p l e R s m args below meth c T locs cells slots) (hx : p.tables.exec = Jvm.exec) {index : Nat} {pc : Nat} (pc' : Nat) {Ls : Array Slot} {rest : List Value} (hd : decode c.code pc = .ok (.instanceof index, 3)) (hp : pc + 3 = pc') (G : own_Go p e below s Q K N (T.setTop (mkF m pc' Ls (.int 0 :: rest)))) : own_Go p e below s Q K N (T.setTop (mkF m pc Ls (.null :: rest))) := by
  subst hp
  exact own_step (X.instanceofNull hx (g := mkF m pc Ls (.null :: rest)) rfl rfl hd) G
theorem own_irr (x : Int32) : ¬ x < x := by rw [Int32.lt_iff_toInt_lt]; omega
theorem own_fldV {Z : State} {h : Heap} {a : Addr} {C n d : String} {v w : Value} (F : Fld Z h a C n d v) (q : v = w) : Fld Z h a C n d w := q ▸ F
theorem own_arvL {Z : State} {h : Heap} {a : Addr} {k : ClassId} {ty : FieldType} {z : Int32} {vs ws : List Value} {dv : Value} (F : Arv Z h a k ty z vs dv) (q : ws = vs) : Arv Z h a k ty z ws dv := q ▸ F
end Own
def own_sl (l a u : Int32) : Int32 := if u = 13 then l + 1 else if u = 10 then (if a = 0 then l + 1 else l) else l
def own_sc (c u : Int32) : Int32 := if u = 13 then 1 else if u = 10 then 1 else c + 1
def own_sa (u : Int32) : Int32 := if u = 13 then 1 else 0
def own_L (n l a u w : Int32) : Int32 := if n = 0 then l else if n = 1 then own_sl l a u else own_sl (own_sl l a u) (own_sa u) w
def own_C (n c u w : Int32) : Int32 := if n = 0 then c else if n = 1 then own_sc c u else own_sc (own_sc c u) w
def own_A (n a u w : Int32) : Int32 := if n = 0 then a else if n = 1 then own_sa u else own_sa w
theorem own_L0 {l a u w : Int32} : own_L 0 l a u w = l := rfl
theorem own_L1 {l a u w : Int32} : own_L 1 l a u w = own_sl l a u := rfl
theorem own_L2 {l a u w : Int32} : own_L 2 l a u w = own_sl (own_sl l a u) (own_sa u) w := rfl
theorem own_C0 {c u w : Int32} : own_C 0 c u w = c := rfl
theorem own_C1 {c u w : Int32} : own_C 1 c u w = own_sc c u := rfl
theorem own_C2 {c u w : Int32} : own_C 2 c u w = own_sc (own_sc c u) w := rfl
theorem own_A0 {a u w : Int32} : own_A 0 a u w = a := rfl
theorem own_A1 {a u w : Int32} : own_A 1 a u w = own_sa u := rfl
theorem own_A2 {a u w : Int32} : own_A 2 a u w = own_sa w := rfl
theorem own_k0 (c : Int32) : ((0 : Int32) - ((1 : Int32) - c)) + (1 : Int32) = c := by
  apply Int32.toInt_inj.mp
  have a := c_isub 1 c; have b := c_isub 0 (1 - c); have d := c_iadd (0 - (1 - c)) 1
  have r := rng32 c; have r' := rng32 (0 - (1 - c) + 1)
  have h1 : (1 : Int32).toInt = 1 := rfl; have h0 : (0 : Int32).toInt = 0 := rfl
  omega
theorem own_k1 (c : Int32) : ((1 : Int32) - ((1 : Int32) - c)) + (1 : Int32) = c + 1 := by
  apply Int32.toInt_inj.mp
  have a := c_isub 1 c; have b := c_isub 1 (1 - c); have d := c_iadd (1 - (1 - c)) 1; have f := c_iadd c 1
  have r := rng32 (c + 1); have r' := rng32 (1 - (1 - c) + 1)
  have h1 : (1 : Int32).toInt = 1 := rfl
  omega
theorem own_k2 (c : Int32) : ((2 : Int32) - ((1 : Int32) - c)) + (1 : Int32) = c + 1 + 1 := by
  apply Int32.toInt_inj.mp
  have a := c_isub 1 c; have b := c_isub 2 (1 - c); have d := c_iadd (2 - (1 - c)) 1; have f := c_iadd c 1; have f2 := c_iadd (c + 1) 1
  have r := rng32 (c + 1 + 1); have r' := rng32 (2 - (1 - c) + 1)
  have h1 : (1 : Int32).toInt = 1 := rfl; have h2 : (2 : Int32).toInt = 2 := rfl
  omega
theorem own_three (z : Int32) {i : Int32} (q : i = ((z &&& (3 : Int32)) % (3 : Int32))) : i = 0 ∨ i = 1 ∨ i = 2 := by
  have a := c_mask z 3 2 (by decide) (by decide)
  have b := (c_irem (z &&& (3 : Int32)) 3 3 rfl).1 (by omega)
  rw [← q] at b
  have h0 : (0 : Int32).toInt = 0 := rfl
  have h1 : (1 : Int32).toInt = 1 := rfl
  have h2 : (2 : Int32).toInt = 2 := rfl
  rw [← Int32.toInt_inj, ← Int32.toInt_inj, ← Int32.toInt_inj]
  omega
def own_pk (b : Int64) (k : Int32) : Int32 := nar .char (if (k &&& 3) = 0 then 13 else if (k &&& 3) = 1 then 10 else ((b.toInt32).toUInt32.toUInt16.toUInt32.toInt32))
theorem d_method_3_0 : decode method_3_code 0 = .ok (.iload_n 2, 1) := by decide +kernel
theorem d_method_3_1 : decode method_3_code 1 = .ok (.iconst 3, 1) := by decide +kernel
theorem d_method_3_2 : decode method_3_code 2 = .ok (.iand, 1) := by decide +kernel
theorem d_method_3_3 : decode method_3_code 3 = .ok (.istore_n 3, 1) := by decide +kernel
theorem d_method_3_4 : decode method_3_code 4 = .ok (.iload_n 3, 1) := by decide +kernel
theorem d_method_3_5 : decode method_3_code 5 = .ok (.ifCond .ne 6, 3) := by decide +kernel
theorem d_method_3_8 : decode method_3_code 8 = .ok (.bipush 13, 2) := by decide +kernel
theorem d_method_3_10 : decode method_3_code 10 = .ok (.ireturn, 1) := by decide +kernel
theorem d_method_3_11 : decode method_3_code 11 = .ok (.iload_n 3, 1) := by decide +kernel
theorem d_method_3_12 : decode method_3_code 12 = .ok (.iconst 1, 1) := by decide +kernel
theorem d_method_3_13 : decode method_3_code 13 = .ok (.if_icmp .ne 6, 3) := by decide +kernel
theorem d_method_3_16 : decode method_3_code 16 = .ok (.bipush 10, 2) := by decide +kernel
theorem d_method_3_18 : decode method_3_code 18 = .ok (.ireturn, 1) := by decide +kernel
theorem d_method_3_19 : decode method_3_code 19 = .ok (.lload_n 0, 1) := by decide +kernel
theorem d_method_3_20 : decode method_3_code 20 = .ok (.l2i, 1) := by decide +kernel
theorem d_method_3_21 : decode method_3_code 21 = .ok (.i2c, 1) := by decide +kernel
theorem d_method_3_22 : decode method_3_code 22 = .ok (.ireturn, 1) := by decide +kernel
theorem ef_0 (m : MethodId) (x0 : Int64) (x1 : Int32) : entryFrame m #[(.long x0), (.int x1)] 4 = mkF m 0 #[.val (.long x0), .second, .val (.int x1), .unset] [] := by first | (simp [entryFrame, mkF, argsToLocals, Value.category]; done) | rfl
theorem pn_0 : plainName "com/example/libelem/libelem/io/TextPositionAdvancePinLaw" = true := by first | (simp [plainName, overriddenIn]; done) | decide +kernel
def Q_pick (Z : State) (b : Int64) (k : Int32) (h0 : Heap) (n0 : Nat) (v : Option Value) (h : Heap) (L : List Loc) : Prop := v = some (.int (own_pk b k)) ∧ Fr n0 L ∧ h = h0
set_option maxRecDepth 65536 in
set_option maxHeartbeats 40000000 in
theorem rm_pick (l : Launch) (Z : State) (a0 : Array Value) (hw : ∀ d ∈ tables_1, d.before a0 Z = true) (ws : List Jvm.Cond) (b : Int64) (k : Int32) (h0 : Heap) (n0 : Nat) (Z0 : n0 ≤ h0.size) :
    MetFree l (⟨"com/example/libelem/libelem/io/TextPositionAdvancePinLaw", "pick", "(JI)C"⟩ : MethodName) (head1 (Jvm.Cond.code (⟨"com/example/libelem/libelem/io/TextPositionAdvancePinLaw", "pick", "(JI)C"⟩ : MethodName) method_3_code 4 (some .char) :: ws) ({ frames := 0, cells := 0, slots := 0, locals := 0 } : Room)) (fun aA U => aA = #[(.long b), (.int k)] ∧ Z.Warmed39 U.vm ∧ U.heap = h0) (fun _ _ _ _ _ => True) (fun _ U oO U' => ∃ vV LL, oO = .returned vV ∧ Q_pick Z b k h0 n0 vV U'.heap LL ∧ FrameEnd U oO U' LL ({ frames := 0, cells := 0, slots := 0, locals := 0 } : Room).cells ({ frames := 0, cells := 0, slots := 0, locals := 0 } : Room).slots) := by
  refine MetFree.of_bodySF (plainFor_of_name pn_0) hisR ?_
  intro p e s m args below meth c s₁ Bd hml0 hP hK
  obtain ⟨rfl, hZ, hh⟩ := hP
  have hx := Bd.exec
  have hby := Bd.bytes
  have hml : c.maxLocals = 4 := hml0
  have hown : s.vm.findClass "com/example/libelem/libelem/io/TextPositionAdvancePinLaw" = some m.cls := findClass_of_methodNamed Bd.named
  have hnm := (name_of_methodNamed Bd.named Bd.method).1
  have X0 : Stand p l e ({ frames := 0, cells := 0, slots := 0, locals := 0 } : Room) s m #[(.long b), (.int k)] below meth c s₁ [] 0 0 := Stand.of_body Bd
  have e0 : s₁.heap = h0 := by rw [← hh, Bd.state]; rfl
  have N0 := Fr.nil n0
  have hret := Bd.returns
  have hlk : meth.locks = false := Bd.notSynchronized
  refine own_start (ef_0 m b k) ?_
  show own_Go p e below s (Q_pick Z b k h0 n0) ({ frames := 0, cells := 0, slots := 0, locals := 0 } : Room).cells ({ frames := 0, cells := 0, slots := 0, locals := 0 } : Room).slots (s₁.setTop (mkF m 0 #[.val (.long b), .second, .val (.int k), .unset] []))
  refine g_iload_n X0 hx 1 (hb hby d_method_3_0) rfl rfl ?_
  refine g_iconst X0 hx 2 (hb hby d_method_3_1) (3 : Int32) rfl rfl ?_
  refine g_iand X0 hx 3 (hb hby d_method_3_2) rfl ?_
  refine g_istore_n X0 hx 4 (hb hby d_method_3_3) (l' := #[.val (.long b), .second, .val (.int k), .val (.int (k &&& (3 : Int32)))]) rfl rfl ?_
  refine g_iload_n X0 hx 5 (hb hby d_method_3_4) rfl rfl ?_
  by_cases c1 : (k &&& (3 : Int32)) = (0 : Int32)
  · refine g_ifNo X0 hx 8 (hb hby d_method_3_5) (own_i0_ne_f c1) rfl ?_
    refine g_bipush X0 hx 10 (hb hby d_method_3_8) (13 : Int32) rfl rfl ?_
    refine own_retN X0 hx hlk (t := .char) hret (by simp) (hb hby d_method_3_10) ?_ (by decide) (by decide)
    rw [e0]
    exact ⟨(by simp [own_pk, c1]), N0, rfl⟩
  · refine g_ifYes X0 hx 11 (hb hby d_method_3_5) (own_i0_ne_t c1) (by decide) (by decide) ?_
    refine g_iload_n X0 hx 12 (hb hby d_method_3_11) rfl rfl ?_
    refine g_iconst X0 hx 13 (hb hby d_method_3_12) (1 : Int32) rfl rfl ?_
    by_cases c2 : (k &&& (3 : Int32)) = (1 : Int32)
    · refine g_icmpNo X0 hx 16 (hb hby d_method_3_13) (own_ii_ne_f c2) rfl ?_
      refine g_bipush X0 hx 18 (hb hby d_method_3_16) (10 : Int32) rfl rfl ?_
      refine own_retN X0 hx hlk (t := .char) hret (by simp) (hb hby d_method_3_18) ?_ (by decide) (by decide)
      rw [e0]
      exact ⟨(by simp [own_pk, c1, c2]), N0, rfl⟩
    · refine g_icmpYes X0 hx 19 (hb hby d_method_3_13) (own_ii_ne_t c2) (by decide) (by decide) ?_
      refine g_lload_n X0 hx 20 (hb hby d_method_3_19) rfl rfl ?_
      refine g_l2i X0 hx 21 (hb hby d_method_3_20) rfl ?_
      refine g_i2c X0 hx 22 (hb hby d_method_3_21) rfl ?_
      refine own_retN X0 hx hlk (t := .char) hret (by simp) (hb hby d_method_3_22) ?_ (by decide) (by decide)
      rw [e0]
      exact ⟨(by simp [own_pk, c1, c2]), N0, rfl⟩
theorem d_prog_66_method_1_0 : decode prog_66_method_1_code 0 = .ok (.aload_n 0, 1) := by decide +kernel
theorem d_prog_66_method_1_1 : decode prog_66_method_1_code 1 = .ok (.invokespecial 1, 3) := by decide +kernel
theorem d_prog_66_method_1_4 : decode prog_66_method_1_code 4 = .ok (.aload_n 0, 1) := by decide +kernel
theorem d_prog_66_method_1_5 : decode prog_66_method_1_code 5 = .ok (.iconst 1, 1) := by decide +kernel
theorem d_prog_66_method_1_6 : decode prog_66_method_1_code 6 = .ok (.putfield 7, 3) := by decide +kernel
theorem d_prog_66_method_1_9 : decode prog_66_method_1_code 9 = .ok (.aload_n 0, 1) := by decide +kernel
theorem d_prog_66_method_1_10 : decode prog_66_method_1_code 10 = .ok (.iconst 1, 1) := by decide +kernel
theorem d_prog_66_method_1_11 : decode prog_66_method_1_code 11 = .ok (.putfield 13, 3) := by decide +kernel
theorem d_prog_66_method_1_14 : decode prog_66_method_1_code 14 = .ok (.return_, 1) := by decide +kernel
theorem ef_1 (m : MethodId) (x0 : Addr) : entryFrame m #[(.ref x0)] 1 = mkF m 0 #[.val (.ref x0)] [] := by first | (simp [entryFrame, mkF, argsToLocals, Value.category]; done) | rfl
theorem pn_1 : plainName "com/example/libelem/libelem/io/TextPosition" = true := by first | (simp [plainName, overriddenIn]; done) | decide +kernel
def Q_init (Z : State) (o : Addr) (h0 : Heap) (n0 : Nat) (v : Option Value) (h : Heap) (L : List Loc) : Prop := v = none ∧ Fr n0 L ∧ Keep h0 h [o] ∧ Fld Z h o "com/example/libelem/libelem/io/TextPosition" "line" "I" (.int (1 : Int32)) ∧ Fld Z h o "com/example/libelem/libelem/io/TextPosition" "column" "I" (.int (1 : Int32)) ∧ Fld Z h o "com/example/libelem/libelem/io/TextPosition" "afterCarriageReturn" "Z" (.int (0 : Int32))
set_option maxRecDepth 65536 in
set_option maxHeartbeats 40000000 in
theorem rm_init (l : Launch) (Z : State) (a0 : Array Value) (hw : ∀ d ∈ tables_1, d.before a0 Z = true) (ws : List Jvm.Cond) (o : Addr) (h0 : Heap) (n0 : Nat) (Z0 : n0 ≤ h0.size) (E_o : Exa Z h0 o "com/example/libelem/libelem/io/TextPosition") (F_o_line : Fld Z h0 o "com/example/libelem/libelem/io/TextPosition" "line" "I" (.int (0 : Int32))) (F_o_column : Fld Z h0 o "com/example/libelem/libelem/io/TextPosition" "column" "I" (.int (0 : Int32))) (F_o_afterCarriageReturn : Fld Z h0 o "com/example/libelem/libelem/io/TextPosition" "afterCarriageReturn" "Z" (.int (0 : Int32))) (g_o : n0 ≤ o) :
    MetFree l (⟨"com/example/libelem/libelem/io/TextPosition", "<init>", "()V"⟩ : MethodName) (head1 (Jvm.Cond.code (⟨"com/example/libelem/libelem/io/TextPosition", "<init>", "()V"⟩ : MethodName) prog_66_method_1_code 1 none :: ws) ({ frames := 1, cells := 0, slots := 0, locals := 12 } : Room)) (fun aA U => aA = #[(.ref o)] ∧ Z.Warmed39 U.vm ∧ U.heap = h0) (fun _ _ _ _ _ => True) (fun _ U oO U' => ∃ vV LL, oO = .returned vV ∧ Q_init Z o h0 n0 vV U'.heap LL ∧ FrameEnd U oO U' LL ({ frames := 1, cells := 0, slots := 0, locals := 12 } : Room).cells ({ frames := 1, cells := 0, slots := 0, locals := 12 } : Room).slots) := by
  refine MetFree.of_bodySF (plainFor_of_name pn_1) hisR ?_
  intro p e s m args below meth c s₁ Bd hml0 hP hK
  obtain ⟨rfl, hZ, hh⟩ := hP
  have hx := Bd.exec
  have hby := Bd.bytes
  have hml : c.maxLocals = 1 := hml0
  have hown : s.vm.findClass "com/example/libelem/libelem/io/TextPosition" = some m.cls := findClass_of_methodNamed Bd.named
  have hnm := (name_of_methodNamed Bd.named Bd.method).1
  have X0 : Stand p l e ({ frames := 1, cells := 0, slots := 0, locals := 12 } : Room) s m #[(.ref o)] below meth c s₁ [] 0 0 := Stand.of_body Bd
  have e0 : s₁.heap = h0 := by rw [← hh, Bd.state]; rfl
  have N0 := Fr.nil n0
  have hret := Bd.returns
  have hlk : meth.locks = false := Bd.notSynchronized
  refine own_start (ef_1 m o) ?_
  show own_Go p e below s (Q_init Z o h0 n0) ({ frames := 1, cells := 0, slots := 0, locals := 12 } : Room).cells ({ frames := 1, cells := 0, slots := 0, locals := 12 } : Room).slots (s₁.setTop (mkF m 0 #[.val (.ref o)] []))
  refine g_aload_n X0 hx 1 (hb hby d_prog_66_method_1_0) rfl rfl rfl ?_
  refine own_initO X0 hx hZ hown (hw _ (List.mem_of_getElem? (i := 12) rfl)) (hw _ (List.mem_of_getElem? (i := 13) rfl)) (hw _ (List.mem_of_getElem? (i := 14) rfl)) e0 4 (by rw [hml]; rfl) (hb hby d_prog_66_method_1_1) rfl (by decide) 0 rfl (by decide) fun T3 X3 e3 => ?_
  refine g_aload_n X3 hx 5 (hb hby d_prog_66_method_1_4) rfl rfl rfl ?_
  refine g_iconst X3 hx 6 (hb hby d_prog_66_method_1_5) (1 : Int32) rfl rfl ?_
  refine own_putF X3 hx hZ hown (host := "") (Or.inl (hw _ (List.mem_of_getElem? (i := 15) rfl))) Via.refl e3 F_o_line E_o (Or.inl (hw _ (List.mem_of_getElem? (i := 16) rfl))) (hw _ (List.mem_of_getElem? (i := 7) rfl)) (ty := .int) (by decide) rfl rfl 9 (hb hby d_prog_66_method_1_6) rfl fun T4 h4 X4 e4 W4 => ?_
  have f4 : Fld Z h4 o "com/example/libelem/libelem/io/TextPosition" "line" "I" (.int (1 : Int32)) := Fld.same W4 F_o_line
  have N4 := Fr.snoc X4 N0 g_o
  have z5 : n0 ≤ h4.size := (Nat.le_trans Z0 (Keep.of_wr W4).1)
  have K6 : Keep h0 h4 [o] := (Keep.refl h0 [o]).wr W4 (Or.inl (List.mem_of_getElem? (i := 0) rfl))
  refine g_aload_n X4 hx 10 (hb hby d_prog_66_method_1_9) rfl rfl rfl ?_
  refine g_iconst X4 hx 11 (hb hby d_prog_66_method_1_10) (1 : Int32) rfl rfl ?_
  have f7 : Exa Z h4 o "com/example/libelem/libelem/io/TextPosition" := (Exa.wr W4 E_o)
  have f8 : Fld Z h4 o "com/example/libelem/libelem/io/TextPosition" "column" "I" (.int (0 : Int32)) := (Fld.other W4 F_o_column (Or.inr (slot_ne (Or.inl (hw _ (List.mem_of_getElem? (i := 18) rfl))) (Or.inl (hw _ (List.mem_of_getElem? (i := 16) rfl))) (by decide) (t := .int) (t' := .int) (by decide) (by decide))))
  refine own_putF X4 hx hZ hown (host := "") (Or.inl (hw _ (List.mem_of_getElem? (i := 17) rfl))) Via.refl e4 f8 f7 (Or.inl (hw _ (List.mem_of_getElem? (i := 18) rfl))) (hw _ (List.mem_of_getElem? (i := 7) rfl)) (ty := .int) (by decide) rfl rfl 14 (hb hby d_prog_66_method_1_11) rfl fun T9 h9 X9 e9 W9 => ?_
  have f9 : Fld Z h9 o "com/example/libelem/libelem/io/TextPosition" "column" "I" (.int (1 : Int32)) := Fld.same W9 f8
  have N9 := Fr.snoc X9 N4 g_o
  have z10 : n0 ≤ h9.size := (Nat.le_trans z5 (Keep.of_wr W9).1)
  have K11 : Keep h0 h9 [o] := K6.wr W9 (Or.inl (List.mem_of_getElem? (i := 0) rfl))
  have f12 : Fld Z h9 o "com/example/libelem/libelem/io/TextPosition" "line" "I" (.int (1 : Int32)) := (Fld.other W9 f4 (Or.inr (slot_ne (Or.inl (hw _ (List.mem_of_getElem? (i := 16) rfl))) (Or.inl (hw _ (List.mem_of_getElem? (i := 18) rfl))) (by decide) (t := .int) (t' := .int) (by decide) (by decide))))
  have f13 : Fld Z h9 o "com/example/libelem/libelem/io/TextPosition" "afterCarriageReturn" "Z" (.int (0 : Int32)) := (Fld.other W9 (Fld.other W4 F_o_afterCarriageReturn (Or.inr (slot_ne (Or.inl (hw _ (List.mem_of_getElem? (i := 38) rfl))) (Or.inl (hw _ (List.mem_of_getElem? (i := 16) rfl))) (by decide) (t := .boolean) (t' := .int) (by decide) (by decide)))) (Or.inr (slot_ne (Or.inl (hw _ (List.mem_of_getElem? (i := 38) rfl))) (Or.inl (hw _ (List.mem_of_getElem? (i := 18) rfl))) (by decide) (t := .boolean) (t' := .int) (by decide) (by decide))))
  refine own_retV X9 hx hlk hret (hb hby d_prog_66_method_1_14) ?_ (by decide) (by decide)
  rw [e9]
  exact ⟨rfl, N9, K11, f12, f9, f13⟩
theorem d_prog_66_method_2_0 : decode prog_66_method_2_code 0 = .ok (.iconst 1, 1) := by decide +kernel
theorem d_prog_66_method_2_1 : decode prog_66_method_2_code 1 = .ok (.aload_n 0, 1) := by decide +kernel
theorem d_prog_66_method_2_2 : decode prog_66_method_2_code 2 = .ok (.getfield 13, 3) := by decide +kernel
theorem d_prog_66_method_2_5 : decode prog_66_method_2_code 5 = .ok (.isub, 1) := by decide +kernel
theorem d_prog_66_method_2_6 : decode prog_66_method_2_code 6 = .ok (.istore_n 3, 1) := by decide +kernel
theorem d_prog_66_method_2_7 : decode prog_66_method_2_code 7 = .ok (.iconst 0, 1) := by decide +kernel
theorem d_prog_66_method_2_8 : decode prog_66_method_2_code 8 = .ok (.istore 4, 2) := by decide +kernel
theorem d_prog_66_method_2_10 : decode prog_66_method_2_code 10 = .ok (.iload 4, 2) := by decide +kernel
theorem d_prog_66_method_2_12 : decode prog_66_method_2_code 12 = .ok (.iload_n 2, 1) := by decide +kernel
theorem d_prog_66_method_2_13 : decode prog_66_method_2_code 13 = .ok (.if_icmp .ge 86, 3) := by decide +kernel
theorem d_prog_66_method_2_99 : decode prog_66_method_2_code 99 = .ok (.aload_n 0, 1) := by decide +kernel
theorem d_prog_66_method_2_100 : decode prog_66_method_2_code 100 = .ok (.iload_n 2, 1) := by decide +kernel
theorem d_prog_66_method_2_101 : decode prog_66_method_2_code 101 = .ok (.iload_n 3, 1) := by decide +kernel
theorem d_prog_66_method_2_102 : decode prog_66_method_2_code 102 = .ok (.isub, 1) := by decide +kernel
theorem d_prog_66_method_2_103 : decode prog_66_method_2_code 103 = .ok (.iconst 1, 1) := by decide +kernel
theorem d_prog_66_method_2_104 : decode prog_66_method_2_code 104 = .ok (.iadd, 1) := by decide +kernel
theorem d_prog_66_method_2_105 : decode prog_66_method_2_code 105 = .ok (.putfield 13, 3) := by decide +kernel
theorem d_prog_66_method_2_108 : decode prog_66_method_2_code 108 = .ok (.iload_n 2, 1) := by decide +kernel
theorem d_prog_66_method_2_109 : decode prog_66_method_2_code 109 = .ok (.ifCond .le 22, 3) := by decide +kernel
theorem d_prog_66_method_2_131 : decode prog_66_method_2_code 131 = .ok (.return_, 1) := by decide +kernel
theorem d_prog_66_method_2_16 : decode prog_66_method_2_code 16 = .ok (.aload_n 1, 1) := by decide +kernel
theorem d_prog_66_method_2_17 : decode prog_66_method_2_code 17 = .ok (.iload 4, 2) := by decide +kernel
theorem d_prog_66_method_2_19 : decode prog_66_method_2_code 19 = .ok (.caload, 1) := by decide +kernel
theorem d_prog_66_method_2_20 : decode prog_66_method_2_code 20 = .ok (.istore 5, 2) := by decide +kernel
theorem d_prog_66_method_2_22 : decode prog_66_method_2_code 22 = .ok (.iload 5, 2) := by decide +kernel
theorem d_prog_66_method_2_24 : decode prog_66_method_2_code 24 = .ok (.bipush 13, 2) := by decide +kernel
theorem d_prog_66_method_2_26 : decode prog_66_method_2_code 26 = .ok (.if_icmp .eq 10, 3) := by decide +kernel
theorem d_prog_66_method_2_36 : decode prog_66_method_2_code 36 = .ok (.iload 4, 2) := by decide +kernel
theorem d_prog_66_method_2_38 : decode prog_66_method_2_code 38 = .ok (.ifCond .ne 10, 3) := by decide +kernel
theorem d_prog_66_method_2_41 : decode prog_66_method_2_code 41 = .ok (.aload_n 0, 1) := by decide +kernel
theorem d_prog_66_method_2_42 : decode prog_66_method_2_code 42 = .ok (.getfield 16, 3) := by decide +kernel
theorem d_prog_66_method_2_45 : decode prog_66_method_2_code 45 = .ok (.goto 19, 3) := by decide +kernel
theorem d_prog_66_method_2_64 : decode prog_66_method_2_code 64 = .ok (.istore 6, 2) := by decide +kernel
theorem d_prog_66_method_2_66 : decode prog_66_method_2_code 66 = .ok (.iload 5, 2) := by decide +kernel
theorem d_prog_66_method_2_68 : decode prog_66_method_2_code 68 = .ok (.bipush 13, 2) := by decide +kernel
theorem d_prog_66_method_2_70 : decode prog_66_method_2_code 70 = .ok (.if_icmp .eq 8, 3) := by decide +kernel
theorem d_prog_66_method_2_78 : decode prog_66_method_2_code 78 = .ok (.aload_n 0, 1) := by decide +kernel
theorem d_prog_66_method_2_79 : decode prog_66_method_2_code 79 = .ok (.dup, 1) := by decide +kernel
theorem d_prog_66_method_2_80 : decode prog_66_method_2_code 80 = .ok (.getfield 7, 3) := by decide +kernel
theorem d_prog_66_method_2_83 : decode prog_66_method_2_code 83 = .ok (.iconst 1, 1) := by decide +kernel
theorem d_prog_66_method_2_84 : decode prog_66_method_2_code 84 = .ok (.iadd, 1) := by decide +kernel
theorem d_prog_66_method_2_85 : decode prog_66_method_2_code 85 = .ok (.putfield 7, 3) := by decide +kernel
theorem d_prog_66_method_2_88 : decode prog_66_method_2_code 88 = .ok (.iload 4, 2) := by decide +kernel
theorem d_prog_66_method_2_90 : decode prog_66_method_2_code 90 = .ok (.iconst 1, 1) := by decide +kernel
theorem d_prog_66_method_2_91 : decode prog_66_method_2_code 91 = .ok (.iadd, 1) := by decide +kernel
theorem d_prog_66_method_2_92 : decode prog_66_method_2_code 92 = .ok (.istore_n 3, 1) := by decide +kernel
theorem d_prog_66_method_2_93 : decode prog_66_method_2_code 93 = .ok (.iinc 4 1, 3) := by decide +kernel
theorem d_prog_66_method_2_96 : decode prog_66_method_2_code 96 = .ok (.goto (-86), 3) := by decide +kernel
theorem d_prog_66_method_2_112 : decode prog_66_method_2_code 112 = .ok (.aload_n 0, 1) := by decide +kernel
theorem d_prog_66_method_2_113 : decode prog_66_method_2_code 113 = .ok (.aload_n 1, 1) := by decide +kernel
theorem d_prog_66_method_2_114 : decode prog_66_method_2_code 114 = .ok (.iload_n 2, 1) := by decide +kernel
theorem d_prog_66_method_2_115 : decode prog_66_method_2_code 115 = .ok (.iconst 1, 1) := by decide +kernel
theorem d_prog_66_method_2_116 : decode prog_66_method_2_code 116 = .ok (.isub, 1) := by decide +kernel
theorem d_prog_66_method_2_117 : decode prog_66_method_2_code 117 = .ok (.caload, 1) := by decide +kernel
theorem d_prog_66_method_2_118 : decode prog_66_method_2_code 118 = .ok (.bipush 13, 2) := by decide +kernel
theorem d_prog_66_method_2_120 : decode prog_66_method_2_code 120 = .ok (.if_icmp .ne 7, 3) := by decide +kernel
theorem d_prog_66_method_2_123 : decode prog_66_method_2_code 123 = .ok (.iconst 1, 1) := by decide +kernel
theorem d_prog_66_method_2_124 : decode prog_66_method_2_code 124 = .ok (.goto 4, 3) := by decide +kernel
theorem d_prog_66_method_2_128 : decode prog_66_method_2_code 128 = .ok (.putfield 16, 3) := by decide +kernel
theorem d_prog_66_method_2_29 : decode prog_66_method_2_code 29 = .ok (.iload 5, 2) := by decide +kernel
theorem d_prog_66_method_2_31 : decode prog_66_method_2_code 31 = .ok (.bipush 10, 2) := by decide +kernel
theorem d_prog_66_method_2_33 : decode prog_66_method_2_code 33 = .ok (.if_icmp .ne 60, 3) := by decide +kernel
theorem d_prog_66_method_2_73 : decode prog_66_method_2_code 73 = .ok (.iload 6, 2) := by decide +kernel
theorem d_prog_66_method_2_75 : decode prog_66_method_2_code 75 = .ok (.ifCond .ne 13, 3) := by decide +kernel
theorem d_prog_66_method_2_127 : decode prog_66_method_2_code 127 = .ok (.iconst 0, 1) := by decide +kernel
theorem d_prog_66_method_2_48 : decode prog_66_method_2_code 48 = .ok (.aload_n 1, 1) := by decide +kernel
theorem d_prog_66_method_2_49 : decode prog_66_method_2_code 49 = .ok (.iload 4, 2) := by decide +kernel
theorem d_prog_66_method_2_51 : decode prog_66_method_2_code 51 = .ok (.iconst 1, 1) := by decide +kernel
theorem d_prog_66_method_2_52 : decode prog_66_method_2_code 52 = .ok (.isub, 1) := by decide +kernel
theorem d_prog_66_method_2_53 : decode prog_66_method_2_code 53 = .ok (.caload, 1) := by decide +kernel
theorem d_prog_66_method_2_54 : decode prog_66_method_2_code 54 = .ok (.bipush 13, 2) := by decide +kernel
theorem d_prog_66_method_2_56 : decode prog_66_method_2_code 56 = .ok (.if_icmp .ne 7, 3) := by decide +kernel
theorem d_prog_66_method_2_59 : decode prog_66_method_2_code 59 = .ok (.iconst 1, 1) := by decide +kernel
theorem d_prog_66_method_2_60 : decode prog_66_method_2_code 60 = .ok (.goto 4, 3) := by decide +kernel
theorem d_prog_66_method_2_63 : decode prog_66_method_2_code 63 = .ok (.iconst 0, 1) := by decide +kernel
theorem ef_2 (m : MethodId) (x0 : Addr) (x1 : Addr) (x2 : Int32) : entryFrame m #[(.ref x0), (.ref x1), (.int x2)] 7 = mkF m 0 #[.val (.ref x0), .val (.ref x1), .val (.int x2), .unset, .unset, .unset, .unset] [] := by first | (simp [entryFrame, mkF, argsToLocals, Value.category]; done) | rfl
def Q_adv (Z : State) (o : Addr) (ar : Addr) (ka : ClassId) (nn : Int32) (li : Int32) (co : Int32) (ac : Int32) (u0 : Int32) (u1 : Int32) (h0 : Heap) (n0 : Nat) (v : Option Value) (h : Heap) (L : List Loc) : Prop := v = none ∧ Fr n0 L ∧ Keep h0 h [o] ∧ Fld Z h o "com/example/libelem/libelem/io/TextPosition" "line" "I" (.int (own_L nn li ac u0 u1)) ∧ Fld Z h o "com/example/libelem/libelem/io/TextPosition" "column" "I" (.int (own_C nn co u0 u1)) ∧ Fld Z h o "com/example/libelem/libelem/io/TextPosition" "afterCarriageReturn" "Z" (.int (own_A nn ac u0 u1))
set_option maxRecDepth 65536 in
set_option maxHeartbeats 40000000 in
theorem rm_adv (l : Launch) (Z : State) (a0 : Array Value) (hw : ∀ d ∈ tables_1, d.before a0 Z = true) (ws : List Jvm.Cond) (o : Addr) (ar : Addr) (ka : ClassId) (nn : Int32) (li : Int32) (co : Int32) (ac : Int32) (u0 : Int32) (u1 : Int32) (h0 : Heap) (n0 : Nat) (Z0 : n0 ≤ h0.size) (E_o : Exa Z h0 o "com/example/libelem/libelem/io/TextPosition") (F_o_line : Fld Z h0 o "com/example/libelem/libelem/io/TextPosition" "line" "I" (.int li)) (F_o_column : Fld Z h0 o "com/example/libelem/libelem/io/TextPosition" "column" "I" (.int co)) (F_o_afterCarriageReturn : Fld Z h0 o "com/example/libelem/libelem/io/TextPosition" "afterCarriageReturn" "Z" (.int ac)) (V_ar : Arv Z h0 ar ka .char (2 : Int32) [(.int u0), (.int u1)] (.int (0 : Int32))) (ne_ar_o : ar ≠ o) (g_o : n0 ≤ o) (hnn : nn = 0 ∨ nn = 1 ∨ nn = 2) :
    MetFree l (⟨"com/example/libelem/libelem/io/TextPosition", "advance", "([CI)V"⟩ : MethodName) (head1 (Jvm.Cond.code (⟨"com/example/libelem/libelem/io/TextPosition", "advance", "([CI)V"⟩ : MethodName) prog_66_method_2_code 7 none :: ws) ({ frames := 0, cells := 0, slots := 0, locals := 0 } : Room)) (fun aA U => aA = #[(.ref o), (.ref ar), (.int nn)] ∧ Z.Warmed39 U.vm ∧ U.heap = h0) (fun _ _ _ _ _ => True) (fun _ U oO U' => ∃ vV LL, oO = .returned vV ∧ Q_adv Z o ar ka nn li co ac u0 u1 h0 n0 vV U'.heap LL ∧ FrameEnd U oO U' LL ({ frames := 0, cells := 0, slots := 0, locals := 0 } : Room).cells ({ frames := 0, cells := 0, slots := 0, locals := 0 } : Room).slots) := by
  refine MetFree.of_bodySF (plainFor_of_name pn_1) hisR ?_
  intro p e s m args below meth c s₁ Bd hml0 hP hK
  obtain ⟨rfl, hZ, hh⟩ := hP
  have hx := Bd.exec
  have hby := Bd.bytes
  have hml : c.maxLocals = 7 := hml0
  have hown : s.vm.findClass "com/example/libelem/libelem/io/TextPosition" = some m.cls := findClass_of_methodNamed Bd.named
  have hnm := (name_of_methodNamed Bd.named Bd.method).1
  have X0 : Stand p l e ({ frames := 0, cells := 0, slots := 0, locals := 0 } : Room) s m #[(.ref o), (.ref ar), (.int nn)] below meth c s₁ [] 0 0 := Stand.of_body Bd
  have e0 : s₁.heap = h0 := by rw [← hh, Bd.state]; rfl
  have N0 := Fr.nil n0
  have hret := Bd.returns
  have hlk : meth.locks = false := Bd.notSynchronized
  refine own_start (ef_2 m o ar nn) ?_
  show own_Go p e below s (Q_adv Z o ar ka nn li co ac u0 u1 h0 n0) ({ frames := 0, cells := 0, slots := 0, locals := 0 } : Room).cells ({ frames := 0, cells := 0, slots := 0, locals := 0 } : Room).slots (s₁.setTop (mkF m 0 #[.val (.ref o), .val (.ref ar), .val (.int nn), .unset, .unset, .unset, .unset] []))
  rcases hnn with rfl | rfl | rfl
  · show own_Go p e below s _ _ _ (s₁.setTop (mkF m 0 _ []))
    refine g_iconst X0 hx 1 (hb hby d_prog_66_method_2_0) (1 : Int32) rfl rfl ?_
    refine g_aload_n X0 hx 2 (hb hby d_prog_66_method_2_1) rfl rfl rfl ?_
    refine own_getF X0 hx hZ hown (host := "") (Or.inl (hw _ (List.mem_of_getElem? (i := 17) rfl))) Via.refl e0 F_o_column 5 (hb hby d_prog_66_method_2_2) rfl fun T14 X14 e14 => ?_
    refine g_isub X14 hx 6 (hb hby d_prog_66_method_2_5) rfl ?_
    refine g_istore_n X14 hx 7 (hb hby d_prog_66_method_2_6) (l' := #[.val (.ref o), .val (.ref ar), .val (.int (0 : Int32)), .val (.int ((1 : Int32) - co)), .unset, .unset, .unset]) rfl rfl ?_
    refine g_iconst X14 hx 8 (hb hby d_prog_66_method_2_7) (0 : Int32) rfl rfl ?_
    refine g_istore X14 hx 10 (hb hby d_prog_66_method_2_8) (l' := #[.val (.ref o), .val (.ref ar), .val (.int (0 : Int32)), .val (.int ((1 : Int32) - co)), .val (.int (0 : Int32)), .unset, .unset]) rfl rfl ?_
    refine g_iload X14 hx 12 (hb hby d_prog_66_method_2_10) rfl rfl ?_
    refine g_iload_n X14 hx 13 (hb hby d_prog_66_method_2_12) rfl rfl ?_
    refine g_icmpYes X14 hx 99 (hb hby d_prog_66_method_2_13) (own_ii_ge_t (by decide)) (by decide) (by decide) ?_
    refine g_aload_n X14 hx 100 (hb hby d_prog_66_method_2_99) rfl rfl rfl ?_
    refine g_iload_n X14 hx 101 (hb hby d_prog_66_method_2_100) rfl rfl ?_
    refine g_iload_n X14 hx 102 (hb hby d_prog_66_method_2_101) rfl rfl ?_
    refine g_isub X14 hx 103 (hb hby d_prog_66_method_2_102) rfl ?_
    refine g_iconst X14 hx 104 (hb hby d_prog_66_method_2_103) (1 : Int32) rfl rfl ?_
    refine g_iadd X14 hx 105 (hb hby d_prog_66_method_2_104) rfl ?_
    refine own_putF X14 hx hZ hown (host := "") (Or.inl (hw _ (List.mem_of_getElem? (i := 17) rfl))) Via.refl e14 F_o_column E_o (Or.inl (hw _ (List.mem_of_getElem? (i := 18) rfl))) (hw _ (List.mem_of_getElem? (i := 7) rfl)) (ty := .int) (by decide) rfl rfl 108 (hb hby d_prog_66_method_2_105) rfl fun T15 h15 X15 e15 W15 => ?_
    have f15 : Fld Z h15 o "com/example/libelem/libelem/io/TextPosition" "column" "I" (.int (((0 : Int32) - ((1 : Int32) - co)) + (1 : Int32))) := Fld.same W15 F_o_column
    have N15 := Fr.snoc X15 N0 g_o
    have z16 : n0 ≤ h15.size := (Nat.le_trans Z0 (Keep.of_wr W15).1)
    have K17 : Keep h0 h15 [o] := (Keep.refl h0 [o]).wr W15 (Or.inl (List.mem_of_getElem? (i := 0) rfl))
    refine g_iload_n X15 hx 109 (hb hby d_prog_66_method_2_108) rfl rfl ?_
    refine g_ifYes X15 hx 131 (hb hby d_prog_66_method_2_109) (own_i0_le_t (by decide)) (by decide) (by decide) ?_
    have f18 : Fld Z h15 o "com/example/libelem/libelem/io/TextPosition" "line" "I" (.int li) := (Fld.other W15 F_o_line (Or.inr (slot_ne (Or.inl (hw _ (List.mem_of_getElem? (i := 16) rfl))) (Or.inl (hw _ (List.mem_of_getElem? (i := 18) rfl))) (by decide) (t := .int) (t' := .int) (by decide) (by decide))))
    have f19 : Fld Z h15 o "com/example/libelem/libelem/io/TextPosition" "afterCarriageReturn" "Z" (.int ac) := (Fld.other W15 F_o_afterCarriageReturn (Or.inr (slot_ne (Or.inl (hw _ (List.mem_of_getElem? (i := 38) rfl))) (Or.inl (hw _ (List.mem_of_getElem? (i := 18) rfl))) (by decide) (t := .boolean) (t' := .int) (by decide) (by decide))))
    refine own_retV X15 hx hlk hret (hb hby d_prog_66_method_2_131) ?_ (by decide) (by decide)
    rw [e15]
    exact ⟨rfl, N15, K17, (own_fldV f18 (congrArg Value.int (by first | rfl | (simp [own_sl, own_sc, own_sa, own_L0, own_L1, own_L2, own_C0, own_C1, own_C2, own_A0, own_A1, own_A2, own_k0, own_k1, own_k2]; done)))), (own_fldV f15 (congrArg Value.int (by first | rfl | (simp [own_sl, own_sc, own_sa, own_L0, own_L1, own_L2, own_C0, own_C1, own_C2, own_A0, own_A1, own_A2, own_k0, own_k1, own_k2]; done)))), (own_fldV f19 (congrArg Value.int (by first | rfl | (simp [own_sl, own_sc, own_sa, own_L0, own_L1, own_L2, own_C0, own_C1, own_C2, own_A0, own_A1, own_A2, own_k0, own_k1, own_k2]; done))))⟩
  · show own_Go p e below s _ _ _ (s₁.setTop (mkF m 0 _ []))
    refine g_iconst X0 hx 1 (hb hby d_prog_66_method_2_0) (1 : Int32) rfl rfl ?_
    refine g_aload_n X0 hx 2 (hb hby d_prog_66_method_2_1) rfl rfl rfl ?_
    refine own_getF X0 hx hZ hown (host := "") (Or.inl (hw _ (List.mem_of_getElem? (i := 17) rfl))) Via.refl e0 F_o_column 5 (hb hby d_prog_66_method_2_2) rfl fun T20 X20 e20 => ?_
    refine g_isub X20 hx 6 (hb hby d_prog_66_method_2_5) rfl ?_
    refine g_istore_n X20 hx 7 (hb hby d_prog_66_method_2_6) (l' := #[.val (.ref o), .val (.ref ar), .val (.int (1 : Int32)), .val (.int ((1 : Int32) - co)), .unset, .unset, .unset]) rfl rfl ?_
    refine g_iconst X20 hx 8 (hb hby d_prog_66_method_2_7) (0 : Int32) rfl rfl ?_
    refine g_istore X20 hx 10 (hb hby d_prog_66_method_2_8) (l' := #[.val (.ref o), .val (.ref ar), .val (.int (1 : Int32)), .val (.int ((1 : Int32) - co)), .val (.int (0 : Int32)), .unset, .unset]) rfl rfl ?_
    refine g_iload X20 hx 12 (hb hby d_prog_66_method_2_10) rfl rfl ?_
    refine g_iload_n X20 hx 13 (hb hby d_prog_66_method_2_12) rfl rfl ?_
    refine g_icmpNo X20 hx 16 (hb hby d_prog_66_method_2_13) (own_ii_ge_f (by decide)) rfl ?_
    refine g_aload_n X20 hx 17 (hb hby d_prog_66_method_2_16) rfl rfl rfl ?_
    refine g_iload X20 hx 19 (hb hby d_prog_66_method_2_17) rfl rfl ?_
    obtain ⟨cl21, Ar21, q21, S21, P21, H21, G21⟩ := id V_ar
    have hin21 := inb_of (j := (0 : Int32)) S21 ⟨by decide, by decide⟩
    refine own_caload X20 hx hZ e20 Ar21 (v := (.int u0)) hin21 (Has.at H21 hin21 rfl) 20 (hb hby d_prog_66_method_2_19) rfl ?_
    refine g_istore X20 hx 22 (hb hby d_prog_66_method_2_20) (l' := #[.val (.ref o), .val (.ref ar), .val (.int (1 : Int32)), .val (.int ((1 : Int32) - co)), .val (.int (0 : Int32)), .val (.int u0), .unset]) rfl rfl ?_
    refine g_iload X20 hx 24 (hb hby d_prog_66_method_2_22) rfl rfl ?_
    refine g_bipush X20 hx 26 (hb hby d_prog_66_method_2_24) (13 : Int32) rfl rfl ?_
    by_cases c22 : u0 = (13 : Int32)
    · refine g_icmpYes X20 hx 36 (hb hby d_prog_66_method_2_26) (own_ii_eq_t c22) (by decide) (by decide) ?_
      refine g_iload X20 hx 38 (hb hby d_prog_66_method_2_36) rfl rfl ?_
      refine g_ifNo X20 hx 41 (hb hby d_prog_66_method_2_38) (own_i0_ne_f (by decide)) rfl ?_
      refine g_aload_n X20 hx 42 (hb hby d_prog_66_method_2_41) rfl rfl rfl ?_
      refine own_getF X20 hx hZ hown (host := "") (Or.inl (hw _ (List.mem_of_getElem? (i := 37) rfl))) Via.refl e20 F_o_afterCarriageReturn 45 (hb hby d_prog_66_method_2_42) rfl fun T23 X23 e23 => ?_
      refine g_goto X23 hx 64 (hb hby d_prog_66_method_2_45) (by decide) (by decide) ?_
      refine g_istore X23 hx 66 (hb hby d_prog_66_method_2_64) (l' := #[.val (.ref o), .val (.ref ar), .val (.int (1 : Int32)), .val (.int ((1 : Int32) - co)), .val (.int (0 : Int32)), .val (.int u0), .val (.int ac)]) rfl rfl ?_
      refine g_iload X23 hx 68 (hb hby d_prog_66_method_2_66) rfl rfl ?_
      refine g_bipush X23 hx 70 (hb hby d_prog_66_method_2_68) (13 : Int32) rfl rfl ?_
      refine g_icmpYes X23 hx 78 (hb hby d_prog_66_method_2_70) (own_ii_eq_t c22) (by decide) (by decide) ?_
      refine g_aload_n X23 hx 79 (hb hby d_prog_66_method_2_78) rfl rfl rfl ?_
      refine g_dup X23 hx 80 (hb hby d_prog_66_method_2_79) rfl rfl ?_
      refine own_getF X23 hx hZ hown (host := "") (Or.inl (hw _ (List.mem_of_getElem? (i := 15) rfl))) Via.refl e23 F_o_line 83 (hb hby d_prog_66_method_2_80) rfl fun T25 X25 e25 => ?_
      refine g_iconst X25 hx 84 (hb hby d_prog_66_method_2_83) (1 : Int32) rfl rfl ?_
      refine g_iadd X25 hx 85 (hb hby d_prog_66_method_2_84) rfl ?_
      refine own_putF X25 hx hZ hown (host := "") (Or.inl (hw _ (List.mem_of_getElem? (i := 15) rfl))) Via.refl e25 F_o_line E_o (Or.inl (hw _ (List.mem_of_getElem? (i := 16) rfl))) (hw _ (List.mem_of_getElem? (i := 7) rfl)) (ty := .int) (by decide) rfl rfl 88 (hb hby d_prog_66_method_2_85) rfl fun T26 h26 X26 e26 W26 => ?_
      have f26 : Fld Z h26 o "com/example/libelem/libelem/io/TextPosition" "line" "I" (.int (li + (1 : Int32))) := Fld.same W26 F_o_line
      have N26 := Fr.snoc X26 N0 g_o
      have z27 : n0 ≤ h26.size := (Nat.le_trans Z0 (Keep.of_wr W26).1)
      have K28 : Keep h0 h26 [o] := (Keep.refl h0 [o]).wr W26 (Or.inl (List.mem_of_getElem? (i := 0) rfl))
      refine g_iload X26 hx 90 (hb hby d_prog_66_method_2_88) rfl rfl ?_
      refine g_iconst X26 hx 91 (hb hby d_prog_66_method_2_90) (1 : Int32) rfl rfl ?_
      refine g_iadd X26 hx 92 (hb hby d_prog_66_method_2_91) rfl ?_
      show own_Go p e below s _ _ _ (T26.setTop (mkF m 92 _ [(.int (1 : Int32))]))
      refine g_istore_n X26 hx 93 (hb hby d_prog_66_method_2_92) (l' := #[.val (.ref o), .val (.ref ar), .val (.int (1 : Int32)), .val (.int (1 : Int32)), .val (.int (0 : Int32)), .val (.int u0), .val (.int ac)]) rfl rfl ?_
      refine g_iinc X26 hx 96 (hb hby d_prog_66_method_2_93) (z := (1 : Int32)) rfl rfl (l' := #[.val (.ref o), .val (.ref ar), .val (.int (1 : Int32)), .val (.int (1 : Int32)), .val (.int (1 : Int32)), .val (.int u0), .val (.int ac)]) rfl rfl ?_
      refine g_goto X26 hx 10 (hb hby d_prog_66_method_2_96) (by decide) (by decide) ?_
      refine g_iload X26 hx 12 (hb hby d_prog_66_method_2_10) rfl rfl ?_
      refine g_iload_n X26 hx 13 (hb hby d_prog_66_method_2_12) rfl rfl ?_
      refine g_icmpYes X26 hx 99 (hb hby d_prog_66_method_2_13) (own_ii_ge_t (by decide)) (by decide) (by decide) ?_
      refine g_aload_n X26 hx 100 (hb hby d_prog_66_method_2_99) rfl rfl rfl ?_
      refine g_iload_n X26 hx 101 (hb hby d_prog_66_method_2_100) rfl rfl ?_
      refine g_iload_n X26 hx 102 (hb hby d_prog_66_method_2_101) rfl rfl ?_
      refine g_isub X26 hx 103 (hb hby d_prog_66_method_2_102) rfl ?_
      show own_Go p e below s _ _ _ (T26.setTop (mkF m 103 _ [(.int (0 : Int32)), (.ref o)]))
      refine g_iconst X26 hx 104 (hb hby d_prog_66_method_2_103) (1 : Int32) rfl rfl ?_
      refine g_iadd X26 hx 105 (hb hby d_prog_66_method_2_104) rfl ?_
      show own_Go p e below s _ _ _ (T26.setTop (mkF m 105 _ [(.int (1 : Int32)), (.ref o)]))
      have f29 : Exa Z h26 o "com/example/libelem/libelem/io/TextPosition" := (Exa.wr W26 E_o)
      have f30 : Fld Z h26 o "com/example/libelem/libelem/io/TextPosition" "column" "I" (.int co) := (Fld.other W26 F_o_column (Or.inr (slot_ne (Or.inl (hw _ (List.mem_of_getElem? (i := 18) rfl))) (Or.inl (hw _ (List.mem_of_getElem? (i := 16) rfl))) (by decide) (t := .int) (t' := .int) (by decide) (by decide))))
      refine own_putF X26 hx hZ hown (host := "") (Or.inl (hw _ (List.mem_of_getElem? (i := 17) rfl))) Via.refl e26 f30 f29 (Or.inl (hw _ (List.mem_of_getElem? (i := 18) rfl))) (hw _ (List.mem_of_getElem? (i := 7) rfl)) (ty := .int) (by decide) rfl rfl 108 (hb hby d_prog_66_method_2_105) rfl fun T31 h31 X31 e31 W31 => ?_
      have f31 : Fld Z h31 o "com/example/libelem/libelem/io/TextPosition" "column" "I" (.int (1 : Int32)) := Fld.same W31 f30
      have N31 := Fr.snoc X31 N26 g_o
      have z32 : n0 ≤ h31.size := (Nat.le_trans z27 (Keep.of_wr W31).1)
      have K33 : Keep h0 h31 [o] := K28.wr W31 (Or.inl (List.mem_of_getElem? (i := 0) rfl))
      refine g_iload_n X31 hx 109 (hb hby d_prog_66_method_2_108) rfl rfl ?_
      refine g_ifNo X31 hx 112 (hb hby d_prog_66_method_2_109) (own_i0_le_f (by decide)) rfl ?_
      refine g_aload_n X31 hx 113 (hb hby d_prog_66_method_2_112) rfl rfl rfl ?_
      refine g_aload_n X31 hx 114 (hb hby d_prog_66_method_2_113) rfl rfl rfl ?_
      refine g_iload_n X31 hx 115 (hb hby d_prog_66_method_2_114) rfl rfl ?_
      refine g_iconst X31 hx 116 (hb hby d_prog_66_method_2_115) (1 : Int32) rfl rfl ?_
      refine g_isub X31 hx 117 (hb hby d_prog_66_method_2_116) rfl ?_
      show own_Go p e below s _ _ _ (T31.setTop (mkF m 117 _ [(.int (0 : Int32)), (.ref ar), (.ref o)]))
      have f34 : Arv Z h31 ar ka .char (2 : Int32) [(.int u0), (.int u1)] (.int (0 : Int32)) := ((V_ar.other W26 ne_ar_o).other W31 ne_ar_o)
      obtain ⟨cl35, Ar35, q35, S35, P35, H35, G35⟩ := id f34
      have hin35 := inb_of (j := (0 : Int32)) S35 ⟨by decide, by decide⟩
      refine own_caload X31 hx hZ e31 Ar35 (v := (.int u0)) hin35 (Has.at H35 hin35 rfl) 118 (hb hby d_prog_66_method_2_117) rfl ?_
      refine g_bipush X31 hx 120 (hb hby d_prog_66_method_2_118) (13 : Int32) rfl rfl ?_
      refine g_icmpNo X31 hx 123 (hb hby d_prog_66_method_2_120) (own_ii_ne_f c22) rfl ?_
      refine g_iconst X31 hx 124 (hb hby d_prog_66_method_2_123) (1 : Int32) rfl rfl ?_
      refine g_goto X31 hx 128 (hb hby d_prog_66_method_2_124) (by decide) (by decide) ?_
      have f37 : Exa Z h31 o "com/example/libelem/libelem/io/TextPosition" := (Exa.wr W31 f29)
      have f38 : Fld Z h31 o "com/example/libelem/libelem/io/TextPosition" "afterCarriageReturn" "Z" (.int ac) := (Fld.other W31 (Fld.other W26 F_o_afterCarriageReturn (Or.inr (slot_ne (Or.inl (hw _ (List.mem_of_getElem? (i := 38) rfl))) (Or.inl (hw _ (List.mem_of_getElem? (i := 16) rfl))) (by decide) (t := .boolean) (t' := .int) (by decide) (by decide)))) (Or.inr (slot_ne (Or.inl (hw _ (List.mem_of_getElem? (i := 38) rfl))) (Or.inl (hw _ (List.mem_of_getElem? (i := 18) rfl))) (by decide) (t := .boolean) (t' := .int) (by decide) (by decide))))
      refine own_putFN X31 hx hZ hown (hw _ (List.mem_of_getElem? (i := 37) rfl)) Via.refl e31 (.int (1 : Int32)) f38 f37 (Or.inl (hw _ (List.mem_of_getElem? (i := 38) rfl))) (hw _ (List.mem_of_getElem? (i := 7) rfl)) (ty := .boolean) (by decide) rfl rfl 131 (hb hby d_prog_66_method_2_128) rfl fun T39 h39 X39 e39 W39 => ?_
      have f39 : Fld Z h39 o "com/example/libelem/libelem/io/TextPosition" "afterCarriageReturn" "Z" (.int (1 : Int32)) := Fld.same W39 f38
      have N39 := Fr.snoc X39 N31 g_o
      have z40 : n0 ≤ h39.size := (Nat.le_trans z32 (Keep.of_wr W39).1)
      have K41 : Keep h0 h39 [o] := K33.wr W39 (Or.inl (List.mem_of_getElem? (i := 0) rfl))
      have f42 : Fld Z h39 o "com/example/libelem/libelem/io/TextPosition" "line" "I" (.int (li + (1 : Int32))) := (Fld.other W39 (Fld.other W31 f26 (Or.inr (slot_ne (Or.inl (hw _ (List.mem_of_getElem? (i := 16) rfl))) (Or.inl (hw _ (List.mem_of_getElem? (i := 18) rfl))) (by decide) (t := .int) (t' := .int) (by decide) (by decide)))) (Or.inr (slot_ne (Or.inl (hw _ (List.mem_of_getElem? (i := 16) rfl))) (Or.inl (hw _ (List.mem_of_getElem? (i := 38) rfl))) (by decide) (t := .int) (t' := .boolean) (by decide) (by decide))))
      have f43 : Fld Z h39 o "com/example/libelem/libelem/io/TextPosition" "column" "I" (.int (1 : Int32)) := (Fld.other W39 f31 (Or.inr (slot_ne (Or.inl (hw _ (List.mem_of_getElem? (i := 18) rfl))) (Or.inl (hw _ (List.mem_of_getElem? (i := 38) rfl))) (by decide) (t := .int) (t' := .boolean) (by decide) (by decide))))
      refine own_retV X39 hx hlk hret (hb hby d_prog_66_method_2_131) ?_ (by decide) (by decide)
      rw [e39]
      exact ⟨rfl, N39, K41, (own_fldV f42 (congrArg Value.int (by first | rfl | (simp [c22, own_sl, own_sc, own_sa, own_L0, own_L1, own_L2, own_C0, own_C1, own_C2, own_A0, own_A1, own_A2, own_k0, own_k1, own_k2]; done)))), (own_fldV f43 (congrArg Value.int (by first | rfl | (simp [c22, own_sl, own_sc, own_sa, own_L0, own_L1, own_L2, own_C0, own_C1, own_C2, own_A0, own_A1, own_A2, own_k0, own_k1, own_k2]; done)))), (own_fldV f39 (congrArg Value.int (by first | rfl | (simp [c22, own_sl, own_sc, own_sa, own_L0, own_L1, own_L2, own_C0, own_C1, own_C2, own_A0, own_A1, own_A2, own_k0, own_k1, own_k2]; done))))⟩
    · refine g_icmpNo X20 hx 29 (hb hby d_prog_66_method_2_26) (own_ii_eq_f c22) rfl ?_
      refine g_iload X20 hx 31 (hb hby d_prog_66_method_2_29) rfl rfl ?_
      refine g_bipush X20 hx 33 (hb hby d_prog_66_method_2_31) (10 : Int32) rfl rfl ?_
      by_cases c44 : u0 = (10 : Int32)
      · refine g_icmpNo X20 hx 36 (hb hby d_prog_66_method_2_33) (own_ii_ne_f c44) rfl ?_
        refine g_iload X20 hx 38 (hb hby d_prog_66_method_2_36) rfl rfl ?_
        refine g_ifNo X20 hx 41 (hb hby d_prog_66_method_2_38) (own_i0_ne_f (by decide)) rfl ?_
        refine g_aload_n X20 hx 42 (hb hby d_prog_66_method_2_41) rfl rfl rfl ?_
        refine own_getF X20 hx hZ hown (host := "") (Or.inl (hw _ (List.mem_of_getElem? (i := 37) rfl))) Via.refl e20 F_o_afterCarriageReturn 45 (hb hby d_prog_66_method_2_42) rfl fun T45 X45 e45 => ?_
        refine g_goto X45 hx 64 (hb hby d_prog_66_method_2_45) (by decide) (by decide) ?_
        refine g_istore X45 hx 66 (hb hby d_prog_66_method_2_64) (l' := #[.val (.ref o), .val (.ref ar), .val (.int (1 : Int32)), .val (.int ((1 : Int32) - co)), .val (.int (0 : Int32)), .val (.int u0), .val (.int ac)]) rfl rfl ?_
        refine g_iload X45 hx 68 (hb hby d_prog_66_method_2_66) rfl rfl ?_
        refine g_bipush X45 hx 70 (hb hby d_prog_66_method_2_68) (13 : Int32) rfl rfl ?_
        refine g_icmpNo X45 hx 73 (hb hby d_prog_66_method_2_70) (own_ii_eq_f c22) rfl ?_
        refine g_iload X45 hx 75 (hb hby d_prog_66_method_2_73) rfl rfl ?_
        by_cases c47 : ac = (0 : Int32)
        · refine g_ifNo X45 hx 78 (hb hby d_prog_66_method_2_75) (own_i0_ne_f c47) rfl ?_
          refine g_aload_n X45 hx 79 (hb hby d_prog_66_method_2_78) rfl rfl rfl ?_
          refine g_dup X45 hx 80 (hb hby d_prog_66_method_2_79) rfl rfl ?_
          refine own_getF X45 hx hZ hown (host := "") (Or.inl (hw _ (List.mem_of_getElem? (i := 15) rfl))) Via.refl e45 F_o_line 83 (hb hby d_prog_66_method_2_80) rfl fun T48 X48 e48 => ?_
          refine g_iconst X48 hx 84 (hb hby d_prog_66_method_2_83) (1 : Int32) rfl rfl ?_
          refine g_iadd X48 hx 85 (hb hby d_prog_66_method_2_84) rfl ?_
          refine own_putF X48 hx hZ hown (host := "") (Or.inl (hw _ (List.mem_of_getElem? (i := 15) rfl))) Via.refl e48 F_o_line E_o (Or.inl (hw _ (List.mem_of_getElem? (i := 16) rfl))) (hw _ (List.mem_of_getElem? (i := 7) rfl)) (ty := .int) (by decide) rfl rfl 88 (hb hby d_prog_66_method_2_85) rfl fun T49 h49 X49 e49 W49 => ?_
          have f49 : Fld Z h49 o "com/example/libelem/libelem/io/TextPosition" "line" "I" (.int (li + (1 : Int32))) := Fld.same W49 F_o_line
          have N49 := Fr.snoc X49 N0 g_o
          have z50 : n0 ≤ h49.size := (Nat.le_trans Z0 (Keep.of_wr W49).1)
          have K51 : Keep h0 h49 [o] := (Keep.refl h0 [o]).wr W49 (Or.inl (List.mem_of_getElem? (i := 0) rfl))
          refine g_iload X49 hx 90 (hb hby d_prog_66_method_2_88) rfl rfl ?_
          refine g_iconst X49 hx 91 (hb hby d_prog_66_method_2_90) (1 : Int32) rfl rfl ?_
          refine g_iadd X49 hx 92 (hb hby d_prog_66_method_2_91) rfl ?_
          show own_Go p e below s _ _ _ (T49.setTop (mkF m 92 _ [(.int (1 : Int32))]))
          refine g_istore_n X49 hx 93 (hb hby d_prog_66_method_2_92) (l' := #[.val (.ref o), .val (.ref ar), .val (.int (1 : Int32)), .val (.int (1 : Int32)), .val (.int (0 : Int32)), .val (.int u0), .val (.int ac)]) rfl rfl ?_
          refine g_iinc X49 hx 96 (hb hby d_prog_66_method_2_93) (z := (1 : Int32)) rfl rfl (l' := #[.val (.ref o), .val (.ref ar), .val (.int (1 : Int32)), .val (.int (1 : Int32)), .val (.int (1 : Int32)), .val (.int u0), .val (.int ac)]) rfl rfl ?_
          refine g_goto X49 hx 10 (hb hby d_prog_66_method_2_96) (by decide) (by decide) ?_
          refine g_iload X49 hx 12 (hb hby d_prog_66_method_2_10) rfl rfl ?_
          refine g_iload_n X49 hx 13 (hb hby d_prog_66_method_2_12) rfl rfl ?_
          refine g_icmpYes X49 hx 99 (hb hby d_prog_66_method_2_13) (own_ii_ge_t (by decide)) (by decide) (by decide) ?_
          refine g_aload_n X49 hx 100 (hb hby d_prog_66_method_2_99) rfl rfl rfl ?_
          refine g_iload_n X49 hx 101 (hb hby d_prog_66_method_2_100) rfl rfl ?_
          refine g_iload_n X49 hx 102 (hb hby d_prog_66_method_2_101) rfl rfl ?_
          refine g_isub X49 hx 103 (hb hby d_prog_66_method_2_102) rfl ?_
          show own_Go p e below s _ _ _ (T49.setTop (mkF m 103 _ [(.int (0 : Int32)), (.ref o)]))
          refine g_iconst X49 hx 104 (hb hby d_prog_66_method_2_103) (1 : Int32) rfl rfl ?_
          refine g_iadd X49 hx 105 (hb hby d_prog_66_method_2_104) rfl ?_
          show own_Go p e below s _ _ _ (T49.setTop (mkF m 105 _ [(.int (1 : Int32)), (.ref o)]))
          have f52 : Exa Z h49 o "com/example/libelem/libelem/io/TextPosition" := (Exa.wr W49 E_o)
          have f53 : Fld Z h49 o "com/example/libelem/libelem/io/TextPosition" "column" "I" (.int co) := (Fld.other W49 F_o_column (Or.inr (slot_ne (Or.inl (hw _ (List.mem_of_getElem? (i := 18) rfl))) (Or.inl (hw _ (List.mem_of_getElem? (i := 16) rfl))) (by decide) (t := .int) (t' := .int) (by decide) (by decide))))
          refine own_putF X49 hx hZ hown (host := "") (Or.inl (hw _ (List.mem_of_getElem? (i := 17) rfl))) Via.refl e49 f53 f52 (Or.inl (hw _ (List.mem_of_getElem? (i := 18) rfl))) (hw _ (List.mem_of_getElem? (i := 7) rfl)) (ty := .int) (by decide) rfl rfl 108 (hb hby d_prog_66_method_2_105) rfl fun T54 h54 X54 e54 W54 => ?_
          have f54 : Fld Z h54 o "com/example/libelem/libelem/io/TextPosition" "column" "I" (.int (1 : Int32)) := Fld.same W54 f53
          have N54 := Fr.snoc X54 N49 g_o
          have z55 : n0 ≤ h54.size := (Nat.le_trans z50 (Keep.of_wr W54).1)
          have K56 : Keep h0 h54 [o] := K51.wr W54 (Or.inl (List.mem_of_getElem? (i := 0) rfl))
          refine g_iload_n X54 hx 109 (hb hby d_prog_66_method_2_108) rfl rfl ?_
          refine g_ifNo X54 hx 112 (hb hby d_prog_66_method_2_109) (own_i0_le_f (by decide)) rfl ?_
          refine g_aload_n X54 hx 113 (hb hby d_prog_66_method_2_112) rfl rfl rfl ?_
          refine g_aload_n X54 hx 114 (hb hby d_prog_66_method_2_113) rfl rfl rfl ?_
          refine g_iload_n X54 hx 115 (hb hby d_prog_66_method_2_114) rfl rfl ?_
          refine g_iconst X54 hx 116 (hb hby d_prog_66_method_2_115) (1 : Int32) rfl rfl ?_
          refine g_isub X54 hx 117 (hb hby d_prog_66_method_2_116) rfl ?_
          show own_Go p e below s _ _ _ (T54.setTop (mkF m 117 _ [(.int (0 : Int32)), (.ref ar), (.ref o)]))
          have f57 : Arv Z h54 ar ka .char (2 : Int32) [(.int u0), (.int u1)] (.int (0 : Int32)) := ((V_ar.other W49 ne_ar_o).other W54 ne_ar_o)
          obtain ⟨cl58, Ar58, q58, S58, P58, H58, G58⟩ := id f57
          have hin58 := inb_of (j := (0 : Int32)) S58 ⟨by decide, by decide⟩
          refine own_caload X54 hx hZ e54 Ar58 (v := (.int u0)) hin58 (Has.at H58 hin58 rfl) 118 (hb hby d_prog_66_method_2_117) rfl ?_
          refine g_bipush X54 hx 120 (hb hby d_prog_66_method_2_118) (13 : Int32) rfl rfl ?_
          refine g_icmpYes X54 hx 127 (hb hby d_prog_66_method_2_120) (own_ii_ne_t c22) (by decide) (by decide) ?_
          refine g_iconst X54 hx 128 (hb hby d_prog_66_method_2_127) (0 : Int32) rfl rfl ?_
          have f60 : Exa Z h54 o "com/example/libelem/libelem/io/TextPosition" := (Exa.wr W54 f52)
          have f61 : Fld Z h54 o "com/example/libelem/libelem/io/TextPosition" "afterCarriageReturn" "Z" (.int ac) := (Fld.other W54 (Fld.other W49 F_o_afterCarriageReturn (Or.inr (slot_ne (Or.inl (hw _ (List.mem_of_getElem? (i := 38) rfl))) (Or.inl (hw _ (List.mem_of_getElem? (i := 16) rfl))) (by decide) (t := .boolean) (t' := .int) (by decide) (by decide)))) (Or.inr (slot_ne (Or.inl (hw _ (List.mem_of_getElem? (i := 38) rfl))) (Or.inl (hw _ (List.mem_of_getElem? (i := 18) rfl))) (by decide) (t := .boolean) (t' := .int) (by decide) (by decide))))
          refine own_putFN X54 hx hZ hown (hw _ (List.mem_of_getElem? (i := 37) rfl)) Via.refl e54 (.int (0 : Int32)) f61 f60 (Or.inl (hw _ (List.mem_of_getElem? (i := 38) rfl))) (hw _ (List.mem_of_getElem? (i := 7) rfl)) (ty := .boolean) (by decide) rfl rfl 131 (hb hby d_prog_66_method_2_128) rfl fun T62 h62 X62 e62 W62 => ?_
          have f62 : Fld Z h62 o "com/example/libelem/libelem/io/TextPosition" "afterCarriageReturn" "Z" (.int (0 : Int32)) := Fld.same W62 f61
          have N62 := Fr.snoc X62 N54 g_o
          have z63 : n0 ≤ h62.size := (Nat.le_trans z55 (Keep.of_wr W62).1)
          have K64 : Keep h0 h62 [o] := K56.wr W62 (Or.inl (List.mem_of_getElem? (i := 0) rfl))
          have f65 : Fld Z h62 o "com/example/libelem/libelem/io/TextPosition" "line" "I" (.int (li + (1 : Int32))) := (Fld.other W62 (Fld.other W54 f49 (Or.inr (slot_ne (Or.inl (hw _ (List.mem_of_getElem? (i := 16) rfl))) (Or.inl (hw _ (List.mem_of_getElem? (i := 18) rfl))) (by decide) (t := .int) (t' := .int) (by decide) (by decide)))) (Or.inr (slot_ne (Or.inl (hw _ (List.mem_of_getElem? (i := 16) rfl))) (Or.inl (hw _ (List.mem_of_getElem? (i := 38) rfl))) (by decide) (t := .int) (t' := .boolean) (by decide) (by decide))))
          have f66 : Fld Z h62 o "com/example/libelem/libelem/io/TextPosition" "column" "I" (.int (1 : Int32)) := (Fld.other W62 f54 (Or.inr (slot_ne (Or.inl (hw _ (List.mem_of_getElem? (i := 18) rfl))) (Or.inl (hw _ (List.mem_of_getElem? (i := 38) rfl))) (by decide) (t := .int) (t' := .boolean) (by decide) (by decide))))
          refine own_retV X62 hx hlk hret (hb hby d_prog_66_method_2_131) ?_ (by decide) (by decide)
          rw [e62]
          exact ⟨rfl, N62, K64, (own_fldV f65 (congrArg Value.int (by first | rfl | (simp [c22, c44, c47, own_sl, own_sc, own_sa, own_L0, own_L1, own_L2, own_C0, own_C1, own_C2, own_A0, own_A1, own_A2, own_k0, own_k1, own_k2]; done)))), (own_fldV f66 (congrArg Value.int (by first | rfl | (simp [c22, c44, c47, own_sl, own_sc, own_sa, own_L0, own_L1, own_L2, own_C0, own_C1, own_C2, own_A0, own_A1, own_A2, own_k0, own_k1, own_k2]; done)))), (own_fldV f62 (congrArg Value.int (by first | rfl | (simp [c22, c44, c47, own_sl, own_sc, own_sa, own_L0, own_L1, own_L2, own_C0, own_C1, own_C2, own_A0, own_A1, own_A2, own_k0, own_k1, own_k2]; done))))⟩
        · refine g_ifYes X45 hx 88 (hb hby d_prog_66_method_2_75) (own_i0_ne_t c47) (by decide) (by decide) ?_
          refine g_iload X45 hx 90 (hb hby d_prog_66_method_2_88) rfl rfl ?_
          refine g_iconst X45 hx 91 (hb hby d_prog_66_method_2_90) (1 : Int32) rfl rfl ?_
          refine g_iadd X45 hx 92 (hb hby d_prog_66_method_2_91) rfl ?_
          show own_Go p e below s _ _ _ (T45.setTop (mkF m 92 _ [(.int (1 : Int32))]))
          refine g_istore_n X45 hx 93 (hb hby d_prog_66_method_2_92) (l' := #[.val (.ref o), .val (.ref ar), .val (.int (1 : Int32)), .val (.int (1 : Int32)), .val (.int (0 : Int32)), .val (.int u0), .val (.int ac)]) rfl rfl ?_
          refine g_iinc X45 hx 96 (hb hby d_prog_66_method_2_93) (z := (1 : Int32)) rfl rfl (l' := #[.val (.ref o), .val (.ref ar), .val (.int (1 : Int32)), .val (.int (1 : Int32)), .val (.int (1 : Int32)), .val (.int u0), .val (.int ac)]) rfl rfl ?_
          refine g_goto X45 hx 10 (hb hby d_prog_66_method_2_96) (by decide) (by decide) ?_
          refine g_iload X45 hx 12 (hb hby d_prog_66_method_2_10) rfl rfl ?_
          refine g_iload_n X45 hx 13 (hb hby d_prog_66_method_2_12) rfl rfl ?_
          refine g_icmpYes X45 hx 99 (hb hby d_prog_66_method_2_13) (own_ii_ge_t (by decide)) (by decide) (by decide) ?_
          refine g_aload_n X45 hx 100 (hb hby d_prog_66_method_2_99) rfl rfl rfl ?_
          refine g_iload_n X45 hx 101 (hb hby d_prog_66_method_2_100) rfl rfl ?_
          refine g_iload_n X45 hx 102 (hb hby d_prog_66_method_2_101) rfl rfl ?_
          refine g_isub X45 hx 103 (hb hby d_prog_66_method_2_102) rfl ?_
          show own_Go p e below s _ _ _ (T45.setTop (mkF m 103 _ [(.int (0 : Int32)), (.ref o)]))
          refine g_iconst X45 hx 104 (hb hby d_prog_66_method_2_103) (1 : Int32) rfl rfl ?_
          refine g_iadd X45 hx 105 (hb hby d_prog_66_method_2_104) rfl ?_
          show own_Go p e below s _ _ _ (T45.setTop (mkF m 105 _ [(.int (1 : Int32)), (.ref o)]))
          refine own_putF X45 hx hZ hown (host := "") (Or.inl (hw _ (List.mem_of_getElem? (i := 17) rfl))) Via.refl e45 F_o_column E_o (Or.inl (hw _ (List.mem_of_getElem? (i := 18) rfl))) (hw _ (List.mem_of_getElem? (i := 7) rfl)) (ty := .int) (by decide) rfl rfl 108 (hb hby d_prog_66_method_2_105) rfl fun T67 h67 X67 e67 W67 => ?_
          have f67 : Fld Z h67 o "com/example/libelem/libelem/io/TextPosition" "column" "I" (.int (1 : Int32)) := Fld.same W67 F_o_column
          have N67 := Fr.snoc X67 N0 g_o
          have z68 : n0 ≤ h67.size := (Nat.le_trans Z0 (Keep.of_wr W67).1)
          have K69 : Keep h0 h67 [o] := (Keep.refl h0 [o]).wr W67 (Or.inl (List.mem_of_getElem? (i := 0) rfl))
          refine g_iload_n X67 hx 109 (hb hby d_prog_66_method_2_108) rfl rfl ?_
          refine g_ifNo X67 hx 112 (hb hby d_prog_66_method_2_109) (own_i0_le_f (by decide)) rfl ?_
          refine g_aload_n X67 hx 113 (hb hby d_prog_66_method_2_112) rfl rfl rfl ?_
          refine g_aload_n X67 hx 114 (hb hby d_prog_66_method_2_113) rfl rfl rfl ?_
          refine g_iload_n X67 hx 115 (hb hby d_prog_66_method_2_114) rfl rfl ?_
          refine g_iconst X67 hx 116 (hb hby d_prog_66_method_2_115) (1 : Int32) rfl rfl ?_
          refine g_isub X67 hx 117 (hb hby d_prog_66_method_2_116) rfl ?_
          show own_Go p e below s _ _ _ (T67.setTop (mkF m 117 _ [(.int (0 : Int32)), (.ref ar), (.ref o)]))
          have f70 : Arv Z h67 ar ka .char (2 : Int32) [(.int u0), (.int u1)] (.int (0 : Int32)) := (V_ar.other W67 ne_ar_o)
          obtain ⟨cl71, Ar71, q71, S71, P71, H71, G71⟩ := id f70
          have hin71 := inb_of (j := (0 : Int32)) S71 ⟨by decide, by decide⟩
          refine own_caload X67 hx hZ e67 Ar71 (v := (.int u0)) hin71 (Has.at H71 hin71 rfl) 118 (hb hby d_prog_66_method_2_117) rfl ?_
          refine g_bipush X67 hx 120 (hb hby d_prog_66_method_2_118) (13 : Int32) rfl rfl ?_
          refine g_icmpYes X67 hx 127 (hb hby d_prog_66_method_2_120) (own_ii_ne_t c22) (by decide) (by decide) ?_
          refine g_iconst X67 hx 128 (hb hby d_prog_66_method_2_127) (0 : Int32) rfl rfl ?_
          have f73 : Exa Z h67 o "com/example/libelem/libelem/io/TextPosition" := (Exa.wr W67 E_o)
          have f74 : Fld Z h67 o "com/example/libelem/libelem/io/TextPosition" "afterCarriageReturn" "Z" (.int ac) := (Fld.other W67 F_o_afterCarriageReturn (Or.inr (slot_ne (Or.inl (hw _ (List.mem_of_getElem? (i := 38) rfl))) (Or.inl (hw _ (List.mem_of_getElem? (i := 18) rfl))) (by decide) (t := .boolean) (t' := .int) (by decide) (by decide))))
          refine own_putFN X67 hx hZ hown (hw _ (List.mem_of_getElem? (i := 37) rfl)) Via.refl e67 (.int (0 : Int32)) f74 f73 (Or.inl (hw _ (List.mem_of_getElem? (i := 38) rfl))) (hw _ (List.mem_of_getElem? (i := 7) rfl)) (ty := .boolean) (by decide) rfl rfl 131 (hb hby d_prog_66_method_2_128) rfl fun T75 h75 X75 e75 W75 => ?_
          have f75 : Fld Z h75 o "com/example/libelem/libelem/io/TextPosition" "afterCarriageReturn" "Z" (.int (0 : Int32)) := Fld.same W75 f74
          have N75 := Fr.snoc X75 N67 g_o
          have z76 : n0 ≤ h75.size := (Nat.le_trans z68 (Keep.of_wr W75).1)
          have K77 : Keep h0 h75 [o] := K69.wr W75 (Or.inl (List.mem_of_getElem? (i := 0) rfl))
          have f78 : Fld Z h75 o "com/example/libelem/libelem/io/TextPosition" "line" "I" (.int li) := (Fld.other W75 (Fld.other W67 F_o_line (Or.inr (slot_ne (Or.inl (hw _ (List.mem_of_getElem? (i := 16) rfl))) (Or.inl (hw _ (List.mem_of_getElem? (i := 18) rfl))) (by decide) (t := .int) (t' := .int) (by decide) (by decide)))) (Or.inr (slot_ne (Or.inl (hw _ (List.mem_of_getElem? (i := 16) rfl))) (Or.inl (hw _ (List.mem_of_getElem? (i := 38) rfl))) (by decide) (t := .int) (t' := .boolean) (by decide) (by decide))))
          have f79 : Fld Z h75 o "com/example/libelem/libelem/io/TextPosition" "column" "I" (.int (1 : Int32)) := (Fld.other W75 f67 (Or.inr (slot_ne (Or.inl (hw _ (List.mem_of_getElem? (i := 18) rfl))) (Or.inl (hw _ (List.mem_of_getElem? (i := 38) rfl))) (by decide) (t := .int) (t' := .boolean) (by decide) (by decide))))
          refine own_retV X75 hx hlk hret (hb hby d_prog_66_method_2_131) ?_ (by decide) (by decide)
          rw [e75]
          exact ⟨rfl, N75, K77, (own_fldV f78 (congrArg Value.int (by first | rfl | (simp [c22, c44, c47, own_sl, own_sc, own_sa, own_L0, own_L1, own_L2, own_C0, own_C1, own_C2, own_A0, own_A1, own_A2, own_k0, own_k1, own_k2]; done)))), (own_fldV f79 (congrArg Value.int (by first | rfl | (simp [c22, c44, c47, own_sl, own_sc, own_sa, own_L0, own_L1, own_L2, own_C0, own_C1, own_C2, own_A0, own_A1, own_A2, own_k0, own_k1, own_k2]; done)))), (own_fldV f75 (congrArg Value.int (by first | rfl | (simp [c22, c44, c47, own_sl, own_sc, own_sa, own_L0, own_L1, own_L2, own_C0, own_C1, own_C2, own_A0, own_A1, own_A2, own_k0, own_k1, own_k2]; done))))⟩
      · refine g_icmpYes X20 hx 93 (hb hby d_prog_66_method_2_33) (own_ii_ne_t c44) (by decide) (by decide) ?_
        refine g_iinc X20 hx 96 (hb hby d_prog_66_method_2_93) (z := (1 : Int32)) rfl rfl (l' := #[.val (.ref o), .val (.ref ar), .val (.int (1 : Int32)), .val (.int ((1 : Int32) - co)), .val (.int (1 : Int32)), .val (.int u0), .unset]) rfl rfl ?_
        refine g_goto X20 hx 10 (hb hby d_prog_66_method_2_96) (by decide) (by decide) ?_
        refine g_iload X20 hx 12 (hb hby d_prog_66_method_2_10) rfl rfl ?_
        refine g_iload_n X20 hx 13 (hb hby d_prog_66_method_2_12) rfl rfl ?_
        refine g_icmpYes X20 hx 99 (hb hby d_prog_66_method_2_13) (own_ii_ge_t (by decide)) (by decide) (by decide) ?_
        refine g_aload_n X20 hx 100 (hb hby d_prog_66_method_2_99) rfl rfl rfl ?_
        refine g_iload_n X20 hx 101 (hb hby d_prog_66_method_2_100) rfl rfl ?_
        refine g_iload_n X20 hx 102 (hb hby d_prog_66_method_2_101) rfl rfl ?_
        refine g_isub X20 hx 103 (hb hby d_prog_66_method_2_102) rfl ?_
        refine g_iconst X20 hx 104 (hb hby d_prog_66_method_2_103) (1 : Int32) rfl rfl ?_
        refine g_iadd X20 hx 105 (hb hby d_prog_66_method_2_104) rfl ?_
        refine own_putF X20 hx hZ hown (host := "") (Or.inl (hw _ (List.mem_of_getElem? (i := 17) rfl))) Via.refl e20 F_o_column E_o (Or.inl (hw _ (List.mem_of_getElem? (i := 18) rfl))) (hw _ (List.mem_of_getElem? (i := 7) rfl)) (ty := .int) (by decide) rfl rfl 108 (hb hby d_prog_66_method_2_105) rfl fun T80 h80 X80 e80 W80 => ?_
        have f80 : Fld Z h80 o "com/example/libelem/libelem/io/TextPosition" "column" "I" (.int (((1 : Int32) - ((1 : Int32) - co)) + (1 : Int32))) := Fld.same W80 F_o_column
        have N80 := Fr.snoc X80 N0 g_o
        have z81 : n0 ≤ h80.size := (Nat.le_trans Z0 (Keep.of_wr W80).1)
        have K82 : Keep h0 h80 [o] := (Keep.refl h0 [o]).wr W80 (Or.inl (List.mem_of_getElem? (i := 0) rfl))
        refine g_iload_n X80 hx 109 (hb hby d_prog_66_method_2_108) rfl rfl ?_
        refine g_ifNo X80 hx 112 (hb hby d_prog_66_method_2_109) (own_i0_le_f (by decide)) rfl ?_
        refine g_aload_n X80 hx 113 (hb hby d_prog_66_method_2_112) rfl rfl rfl ?_
        refine g_aload_n X80 hx 114 (hb hby d_prog_66_method_2_113) rfl rfl rfl ?_
        refine g_iload_n X80 hx 115 (hb hby d_prog_66_method_2_114) rfl rfl ?_
        refine g_iconst X80 hx 116 (hb hby d_prog_66_method_2_115) (1 : Int32) rfl rfl ?_
        refine g_isub X80 hx 117 (hb hby d_prog_66_method_2_116) rfl ?_
        show own_Go p e below s _ _ _ (T80.setTop (mkF m 117 _ [(.int (0 : Int32)), (.ref ar), (.ref o)]))
        have f83 : Arv Z h80 ar ka .char (2 : Int32) [(.int u0), (.int u1)] (.int (0 : Int32)) := (V_ar.other W80 ne_ar_o)
        obtain ⟨cl84, Ar84, q84, S84, P84, H84, G84⟩ := id f83
        have hin84 := inb_of (j := (0 : Int32)) S84 ⟨by decide, by decide⟩
        refine own_caload X80 hx hZ e80 Ar84 (v := (.int u0)) hin84 (Has.at H84 hin84 rfl) 118 (hb hby d_prog_66_method_2_117) rfl ?_
        refine g_bipush X80 hx 120 (hb hby d_prog_66_method_2_118) (13 : Int32) rfl rfl ?_
        refine g_icmpYes X80 hx 127 (hb hby d_prog_66_method_2_120) (own_ii_ne_t c22) (by decide) (by decide) ?_
        refine g_iconst X80 hx 128 (hb hby d_prog_66_method_2_127) (0 : Int32) rfl rfl ?_
        have f86 : Exa Z h80 o "com/example/libelem/libelem/io/TextPosition" := (Exa.wr W80 E_o)
        have f87 : Fld Z h80 o "com/example/libelem/libelem/io/TextPosition" "afterCarriageReturn" "Z" (.int ac) := (Fld.other W80 F_o_afterCarriageReturn (Or.inr (slot_ne (Or.inl (hw _ (List.mem_of_getElem? (i := 38) rfl))) (Or.inl (hw _ (List.mem_of_getElem? (i := 18) rfl))) (by decide) (t := .boolean) (t' := .int) (by decide) (by decide))))
        refine own_putFN X80 hx hZ hown (hw _ (List.mem_of_getElem? (i := 37) rfl)) Via.refl e80 (.int (0 : Int32)) f87 f86 (Or.inl (hw _ (List.mem_of_getElem? (i := 38) rfl))) (hw _ (List.mem_of_getElem? (i := 7) rfl)) (ty := .boolean) (by decide) rfl rfl 131 (hb hby d_prog_66_method_2_128) rfl fun T88 h88 X88 e88 W88 => ?_
        have f88 : Fld Z h88 o "com/example/libelem/libelem/io/TextPosition" "afterCarriageReturn" "Z" (.int (0 : Int32)) := Fld.same W88 f87
        have N88 := Fr.snoc X88 N80 g_o
        have z89 : n0 ≤ h88.size := (Nat.le_trans z81 (Keep.of_wr W88).1)
        have K90 : Keep h0 h88 [o] := K82.wr W88 (Or.inl (List.mem_of_getElem? (i := 0) rfl))
        have f91 : Fld Z h88 o "com/example/libelem/libelem/io/TextPosition" "line" "I" (.int li) := (Fld.other W88 (Fld.other W80 F_o_line (Or.inr (slot_ne (Or.inl (hw _ (List.mem_of_getElem? (i := 16) rfl))) (Or.inl (hw _ (List.mem_of_getElem? (i := 18) rfl))) (by decide) (t := .int) (t' := .int) (by decide) (by decide)))) (Or.inr (slot_ne (Or.inl (hw _ (List.mem_of_getElem? (i := 16) rfl))) (Or.inl (hw _ (List.mem_of_getElem? (i := 38) rfl))) (by decide) (t := .int) (t' := .boolean) (by decide) (by decide))))
        have f92 : Fld Z h88 o "com/example/libelem/libelem/io/TextPosition" "column" "I" (.int (((1 : Int32) - ((1 : Int32) - co)) + (1 : Int32))) := (Fld.other W88 f80 (Or.inr (slot_ne (Or.inl (hw _ (List.mem_of_getElem? (i := 18) rfl))) (Or.inl (hw _ (List.mem_of_getElem? (i := 38) rfl))) (by decide) (t := .int) (t' := .boolean) (by decide) (by decide))))
        refine own_retV X88 hx hlk hret (hb hby d_prog_66_method_2_131) ?_ (by decide) (by decide)
        rw [e88]
        exact ⟨rfl, N88, K90, (own_fldV f91 (congrArg Value.int (by first | rfl | (simp [c22, c44, own_sl, own_sc, own_sa, own_L0, own_L1, own_L2, own_C0, own_C1, own_C2, own_A0, own_A1, own_A2, own_k0, own_k1, own_k2]; done)))), (own_fldV f92 (congrArg Value.int (by first | rfl | (simp [c22, c44, own_sl, own_sc, own_sa, own_L0, own_L1, own_L2, own_C0, own_C1, own_C2, own_A0, own_A1, own_A2, own_k0, own_k1, own_k2]; done)))), (own_fldV f88 (congrArg Value.int (by first | rfl | (simp [c22, c44, own_sl, own_sc, own_sa, own_L0, own_L1, own_L2, own_C0, own_C1, own_C2, own_A0, own_A1, own_A2, own_k0, own_k1, own_k2]; done))))⟩
  · show own_Go p e below s _ _ _ (s₁.setTop (mkF m 0 _ []))
    refine g_iconst X0 hx 1 (hb hby d_prog_66_method_2_0) (1 : Int32) rfl rfl ?_
    refine g_aload_n X0 hx 2 (hb hby d_prog_66_method_2_1) rfl rfl rfl ?_
    refine own_getF X0 hx hZ hown (host := "") (Or.inl (hw _ (List.mem_of_getElem? (i := 17) rfl))) Via.refl e0 F_o_column 5 (hb hby d_prog_66_method_2_2) rfl fun T93 X93 e93 => ?_
    refine g_isub X93 hx 6 (hb hby d_prog_66_method_2_5) rfl ?_
    refine g_istore_n X93 hx 7 (hb hby d_prog_66_method_2_6) (l' := #[.val (.ref o), .val (.ref ar), .val (.int (2 : Int32)), .val (.int ((1 : Int32) - co)), .unset, .unset, .unset]) rfl rfl ?_
    refine g_iconst X93 hx 8 (hb hby d_prog_66_method_2_7) (0 : Int32) rfl rfl ?_
    refine g_istore X93 hx 10 (hb hby d_prog_66_method_2_8) (l' := #[.val (.ref o), .val (.ref ar), .val (.int (2 : Int32)), .val (.int ((1 : Int32) - co)), .val (.int (0 : Int32)), .unset, .unset]) rfl rfl ?_
    refine g_iload X93 hx 12 (hb hby d_prog_66_method_2_10) rfl rfl ?_
    refine g_iload_n X93 hx 13 (hb hby d_prog_66_method_2_12) rfl rfl ?_
    refine g_icmpNo X93 hx 16 (hb hby d_prog_66_method_2_13) (own_ii_ge_f (by decide)) rfl ?_
    refine g_aload_n X93 hx 17 (hb hby d_prog_66_method_2_16) rfl rfl rfl ?_
    refine g_iload X93 hx 19 (hb hby d_prog_66_method_2_17) rfl rfl ?_
    obtain ⟨cl94, Ar94, q94, S94, P94, H94, G94⟩ := id V_ar
    have hin94 := inb_of (j := (0 : Int32)) S94 ⟨by decide, by decide⟩
    refine own_caload X93 hx hZ e93 Ar94 (v := (.int u0)) hin94 (Has.at H94 hin94 rfl) 20 (hb hby d_prog_66_method_2_19) rfl ?_
    refine g_istore X93 hx 22 (hb hby d_prog_66_method_2_20) (l' := #[.val (.ref o), .val (.ref ar), .val (.int (2 : Int32)), .val (.int ((1 : Int32) - co)), .val (.int (0 : Int32)), .val (.int u0), .unset]) rfl rfl ?_
    refine g_iload X93 hx 24 (hb hby d_prog_66_method_2_22) rfl rfl ?_
    refine g_bipush X93 hx 26 (hb hby d_prog_66_method_2_24) (13 : Int32) rfl rfl ?_
    by_cases c95 : u0 = (13 : Int32)
    · refine g_icmpYes X93 hx 36 (hb hby d_prog_66_method_2_26) (own_ii_eq_t c95) (by decide) (by decide) ?_
      refine g_iload X93 hx 38 (hb hby d_prog_66_method_2_36) rfl rfl ?_
      refine g_ifNo X93 hx 41 (hb hby d_prog_66_method_2_38) (own_i0_ne_f (by decide)) rfl ?_
      refine g_aload_n X93 hx 42 (hb hby d_prog_66_method_2_41) rfl rfl rfl ?_
      refine own_getF X93 hx hZ hown (host := "") (Or.inl (hw _ (List.mem_of_getElem? (i := 37) rfl))) Via.refl e93 F_o_afterCarriageReturn 45 (hb hby d_prog_66_method_2_42) rfl fun T96 X96 e96 => ?_
      refine g_goto X96 hx 64 (hb hby d_prog_66_method_2_45) (by decide) (by decide) ?_
      refine g_istore X96 hx 66 (hb hby d_prog_66_method_2_64) (l' := #[.val (.ref o), .val (.ref ar), .val (.int (2 : Int32)), .val (.int ((1 : Int32) - co)), .val (.int (0 : Int32)), .val (.int u0), .val (.int ac)]) rfl rfl ?_
      refine g_iload X96 hx 68 (hb hby d_prog_66_method_2_66) rfl rfl ?_
      refine g_bipush X96 hx 70 (hb hby d_prog_66_method_2_68) (13 : Int32) rfl rfl ?_
      refine g_icmpYes X96 hx 78 (hb hby d_prog_66_method_2_70) (own_ii_eq_t c95) (by decide) (by decide) ?_
      refine g_aload_n X96 hx 79 (hb hby d_prog_66_method_2_78) rfl rfl rfl ?_
      refine g_dup X96 hx 80 (hb hby d_prog_66_method_2_79) rfl rfl ?_
      refine own_getF X96 hx hZ hown (host := "") (Or.inl (hw _ (List.mem_of_getElem? (i := 15) rfl))) Via.refl e96 F_o_line 83 (hb hby d_prog_66_method_2_80) rfl fun T98 X98 e98 => ?_
      refine g_iconst X98 hx 84 (hb hby d_prog_66_method_2_83) (1 : Int32) rfl rfl ?_
      refine g_iadd X98 hx 85 (hb hby d_prog_66_method_2_84) rfl ?_
      refine own_putF X98 hx hZ hown (host := "") (Or.inl (hw _ (List.mem_of_getElem? (i := 15) rfl))) Via.refl e98 F_o_line E_o (Or.inl (hw _ (List.mem_of_getElem? (i := 16) rfl))) (hw _ (List.mem_of_getElem? (i := 7) rfl)) (ty := .int) (by decide) rfl rfl 88 (hb hby d_prog_66_method_2_85) rfl fun T99 h99 X99 e99 W99 => ?_
      have f99 : Fld Z h99 o "com/example/libelem/libelem/io/TextPosition" "line" "I" (.int (li + (1 : Int32))) := Fld.same W99 F_o_line
      have N99 := Fr.snoc X99 N0 g_o
      have z100 : n0 ≤ h99.size := (Nat.le_trans Z0 (Keep.of_wr W99).1)
      have K101 : Keep h0 h99 [o] := (Keep.refl h0 [o]).wr W99 (Or.inl (List.mem_of_getElem? (i := 0) rfl))
      refine g_iload X99 hx 90 (hb hby d_prog_66_method_2_88) rfl rfl ?_
      refine g_iconst X99 hx 91 (hb hby d_prog_66_method_2_90) (1 : Int32) rfl rfl ?_
      refine g_iadd X99 hx 92 (hb hby d_prog_66_method_2_91) rfl ?_
      show own_Go p e below s _ _ _ (T99.setTop (mkF m 92 _ [(.int (1 : Int32))]))
      refine g_istore_n X99 hx 93 (hb hby d_prog_66_method_2_92) (l' := #[.val (.ref o), .val (.ref ar), .val (.int (2 : Int32)), .val (.int (1 : Int32)), .val (.int (0 : Int32)), .val (.int u0), .val (.int ac)]) rfl rfl ?_
      refine g_iinc X99 hx 96 (hb hby d_prog_66_method_2_93) (z := (1 : Int32)) rfl rfl (l' := #[.val (.ref o), .val (.ref ar), .val (.int (2 : Int32)), .val (.int (1 : Int32)), .val (.int (1 : Int32)), .val (.int u0), .val (.int ac)]) rfl rfl ?_
      refine g_goto X99 hx 10 (hb hby d_prog_66_method_2_96) (by decide) (by decide) ?_
      refine g_iload X99 hx 12 (hb hby d_prog_66_method_2_10) rfl rfl ?_
      refine g_iload_n X99 hx 13 (hb hby d_prog_66_method_2_12) rfl rfl ?_
      refine g_icmpNo X99 hx 16 (hb hby d_prog_66_method_2_13) (own_ii_ge_f (by decide)) rfl ?_
      refine g_aload_n X99 hx 17 (hb hby d_prog_66_method_2_16) rfl rfl rfl ?_
      refine g_iload X99 hx 19 (hb hby d_prog_66_method_2_17) rfl rfl ?_
      have f102 : Arv Z h99 ar ka .char (2 : Int32) [(.int u0), (.int u1)] (.int (0 : Int32)) := (V_ar.other W99 ne_ar_o)
      obtain ⟨cl103, Ar103, q103, S103, P103, H103, G103⟩ := id f102
      have hin103 := inb_of (j := (1 : Int32)) S103 ⟨by decide, by decide⟩
      refine own_caload X99 hx hZ e99 Ar103 (v := (.int u1)) hin103 (Has.at H103 hin103 rfl) 20 (hb hby d_prog_66_method_2_19) rfl ?_
      refine g_istore X99 hx 22 (hb hby d_prog_66_method_2_20) (l' := #[.val (.ref o), .val (.ref ar), .val (.int (2 : Int32)), .val (.int (1 : Int32)), .val (.int (1 : Int32)), .val (.int u1), .val (.int ac)]) rfl rfl ?_
      refine g_iload X99 hx 24 (hb hby d_prog_66_method_2_22) rfl rfl ?_
      refine g_bipush X99 hx 26 (hb hby d_prog_66_method_2_24) (13 : Int32) rfl rfl ?_
      by_cases c104 : u1 = (13 : Int32)
      · refine g_icmpYes X99 hx 36 (hb hby d_prog_66_method_2_26) (own_ii_eq_t c104) (by decide) (by decide) ?_
        refine g_iload X99 hx 38 (hb hby d_prog_66_method_2_36) rfl rfl ?_
        refine g_ifYes X99 hx 48 (hb hby d_prog_66_method_2_38) (own_i0_ne_t (by decide)) (by decide) (by decide) ?_
        refine g_aload_n X99 hx 49 (hb hby d_prog_66_method_2_48) rfl rfl rfl ?_
        refine g_iload X99 hx 51 (hb hby d_prog_66_method_2_49) rfl rfl ?_
        refine g_iconst X99 hx 52 (hb hby d_prog_66_method_2_51) (1 : Int32) rfl rfl ?_
        refine g_isub X99 hx 53 (hb hby d_prog_66_method_2_52) rfl ?_
        show own_Go p e below s _ _ _ (T99.setTop (mkF m 53 _ [(.int (0 : Int32)), (.ref ar)]))
        obtain ⟨cl105, Ar105, q105, S105, P105, H105, G105⟩ := id f102
        have hin105 := inb_of (j := (0 : Int32)) S105 ⟨by decide, by decide⟩
        refine own_caload X99 hx hZ e99 Ar105 (v := (.int u0)) hin105 (Has.at H105 hin105 rfl) 54 (hb hby d_prog_66_method_2_53) rfl ?_
        refine g_bipush X99 hx 56 (hb hby d_prog_66_method_2_54) (13 : Int32) rfl rfl ?_
        refine g_icmpNo X99 hx 59 (hb hby d_prog_66_method_2_56) (own_ii_ne_f c95) rfl ?_
        refine g_iconst X99 hx 60 (hb hby d_prog_66_method_2_59) (1 : Int32) rfl rfl ?_
        refine g_goto X99 hx 64 (hb hby d_prog_66_method_2_60) (by decide) (by decide) ?_
        refine g_istore X99 hx 66 (hb hby d_prog_66_method_2_64) (l' := #[.val (.ref o), .val (.ref ar), .val (.int (2 : Int32)), .val (.int (1 : Int32)), .val (.int (1 : Int32)), .val (.int u1), .val (.int (1 : Int32))]) rfl rfl ?_
        refine g_iload X99 hx 68 (hb hby d_prog_66_method_2_66) rfl rfl ?_
        refine g_bipush X99 hx 70 (hb hby d_prog_66_method_2_68) (13 : Int32) rfl rfl ?_
        refine g_icmpYes X99 hx 78 (hb hby d_prog_66_method_2_70) (own_ii_eq_t c104) (by decide) (by decide) ?_
        refine g_aload_n X99 hx 79 (hb hby d_prog_66_method_2_78) rfl rfl rfl ?_
        refine g_dup X99 hx 80 (hb hby d_prog_66_method_2_79) rfl rfl ?_
        refine own_getF X99 hx hZ hown (host := "") (Or.inl (hw _ (List.mem_of_getElem? (i := 15) rfl))) Via.refl e99 f99 83 (hb hby d_prog_66_method_2_80) rfl fun T108 X108 e108 => ?_
        refine g_iconst X108 hx 84 (hb hby d_prog_66_method_2_83) (1 : Int32) rfl rfl ?_
        refine g_iadd X108 hx 85 (hb hby d_prog_66_method_2_84) rfl ?_
        have f109 : Exa Z h99 o "com/example/libelem/libelem/io/TextPosition" := (Exa.wr W99 E_o)
        refine own_putF X108 hx hZ hown (host := "") (Or.inl (hw _ (List.mem_of_getElem? (i := 15) rfl))) Via.refl e108 f99 f109 (Or.inl (hw _ (List.mem_of_getElem? (i := 16) rfl))) (hw _ (List.mem_of_getElem? (i := 7) rfl)) (ty := .int) (by decide) rfl rfl 88 (hb hby d_prog_66_method_2_85) rfl fun T110 h110 X110 e110 W110 => ?_
        have f110 : Fld Z h110 o "com/example/libelem/libelem/io/TextPosition" "line" "I" (.int ((li + (1 : Int32)) + (1 : Int32))) := Fld.same W110 f99
        have N110 := Fr.snoc X110 N99 g_o
        have z111 : n0 ≤ h110.size := (Nat.le_trans z100 (Keep.of_wr W110).1)
        have K112 : Keep h0 h110 [o] := K101.wr W110 (Or.inl (List.mem_of_getElem? (i := 0) rfl))
        refine g_iload X110 hx 90 (hb hby d_prog_66_method_2_88) rfl rfl ?_
        refine g_iconst X110 hx 91 (hb hby d_prog_66_method_2_90) (1 : Int32) rfl rfl ?_
        refine g_iadd X110 hx 92 (hb hby d_prog_66_method_2_91) rfl ?_
        show own_Go p e below s _ _ _ (T110.setTop (mkF m 92 _ [(.int (2 : Int32))]))
        refine g_istore_n X110 hx 93 (hb hby d_prog_66_method_2_92) (l' := #[.val (.ref o), .val (.ref ar), .val (.int (2 : Int32)), .val (.int (2 : Int32)), .val (.int (1 : Int32)), .val (.int u1), .val (.int (1 : Int32))]) rfl rfl ?_
        refine g_iinc X110 hx 96 (hb hby d_prog_66_method_2_93) (z := (2 : Int32)) rfl rfl (l' := #[.val (.ref o), .val (.ref ar), .val (.int (2 : Int32)), .val (.int (2 : Int32)), .val (.int (2 : Int32)), .val (.int u1), .val (.int (1 : Int32))]) rfl rfl ?_
        refine g_goto X110 hx 10 (hb hby d_prog_66_method_2_96) (by decide) (by decide) ?_
        refine g_iload X110 hx 12 (hb hby d_prog_66_method_2_10) rfl rfl ?_
        refine g_iload_n X110 hx 13 (hb hby d_prog_66_method_2_12) rfl rfl ?_
        refine g_icmpYes X110 hx 99 (hb hby d_prog_66_method_2_13) (own_ii_ge_t (by decide)) (by decide) (by decide) ?_
        refine g_aload_n X110 hx 100 (hb hby d_prog_66_method_2_99) rfl rfl rfl ?_
        refine g_iload_n X110 hx 101 (hb hby d_prog_66_method_2_100) rfl rfl ?_
        refine g_iload_n X110 hx 102 (hb hby d_prog_66_method_2_101) rfl rfl ?_
        refine g_isub X110 hx 103 (hb hby d_prog_66_method_2_102) rfl ?_
        show own_Go p e below s _ _ _ (T110.setTop (mkF m 103 _ [(.int (0 : Int32)), (.ref o)]))
        refine g_iconst X110 hx 104 (hb hby d_prog_66_method_2_103) (1 : Int32) rfl rfl ?_
        refine g_iadd X110 hx 105 (hb hby d_prog_66_method_2_104) rfl ?_
        show own_Go p e below s _ _ _ (T110.setTop (mkF m 105 _ [(.int (1 : Int32)), (.ref o)]))
        have f113 : Exa Z h110 o "com/example/libelem/libelem/io/TextPosition" := (Exa.wr W110 f109)
        have f114 : Fld Z h110 o "com/example/libelem/libelem/io/TextPosition" "column" "I" (.int co) := (Fld.other W110 (Fld.other W99 F_o_column (Or.inr (slot_ne (Or.inl (hw _ (List.mem_of_getElem? (i := 18) rfl))) (Or.inl (hw _ (List.mem_of_getElem? (i := 16) rfl))) (by decide) (t := .int) (t' := .int) (by decide) (by decide)))) (Or.inr (slot_ne (Or.inl (hw _ (List.mem_of_getElem? (i := 18) rfl))) (Or.inl (hw _ (List.mem_of_getElem? (i := 16) rfl))) (by decide) (t := .int) (t' := .int) (by decide) (by decide))))
        refine own_putF X110 hx hZ hown (host := "") (Or.inl (hw _ (List.mem_of_getElem? (i := 17) rfl))) Via.refl e110 f114 f113 (Or.inl (hw _ (List.mem_of_getElem? (i := 18) rfl))) (hw _ (List.mem_of_getElem? (i := 7) rfl)) (ty := .int) (by decide) rfl rfl 108 (hb hby d_prog_66_method_2_105) rfl fun T115 h115 X115 e115 W115 => ?_
        have f115 : Fld Z h115 o "com/example/libelem/libelem/io/TextPosition" "column" "I" (.int (1 : Int32)) := Fld.same W115 f114
        have N115 := Fr.snoc X115 N110 g_o
        have z116 : n0 ≤ h115.size := (Nat.le_trans z111 (Keep.of_wr W115).1)
        have K117 : Keep h0 h115 [o] := K112.wr W115 (Or.inl (List.mem_of_getElem? (i := 0) rfl))
        refine g_iload_n X115 hx 109 (hb hby d_prog_66_method_2_108) rfl rfl ?_
        refine g_ifNo X115 hx 112 (hb hby d_prog_66_method_2_109) (own_i0_le_f (by decide)) rfl ?_
        refine g_aload_n X115 hx 113 (hb hby d_prog_66_method_2_112) rfl rfl rfl ?_
        refine g_aload_n X115 hx 114 (hb hby d_prog_66_method_2_113) rfl rfl rfl ?_
        refine g_iload_n X115 hx 115 (hb hby d_prog_66_method_2_114) rfl rfl ?_
        refine g_iconst X115 hx 116 (hb hby d_prog_66_method_2_115) (1 : Int32) rfl rfl ?_
        refine g_isub X115 hx 117 (hb hby d_prog_66_method_2_116) rfl ?_
        show own_Go p e below s _ _ _ (T115.setTop (mkF m 117 _ [(.int (1 : Int32)), (.ref ar), (.ref o)]))
        have f118 : Arv Z h115 ar ka .char (2 : Int32) [(.int u0), (.int u1)] (.int (0 : Int32)) := ((f102.other W110 ne_ar_o).other W115 ne_ar_o)
        obtain ⟨cl119, Ar119, q119, S119, P119, H119, G119⟩ := id f118
        have hin119 := inb_of (j := (1 : Int32)) S119 ⟨by decide, by decide⟩
        refine own_caload X115 hx hZ e115 Ar119 (v := (.int u1)) hin119 (Has.at H119 hin119 rfl) 118 (hb hby d_prog_66_method_2_117) rfl ?_
        refine g_bipush X115 hx 120 (hb hby d_prog_66_method_2_118) (13 : Int32) rfl rfl ?_
        refine g_icmpNo X115 hx 123 (hb hby d_prog_66_method_2_120) (own_ii_ne_f c104) rfl ?_
        refine g_iconst X115 hx 124 (hb hby d_prog_66_method_2_123) (1 : Int32) rfl rfl ?_
        refine g_goto X115 hx 128 (hb hby d_prog_66_method_2_124) (by decide) (by decide) ?_
        have f121 : Exa Z h115 o "com/example/libelem/libelem/io/TextPosition" := (Exa.wr W115 f113)
        have f122 : Fld Z h115 o "com/example/libelem/libelem/io/TextPosition" "afterCarriageReturn" "Z" (.int ac) := (Fld.other W115 (Fld.other W110 (Fld.other W99 F_o_afterCarriageReturn (Or.inr (slot_ne (Or.inl (hw _ (List.mem_of_getElem? (i := 38) rfl))) (Or.inl (hw _ (List.mem_of_getElem? (i := 16) rfl))) (by decide) (t := .boolean) (t' := .int) (by decide) (by decide)))) (Or.inr (slot_ne (Or.inl (hw _ (List.mem_of_getElem? (i := 38) rfl))) (Or.inl (hw _ (List.mem_of_getElem? (i := 16) rfl))) (by decide) (t := .boolean) (t' := .int) (by decide) (by decide)))) (Or.inr (slot_ne (Or.inl (hw _ (List.mem_of_getElem? (i := 38) rfl))) (Or.inl (hw _ (List.mem_of_getElem? (i := 18) rfl))) (by decide) (t := .boolean) (t' := .int) (by decide) (by decide))))
        refine own_putFN X115 hx hZ hown (hw _ (List.mem_of_getElem? (i := 37) rfl)) Via.refl e115 (.int (1 : Int32)) f122 f121 (Or.inl (hw _ (List.mem_of_getElem? (i := 38) rfl))) (hw _ (List.mem_of_getElem? (i := 7) rfl)) (ty := .boolean) (by decide) rfl rfl 131 (hb hby d_prog_66_method_2_128) rfl fun T123 h123 X123 e123 W123 => ?_
        have f123 : Fld Z h123 o "com/example/libelem/libelem/io/TextPosition" "afterCarriageReturn" "Z" (.int (1 : Int32)) := Fld.same W123 f122
        have N123 := Fr.snoc X123 N115 g_o
        have z124 : n0 ≤ h123.size := (Nat.le_trans z116 (Keep.of_wr W123).1)
        have K125 : Keep h0 h123 [o] := K117.wr W123 (Or.inl (List.mem_of_getElem? (i := 0) rfl))
        have f126 : Fld Z h123 o "com/example/libelem/libelem/io/TextPosition" "line" "I" (.int ((li + (1 : Int32)) + (1 : Int32))) := (Fld.other W123 (Fld.other W115 f110 (Or.inr (slot_ne (Or.inl (hw _ (List.mem_of_getElem? (i := 16) rfl))) (Or.inl (hw _ (List.mem_of_getElem? (i := 18) rfl))) (by decide) (t := .int) (t' := .int) (by decide) (by decide)))) (Or.inr (slot_ne (Or.inl (hw _ (List.mem_of_getElem? (i := 16) rfl))) (Or.inl (hw _ (List.mem_of_getElem? (i := 38) rfl))) (by decide) (t := .int) (t' := .boolean) (by decide) (by decide))))
        have f127 : Fld Z h123 o "com/example/libelem/libelem/io/TextPosition" "column" "I" (.int (1 : Int32)) := (Fld.other W123 f115 (Or.inr (slot_ne (Or.inl (hw _ (List.mem_of_getElem? (i := 18) rfl))) (Or.inl (hw _ (List.mem_of_getElem? (i := 38) rfl))) (by decide) (t := .int) (t' := .boolean) (by decide) (by decide))))
        refine own_retV X123 hx hlk hret (hb hby d_prog_66_method_2_131) ?_ (by decide) (by decide)
        rw [e123]
        exact ⟨rfl, N123, K125, (own_fldV f126 (congrArg Value.int (by first | rfl | (simp [c95, c104, own_sl, own_sc, own_sa, own_L0, own_L1, own_L2, own_C0, own_C1, own_C2, own_A0, own_A1, own_A2, own_k0, own_k1, own_k2]; done)))), (own_fldV f127 (congrArg Value.int (by first | rfl | (simp [c95, c104, own_sl, own_sc, own_sa, own_L0, own_L1, own_L2, own_C0, own_C1, own_C2, own_A0, own_A1, own_A2, own_k0, own_k1, own_k2]; done)))), (own_fldV f123 (congrArg Value.int (by first | rfl | (simp [c95, c104, own_sl, own_sc, own_sa, own_L0, own_L1, own_L2, own_C0, own_C1, own_C2, own_A0, own_A1, own_A2, own_k0, own_k1, own_k2]; done))))⟩
      · refine g_icmpNo X99 hx 29 (hb hby d_prog_66_method_2_26) (own_ii_eq_f c104) rfl ?_
        refine g_iload X99 hx 31 (hb hby d_prog_66_method_2_29) rfl rfl ?_
        refine g_bipush X99 hx 33 (hb hby d_prog_66_method_2_31) (10 : Int32) rfl rfl ?_
        by_cases c128 : u1 = (10 : Int32)
        · refine g_icmpNo X99 hx 36 (hb hby d_prog_66_method_2_33) (own_ii_ne_f c128) rfl ?_
          refine g_iload X99 hx 38 (hb hby d_prog_66_method_2_36) rfl rfl ?_
          refine g_ifYes X99 hx 48 (hb hby d_prog_66_method_2_38) (own_i0_ne_t (by decide)) (by decide) (by decide) ?_
          refine g_aload_n X99 hx 49 (hb hby d_prog_66_method_2_48) rfl rfl rfl ?_
          refine g_iload X99 hx 51 (hb hby d_prog_66_method_2_49) rfl rfl ?_
          refine g_iconst X99 hx 52 (hb hby d_prog_66_method_2_51) (1 : Int32) rfl rfl ?_
          refine g_isub X99 hx 53 (hb hby d_prog_66_method_2_52) rfl ?_
          show own_Go p e below s _ _ _ (T99.setTop (mkF m 53 _ [(.int (0 : Int32)), (.ref ar)]))
          obtain ⟨cl129, Ar129, q129, S129, P129, H129, G129⟩ := id f102
          have hin129 := inb_of (j := (0 : Int32)) S129 ⟨by decide, by decide⟩
          refine own_caload X99 hx hZ e99 Ar129 (v := (.int u0)) hin129 (Has.at H129 hin129 rfl) 54 (hb hby d_prog_66_method_2_53) rfl ?_
          refine g_bipush X99 hx 56 (hb hby d_prog_66_method_2_54) (13 : Int32) rfl rfl ?_
          refine g_icmpNo X99 hx 59 (hb hby d_prog_66_method_2_56) (own_ii_ne_f c95) rfl ?_
          refine g_iconst X99 hx 60 (hb hby d_prog_66_method_2_59) (1 : Int32) rfl rfl ?_
          refine g_goto X99 hx 64 (hb hby d_prog_66_method_2_60) (by decide) (by decide) ?_
          refine g_istore X99 hx 66 (hb hby d_prog_66_method_2_64) (l' := #[.val (.ref o), .val (.ref ar), .val (.int (2 : Int32)), .val (.int (1 : Int32)), .val (.int (1 : Int32)), .val (.int u1), .val (.int (1 : Int32))]) rfl rfl ?_
          refine g_iload X99 hx 68 (hb hby d_prog_66_method_2_66) rfl rfl ?_
          refine g_bipush X99 hx 70 (hb hby d_prog_66_method_2_68) (13 : Int32) rfl rfl ?_
          refine g_icmpNo X99 hx 73 (hb hby d_prog_66_method_2_70) (own_ii_eq_f c104) rfl ?_
          refine g_iload X99 hx 75 (hb hby d_prog_66_method_2_73) rfl rfl ?_
          refine g_ifYes X99 hx 88 (hb hby d_prog_66_method_2_75) (own_i0_ne_t (by decide)) (by decide) (by decide) ?_
          refine g_iload X99 hx 90 (hb hby d_prog_66_method_2_88) rfl rfl ?_
          refine g_iconst X99 hx 91 (hb hby d_prog_66_method_2_90) (1 : Int32) rfl rfl ?_
          refine g_iadd X99 hx 92 (hb hby d_prog_66_method_2_91) rfl ?_
          show own_Go p e below s _ _ _ (T99.setTop (mkF m 92 _ [(.int (2 : Int32))]))
          refine g_istore_n X99 hx 93 (hb hby d_prog_66_method_2_92) (l' := #[.val (.ref o), .val (.ref ar), .val (.int (2 : Int32)), .val (.int (2 : Int32)), .val (.int (1 : Int32)), .val (.int u1), .val (.int (1 : Int32))]) rfl rfl ?_
          refine g_iinc X99 hx 96 (hb hby d_prog_66_method_2_93) (z := (2 : Int32)) rfl rfl (l' := #[.val (.ref o), .val (.ref ar), .val (.int (2 : Int32)), .val (.int (2 : Int32)), .val (.int (2 : Int32)), .val (.int u1), .val (.int (1 : Int32))]) rfl rfl ?_
          refine g_goto X99 hx 10 (hb hby d_prog_66_method_2_96) (by decide) (by decide) ?_
          refine g_iload X99 hx 12 (hb hby d_prog_66_method_2_10) rfl rfl ?_
          refine g_iload_n X99 hx 13 (hb hby d_prog_66_method_2_12) rfl rfl ?_
          refine g_icmpYes X99 hx 99 (hb hby d_prog_66_method_2_13) (own_ii_ge_t (by decide)) (by decide) (by decide) ?_
          refine g_aload_n X99 hx 100 (hb hby d_prog_66_method_2_99) rfl rfl rfl ?_
          refine g_iload_n X99 hx 101 (hb hby d_prog_66_method_2_100) rfl rfl ?_
          refine g_iload_n X99 hx 102 (hb hby d_prog_66_method_2_101) rfl rfl ?_
          refine g_isub X99 hx 103 (hb hby d_prog_66_method_2_102) rfl ?_
          show own_Go p e below s _ _ _ (T99.setTop (mkF m 103 _ [(.int (0 : Int32)), (.ref o)]))
          refine g_iconst X99 hx 104 (hb hby d_prog_66_method_2_103) (1 : Int32) rfl rfl ?_
          refine g_iadd X99 hx 105 (hb hby d_prog_66_method_2_104) rfl ?_
          show own_Go p e below s _ _ _ (T99.setTop (mkF m 105 _ [(.int (1 : Int32)), (.ref o)]))
          have f132 : Exa Z h99 o "com/example/libelem/libelem/io/TextPosition" := (Exa.wr W99 E_o)
          have f133 : Fld Z h99 o "com/example/libelem/libelem/io/TextPosition" "column" "I" (.int co) := (Fld.other W99 F_o_column (Or.inr (slot_ne (Or.inl (hw _ (List.mem_of_getElem? (i := 18) rfl))) (Or.inl (hw _ (List.mem_of_getElem? (i := 16) rfl))) (by decide) (t := .int) (t' := .int) (by decide) (by decide))))
          refine own_putF X99 hx hZ hown (host := "") (Or.inl (hw _ (List.mem_of_getElem? (i := 17) rfl))) Via.refl e99 f133 f132 (Or.inl (hw _ (List.mem_of_getElem? (i := 18) rfl))) (hw _ (List.mem_of_getElem? (i := 7) rfl)) (ty := .int) (by decide) rfl rfl 108 (hb hby d_prog_66_method_2_105) rfl fun T134 h134 X134 e134 W134 => ?_
          have f134 : Fld Z h134 o "com/example/libelem/libelem/io/TextPosition" "column" "I" (.int (1 : Int32)) := Fld.same W134 f133
          have N134 := Fr.snoc X134 N99 g_o
          have z135 : n0 ≤ h134.size := (Nat.le_trans z100 (Keep.of_wr W134).1)
          have K136 : Keep h0 h134 [o] := K101.wr W134 (Or.inl (List.mem_of_getElem? (i := 0) rfl))
          refine g_iload_n X134 hx 109 (hb hby d_prog_66_method_2_108) rfl rfl ?_
          refine g_ifNo X134 hx 112 (hb hby d_prog_66_method_2_109) (own_i0_le_f (by decide)) rfl ?_
          refine g_aload_n X134 hx 113 (hb hby d_prog_66_method_2_112) rfl rfl rfl ?_
          refine g_aload_n X134 hx 114 (hb hby d_prog_66_method_2_113) rfl rfl rfl ?_
          refine g_iload_n X134 hx 115 (hb hby d_prog_66_method_2_114) rfl rfl ?_
          refine g_iconst X134 hx 116 (hb hby d_prog_66_method_2_115) (1 : Int32) rfl rfl ?_
          refine g_isub X134 hx 117 (hb hby d_prog_66_method_2_116) rfl ?_
          show own_Go p e below s _ _ _ (T134.setTop (mkF m 117 _ [(.int (1 : Int32)), (.ref ar), (.ref o)]))
          have f137 : Arv Z h134 ar ka .char (2 : Int32) [(.int u0), (.int u1)] (.int (0 : Int32)) := (f102.other W134 ne_ar_o)
          obtain ⟨cl138, Ar138, q138, S138, P138, H138, G138⟩ := id f137
          have hin138 := inb_of (j := (1 : Int32)) S138 ⟨by decide, by decide⟩
          refine own_caload X134 hx hZ e134 Ar138 (v := (.int u1)) hin138 (Has.at H138 hin138 rfl) 118 (hb hby d_prog_66_method_2_117) rfl ?_
          refine g_bipush X134 hx 120 (hb hby d_prog_66_method_2_118) (13 : Int32) rfl rfl ?_
          refine g_icmpYes X134 hx 127 (hb hby d_prog_66_method_2_120) (own_ii_ne_t c104) (by decide) (by decide) ?_
          refine g_iconst X134 hx 128 (hb hby d_prog_66_method_2_127) (0 : Int32) rfl rfl ?_
          have f140 : Exa Z h134 o "com/example/libelem/libelem/io/TextPosition" := (Exa.wr W134 f132)
          have f141 : Fld Z h134 o "com/example/libelem/libelem/io/TextPosition" "afterCarriageReturn" "Z" (.int ac) := (Fld.other W134 (Fld.other W99 F_o_afterCarriageReturn (Or.inr (slot_ne (Or.inl (hw _ (List.mem_of_getElem? (i := 38) rfl))) (Or.inl (hw _ (List.mem_of_getElem? (i := 16) rfl))) (by decide) (t := .boolean) (t' := .int) (by decide) (by decide)))) (Or.inr (slot_ne (Or.inl (hw _ (List.mem_of_getElem? (i := 38) rfl))) (Or.inl (hw _ (List.mem_of_getElem? (i := 18) rfl))) (by decide) (t := .boolean) (t' := .int) (by decide) (by decide))))
          refine own_putFN X134 hx hZ hown (hw _ (List.mem_of_getElem? (i := 37) rfl)) Via.refl e134 (.int (0 : Int32)) f141 f140 (Or.inl (hw _ (List.mem_of_getElem? (i := 38) rfl))) (hw _ (List.mem_of_getElem? (i := 7) rfl)) (ty := .boolean) (by decide) rfl rfl 131 (hb hby d_prog_66_method_2_128) rfl fun T142 h142 X142 e142 W142 => ?_
          have f142 : Fld Z h142 o "com/example/libelem/libelem/io/TextPosition" "afterCarriageReturn" "Z" (.int (0 : Int32)) := Fld.same W142 f141
          have N142 := Fr.snoc X142 N134 g_o
          have z143 : n0 ≤ h142.size := (Nat.le_trans z135 (Keep.of_wr W142).1)
          have K144 : Keep h0 h142 [o] := K136.wr W142 (Or.inl (List.mem_of_getElem? (i := 0) rfl))
          have f145 : Fld Z h142 o "com/example/libelem/libelem/io/TextPosition" "line" "I" (.int (li + (1 : Int32))) := (Fld.other W142 (Fld.other W134 f99 (Or.inr (slot_ne (Or.inl (hw _ (List.mem_of_getElem? (i := 16) rfl))) (Or.inl (hw _ (List.mem_of_getElem? (i := 18) rfl))) (by decide) (t := .int) (t' := .int) (by decide) (by decide)))) (Or.inr (slot_ne (Or.inl (hw _ (List.mem_of_getElem? (i := 16) rfl))) (Or.inl (hw _ (List.mem_of_getElem? (i := 38) rfl))) (by decide) (t := .int) (t' := .boolean) (by decide) (by decide))))
          have f146 : Fld Z h142 o "com/example/libelem/libelem/io/TextPosition" "column" "I" (.int (1 : Int32)) := (Fld.other W142 f134 (Or.inr (slot_ne (Or.inl (hw _ (List.mem_of_getElem? (i := 18) rfl))) (Or.inl (hw _ (List.mem_of_getElem? (i := 38) rfl))) (by decide) (t := .int) (t' := .boolean) (by decide) (by decide))))
          refine own_retV X142 hx hlk hret (hb hby d_prog_66_method_2_131) ?_ (by decide) (by decide)
          rw [e142]
          exact ⟨rfl, N142, K144, (own_fldV f145 (congrArg Value.int (by first | rfl | (simp [c95, c104, c128, own_sl, own_sc, own_sa, own_L0, own_L1, own_L2, own_C0, own_C1, own_C2, own_A0, own_A1, own_A2, own_k0, own_k1, own_k2]; done)))), (own_fldV f146 (congrArg Value.int (by first | rfl | (simp [c95, c104, c128, own_sl, own_sc, own_sa, own_L0, own_L1, own_L2, own_C0, own_C1, own_C2, own_A0, own_A1, own_A2, own_k0, own_k1, own_k2]; done)))), (own_fldV f142 (congrArg Value.int (by first | rfl | (simp [c95, c104, c128, own_sl, own_sc, own_sa, own_L0, own_L1, own_L2, own_C0, own_C1, own_C2, own_A0, own_A1, own_A2, own_k0, own_k1, own_k2]; done))))⟩
        · refine g_icmpYes X99 hx 93 (hb hby d_prog_66_method_2_33) (own_ii_ne_t c128) (by decide) (by decide) ?_
          refine g_iinc X99 hx 96 (hb hby d_prog_66_method_2_93) (z := (2 : Int32)) rfl rfl (l' := #[.val (.ref o), .val (.ref ar), .val (.int (2 : Int32)), .val (.int (1 : Int32)), .val (.int (2 : Int32)), .val (.int u1), .val (.int ac)]) rfl rfl ?_
          refine g_goto X99 hx 10 (hb hby d_prog_66_method_2_96) (by decide) (by decide) ?_
          refine g_iload X99 hx 12 (hb hby d_prog_66_method_2_10) rfl rfl ?_
          refine g_iload_n X99 hx 13 (hb hby d_prog_66_method_2_12) rfl rfl ?_
          refine g_icmpYes X99 hx 99 (hb hby d_prog_66_method_2_13) (own_ii_ge_t (by decide)) (by decide) (by decide) ?_
          refine g_aload_n X99 hx 100 (hb hby d_prog_66_method_2_99) rfl rfl rfl ?_
          refine g_iload_n X99 hx 101 (hb hby d_prog_66_method_2_100) rfl rfl ?_
          refine g_iload_n X99 hx 102 (hb hby d_prog_66_method_2_101) rfl rfl ?_
          refine g_isub X99 hx 103 (hb hby d_prog_66_method_2_102) rfl ?_
          show own_Go p e below s _ _ _ (T99.setTop (mkF m 103 _ [(.int (1 : Int32)), (.ref o)]))
          refine g_iconst X99 hx 104 (hb hby d_prog_66_method_2_103) (1 : Int32) rfl rfl ?_
          refine g_iadd X99 hx 105 (hb hby d_prog_66_method_2_104) rfl ?_
          show own_Go p e below s _ _ _ (T99.setTop (mkF m 105 _ [(.int (2 : Int32)), (.ref o)]))
          have f147 : Exa Z h99 o "com/example/libelem/libelem/io/TextPosition" := (Exa.wr W99 E_o)
          have f148 : Fld Z h99 o "com/example/libelem/libelem/io/TextPosition" "column" "I" (.int co) := (Fld.other W99 F_o_column (Or.inr (slot_ne (Or.inl (hw _ (List.mem_of_getElem? (i := 18) rfl))) (Or.inl (hw _ (List.mem_of_getElem? (i := 16) rfl))) (by decide) (t := .int) (t' := .int) (by decide) (by decide))))
          refine own_putF X99 hx hZ hown (host := "") (Or.inl (hw _ (List.mem_of_getElem? (i := 17) rfl))) Via.refl e99 f148 f147 (Or.inl (hw _ (List.mem_of_getElem? (i := 18) rfl))) (hw _ (List.mem_of_getElem? (i := 7) rfl)) (ty := .int) (by decide) rfl rfl 108 (hb hby d_prog_66_method_2_105) rfl fun T149 h149 X149 e149 W149 => ?_
          have f149 : Fld Z h149 o "com/example/libelem/libelem/io/TextPosition" "column" "I" (.int (2 : Int32)) := Fld.same W149 f148
          have N149 := Fr.snoc X149 N99 g_o
          have z150 : n0 ≤ h149.size := (Nat.le_trans z100 (Keep.of_wr W149).1)
          have K151 : Keep h0 h149 [o] := K101.wr W149 (Or.inl (List.mem_of_getElem? (i := 0) rfl))
          refine g_iload_n X149 hx 109 (hb hby d_prog_66_method_2_108) rfl rfl ?_
          refine g_ifNo X149 hx 112 (hb hby d_prog_66_method_2_109) (own_i0_le_f (by decide)) rfl ?_
          refine g_aload_n X149 hx 113 (hb hby d_prog_66_method_2_112) rfl rfl rfl ?_
          refine g_aload_n X149 hx 114 (hb hby d_prog_66_method_2_113) rfl rfl rfl ?_
          refine g_iload_n X149 hx 115 (hb hby d_prog_66_method_2_114) rfl rfl ?_
          refine g_iconst X149 hx 116 (hb hby d_prog_66_method_2_115) (1 : Int32) rfl rfl ?_
          refine g_isub X149 hx 117 (hb hby d_prog_66_method_2_116) rfl ?_
          show own_Go p e below s _ _ _ (T149.setTop (mkF m 117 _ [(.int (1 : Int32)), (.ref ar), (.ref o)]))
          have f152 : Arv Z h149 ar ka .char (2 : Int32) [(.int u0), (.int u1)] (.int (0 : Int32)) := (f102.other W149 ne_ar_o)
          obtain ⟨cl153, Ar153, q153, S153, P153, H153, G153⟩ := id f152
          have hin153 := inb_of (j := (1 : Int32)) S153 ⟨by decide, by decide⟩
          refine own_caload X149 hx hZ e149 Ar153 (v := (.int u1)) hin153 (Has.at H153 hin153 rfl) 118 (hb hby d_prog_66_method_2_117) rfl ?_
          refine g_bipush X149 hx 120 (hb hby d_prog_66_method_2_118) (13 : Int32) rfl rfl ?_
          refine g_icmpYes X149 hx 127 (hb hby d_prog_66_method_2_120) (own_ii_ne_t c104) (by decide) (by decide) ?_
          refine g_iconst X149 hx 128 (hb hby d_prog_66_method_2_127) (0 : Int32) rfl rfl ?_
          have f155 : Exa Z h149 o "com/example/libelem/libelem/io/TextPosition" := (Exa.wr W149 f147)
          have f156 : Fld Z h149 o "com/example/libelem/libelem/io/TextPosition" "afterCarriageReturn" "Z" (.int ac) := (Fld.other W149 (Fld.other W99 F_o_afterCarriageReturn (Or.inr (slot_ne (Or.inl (hw _ (List.mem_of_getElem? (i := 38) rfl))) (Or.inl (hw _ (List.mem_of_getElem? (i := 16) rfl))) (by decide) (t := .boolean) (t' := .int) (by decide) (by decide)))) (Or.inr (slot_ne (Or.inl (hw _ (List.mem_of_getElem? (i := 38) rfl))) (Or.inl (hw _ (List.mem_of_getElem? (i := 18) rfl))) (by decide) (t := .boolean) (t' := .int) (by decide) (by decide))))
          refine own_putFN X149 hx hZ hown (hw _ (List.mem_of_getElem? (i := 37) rfl)) Via.refl e149 (.int (0 : Int32)) f156 f155 (Or.inl (hw _ (List.mem_of_getElem? (i := 38) rfl))) (hw _ (List.mem_of_getElem? (i := 7) rfl)) (ty := .boolean) (by decide) rfl rfl 131 (hb hby d_prog_66_method_2_128) rfl fun T157 h157 X157 e157 W157 => ?_
          have f157 : Fld Z h157 o "com/example/libelem/libelem/io/TextPosition" "afterCarriageReturn" "Z" (.int (0 : Int32)) := Fld.same W157 f156
          have N157 := Fr.snoc X157 N149 g_o
          have z158 : n0 ≤ h157.size := (Nat.le_trans z150 (Keep.of_wr W157).1)
          have K159 : Keep h0 h157 [o] := K151.wr W157 (Or.inl (List.mem_of_getElem? (i := 0) rfl))
          have f160 : Fld Z h157 o "com/example/libelem/libelem/io/TextPosition" "line" "I" (.int (li + (1 : Int32))) := (Fld.other W157 (Fld.other W149 f99 (Or.inr (slot_ne (Or.inl (hw _ (List.mem_of_getElem? (i := 16) rfl))) (Or.inl (hw _ (List.mem_of_getElem? (i := 18) rfl))) (by decide) (t := .int) (t' := .int) (by decide) (by decide)))) (Or.inr (slot_ne (Or.inl (hw _ (List.mem_of_getElem? (i := 16) rfl))) (Or.inl (hw _ (List.mem_of_getElem? (i := 38) rfl))) (by decide) (t := .int) (t' := .boolean) (by decide) (by decide))))
          have f161 : Fld Z h157 o "com/example/libelem/libelem/io/TextPosition" "column" "I" (.int (2 : Int32)) := (Fld.other W157 f149 (Or.inr (slot_ne (Or.inl (hw _ (List.mem_of_getElem? (i := 18) rfl))) (Or.inl (hw _ (List.mem_of_getElem? (i := 38) rfl))) (by decide) (t := .int) (t' := .boolean) (by decide) (by decide))))
          refine own_retV X157 hx hlk hret (hb hby d_prog_66_method_2_131) ?_ (by decide) (by decide)
          rw [e157]
          exact ⟨rfl, N157, K159, (own_fldV f160 (congrArg Value.int (by first | rfl | (simp [c95, c104, c128, own_sl, own_sc, own_sa, own_L0, own_L1, own_L2, own_C0, own_C1, own_C2, own_A0, own_A1, own_A2, own_k0, own_k1, own_k2]; done)))), (own_fldV f161 (congrArg Value.int (by first | rfl | (simp [c95, c104, c128, own_sl, own_sc, own_sa, own_L0, own_L1, own_L2, own_C0, own_C1, own_C2, own_A0, own_A1, own_A2, own_k0, own_k1, own_k2]; done)))), (own_fldV f157 (congrArg Value.int (by first | rfl | (simp [c95, c104, c128, own_sl, own_sc, own_sa, own_L0, own_L1, own_L2, own_C0, own_C1, own_C2, own_A0, own_A1, own_A2, own_k0, own_k1, own_k2]; done))))⟩
    · refine g_icmpNo X93 hx 29 (hb hby d_prog_66_method_2_26) (own_ii_eq_f c95) rfl ?_
      refine g_iload X93 hx 31 (hb hby d_prog_66_method_2_29) rfl rfl ?_
      refine g_bipush X93 hx 33 (hb hby d_prog_66_method_2_31) (10 : Int32) rfl rfl ?_
      by_cases c162 : u0 = (10 : Int32)
      · refine g_icmpNo X93 hx 36 (hb hby d_prog_66_method_2_33) (own_ii_ne_f c162) rfl ?_
        refine g_iload X93 hx 38 (hb hby d_prog_66_method_2_36) rfl rfl ?_
        refine g_ifNo X93 hx 41 (hb hby d_prog_66_method_2_38) (own_i0_ne_f (by decide)) rfl ?_
        refine g_aload_n X93 hx 42 (hb hby d_prog_66_method_2_41) rfl rfl rfl ?_
        refine own_getF X93 hx hZ hown (host := "") (Or.inl (hw _ (List.mem_of_getElem? (i := 37) rfl))) Via.refl e93 F_o_afterCarriageReturn 45 (hb hby d_prog_66_method_2_42) rfl fun T163 X163 e163 => ?_
        refine g_goto X163 hx 64 (hb hby d_prog_66_method_2_45) (by decide) (by decide) ?_
        refine g_istore X163 hx 66 (hb hby d_prog_66_method_2_64) (l' := #[.val (.ref o), .val (.ref ar), .val (.int (2 : Int32)), .val (.int ((1 : Int32) - co)), .val (.int (0 : Int32)), .val (.int u0), .val (.int ac)]) rfl rfl ?_
        refine g_iload X163 hx 68 (hb hby d_prog_66_method_2_66) rfl rfl ?_
        refine g_bipush X163 hx 70 (hb hby d_prog_66_method_2_68) (13 : Int32) rfl rfl ?_
        refine g_icmpNo X163 hx 73 (hb hby d_prog_66_method_2_70) (own_ii_eq_f c95) rfl ?_
        refine g_iload X163 hx 75 (hb hby d_prog_66_method_2_73) rfl rfl ?_
        by_cases c165 : ac = (0 : Int32)
        · refine g_ifNo X163 hx 78 (hb hby d_prog_66_method_2_75) (own_i0_ne_f c165) rfl ?_
          refine g_aload_n X163 hx 79 (hb hby d_prog_66_method_2_78) rfl rfl rfl ?_
          refine g_dup X163 hx 80 (hb hby d_prog_66_method_2_79) rfl rfl ?_
          refine own_getF X163 hx hZ hown (host := "") (Or.inl (hw _ (List.mem_of_getElem? (i := 15) rfl))) Via.refl e163 F_o_line 83 (hb hby d_prog_66_method_2_80) rfl fun T166 X166 e166 => ?_
          refine g_iconst X166 hx 84 (hb hby d_prog_66_method_2_83) (1 : Int32) rfl rfl ?_
          refine g_iadd X166 hx 85 (hb hby d_prog_66_method_2_84) rfl ?_
          refine own_putF X166 hx hZ hown (host := "") (Or.inl (hw _ (List.mem_of_getElem? (i := 15) rfl))) Via.refl e166 F_o_line E_o (Or.inl (hw _ (List.mem_of_getElem? (i := 16) rfl))) (hw _ (List.mem_of_getElem? (i := 7) rfl)) (ty := .int) (by decide) rfl rfl 88 (hb hby d_prog_66_method_2_85) rfl fun T167 h167 X167 e167 W167 => ?_
          have f167 : Fld Z h167 o "com/example/libelem/libelem/io/TextPosition" "line" "I" (.int (li + (1 : Int32))) := Fld.same W167 F_o_line
          have N167 := Fr.snoc X167 N0 g_o
          have z168 : n0 ≤ h167.size := (Nat.le_trans Z0 (Keep.of_wr W167).1)
          have K169 : Keep h0 h167 [o] := (Keep.refl h0 [o]).wr W167 (Or.inl (List.mem_of_getElem? (i := 0) rfl))
          refine g_iload X167 hx 90 (hb hby d_prog_66_method_2_88) rfl rfl ?_
          refine g_iconst X167 hx 91 (hb hby d_prog_66_method_2_90) (1 : Int32) rfl rfl ?_
          refine g_iadd X167 hx 92 (hb hby d_prog_66_method_2_91) rfl ?_
          show own_Go p e below s _ _ _ (T167.setTop (mkF m 92 _ [(.int (1 : Int32))]))
          refine g_istore_n X167 hx 93 (hb hby d_prog_66_method_2_92) (l' := #[.val (.ref o), .val (.ref ar), .val (.int (2 : Int32)), .val (.int (1 : Int32)), .val (.int (0 : Int32)), .val (.int u0), .val (.int ac)]) rfl rfl ?_
          refine g_iinc X167 hx 96 (hb hby d_prog_66_method_2_93) (z := (1 : Int32)) rfl rfl (l' := #[.val (.ref o), .val (.ref ar), .val (.int (2 : Int32)), .val (.int (1 : Int32)), .val (.int (1 : Int32)), .val (.int u0), .val (.int ac)]) rfl rfl ?_
          refine g_goto X167 hx 10 (hb hby d_prog_66_method_2_96) (by decide) (by decide) ?_
          refine g_iload X167 hx 12 (hb hby d_prog_66_method_2_10) rfl rfl ?_
          refine g_iload_n X167 hx 13 (hb hby d_prog_66_method_2_12) rfl rfl ?_
          refine g_icmpNo X167 hx 16 (hb hby d_prog_66_method_2_13) (own_ii_ge_f (by decide)) rfl ?_
          refine g_aload_n X167 hx 17 (hb hby d_prog_66_method_2_16) rfl rfl rfl ?_
          refine g_iload X167 hx 19 (hb hby d_prog_66_method_2_17) rfl rfl ?_
          have f170 : Arv Z h167 ar ka .char (2 : Int32) [(.int u0), (.int u1)] (.int (0 : Int32)) := (V_ar.other W167 ne_ar_o)
          obtain ⟨cl171, Ar171, q171, S171, P171, H171, G171⟩ := id f170
          have hin171 := inb_of (j := (1 : Int32)) S171 ⟨by decide, by decide⟩
          refine own_caload X167 hx hZ e167 Ar171 (v := (.int u1)) hin171 (Has.at H171 hin171 rfl) 20 (hb hby d_prog_66_method_2_19) rfl ?_
          refine g_istore X167 hx 22 (hb hby d_prog_66_method_2_20) (l' := #[.val (.ref o), .val (.ref ar), .val (.int (2 : Int32)), .val (.int (1 : Int32)), .val (.int (1 : Int32)), .val (.int u1), .val (.int ac)]) rfl rfl ?_
          refine g_iload X167 hx 24 (hb hby d_prog_66_method_2_22) rfl rfl ?_
          refine g_bipush X167 hx 26 (hb hby d_prog_66_method_2_24) (13 : Int32) rfl rfl ?_
          by_cases c172 : u1 = (13 : Int32)
          · refine g_icmpYes X167 hx 36 (hb hby d_prog_66_method_2_26) (own_ii_eq_t c172) (by decide) (by decide) ?_
            refine g_iload X167 hx 38 (hb hby d_prog_66_method_2_36) rfl rfl ?_
            refine g_ifYes X167 hx 48 (hb hby d_prog_66_method_2_38) (own_i0_ne_t (by decide)) (by decide) (by decide) ?_
            refine g_aload_n X167 hx 49 (hb hby d_prog_66_method_2_48) rfl rfl rfl ?_
            refine g_iload X167 hx 51 (hb hby d_prog_66_method_2_49) rfl rfl ?_
            refine g_iconst X167 hx 52 (hb hby d_prog_66_method_2_51) (1 : Int32) rfl rfl ?_
            refine g_isub X167 hx 53 (hb hby d_prog_66_method_2_52) rfl ?_
            show own_Go p e below s _ _ _ (T167.setTop (mkF m 53 _ [(.int (0 : Int32)), (.ref ar)]))
            obtain ⟨cl173, Ar173, q173, S173, P173, H173, G173⟩ := id f170
            have hin173 := inb_of (j := (0 : Int32)) S173 ⟨by decide, by decide⟩
            refine own_caload X167 hx hZ e167 Ar173 (v := (.int u0)) hin173 (Has.at H173 hin173 rfl) 54 (hb hby d_prog_66_method_2_53) rfl ?_
            refine g_bipush X167 hx 56 (hb hby d_prog_66_method_2_54) (13 : Int32) rfl rfl ?_
            refine g_icmpYes X167 hx 63 (hb hby d_prog_66_method_2_56) (own_ii_ne_t c95) (by decide) (by decide) ?_
            refine g_iconst X167 hx 64 (hb hby d_prog_66_method_2_63) (0 : Int32) rfl rfl ?_
            refine g_istore X167 hx 66 (hb hby d_prog_66_method_2_64) (l' := #[.val (.ref o), .val (.ref ar), .val (.int (2 : Int32)), .val (.int (1 : Int32)), .val (.int (1 : Int32)), .val (.int u1), .val (.int (0 : Int32))]) rfl rfl ?_
            refine g_iload X167 hx 68 (hb hby d_prog_66_method_2_66) rfl rfl ?_
            refine g_bipush X167 hx 70 (hb hby d_prog_66_method_2_68) (13 : Int32) rfl rfl ?_
            refine g_icmpYes X167 hx 78 (hb hby d_prog_66_method_2_70) (own_ii_eq_t c172) (by decide) (by decide) ?_
            refine g_aload_n X167 hx 79 (hb hby d_prog_66_method_2_78) rfl rfl rfl ?_
            refine g_dup X167 hx 80 (hb hby d_prog_66_method_2_79) rfl rfl ?_
            refine own_getF X167 hx hZ hown (host := "") (Or.inl (hw _ (List.mem_of_getElem? (i := 15) rfl))) Via.refl e167 f167 83 (hb hby d_prog_66_method_2_80) rfl fun T176 X176 e176 => ?_
            refine g_iconst X176 hx 84 (hb hby d_prog_66_method_2_83) (1 : Int32) rfl rfl ?_
            refine g_iadd X176 hx 85 (hb hby d_prog_66_method_2_84) rfl ?_
            have f177 : Exa Z h167 o "com/example/libelem/libelem/io/TextPosition" := (Exa.wr W167 E_o)
            refine own_putF X176 hx hZ hown (host := "") (Or.inl (hw _ (List.mem_of_getElem? (i := 15) rfl))) Via.refl e176 f167 f177 (Or.inl (hw _ (List.mem_of_getElem? (i := 16) rfl))) (hw _ (List.mem_of_getElem? (i := 7) rfl)) (ty := .int) (by decide) rfl rfl 88 (hb hby d_prog_66_method_2_85) rfl fun T178 h178 X178 e178 W178 => ?_
            have f178 : Fld Z h178 o "com/example/libelem/libelem/io/TextPosition" "line" "I" (.int ((li + (1 : Int32)) + (1 : Int32))) := Fld.same W178 f167
            have N178 := Fr.snoc X178 N167 g_o
            have z179 : n0 ≤ h178.size := (Nat.le_trans z168 (Keep.of_wr W178).1)
            have K180 : Keep h0 h178 [o] := K169.wr W178 (Or.inl (List.mem_of_getElem? (i := 0) rfl))
            refine g_iload X178 hx 90 (hb hby d_prog_66_method_2_88) rfl rfl ?_
            refine g_iconst X178 hx 91 (hb hby d_prog_66_method_2_90) (1 : Int32) rfl rfl ?_
            refine g_iadd X178 hx 92 (hb hby d_prog_66_method_2_91) rfl ?_
            show own_Go p e below s _ _ _ (T178.setTop (mkF m 92 _ [(.int (2 : Int32))]))
            refine g_istore_n X178 hx 93 (hb hby d_prog_66_method_2_92) (l' := #[.val (.ref o), .val (.ref ar), .val (.int (2 : Int32)), .val (.int (2 : Int32)), .val (.int (1 : Int32)), .val (.int u1), .val (.int (0 : Int32))]) rfl rfl ?_
            refine g_iinc X178 hx 96 (hb hby d_prog_66_method_2_93) (z := (2 : Int32)) rfl rfl (l' := #[.val (.ref o), .val (.ref ar), .val (.int (2 : Int32)), .val (.int (2 : Int32)), .val (.int (2 : Int32)), .val (.int u1), .val (.int (0 : Int32))]) rfl rfl ?_
            refine g_goto X178 hx 10 (hb hby d_prog_66_method_2_96) (by decide) (by decide) ?_
            refine g_iload X178 hx 12 (hb hby d_prog_66_method_2_10) rfl rfl ?_
            refine g_iload_n X178 hx 13 (hb hby d_prog_66_method_2_12) rfl rfl ?_
            refine g_icmpYes X178 hx 99 (hb hby d_prog_66_method_2_13) (own_ii_ge_t (by decide)) (by decide) (by decide) ?_
            refine g_aload_n X178 hx 100 (hb hby d_prog_66_method_2_99) rfl rfl rfl ?_
            refine g_iload_n X178 hx 101 (hb hby d_prog_66_method_2_100) rfl rfl ?_
            refine g_iload_n X178 hx 102 (hb hby d_prog_66_method_2_101) rfl rfl ?_
            refine g_isub X178 hx 103 (hb hby d_prog_66_method_2_102) rfl ?_
            show own_Go p e below s _ _ _ (T178.setTop (mkF m 103 _ [(.int (0 : Int32)), (.ref o)]))
            refine g_iconst X178 hx 104 (hb hby d_prog_66_method_2_103) (1 : Int32) rfl rfl ?_
            refine g_iadd X178 hx 105 (hb hby d_prog_66_method_2_104) rfl ?_
            show own_Go p e below s _ _ _ (T178.setTop (mkF m 105 _ [(.int (1 : Int32)), (.ref o)]))
            have f181 : Exa Z h178 o "com/example/libelem/libelem/io/TextPosition" := (Exa.wr W178 f177)
            have f182 : Fld Z h178 o "com/example/libelem/libelem/io/TextPosition" "column" "I" (.int co) := (Fld.other W178 (Fld.other W167 F_o_column (Or.inr (slot_ne (Or.inl (hw _ (List.mem_of_getElem? (i := 18) rfl))) (Or.inl (hw _ (List.mem_of_getElem? (i := 16) rfl))) (by decide) (t := .int) (t' := .int) (by decide) (by decide)))) (Or.inr (slot_ne (Or.inl (hw _ (List.mem_of_getElem? (i := 18) rfl))) (Or.inl (hw _ (List.mem_of_getElem? (i := 16) rfl))) (by decide) (t := .int) (t' := .int) (by decide) (by decide))))
            refine own_putF X178 hx hZ hown (host := "") (Or.inl (hw _ (List.mem_of_getElem? (i := 17) rfl))) Via.refl e178 f182 f181 (Or.inl (hw _ (List.mem_of_getElem? (i := 18) rfl))) (hw _ (List.mem_of_getElem? (i := 7) rfl)) (ty := .int) (by decide) rfl rfl 108 (hb hby d_prog_66_method_2_105) rfl fun T183 h183 X183 e183 W183 => ?_
            have f183 : Fld Z h183 o "com/example/libelem/libelem/io/TextPosition" "column" "I" (.int (1 : Int32)) := Fld.same W183 f182
            have N183 := Fr.snoc X183 N178 g_o
            have z184 : n0 ≤ h183.size := (Nat.le_trans z179 (Keep.of_wr W183).1)
            have K185 : Keep h0 h183 [o] := K180.wr W183 (Or.inl (List.mem_of_getElem? (i := 0) rfl))
            refine g_iload_n X183 hx 109 (hb hby d_prog_66_method_2_108) rfl rfl ?_
            refine g_ifNo X183 hx 112 (hb hby d_prog_66_method_2_109) (own_i0_le_f (by decide)) rfl ?_
            refine g_aload_n X183 hx 113 (hb hby d_prog_66_method_2_112) rfl rfl rfl ?_
            refine g_aload_n X183 hx 114 (hb hby d_prog_66_method_2_113) rfl rfl rfl ?_
            refine g_iload_n X183 hx 115 (hb hby d_prog_66_method_2_114) rfl rfl ?_
            refine g_iconst X183 hx 116 (hb hby d_prog_66_method_2_115) (1 : Int32) rfl rfl ?_
            refine g_isub X183 hx 117 (hb hby d_prog_66_method_2_116) rfl ?_
            show own_Go p e below s _ _ _ (T183.setTop (mkF m 117 _ [(.int (1 : Int32)), (.ref ar), (.ref o)]))
            have f186 : Arv Z h183 ar ka .char (2 : Int32) [(.int u0), (.int u1)] (.int (0 : Int32)) := ((f170.other W178 ne_ar_o).other W183 ne_ar_o)
            obtain ⟨cl187, Ar187, q187, S187, P187, H187, G187⟩ := id f186
            have hin187 := inb_of (j := (1 : Int32)) S187 ⟨by decide, by decide⟩
            refine own_caload X183 hx hZ e183 Ar187 (v := (.int u1)) hin187 (Has.at H187 hin187 rfl) 118 (hb hby d_prog_66_method_2_117) rfl ?_
            refine g_bipush X183 hx 120 (hb hby d_prog_66_method_2_118) (13 : Int32) rfl rfl ?_
            refine g_icmpNo X183 hx 123 (hb hby d_prog_66_method_2_120) (own_ii_ne_f c172) rfl ?_
            refine g_iconst X183 hx 124 (hb hby d_prog_66_method_2_123) (1 : Int32) rfl rfl ?_
            refine g_goto X183 hx 128 (hb hby d_prog_66_method_2_124) (by decide) (by decide) ?_
            have f189 : Exa Z h183 o "com/example/libelem/libelem/io/TextPosition" := (Exa.wr W183 f181)
            have f190 : Fld Z h183 o "com/example/libelem/libelem/io/TextPosition" "afterCarriageReturn" "Z" (.int ac) := (Fld.other W183 (Fld.other W178 (Fld.other W167 F_o_afterCarriageReturn (Or.inr (slot_ne (Or.inl (hw _ (List.mem_of_getElem? (i := 38) rfl))) (Or.inl (hw _ (List.mem_of_getElem? (i := 16) rfl))) (by decide) (t := .boolean) (t' := .int) (by decide) (by decide)))) (Or.inr (slot_ne (Or.inl (hw _ (List.mem_of_getElem? (i := 38) rfl))) (Or.inl (hw _ (List.mem_of_getElem? (i := 16) rfl))) (by decide) (t := .boolean) (t' := .int) (by decide) (by decide)))) (Or.inr (slot_ne (Or.inl (hw _ (List.mem_of_getElem? (i := 38) rfl))) (Or.inl (hw _ (List.mem_of_getElem? (i := 18) rfl))) (by decide) (t := .boolean) (t' := .int) (by decide) (by decide))))
            refine own_putFN X183 hx hZ hown (hw _ (List.mem_of_getElem? (i := 37) rfl)) Via.refl e183 (.int (1 : Int32)) f190 f189 (Or.inl (hw _ (List.mem_of_getElem? (i := 38) rfl))) (hw _ (List.mem_of_getElem? (i := 7) rfl)) (ty := .boolean) (by decide) rfl rfl 131 (hb hby d_prog_66_method_2_128) rfl fun T191 h191 X191 e191 W191 => ?_
            have f191 : Fld Z h191 o "com/example/libelem/libelem/io/TextPosition" "afterCarriageReturn" "Z" (.int (1 : Int32)) := Fld.same W191 f190
            have N191 := Fr.snoc X191 N183 g_o
            have z192 : n0 ≤ h191.size := (Nat.le_trans z184 (Keep.of_wr W191).1)
            have K193 : Keep h0 h191 [o] := K185.wr W191 (Or.inl (List.mem_of_getElem? (i := 0) rfl))
            have f194 : Fld Z h191 o "com/example/libelem/libelem/io/TextPosition" "line" "I" (.int ((li + (1 : Int32)) + (1 : Int32))) := (Fld.other W191 (Fld.other W183 f178 (Or.inr (slot_ne (Or.inl (hw _ (List.mem_of_getElem? (i := 16) rfl))) (Or.inl (hw _ (List.mem_of_getElem? (i := 18) rfl))) (by decide) (t := .int) (t' := .int) (by decide) (by decide)))) (Or.inr (slot_ne (Or.inl (hw _ (List.mem_of_getElem? (i := 16) rfl))) (Or.inl (hw _ (List.mem_of_getElem? (i := 38) rfl))) (by decide) (t := .int) (t' := .boolean) (by decide) (by decide))))
            have f195 : Fld Z h191 o "com/example/libelem/libelem/io/TextPosition" "column" "I" (.int (1 : Int32)) := (Fld.other W191 f183 (Or.inr (slot_ne (Or.inl (hw _ (List.mem_of_getElem? (i := 18) rfl))) (Or.inl (hw _ (List.mem_of_getElem? (i := 38) rfl))) (by decide) (t := .int) (t' := .boolean) (by decide) (by decide))))
            refine own_retV X191 hx hlk hret (hb hby d_prog_66_method_2_131) ?_ (by decide) (by decide)
            rw [e191]
            exact ⟨rfl, N191, K193, (own_fldV f194 (congrArg Value.int (by first | rfl | (simp [c95, c162, c165, c172, own_sl, own_sc, own_sa, own_L0, own_L1, own_L2, own_C0, own_C1, own_C2, own_A0, own_A1, own_A2, own_k0, own_k1, own_k2]; done)))), (own_fldV f195 (congrArg Value.int (by first | rfl | (simp [c95, c162, c165, c172, own_sl, own_sc, own_sa, own_L0, own_L1, own_L2, own_C0, own_C1, own_C2, own_A0, own_A1, own_A2, own_k0, own_k1, own_k2]; done)))), (own_fldV f191 (congrArg Value.int (by first | rfl | (simp [c95, c162, c165, c172, own_sl, own_sc, own_sa, own_L0, own_L1, own_L2, own_C0, own_C1, own_C2, own_A0, own_A1, own_A2, own_k0, own_k1, own_k2]; done))))⟩
          · refine g_icmpNo X167 hx 29 (hb hby d_prog_66_method_2_26) (own_ii_eq_f c172) rfl ?_
            refine g_iload X167 hx 31 (hb hby d_prog_66_method_2_29) rfl rfl ?_
            refine g_bipush X167 hx 33 (hb hby d_prog_66_method_2_31) (10 : Int32) rfl rfl ?_
            by_cases c196 : u1 = (10 : Int32)
            · refine g_icmpNo X167 hx 36 (hb hby d_prog_66_method_2_33) (own_ii_ne_f c196) rfl ?_
              refine g_iload X167 hx 38 (hb hby d_prog_66_method_2_36) rfl rfl ?_
              refine g_ifYes X167 hx 48 (hb hby d_prog_66_method_2_38) (own_i0_ne_t (by decide)) (by decide) (by decide) ?_
              refine g_aload_n X167 hx 49 (hb hby d_prog_66_method_2_48) rfl rfl rfl ?_
              refine g_iload X167 hx 51 (hb hby d_prog_66_method_2_49) rfl rfl ?_
              refine g_iconst X167 hx 52 (hb hby d_prog_66_method_2_51) (1 : Int32) rfl rfl ?_
              refine g_isub X167 hx 53 (hb hby d_prog_66_method_2_52) rfl ?_
              show own_Go p e below s _ _ _ (T167.setTop (mkF m 53 _ [(.int (0 : Int32)), (.ref ar)]))
              obtain ⟨cl197, Ar197, q197, S197, P197, H197, G197⟩ := id f170
              have hin197 := inb_of (j := (0 : Int32)) S197 ⟨by decide, by decide⟩
              refine own_caload X167 hx hZ e167 Ar197 (v := (.int u0)) hin197 (Has.at H197 hin197 rfl) 54 (hb hby d_prog_66_method_2_53) rfl ?_
              refine g_bipush X167 hx 56 (hb hby d_prog_66_method_2_54) (13 : Int32) rfl rfl ?_
              refine g_icmpYes X167 hx 63 (hb hby d_prog_66_method_2_56) (own_ii_ne_t c95) (by decide) (by decide) ?_
              refine g_iconst X167 hx 64 (hb hby d_prog_66_method_2_63) (0 : Int32) rfl rfl ?_
              refine g_istore X167 hx 66 (hb hby d_prog_66_method_2_64) (l' := #[.val (.ref o), .val (.ref ar), .val (.int (2 : Int32)), .val (.int (1 : Int32)), .val (.int (1 : Int32)), .val (.int u1), .val (.int (0 : Int32))]) rfl rfl ?_
              refine g_iload X167 hx 68 (hb hby d_prog_66_method_2_66) rfl rfl ?_
              refine g_bipush X167 hx 70 (hb hby d_prog_66_method_2_68) (13 : Int32) rfl rfl ?_
              refine g_icmpNo X167 hx 73 (hb hby d_prog_66_method_2_70) (own_ii_eq_f c172) rfl ?_
              refine g_iload X167 hx 75 (hb hby d_prog_66_method_2_73) rfl rfl ?_
              refine g_ifNo X167 hx 78 (hb hby d_prog_66_method_2_75) (own_i0_ne_f (by decide)) rfl ?_
              refine g_aload_n X167 hx 79 (hb hby d_prog_66_method_2_78) rfl rfl rfl ?_
              refine g_dup X167 hx 80 (hb hby d_prog_66_method_2_79) rfl rfl ?_
              refine own_getF X167 hx hZ hown (host := "") (Or.inl (hw _ (List.mem_of_getElem? (i := 15) rfl))) Via.refl e167 f167 83 (hb hby d_prog_66_method_2_80) rfl fun T200 X200 e200 => ?_
              refine g_iconst X200 hx 84 (hb hby d_prog_66_method_2_83) (1 : Int32) rfl rfl ?_
              refine g_iadd X200 hx 85 (hb hby d_prog_66_method_2_84) rfl ?_
              have f201 : Exa Z h167 o "com/example/libelem/libelem/io/TextPosition" := (Exa.wr W167 E_o)
              refine own_putF X200 hx hZ hown (host := "") (Or.inl (hw _ (List.mem_of_getElem? (i := 15) rfl))) Via.refl e200 f167 f201 (Or.inl (hw _ (List.mem_of_getElem? (i := 16) rfl))) (hw _ (List.mem_of_getElem? (i := 7) rfl)) (ty := .int) (by decide) rfl rfl 88 (hb hby d_prog_66_method_2_85) rfl fun T202 h202 X202 e202 W202 => ?_
              have f202 : Fld Z h202 o "com/example/libelem/libelem/io/TextPosition" "line" "I" (.int ((li + (1 : Int32)) + (1 : Int32))) := Fld.same W202 f167
              have N202 := Fr.snoc X202 N167 g_o
              have z203 : n0 ≤ h202.size := (Nat.le_trans z168 (Keep.of_wr W202).1)
              have K204 : Keep h0 h202 [o] := K169.wr W202 (Or.inl (List.mem_of_getElem? (i := 0) rfl))
              refine g_iload X202 hx 90 (hb hby d_prog_66_method_2_88) rfl rfl ?_
              refine g_iconst X202 hx 91 (hb hby d_prog_66_method_2_90) (1 : Int32) rfl rfl ?_
              refine g_iadd X202 hx 92 (hb hby d_prog_66_method_2_91) rfl ?_
              show own_Go p e below s _ _ _ (T202.setTop (mkF m 92 _ [(.int (2 : Int32))]))
              refine g_istore_n X202 hx 93 (hb hby d_prog_66_method_2_92) (l' := #[.val (.ref o), .val (.ref ar), .val (.int (2 : Int32)), .val (.int (2 : Int32)), .val (.int (1 : Int32)), .val (.int u1), .val (.int (0 : Int32))]) rfl rfl ?_
              refine g_iinc X202 hx 96 (hb hby d_prog_66_method_2_93) (z := (2 : Int32)) rfl rfl (l' := #[.val (.ref o), .val (.ref ar), .val (.int (2 : Int32)), .val (.int (2 : Int32)), .val (.int (2 : Int32)), .val (.int u1), .val (.int (0 : Int32))]) rfl rfl ?_
              refine g_goto X202 hx 10 (hb hby d_prog_66_method_2_96) (by decide) (by decide) ?_
              refine g_iload X202 hx 12 (hb hby d_prog_66_method_2_10) rfl rfl ?_
              refine g_iload_n X202 hx 13 (hb hby d_prog_66_method_2_12) rfl rfl ?_
              refine g_icmpYes X202 hx 99 (hb hby d_prog_66_method_2_13) (own_ii_ge_t (by decide)) (by decide) (by decide) ?_
              refine g_aload_n X202 hx 100 (hb hby d_prog_66_method_2_99) rfl rfl rfl ?_
              refine g_iload_n X202 hx 101 (hb hby d_prog_66_method_2_100) rfl rfl ?_
              refine g_iload_n X202 hx 102 (hb hby d_prog_66_method_2_101) rfl rfl ?_
              refine g_isub X202 hx 103 (hb hby d_prog_66_method_2_102) rfl ?_
              show own_Go p e below s _ _ _ (T202.setTop (mkF m 103 _ [(.int (0 : Int32)), (.ref o)]))
              refine g_iconst X202 hx 104 (hb hby d_prog_66_method_2_103) (1 : Int32) rfl rfl ?_
              refine g_iadd X202 hx 105 (hb hby d_prog_66_method_2_104) rfl ?_
              show own_Go p e below s _ _ _ (T202.setTop (mkF m 105 _ [(.int (1 : Int32)), (.ref o)]))
              have f205 : Exa Z h202 o "com/example/libelem/libelem/io/TextPosition" := (Exa.wr W202 f201)
              have f206 : Fld Z h202 o "com/example/libelem/libelem/io/TextPosition" "column" "I" (.int co) := (Fld.other W202 (Fld.other W167 F_o_column (Or.inr (slot_ne (Or.inl (hw _ (List.mem_of_getElem? (i := 18) rfl))) (Or.inl (hw _ (List.mem_of_getElem? (i := 16) rfl))) (by decide) (t := .int) (t' := .int) (by decide) (by decide)))) (Or.inr (slot_ne (Or.inl (hw _ (List.mem_of_getElem? (i := 18) rfl))) (Or.inl (hw _ (List.mem_of_getElem? (i := 16) rfl))) (by decide) (t := .int) (t' := .int) (by decide) (by decide))))
              refine own_putF X202 hx hZ hown (host := "") (Or.inl (hw _ (List.mem_of_getElem? (i := 17) rfl))) Via.refl e202 f206 f205 (Or.inl (hw _ (List.mem_of_getElem? (i := 18) rfl))) (hw _ (List.mem_of_getElem? (i := 7) rfl)) (ty := .int) (by decide) rfl rfl 108 (hb hby d_prog_66_method_2_105) rfl fun T207 h207 X207 e207 W207 => ?_
              have f207 : Fld Z h207 o "com/example/libelem/libelem/io/TextPosition" "column" "I" (.int (1 : Int32)) := Fld.same W207 f206
              have N207 := Fr.snoc X207 N202 g_o
              have z208 : n0 ≤ h207.size := (Nat.le_trans z203 (Keep.of_wr W207).1)
              have K209 : Keep h0 h207 [o] := K204.wr W207 (Or.inl (List.mem_of_getElem? (i := 0) rfl))
              refine g_iload_n X207 hx 109 (hb hby d_prog_66_method_2_108) rfl rfl ?_
              refine g_ifNo X207 hx 112 (hb hby d_prog_66_method_2_109) (own_i0_le_f (by decide)) rfl ?_
              refine g_aload_n X207 hx 113 (hb hby d_prog_66_method_2_112) rfl rfl rfl ?_
              refine g_aload_n X207 hx 114 (hb hby d_prog_66_method_2_113) rfl rfl rfl ?_
              refine g_iload_n X207 hx 115 (hb hby d_prog_66_method_2_114) rfl rfl ?_
              refine g_iconst X207 hx 116 (hb hby d_prog_66_method_2_115) (1 : Int32) rfl rfl ?_
              refine g_isub X207 hx 117 (hb hby d_prog_66_method_2_116) rfl ?_
              show own_Go p e below s _ _ _ (T207.setTop (mkF m 117 _ [(.int (1 : Int32)), (.ref ar), (.ref o)]))
              have f210 : Arv Z h207 ar ka .char (2 : Int32) [(.int u0), (.int u1)] (.int (0 : Int32)) := ((f170.other W202 ne_ar_o).other W207 ne_ar_o)
              obtain ⟨cl211, Ar211, q211, S211, P211, H211, G211⟩ := id f210
              have hin211 := inb_of (j := (1 : Int32)) S211 ⟨by decide, by decide⟩
              refine own_caload X207 hx hZ e207 Ar211 (v := (.int u1)) hin211 (Has.at H211 hin211 rfl) 118 (hb hby d_prog_66_method_2_117) rfl ?_
              refine g_bipush X207 hx 120 (hb hby d_prog_66_method_2_118) (13 : Int32) rfl rfl ?_
              refine g_icmpYes X207 hx 127 (hb hby d_prog_66_method_2_120) (own_ii_ne_t c172) (by decide) (by decide) ?_
              refine g_iconst X207 hx 128 (hb hby d_prog_66_method_2_127) (0 : Int32) rfl rfl ?_
              have f213 : Exa Z h207 o "com/example/libelem/libelem/io/TextPosition" := (Exa.wr W207 f205)
              have f214 : Fld Z h207 o "com/example/libelem/libelem/io/TextPosition" "afterCarriageReturn" "Z" (.int ac) := (Fld.other W207 (Fld.other W202 (Fld.other W167 F_o_afterCarriageReturn (Or.inr (slot_ne (Or.inl (hw _ (List.mem_of_getElem? (i := 38) rfl))) (Or.inl (hw _ (List.mem_of_getElem? (i := 16) rfl))) (by decide) (t := .boolean) (t' := .int) (by decide) (by decide)))) (Or.inr (slot_ne (Or.inl (hw _ (List.mem_of_getElem? (i := 38) rfl))) (Or.inl (hw _ (List.mem_of_getElem? (i := 16) rfl))) (by decide) (t := .boolean) (t' := .int) (by decide) (by decide)))) (Or.inr (slot_ne (Or.inl (hw _ (List.mem_of_getElem? (i := 38) rfl))) (Or.inl (hw _ (List.mem_of_getElem? (i := 18) rfl))) (by decide) (t := .boolean) (t' := .int) (by decide) (by decide))))
              refine own_putFN X207 hx hZ hown (hw _ (List.mem_of_getElem? (i := 37) rfl)) Via.refl e207 (.int (0 : Int32)) f214 f213 (Or.inl (hw _ (List.mem_of_getElem? (i := 38) rfl))) (hw _ (List.mem_of_getElem? (i := 7) rfl)) (ty := .boolean) (by decide) rfl rfl 131 (hb hby d_prog_66_method_2_128) rfl fun T215 h215 X215 e215 W215 => ?_
              have f215 : Fld Z h215 o "com/example/libelem/libelem/io/TextPosition" "afterCarriageReturn" "Z" (.int (0 : Int32)) := Fld.same W215 f214
              have N215 := Fr.snoc X215 N207 g_o
              have z216 : n0 ≤ h215.size := (Nat.le_trans z208 (Keep.of_wr W215).1)
              have K217 : Keep h0 h215 [o] := K209.wr W215 (Or.inl (List.mem_of_getElem? (i := 0) rfl))
              have f218 : Fld Z h215 o "com/example/libelem/libelem/io/TextPosition" "line" "I" (.int ((li + (1 : Int32)) + (1 : Int32))) := (Fld.other W215 (Fld.other W207 f202 (Or.inr (slot_ne (Or.inl (hw _ (List.mem_of_getElem? (i := 16) rfl))) (Or.inl (hw _ (List.mem_of_getElem? (i := 18) rfl))) (by decide) (t := .int) (t' := .int) (by decide) (by decide)))) (Or.inr (slot_ne (Or.inl (hw _ (List.mem_of_getElem? (i := 16) rfl))) (Or.inl (hw _ (List.mem_of_getElem? (i := 38) rfl))) (by decide) (t := .int) (t' := .boolean) (by decide) (by decide))))
              have f219 : Fld Z h215 o "com/example/libelem/libelem/io/TextPosition" "column" "I" (.int (1 : Int32)) := (Fld.other W215 f207 (Or.inr (slot_ne (Or.inl (hw _ (List.mem_of_getElem? (i := 18) rfl))) (Or.inl (hw _ (List.mem_of_getElem? (i := 38) rfl))) (by decide) (t := .int) (t' := .boolean) (by decide) (by decide))))
              refine own_retV X215 hx hlk hret (hb hby d_prog_66_method_2_131) ?_ (by decide) (by decide)
              rw [e215]
              exact ⟨rfl, N215, K217, (own_fldV f218 (congrArg Value.int (by first | rfl | (simp [c95, c162, c165, c172, c196, own_sl, own_sc, own_sa, own_L0, own_L1, own_L2, own_C0, own_C1, own_C2, own_A0, own_A1, own_A2, own_k0, own_k1, own_k2]; done)))), (own_fldV f219 (congrArg Value.int (by first | rfl | (simp [c95, c162, c165, c172, c196, own_sl, own_sc, own_sa, own_L0, own_L1, own_L2, own_C0, own_C1, own_C2, own_A0, own_A1, own_A2, own_k0, own_k1, own_k2]; done)))), (own_fldV f215 (congrArg Value.int (by first | rfl | (simp [c95, c162, c165, c172, c196, own_sl, own_sc, own_sa, own_L0, own_L1, own_L2, own_C0, own_C1, own_C2, own_A0, own_A1, own_A2, own_k0, own_k1, own_k2]; done))))⟩
            · refine g_icmpYes X167 hx 93 (hb hby d_prog_66_method_2_33) (own_ii_ne_t c196) (by decide) (by decide) ?_
              refine g_iinc X167 hx 96 (hb hby d_prog_66_method_2_93) (z := (2 : Int32)) rfl rfl (l' := #[.val (.ref o), .val (.ref ar), .val (.int (2 : Int32)), .val (.int (1 : Int32)), .val (.int (2 : Int32)), .val (.int u1), .val (.int ac)]) rfl rfl ?_
              refine g_goto X167 hx 10 (hb hby d_prog_66_method_2_96) (by decide) (by decide) ?_
              refine g_iload X167 hx 12 (hb hby d_prog_66_method_2_10) rfl rfl ?_
              refine g_iload_n X167 hx 13 (hb hby d_prog_66_method_2_12) rfl rfl ?_
              refine g_icmpYes X167 hx 99 (hb hby d_prog_66_method_2_13) (own_ii_ge_t (by decide)) (by decide) (by decide) ?_
              refine g_aload_n X167 hx 100 (hb hby d_prog_66_method_2_99) rfl rfl rfl ?_
              refine g_iload_n X167 hx 101 (hb hby d_prog_66_method_2_100) rfl rfl ?_
              refine g_iload_n X167 hx 102 (hb hby d_prog_66_method_2_101) rfl rfl ?_
              refine g_isub X167 hx 103 (hb hby d_prog_66_method_2_102) rfl ?_
              show own_Go p e below s _ _ _ (T167.setTop (mkF m 103 _ [(.int (1 : Int32)), (.ref o)]))
              refine g_iconst X167 hx 104 (hb hby d_prog_66_method_2_103) (1 : Int32) rfl rfl ?_
              refine g_iadd X167 hx 105 (hb hby d_prog_66_method_2_104) rfl ?_
              show own_Go p e below s _ _ _ (T167.setTop (mkF m 105 _ [(.int (2 : Int32)), (.ref o)]))
              have f220 : Exa Z h167 o "com/example/libelem/libelem/io/TextPosition" := (Exa.wr W167 E_o)
              have f221 : Fld Z h167 o "com/example/libelem/libelem/io/TextPosition" "column" "I" (.int co) := (Fld.other W167 F_o_column (Or.inr (slot_ne (Or.inl (hw _ (List.mem_of_getElem? (i := 18) rfl))) (Or.inl (hw _ (List.mem_of_getElem? (i := 16) rfl))) (by decide) (t := .int) (t' := .int) (by decide) (by decide))))
              refine own_putF X167 hx hZ hown (host := "") (Or.inl (hw _ (List.mem_of_getElem? (i := 17) rfl))) Via.refl e167 f221 f220 (Or.inl (hw _ (List.mem_of_getElem? (i := 18) rfl))) (hw _ (List.mem_of_getElem? (i := 7) rfl)) (ty := .int) (by decide) rfl rfl 108 (hb hby d_prog_66_method_2_105) rfl fun T222 h222 X222 e222 W222 => ?_
              have f222 : Fld Z h222 o "com/example/libelem/libelem/io/TextPosition" "column" "I" (.int (2 : Int32)) := Fld.same W222 f221
              have N222 := Fr.snoc X222 N167 g_o
              have z223 : n0 ≤ h222.size := (Nat.le_trans z168 (Keep.of_wr W222).1)
              have K224 : Keep h0 h222 [o] := K169.wr W222 (Or.inl (List.mem_of_getElem? (i := 0) rfl))
              refine g_iload_n X222 hx 109 (hb hby d_prog_66_method_2_108) rfl rfl ?_
              refine g_ifNo X222 hx 112 (hb hby d_prog_66_method_2_109) (own_i0_le_f (by decide)) rfl ?_
              refine g_aload_n X222 hx 113 (hb hby d_prog_66_method_2_112) rfl rfl rfl ?_
              refine g_aload_n X222 hx 114 (hb hby d_prog_66_method_2_113) rfl rfl rfl ?_
              refine g_iload_n X222 hx 115 (hb hby d_prog_66_method_2_114) rfl rfl ?_
              refine g_iconst X222 hx 116 (hb hby d_prog_66_method_2_115) (1 : Int32) rfl rfl ?_
              refine g_isub X222 hx 117 (hb hby d_prog_66_method_2_116) rfl ?_
              show own_Go p e below s _ _ _ (T222.setTop (mkF m 117 _ [(.int (1 : Int32)), (.ref ar), (.ref o)]))
              have f225 : Arv Z h222 ar ka .char (2 : Int32) [(.int u0), (.int u1)] (.int (0 : Int32)) := (f170.other W222 ne_ar_o)
              obtain ⟨cl226, Ar226, q226, S226, P226, H226, G226⟩ := id f225
              have hin226 := inb_of (j := (1 : Int32)) S226 ⟨by decide, by decide⟩
              refine own_caload X222 hx hZ e222 Ar226 (v := (.int u1)) hin226 (Has.at H226 hin226 rfl) 118 (hb hby d_prog_66_method_2_117) rfl ?_
              refine g_bipush X222 hx 120 (hb hby d_prog_66_method_2_118) (13 : Int32) rfl rfl ?_
              refine g_icmpYes X222 hx 127 (hb hby d_prog_66_method_2_120) (own_ii_ne_t c172) (by decide) (by decide) ?_
              refine g_iconst X222 hx 128 (hb hby d_prog_66_method_2_127) (0 : Int32) rfl rfl ?_
              have f228 : Exa Z h222 o "com/example/libelem/libelem/io/TextPosition" := (Exa.wr W222 f220)
              have f229 : Fld Z h222 o "com/example/libelem/libelem/io/TextPosition" "afterCarriageReturn" "Z" (.int ac) := (Fld.other W222 (Fld.other W167 F_o_afterCarriageReturn (Or.inr (slot_ne (Or.inl (hw _ (List.mem_of_getElem? (i := 38) rfl))) (Or.inl (hw _ (List.mem_of_getElem? (i := 16) rfl))) (by decide) (t := .boolean) (t' := .int) (by decide) (by decide)))) (Or.inr (slot_ne (Or.inl (hw _ (List.mem_of_getElem? (i := 38) rfl))) (Or.inl (hw _ (List.mem_of_getElem? (i := 18) rfl))) (by decide) (t := .boolean) (t' := .int) (by decide) (by decide))))
              refine own_putFN X222 hx hZ hown (hw _ (List.mem_of_getElem? (i := 37) rfl)) Via.refl e222 (.int (0 : Int32)) f229 f228 (Or.inl (hw _ (List.mem_of_getElem? (i := 38) rfl))) (hw _ (List.mem_of_getElem? (i := 7) rfl)) (ty := .boolean) (by decide) rfl rfl 131 (hb hby d_prog_66_method_2_128) rfl fun T230 h230 X230 e230 W230 => ?_
              have f230 : Fld Z h230 o "com/example/libelem/libelem/io/TextPosition" "afterCarriageReturn" "Z" (.int (0 : Int32)) := Fld.same W230 f229
              have N230 := Fr.snoc X230 N222 g_o
              have z231 : n0 ≤ h230.size := (Nat.le_trans z223 (Keep.of_wr W230).1)
              have K232 : Keep h0 h230 [o] := K224.wr W230 (Or.inl (List.mem_of_getElem? (i := 0) rfl))
              have f233 : Fld Z h230 o "com/example/libelem/libelem/io/TextPosition" "line" "I" (.int (li + (1 : Int32))) := (Fld.other W230 (Fld.other W222 f167 (Or.inr (slot_ne (Or.inl (hw _ (List.mem_of_getElem? (i := 16) rfl))) (Or.inl (hw _ (List.mem_of_getElem? (i := 18) rfl))) (by decide) (t := .int) (t' := .int) (by decide) (by decide)))) (Or.inr (slot_ne (Or.inl (hw _ (List.mem_of_getElem? (i := 16) rfl))) (Or.inl (hw _ (List.mem_of_getElem? (i := 38) rfl))) (by decide) (t := .int) (t' := .boolean) (by decide) (by decide))))
              have f234 : Fld Z h230 o "com/example/libelem/libelem/io/TextPosition" "column" "I" (.int (2 : Int32)) := (Fld.other W230 f222 (Or.inr (slot_ne (Or.inl (hw _ (List.mem_of_getElem? (i := 18) rfl))) (Or.inl (hw _ (List.mem_of_getElem? (i := 38) rfl))) (by decide) (t := .int) (t' := .boolean) (by decide) (by decide))))
              refine own_retV X230 hx hlk hret (hb hby d_prog_66_method_2_131) ?_ (by decide) (by decide)
              rw [e230]
              exact ⟨rfl, N230, K232, (own_fldV f233 (congrArg Value.int (by first | rfl | (simp [c95, c162, c165, c172, c196, own_sl, own_sc, own_sa, own_L0, own_L1, own_L2, own_C0, own_C1, own_C2, own_A0, own_A1, own_A2, own_k0, own_k1, own_k2]; done)))), (own_fldV f234 (congrArg Value.int (by first | rfl | (simp [c95, c162, c165, c172, c196, own_sl, own_sc, own_sa, own_L0, own_L1, own_L2, own_C0, own_C1, own_C2, own_A0, own_A1, own_A2, own_k0, own_k1, own_k2]; done)))), (own_fldV f230 (congrArg Value.int (by first | rfl | (simp [c95, c162, c165, c172, c196, own_sl, own_sc, own_sa, own_L0, own_L1, own_L2, own_C0, own_C1, own_C2, own_A0, own_A1, own_A2, own_k0, own_k1, own_k2]; done))))⟩
        · refine g_ifYes X163 hx 88 (hb hby d_prog_66_method_2_75) (own_i0_ne_t c165) (by decide) (by decide) ?_
          refine g_iload X163 hx 90 (hb hby d_prog_66_method_2_88) rfl rfl ?_
          refine g_iconst X163 hx 91 (hb hby d_prog_66_method_2_90) (1 : Int32) rfl rfl ?_
          refine g_iadd X163 hx 92 (hb hby d_prog_66_method_2_91) rfl ?_
          show own_Go p e below s _ _ _ (T163.setTop (mkF m 92 _ [(.int (1 : Int32))]))
          refine g_istore_n X163 hx 93 (hb hby d_prog_66_method_2_92) (l' := #[.val (.ref o), .val (.ref ar), .val (.int (2 : Int32)), .val (.int (1 : Int32)), .val (.int (0 : Int32)), .val (.int u0), .val (.int ac)]) rfl rfl ?_
          refine g_iinc X163 hx 96 (hb hby d_prog_66_method_2_93) (z := (1 : Int32)) rfl rfl (l' := #[.val (.ref o), .val (.ref ar), .val (.int (2 : Int32)), .val (.int (1 : Int32)), .val (.int (1 : Int32)), .val (.int u0), .val (.int ac)]) rfl rfl ?_
          refine g_goto X163 hx 10 (hb hby d_prog_66_method_2_96) (by decide) (by decide) ?_
          refine g_iload X163 hx 12 (hb hby d_prog_66_method_2_10) rfl rfl ?_
          refine g_iload_n X163 hx 13 (hb hby d_prog_66_method_2_12) rfl rfl ?_
          refine g_icmpNo X163 hx 16 (hb hby d_prog_66_method_2_13) (own_ii_ge_f (by decide)) rfl ?_
          refine g_aload_n X163 hx 17 (hb hby d_prog_66_method_2_16) rfl rfl rfl ?_
          refine g_iload X163 hx 19 (hb hby d_prog_66_method_2_17) rfl rfl ?_
          obtain ⟨cl235, Ar235, q235, S235, P235, H235, G235⟩ := id V_ar
          have hin235 := inb_of (j := (1 : Int32)) S235 ⟨by decide, by decide⟩
          refine own_caload X163 hx hZ e163 Ar235 (v := (.int u1)) hin235 (Has.at H235 hin235 rfl) 20 (hb hby d_prog_66_method_2_19) rfl ?_
          refine g_istore X163 hx 22 (hb hby d_prog_66_method_2_20) (l' := #[.val (.ref o), .val (.ref ar), .val (.int (2 : Int32)), .val (.int (1 : Int32)), .val (.int (1 : Int32)), .val (.int u1), .val (.int ac)]) rfl rfl ?_
          refine g_iload X163 hx 24 (hb hby d_prog_66_method_2_22) rfl rfl ?_
          refine g_bipush X163 hx 26 (hb hby d_prog_66_method_2_24) (13 : Int32) rfl rfl ?_
          by_cases c236 : u1 = (13 : Int32)
          · refine g_icmpYes X163 hx 36 (hb hby d_prog_66_method_2_26) (own_ii_eq_t c236) (by decide) (by decide) ?_
            refine g_iload X163 hx 38 (hb hby d_prog_66_method_2_36) rfl rfl ?_
            refine g_ifYes X163 hx 48 (hb hby d_prog_66_method_2_38) (own_i0_ne_t (by decide)) (by decide) (by decide) ?_
            refine g_aload_n X163 hx 49 (hb hby d_prog_66_method_2_48) rfl rfl rfl ?_
            refine g_iload X163 hx 51 (hb hby d_prog_66_method_2_49) rfl rfl ?_
            refine g_iconst X163 hx 52 (hb hby d_prog_66_method_2_51) (1 : Int32) rfl rfl ?_
            refine g_isub X163 hx 53 (hb hby d_prog_66_method_2_52) rfl ?_
            show own_Go p e below s _ _ _ (T163.setTop (mkF m 53 _ [(.int (0 : Int32)), (.ref ar)]))
            obtain ⟨cl237, Ar237, q237, S237, P237, H237, G237⟩ := id V_ar
            have hin237 := inb_of (j := (0 : Int32)) S237 ⟨by decide, by decide⟩
            refine own_caload X163 hx hZ e163 Ar237 (v := (.int u0)) hin237 (Has.at H237 hin237 rfl) 54 (hb hby d_prog_66_method_2_53) rfl ?_
            refine g_bipush X163 hx 56 (hb hby d_prog_66_method_2_54) (13 : Int32) rfl rfl ?_
            refine g_icmpYes X163 hx 63 (hb hby d_prog_66_method_2_56) (own_ii_ne_t c95) (by decide) (by decide) ?_
            refine g_iconst X163 hx 64 (hb hby d_prog_66_method_2_63) (0 : Int32) rfl rfl ?_
            refine g_istore X163 hx 66 (hb hby d_prog_66_method_2_64) (l' := #[.val (.ref o), .val (.ref ar), .val (.int (2 : Int32)), .val (.int (1 : Int32)), .val (.int (1 : Int32)), .val (.int u1), .val (.int (0 : Int32))]) rfl rfl ?_
            refine g_iload X163 hx 68 (hb hby d_prog_66_method_2_66) rfl rfl ?_
            refine g_bipush X163 hx 70 (hb hby d_prog_66_method_2_68) (13 : Int32) rfl rfl ?_
            refine g_icmpYes X163 hx 78 (hb hby d_prog_66_method_2_70) (own_ii_eq_t c236) (by decide) (by decide) ?_
            refine g_aload_n X163 hx 79 (hb hby d_prog_66_method_2_78) rfl rfl rfl ?_
            refine g_dup X163 hx 80 (hb hby d_prog_66_method_2_79) rfl rfl ?_
            refine own_getF X163 hx hZ hown (host := "") (Or.inl (hw _ (List.mem_of_getElem? (i := 15) rfl))) Via.refl e163 F_o_line 83 (hb hby d_prog_66_method_2_80) rfl fun T240 X240 e240 => ?_
            refine g_iconst X240 hx 84 (hb hby d_prog_66_method_2_83) (1 : Int32) rfl rfl ?_
            refine g_iadd X240 hx 85 (hb hby d_prog_66_method_2_84) rfl ?_
            refine own_putF X240 hx hZ hown (host := "") (Or.inl (hw _ (List.mem_of_getElem? (i := 15) rfl))) Via.refl e240 F_o_line E_o (Or.inl (hw _ (List.mem_of_getElem? (i := 16) rfl))) (hw _ (List.mem_of_getElem? (i := 7) rfl)) (ty := .int) (by decide) rfl rfl 88 (hb hby d_prog_66_method_2_85) rfl fun T241 h241 X241 e241 W241 => ?_
            have f241 : Fld Z h241 o "com/example/libelem/libelem/io/TextPosition" "line" "I" (.int (li + (1 : Int32))) := Fld.same W241 F_o_line
            have N241 := Fr.snoc X241 N0 g_o
            have z242 : n0 ≤ h241.size := (Nat.le_trans Z0 (Keep.of_wr W241).1)
            have K243 : Keep h0 h241 [o] := (Keep.refl h0 [o]).wr W241 (Or.inl (List.mem_of_getElem? (i := 0) rfl))
            refine g_iload X241 hx 90 (hb hby d_prog_66_method_2_88) rfl rfl ?_
            refine g_iconst X241 hx 91 (hb hby d_prog_66_method_2_90) (1 : Int32) rfl rfl ?_
            refine g_iadd X241 hx 92 (hb hby d_prog_66_method_2_91) rfl ?_
            show own_Go p e below s _ _ _ (T241.setTop (mkF m 92 _ [(.int (2 : Int32))]))
            refine g_istore_n X241 hx 93 (hb hby d_prog_66_method_2_92) (l' := #[.val (.ref o), .val (.ref ar), .val (.int (2 : Int32)), .val (.int (2 : Int32)), .val (.int (1 : Int32)), .val (.int u1), .val (.int (0 : Int32))]) rfl rfl ?_
            refine g_iinc X241 hx 96 (hb hby d_prog_66_method_2_93) (z := (2 : Int32)) rfl rfl (l' := #[.val (.ref o), .val (.ref ar), .val (.int (2 : Int32)), .val (.int (2 : Int32)), .val (.int (2 : Int32)), .val (.int u1), .val (.int (0 : Int32))]) rfl rfl ?_
            refine g_goto X241 hx 10 (hb hby d_prog_66_method_2_96) (by decide) (by decide) ?_
            refine g_iload X241 hx 12 (hb hby d_prog_66_method_2_10) rfl rfl ?_
            refine g_iload_n X241 hx 13 (hb hby d_prog_66_method_2_12) rfl rfl ?_
            refine g_icmpYes X241 hx 99 (hb hby d_prog_66_method_2_13) (own_ii_ge_t (by decide)) (by decide) (by decide) ?_
            refine g_aload_n X241 hx 100 (hb hby d_prog_66_method_2_99) rfl rfl rfl ?_
            refine g_iload_n X241 hx 101 (hb hby d_prog_66_method_2_100) rfl rfl ?_
            refine g_iload_n X241 hx 102 (hb hby d_prog_66_method_2_101) rfl rfl ?_
            refine g_isub X241 hx 103 (hb hby d_prog_66_method_2_102) rfl ?_
            show own_Go p e below s _ _ _ (T241.setTop (mkF m 103 _ [(.int (0 : Int32)), (.ref o)]))
            refine g_iconst X241 hx 104 (hb hby d_prog_66_method_2_103) (1 : Int32) rfl rfl ?_
            refine g_iadd X241 hx 105 (hb hby d_prog_66_method_2_104) rfl ?_
            show own_Go p e below s _ _ _ (T241.setTop (mkF m 105 _ [(.int (1 : Int32)), (.ref o)]))
            have f244 : Exa Z h241 o "com/example/libelem/libelem/io/TextPosition" := (Exa.wr W241 E_o)
            have f245 : Fld Z h241 o "com/example/libelem/libelem/io/TextPosition" "column" "I" (.int co) := (Fld.other W241 F_o_column (Or.inr (slot_ne (Or.inl (hw _ (List.mem_of_getElem? (i := 18) rfl))) (Or.inl (hw _ (List.mem_of_getElem? (i := 16) rfl))) (by decide) (t := .int) (t' := .int) (by decide) (by decide))))
            refine own_putF X241 hx hZ hown (host := "") (Or.inl (hw _ (List.mem_of_getElem? (i := 17) rfl))) Via.refl e241 f245 f244 (Or.inl (hw _ (List.mem_of_getElem? (i := 18) rfl))) (hw _ (List.mem_of_getElem? (i := 7) rfl)) (ty := .int) (by decide) rfl rfl 108 (hb hby d_prog_66_method_2_105) rfl fun T246 h246 X246 e246 W246 => ?_
            have f246 : Fld Z h246 o "com/example/libelem/libelem/io/TextPosition" "column" "I" (.int (1 : Int32)) := Fld.same W246 f245
            have N246 := Fr.snoc X246 N241 g_o
            have z247 : n0 ≤ h246.size := (Nat.le_trans z242 (Keep.of_wr W246).1)
            have K248 : Keep h0 h246 [o] := K243.wr W246 (Or.inl (List.mem_of_getElem? (i := 0) rfl))
            refine g_iload_n X246 hx 109 (hb hby d_prog_66_method_2_108) rfl rfl ?_
            refine g_ifNo X246 hx 112 (hb hby d_prog_66_method_2_109) (own_i0_le_f (by decide)) rfl ?_
            refine g_aload_n X246 hx 113 (hb hby d_prog_66_method_2_112) rfl rfl rfl ?_
            refine g_aload_n X246 hx 114 (hb hby d_prog_66_method_2_113) rfl rfl rfl ?_
            refine g_iload_n X246 hx 115 (hb hby d_prog_66_method_2_114) rfl rfl ?_
            refine g_iconst X246 hx 116 (hb hby d_prog_66_method_2_115) (1 : Int32) rfl rfl ?_
            refine g_isub X246 hx 117 (hb hby d_prog_66_method_2_116) rfl ?_
            show own_Go p e below s _ _ _ (T246.setTop (mkF m 117 _ [(.int (1 : Int32)), (.ref ar), (.ref o)]))
            have f249 : Arv Z h246 ar ka .char (2 : Int32) [(.int u0), (.int u1)] (.int (0 : Int32)) := ((V_ar.other W241 ne_ar_o).other W246 ne_ar_o)
            obtain ⟨cl250, Ar250, q250, S250, P250, H250, G250⟩ := id f249
            have hin250 := inb_of (j := (1 : Int32)) S250 ⟨by decide, by decide⟩
            refine own_caload X246 hx hZ e246 Ar250 (v := (.int u1)) hin250 (Has.at H250 hin250 rfl) 118 (hb hby d_prog_66_method_2_117) rfl ?_
            refine g_bipush X246 hx 120 (hb hby d_prog_66_method_2_118) (13 : Int32) rfl rfl ?_
            refine g_icmpNo X246 hx 123 (hb hby d_prog_66_method_2_120) (own_ii_ne_f c236) rfl ?_
            refine g_iconst X246 hx 124 (hb hby d_prog_66_method_2_123) (1 : Int32) rfl rfl ?_
            refine g_goto X246 hx 128 (hb hby d_prog_66_method_2_124) (by decide) (by decide) ?_
            have f252 : Exa Z h246 o "com/example/libelem/libelem/io/TextPosition" := (Exa.wr W246 f244)
            have f253 : Fld Z h246 o "com/example/libelem/libelem/io/TextPosition" "afterCarriageReturn" "Z" (.int ac) := (Fld.other W246 (Fld.other W241 F_o_afterCarriageReturn (Or.inr (slot_ne (Or.inl (hw _ (List.mem_of_getElem? (i := 38) rfl))) (Or.inl (hw _ (List.mem_of_getElem? (i := 16) rfl))) (by decide) (t := .boolean) (t' := .int) (by decide) (by decide)))) (Or.inr (slot_ne (Or.inl (hw _ (List.mem_of_getElem? (i := 38) rfl))) (Or.inl (hw _ (List.mem_of_getElem? (i := 18) rfl))) (by decide) (t := .boolean) (t' := .int) (by decide) (by decide))))
            refine own_putFN X246 hx hZ hown (hw _ (List.mem_of_getElem? (i := 37) rfl)) Via.refl e246 (.int (1 : Int32)) f253 f252 (Or.inl (hw _ (List.mem_of_getElem? (i := 38) rfl))) (hw _ (List.mem_of_getElem? (i := 7) rfl)) (ty := .boolean) (by decide) rfl rfl 131 (hb hby d_prog_66_method_2_128) rfl fun T254 h254 X254 e254 W254 => ?_
            have f254 : Fld Z h254 o "com/example/libelem/libelem/io/TextPosition" "afterCarriageReturn" "Z" (.int (1 : Int32)) := Fld.same W254 f253
            have N254 := Fr.snoc X254 N246 g_o
            have z255 : n0 ≤ h254.size := (Nat.le_trans z247 (Keep.of_wr W254).1)
            have K256 : Keep h0 h254 [o] := K248.wr W254 (Or.inl (List.mem_of_getElem? (i := 0) rfl))
            have f257 : Fld Z h254 o "com/example/libelem/libelem/io/TextPosition" "line" "I" (.int (li + (1 : Int32))) := (Fld.other W254 (Fld.other W246 f241 (Or.inr (slot_ne (Or.inl (hw _ (List.mem_of_getElem? (i := 16) rfl))) (Or.inl (hw _ (List.mem_of_getElem? (i := 18) rfl))) (by decide) (t := .int) (t' := .int) (by decide) (by decide)))) (Or.inr (slot_ne (Or.inl (hw _ (List.mem_of_getElem? (i := 16) rfl))) (Or.inl (hw _ (List.mem_of_getElem? (i := 38) rfl))) (by decide) (t := .int) (t' := .boolean) (by decide) (by decide))))
            have f258 : Fld Z h254 o "com/example/libelem/libelem/io/TextPosition" "column" "I" (.int (1 : Int32)) := (Fld.other W254 f246 (Or.inr (slot_ne (Or.inl (hw _ (List.mem_of_getElem? (i := 18) rfl))) (Or.inl (hw _ (List.mem_of_getElem? (i := 38) rfl))) (by decide) (t := .int) (t' := .boolean) (by decide) (by decide))))
            refine own_retV X254 hx hlk hret (hb hby d_prog_66_method_2_131) ?_ (by decide) (by decide)
            rw [e254]
            exact ⟨rfl, N254, K256, (own_fldV f257 (congrArg Value.int (by first | rfl | (simp [c95, c162, c165, c236, own_sl, own_sc, own_sa, own_L0, own_L1, own_L2, own_C0, own_C1, own_C2, own_A0, own_A1, own_A2, own_k0, own_k1, own_k2]; done)))), (own_fldV f258 (congrArg Value.int (by first | rfl | (simp [c95, c162, c165, c236, own_sl, own_sc, own_sa, own_L0, own_L1, own_L2, own_C0, own_C1, own_C2, own_A0, own_A1, own_A2, own_k0, own_k1, own_k2]; done)))), (own_fldV f254 (congrArg Value.int (by first | rfl | (simp [c95, c162, c165, c236, own_sl, own_sc, own_sa, own_L0, own_L1, own_L2, own_C0, own_C1, own_C2, own_A0, own_A1, own_A2, own_k0, own_k1, own_k2]; done))))⟩
          · refine g_icmpNo X163 hx 29 (hb hby d_prog_66_method_2_26) (own_ii_eq_f c236) rfl ?_
            refine g_iload X163 hx 31 (hb hby d_prog_66_method_2_29) rfl rfl ?_
            refine g_bipush X163 hx 33 (hb hby d_prog_66_method_2_31) (10 : Int32) rfl rfl ?_
            by_cases c259 : u1 = (10 : Int32)
            · refine g_icmpNo X163 hx 36 (hb hby d_prog_66_method_2_33) (own_ii_ne_f c259) rfl ?_
              refine g_iload X163 hx 38 (hb hby d_prog_66_method_2_36) rfl rfl ?_
              refine g_ifYes X163 hx 48 (hb hby d_prog_66_method_2_38) (own_i0_ne_t (by decide)) (by decide) (by decide) ?_
              refine g_aload_n X163 hx 49 (hb hby d_prog_66_method_2_48) rfl rfl rfl ?_
              refine g_iload X163 hx 51 (hb hby d_prog_66_method_2_49) rfl rfl ?_
              refine g_iconst X163 hx 52 (hb hby d_prog_66_method_2_51) (1 : Int32) rfl rfl ?_
              refine g_isub X163 hx 53 (hb hby d_prog_66_method_2_52) rfl ?_
              show own_Go p e below s _ _ _ (T163.setTop (mkF m 53 _ [(.int (0 : Int32)), (.ref ar)]))
              obtain ⟨cl260, Ar260, q260, S260, P260, H260, G260⟩ := id V_ar
              have hin260 := inb_of (j := (0 : Int32)) S260 ⟨by decide, by decide⟩
              refine own_caload X163 hx hZ e163 Ar260 (v := (.int u0)) hin260 (Has.at H260 hin260 rfl) 54 (hb hby d_prog_66_method_2_53) rfl ?_
              refine g_bipush X163 hx 56 (hb hby d_prog_66_method_2_54) (13 : Int32) rfl rfl ?_
              refine g_icmpYes X163 hx 63 (hb hby d_prog_66_method_2_56) (own_ii_ne_t c95) (by decide) (by decide) ?_
              refine g_iconst X163 hx 64 (hb hby d_prog_66_method_2_63) (0 : Int32) rfl rfl ?_
              refine g_istore X163 hx 66 (hb hby d_prog_66_method_2_64) (l' := #[.val (.ref o), .val (.ref ar), .val (.int (2 : Int32)), .val (.int (1 : Int32)), .val (.int (1 : Int32)), .val (.int u1), .val (.int (0 : Int32))]) rfl rfl ?_
              refine g_iload X163 hx 68 (hb hby d_prog_66_method_2_66) rfl rfl ?_
              refine g_bipush X163 hx 70 (hb hby d_prog_66_method_2_68) (13 : Int32) rfl rfl ?_
              refine g_icmpNo X163 hx 73 (hb hby d_prog_66_method_2_70) (own_ii_eq_f c236) rfl ?_
              refine g_iload X163 hx 75 (hb hby d_prog_66_method_2_73) rfl rfl ?_
              refine g_ifNo X163 hx 78 (hb hby d_prog_66_method_2_75) (own_i0_ne_f (by decide)) rfl ?_
              refine g_aload_n X163 hx 79 (hb hby d_prog_66_method_2_78) rfl rfl rfl ?_
              refine g_dup X163 hx 80 (hb hby d_prog_66_method_2_79) rfl rfl ?_
              refine own_getF X163 hx hZ hown (host := "") (Or.inl (hw _ (List.mem_of_getElem? (i := 15) rfl))) Via.refl e163 F_o_line 83 (hb hby d_prog_66_method_2_80) rfl fun T263 X263 e263 => ?_
              refine g_iconst X263 hx 84 (hb hby d_prog_66_method_2_83) (1 : Int32) rfl rfl ?_
              refine g_iadd X263 hx 85 (hb hby d_prog_66_method_2_84) rfl ?_
              refine own_putF X263 hx hZ hown (host := "") (Or.inl (hw _ (List.mem_of_getElem? (i := 15) rfl))) Via.refl e263 F_o_line E_o (Or.inl (hw _ (List.mem_of_getElem? (i := 16) rfl))) (hw _ (List.mem_of_getElem? (i := 7) rfl)) (ty := .int) (by decide) rfl rfl 88 (hb hby d_prog_66_method_2_85) rfl fun T264 h264 X264 e264 W264 => ?_
              have f264 : Fld Z h264 o "com/example/libelem/libelem/io/TextPosition" "line" "I" (.int (li + (1 : Int32))) := Fld.same W264 F_o_line
              have N264 := Fr.snoc X264 N0 g_o
              have z265 : n0 ≤ h264.size := (Nat.le_trans Z0 (Keep.of_wr W264).1)
              have K266 : Keep h0 h264 [o] := (Keep.refl h0 [o]).wr W264 (Or.inl (List.mem_of_getElem? (i := 0) rfl))
              refine g_iload X264 hx 90 (hb hby d_prog_66_method_2_88) rfl rfl ?_
              refine g_iconst X264 hx 91 (hb hby d_prog_66_method_2_90) (1 : Int32) rfl rfl ?_
              refine g_iadd X264 hx 92 (hb hby d_prog_66_method_2_91) rfl ?_
              show own_Go p e below s _ _ _ (T264.setTop (mkF m 92 _ [(.int (2 : Int32))]))
              refine g_istore_n X264 hx 93 (hb hby d_prog_66_method_2_92) (l' := #[.val (.ref o), .val (.ref ar), .val (.int (2 : Int32)), .val (.int (2 : Int32)), .val (.int (1 : Int32)), .val (.int u1), .val (.int (0 : Int32))]) rfl rfl ?_
              refine g_iinc X264 hx 96 (hb hby d_prog_66_method_2_93) (z := (2 : Int32)) rfl rfl (l' := #[.val (.ref o), .val (.ref ar), .val (.int (2 : Int32)), .val (.int (2 : Int32)), .val (.int (2 : Int32)), .val (.int u1), .val (.int (0 : Int32))]) rfl rfl ?_
              refine g_goto X264 hx 10 (hb hby d_prog_66_method_2_96) (by decide) (by decide) ?_
              refine g_iload X264 hx 12 (hb hby d_prog_66_method_2_10) rfl rfl ?_
              refine g_iload_n X264 hx 13 (hb hby d_prog_66_method_2_12) rfl rfl ?_
              refine g_icmpYes X264 hx 99 (hb hby d_prog_66_method_2_13) (own_ii_ge_t (by decide)) (by decide) (by decide) ?_
              refine g_aload_n X264 hx 100 (hb hby d_prog_66_method_2_99) rfl rfl rfl ?_
              refine g_iload_n X264 hx 101 (hb hby d_prog_66_method_2_100) rfl rfl ?_
              refine g_iload_n X264 hx 102 (hb hby d_prog_66_method_2_101) rfl rfl ?_
              refine g_isub X264 hx 103 (hb hby d_prog_66_method_2_102) rfl ?_
              show own_Go p e below s _ _ _ (T264.setTop (mkF m 103 _ [(.int (0 : Int32)), (.ref o)]))
              refine g_iconst X264 hx 104 (hb hby d_prog_66_method_2_103) (1 : Int32) rfl rfl ?_
              refine g_iadd X264 hx 105 (hb hby d_prog_66_method_2_104) rfl ?_
              show own_Go p e below s _ _ _ (T264.setTop (mkF m 105 _ [(.int (1 : Int32)), (.ref o)]))
              have f267 : Exa Z h264 o "com/example/libelem/libelem/io/TextPosition" := (Exa.wr W264 E_o)
              have f268 : Fld Z h264 o "com/example/libelem/libelem/io/TextPosition" "column" "I" (.int co) := (Fld.other W264 F_o_column (Or.inr (slot_ne (Or.inl (hw _ (List.mem_of_getElem? (i := 18) rfl))) (Or.inl (hw _ (List.mem_of_getElem? (i := 16) rfl))) (by decide) (t := .int) (t' := .int) (by decide) (by decide))))
              refine own_putF X264 hx hZ hown (host := "") (Or.inl (hw _ (List.mem_of_getElem? (i := 17) rfl))) Via.refl e264 f268 f267 (Or.inl (hw _ (List.mem_of_getElem? (i := 18) rfl))) (hw _ (List.mem_of_getElem? (i := 7) rfl)) (ty := .int) (by decide) rfl rfl 108 (hb hby d_prog_66_method_2_105) rfl fun T269 h269 X269 e269 W269 => ?_
              have f269 : Fld Z h269 o "com/example/libelem/libelem/io/TextPosition" "column" "I" (.int (1 : Int32)) := Fld.same W269 f268
              have N269 := Fr.snoc X269 N264 g_o
              have z270 : n0 ≤ h269.size := (Nat.le_trans z265 (Keep.of_wr W269).1)
              have K271 : Keep h0 h269 [o] := K266.wr W269 (Or.inl (List.mem_of_getElem? (i := 0) rfl))
              refine g_iload_n X269 hx 109 (hb hby d_prog_66_method_2_108) rfl rfl ?_
              refine g_ifNo X269 hx 112 (hb hby d_prog_66_method_2_109) (own_i0_le_f (by decide)) rfl ?_
              refine g_aload_n X269 hx 113 (hb hby d_prog_66_method_2_112) rfl rfl rfl ?_
              refine g_aload_n X269 hx 114 (hb hby d_prog_66_method_2_113) rfl rfl rfl ?_
              refine g_iload_n X269 hx 115 (hb hby d_prog_66_method_2_114) rfl rfl ?_
              refine g_iconst X269 hx 116 (hb hby d_prog_66_method_2_115) (1 : Int32) rfl rfl ?_
              refine g_isub X269 hx 117 (hb hby d_prog_66_method_2_116) rfl ?_
              show own_Go p e below s _ _ _ (T269.setTop (mkF m 117 _ [(.int (1 : Int32)), (.ref ar), (.ref o)]))
              have f272 : Arv Z h269 ar ka .char (2 : Int32) [(.int u0), (.int u1)] (.int (0 : Int32)) := ((V_ar.other W264 ne_ar_o).other W269 ne_ar_o)
              obtain ⟨cl273, Ar273, q273, S273, P273, H273, G273⟩ := id f272
              have hin273 := inb_of (j := (1 : Int32)) S273 ⟨by decide, by decide⟩
              refine own_caload X269 hx hZ e269 Ar273 (v := (.int u1)) hin273 (Has.at H273 hin273 rfl) 118 (hb hby d_prog_66_method_2_117) rfl ?_
              refine g_bipush X269 hx 120 (hb hby d_prog_66_method_2_118) (13 : Int32) rfl rfl ?_
              refine g_icmpYes X269 hx 127 (hb hby d_prog_66_method_2_120) (own_ii_ne_t c236) (by decide) (by decide) ?_
              refine g_iconst X269 hx 128 (hb hby d_prog_66_method_2_127) (0 : Int32) rfl rfl ?_
              have f275 : Exa Z h269 o "com/example/libelem/libelem/io/TextPosition" := (Exa.wr W269 f267)
              have f276 : Fld Z h269 o "com/example/libelem/libelem/io/TextPosition" "afterCarriageReturn" "Z" (.int ac) := (Fld.other W269 (Fld.other W264 F_o_afterCarriageReturn (Or.inr (slot_ne (Or.inl (hw _ (List.mem_of_getElem? (i := 38) rfl))) (Or.inl (hw _ (List.mem_of_getElem? (i := 16) rfl))) (by decide) (t := .boolean) (t' := .int) (by decide) (by decide)))) (Or.inr (slot_ne (Or.inl (hw _ (List.mem_of_getElem? (i := 38) rfl))) (Or.inl (hw _ (List.mem_of_getElem? (i := 18) rfl))) (by decide) (t := .boolean) (t' := .int) (by decide) (by decide))))
              refine own_putFN X269 hx hZ hown (hw _ (List.mem_of_getElem? (i := 37) rfl)) Via.refl e269 (.int (0 : Int32)) f276 f275 (Or.inl (hw _ (List.mem_of_getElem? (i := 38) rfl))) (hw _ (List.mem_of_getElem? (i := 7) rfl)) (ty := .boolean) (by decide) rfl rfl 131 (hb hby d_prog_66_method_2_128) rfl fun T277 h277 X277 e277 W277 => ?_
              have f277 : Fld Z h277 o "com/example/libelem/libelem/io/TextPosition" "afterCarriageReturn" "Z" (.int (0 : Int32)) := Fld.same W277 f276
              have N277 := Fr.snoc X277 N269 g_o
              have z278 : n0 ≤ h277.size := (Nat.le_trans z270 (Keep.of_wr W277).1)
              have K279 : Keep h0 h277 [o] := K271.wr W277 (Or.inl (List.mem_of_getElem? (i := 0) rfl))
              have f280 : Fld Z h277 o "com/example/libelem/libelem/io/TextPosition" "line" "I" (.int (li + (1 : Int32))) := (Fld.other W277 (Fld.other W269 f264 (Or.inr (slot_ne (Or.inl (hw _ (List.mem_of_getElem? (i := 16) rfl))) (Or.inl (hw _ (List.mem_of_getElem? (i := 18) rfl))) (by decide) (t := .int) (t' := .int) (by decide) (by decide)))) (Or.inr (slot_ne (Or.inl (hw _ (List.mem_of_getElem? (i := 16) rfl))) (Or.inl (hw _ (List.mem_of_getElem? (i := 38) rfl))) (by decide) (t := .int) (t' := .boolean) (by decide) (by decide))))
              have f281 : Fld Z h277 o "com/example/libelem/libelem/io/TextPosition" "column" "I" (.int (1 : Int32)) := (Fld.other W277 f269 (Or.inr (slot_ne (Or.inl (hw _ (List.mem_of_getElem? (i := 18) rfl))) (Or.inl (hw _ (List.mem_of_getElem? (i := 38) rfl))) (by decide) (t := .int) (t' := .boolean) (by decide) (by decide))))
              refine own_retV X277 hx hlk hret (hb hby d_prog_66_method_2_131) ?_ (by decide) (by decide)
              rw [e277]
              exact ⟨rfl, N277, K279, (own_fldV f280 (congrArg Value.int (by first | rfl | (simp [c95, c162, c165, c236, c259, own_sl, own_sc, own_sa, own_L0, own_L1, own_L2, own_C0, own_C1, own_C2, own_A0, own_A1, own_A2, own_k0, own_k1, own_k2]; done)))), (own_fldV f281 (congrArg Value.int (by first | rfl | (simp [c95, c162, c165, c236, c259, own_sl, own_sc, own_sa, own_L0, own_L1, own_L2, own_C0, own_C1, own_C2, own_A0, own_A1, own_A2, own_k0, own_k1, own_k2]; done)))), (own_fldV f277 (congrArg Value.int (by first | rfl | (simp [c95, c162, c165, c236, c259, own_sl, own_sc, own_sa, own_L0, own_L1, own_L2, own_C0, own_C1, own_C2, own_A0, own_A1, own_A2, own_k0, own_k1, own_k2]; done))))⟩
            · refine g_icmpYes X163 hx 93 (hb hby d_prog_66_method_2_33) (own_ii_ne_t c259) (by decide) (by decide) ?_
              refine g_iinc X163 hx 96 (hb hby d_prog_66_method_2_93) (z := (2 : Int32)) rfl rfl (l' := #[.val (.ref o), .val (.ref ar), .val (.int (2 : Int32)), .val (.int (1 : Int32)), .val (.int (2 : Int32)), .val (.int u1), .val (.int ac)]) rfl rfl ?_
              refine g_goto X163 hx 10 (hb hby d_prog_66_method_2_96) (by decide) (by decide) ?_
              refine g_iload X163 hx 12 (hb hby d_prog_66_method_2_10) rfl rfl ?_
              refine g_iload_n X163 hx 13 (hb hby d_prog_66_method_2_12) rfl rfl ?_
              refine g_icmpYes X163 hx 99 (hb hby d_prog_66_method_2_13) (own_ii_ge_t (by decide)) (by decide) (by decide) ?_
              refine g_aload_n X163 hx 100 (hb hby d_prog_66_method_2_99) rfl rfl rfl ?_
              refine g_iload_n X163 hx 101 (hb hby d_prog_66_method_2_100) rfl rfl ?_
              refine g_iload_n X163 hx 102 (hb hby d_prog_66_method_2_101) rfl rfl ?_
              refine g_isub X163 hx 103 (hb hby d_prog_66_method_2_102) rfl ?_
              show own_Go p e below s _ _ _ (T163.setTop (mkF m 103 _ [(.int (1 : Int32)), (.ref o)]))
              refine g_iconst X163 hx 104 (hb hby d_prog_66_method_2_103) (1 : Int32) rfl rfl ?_
              refine g_iadd X163 hx 105 (hb hby d_prog_66_method_2_104) rfl ?_
              show own_Go p e below s _ _ _ (T163.setTop (mkF m 105 _ [(.int (2 : Int32)), (.ref o)]))
              refine own_putF X163 hx hZ hown (host := "") (Or.inl (hw _ (List.mem_of_getElem? (i := 17) rfl))) Via.refl e163 F_o_column E_o (Or.inl (hw _ (List.mem_of_getElem? (i := 18) rfl))) (hw _ (List.mem_of_getElem? (i := 7) rfl)) (ty := .int) (by decide) rfl rfl 108 (hb hby d_prog_66_method_2_105) rfl fun T282 h282 X282 e282 W282 => ?_
              have f282 : Fld Z h282 o "com/example/libelem/libelem/io/TextPosition" "column" "I" (.int (2 : Int32)) := Fld.same W282 F_o_column
              have N282 := Fr.snoc X282 N0 g_o
              have z283 : n0 ≤ h282.size := (Nat.le_trans Z0 (Keep.of_wr W282).1)
              have K284 : Keep h0 h282 [o] := (Keep.refl h0 [o]).wr W282 (Or.inl (List.mem_of_getElem? (i := 0) rfl))
              refine g_iload_n X282 hx 109 (hb hby d_prog_66_method_2_108) rfl rfl ?_
              refine g_ifNo X282 hx 112 (hb hby d_prog_66_method_2_109) (own_i0_le_f (by decide)) rfl ?_
              refine g_aload_n X282 hx 113 (hb hby d_prog_66_method_2_112) rfl rfl rfl ?_
              refine g_aload_n X282 hx 114 (hb hby d_prog_66_method_2_113) rfl rfl rfl ?_
              refine g_iload_n X282 hx 115 (hb hby d_prog_66_method_2_114) rfl rfl ?_
              refine g_iconst X282 hx 116 (hb hby d_prog_66_method_2_115) (1 : Int32) rfl rfl ?_
              refine g_isub X282 hx 117 (hb hby d_prog_66_method_2_116) rfl ?_
              show own_Go p e below s _ _ _ (T282.setTop (mkF m 117 _ [(.int (1 : Int32)), (.ref ar), (.ref o)]))
              have f285 : Arv Z h282 ar ka .char (2 : Int32) [(.int u0), (.int u1)] (.int (0 : Int32)) := (V_ar.other W282 ne_ar_o)
              obtain ⟨cl286, Ar286, q286, S286, P286, H286, G286⟩ := id f285
              have hin286 := inb_of (j := (1 : Int32)) S286 ⟨by decide, by decide⟩
              refine own_caload X282 hx hZ e282 Ar286 (v := (.int u1)) hin286 (Has.at H286 hin286 rfl) 118 (hb hby d_prog_66_method_2_117) rfl ?_
              refine g_bipush X282 hx 120 (hb hby d_prog_66_method_2_118) (13 : Int32) rfl rfl ?_
              refine g_icmpYes X282 hx 127 (hb hby d_prog_66_method_2_120) (own_ii_ne_t c236) (by decide) (by decide) ?_
              refine g_iconst X282 hx 128 (hb hby d_prog_66_method_2_127) (0 : Int32) rfl rfl ?_
              have f288 : Exa Z h282 o "com/example/libelem/libelem/io/TextPosition" := (Exa.wr W282 E_o)
              have f289 : Fld Z h282 o "com/example/libelem/libelem/io/TextPosition" "afterCarriageReturn" "Z" (.int ac) := (Fld.other W282 F_o_afterCarriageReturn (Or.inr (slot_ne (Or.inl (hw _ (List.mem_of_getElem? (i := 38) rfl))) (Or.inl (hw _ (List.mem_of_getElem? (i := 18) rfl))) (by decide) (t := .boolean) (t' := .int) (by decide) (by decide))))
              refine own_putFN X282 hx hZ hown (hw _ (List.mem_of_getElem? (i := 37) rfl)) Via.refl e282 (.int (0 : Int32)) f289 f288 (Or.inl (hw _ (List.mem_of_getElem? (i := 38) rfl))) (hw _ (List.mem_of_getElem? (i := 7) rfl)) (ty := .boolean) (by decide) rfl rfl 131 (hb hby d_prog_66_method_2_128) rfl fun T290 h290 X290 e290 W290 => ?_
              have f290 : Fld Z h290 o "com/example/libelem/libelem/io/TextPosition" "afterCarriageReturn" "Z" (.int (0 : Int32)) := Fld.same W290 f289
              have N290 := Fr.snoc X290 N282 g_o
              have z291 : n0 ≤ h290.size := (Nat.le_trans z283 (Keep.of_wr W290).1)
              have K292 : Keep h0 h290 [o] := K284.wr W290 (Or.inl (List.mem_of_getElem? (i := 0) rfl))
              have f293 : Fld Z h290 o "com/example/libelem/libelem/io/TextPosition" "line" "I" (.int li) := (Fld.other W290 (Fld.other W282 F_o_line (Or.inr (slot_ne (Or.inl (hw _ (List.mem_of_getElem? (i := 16) rfl))) (Or.inl (hw _ (List.mem_of_getElem? (i := 18) rfl))) (by decide) (t := .int) (t' := .int) (by decide) (by decide)))) (Or.inr (slot_ne (Or.inl (hw _ (List.mem_of_getElem? (i := 16) rfl))) (Or.inl (hw _ (List.mem_of_getElem? (i := 38) rfl))) (by decide) (t := .int) (t' := .boolean) (by decide) (by decide))))
              have f294 : Fld Z h290 o "com/example/libelem/libelem/io/TextPosition" "column" "I" (.int (2 : Int32)) := (Fld.other W290 f282 (Or.inr (slot_ne (Or.inl (hw _ (List.mem_of_getElem? (i := 18) rfl))) (Or.inl (hw _ (List.mem_of_getElem? (i := 38) rfl))) (by decide) (t := .int) (t' := .boolean) (by decide) (by decide))))
              refine own_retV X290 hx hlk hret (hb hby d_prog_66_method_2_131) ?_ (by decide) (by decide)
              rw [e290]
              exact ⟨rfl, N290, K292, (own_fldV f293 (congrArg Value.int (by first | rfl | (simp [c95, c162, c165, c236, c259, own_sl, own_sc, own_sa, own_L0, own_L1, own_L2, own_C0, own_C1, own_C2, own_A0, own_A1, own_A2, own_k0, own_k1, own_k2]; done)))), (own_fldV f294 (congrArg Value.int (by first | rfl | (simp [c95, c162, c165, c236, c259, own_sl, own_sc, own_sa, own_L0, own_L1, own_L2, own_C0, own_C1, own_C2, own_A0, own_A1, own_A2, own_k0, own_k1, own_k2]; done)))), (own_fldV f290 (congrArg Value.int (by first | rfl | (simp [c95, c162, c165, c236, c259, own_sl, own_sc, own_sa, own_L0, own_L1, own_L2, own_C0, own_C1, own_C2, own_A0, own_A1, own_A2, own_k0, own_k1, own_k2]; done))))⟩
      · refine g_icmpYes X93 hx 93 (hb hby d_prog_66_method_2_33) (own_ii_ne_t c162) (by decide) (by decide) ?_
        refine g_iinc X93 hx 96 (hb hby d_prog_66_method_2_93) (z := (1 : Int32)) rfl rfl (l' := #[.val (.ref o), .val (.ref ar), .val (.int (2 : Int32)), .val (.int ((1 : Int32) - co)), .val (.int (1 : Int32)), .val (.int u0), .unset]) rfl rfl ?_
        refine g_goto X93 hx 10 (hb hby d_prog_66_method_2_96) (by decide) (by decide) ?_
        refine g_iload X93 hx 12 (hb hby d_prog_66_method_2_10) rfl rfl ?_
        refine g_iload_n X93 hx 13 (hb hby d_prog_66_method_2_12) rfl rfl ?_
        refine g_icmpNo X93 hx 16 (hb hby d_prog_66_method_2_13) (own_ii_ge_f (by decide)) rfl ?_
        refine g_aload_n X93 hx 17 (hb hby d_prog_66_method_2_16) rfl rfl rfl ?_
        refine g_iload X93 hx 19 (hb hby d_prog_66_method_2_17) rfl rfl ?_
        obtain ⟨cl295, Ar295, q295, S295, P295, H295, G295⟩ := id V_ar
        have hin295 := inb_of (j := (1 : Int32)) S295 ⟨by decide, by decide⟩
        refine own_caload X93 hx hZ e93 Ar295 (v := (.int u1)) hin295 (Has.at H295 hin295 rfl) 20 (hb hby d_prog_66_method_2_19) rfl ?_
        refine g_istore X93 hx 22 (hb hby d_prog_66_method_2_20) (l' := #[.val (.ref o), .val (.ref ar), .val (.int (2 : Int32)), .val (.int ((1 : Int32) - co)), .val (.int (1 : Int32)), .val (.int u1), .unset]) rfl rfl ?_
        refine g_iload X93 hx 24 (hb hby d_prog_66_method_2_22) rfl rfl ?_
        refine g_bipush X93 hx 26 (hb hby d_prog_66_method_2_24) (13 : Int32) rfl rfl ?_
        by_cases c296 : u1 = (13 : Int32)
        · refine g_icmpYes X93 hx 36 (hb hby d_prog_66_method_2_26) (own_ii_eq_t c296) (by decide) (by decide) ?_
          refine g_iload X93 hx 38 (hb hby d_prog_66_method_2_36) rfl rfl ?_
          refine g_ifYes X93 hx 48 (hb hby d_prog_66_method_2_38) (own_i0_ne_t (by decide)) (by decide) (by decide) ?_
          refine g_aload_n X93 hx 49 (hb hby d_prog_66_method_2_48) rfl rfl rfl ?_
          refine g_iload X93 hx 51 (hb hby d_prog_66_method_2_49) rfl rfl ?_
          refine g_iconst X93 hx 52 (hb hby d_prog_66_method_2_51) (1 : Int32) rfl rfl ?_
          refine g_isub X93 hx 53 (hb hby d_prog_66_method_2_52) rfl ?_
          show own_Go p e below s _ _ _ (T93.setTop (mkF m 53 _ [(.int (0 : Int32)), (.ref ar)]))
          obtain ⟨cl297, Ar297, q297, S297, P297, H297, G297⟩ := id V_ar
          have hin297 := inb_of (j := (0 : Int32)) S297 ⟨by decide, by decide⟩
          refine own_caload X93 hx hZ e93 Ar297 (v := (.int u0)) hin297 (Has.at H297 hin297 rfl) 54 (hb hby d_prog_66_method_2_53) rfl ?_
          refine g_bipush X93 hx 56 (hb hby d_prog_66_method_2_54) (13 : Int32) rfl rfl ?_
          refine g_icmpYes X93 hx 63 (hb hby d_prog_66_method_2_56) (own_ii_ne_t c95) (by decide) (by decide) ?_
          refine g_iconst X93 hx 64 (hb hby d_prog_66_method_2_63) (0 : Int32) rfl rfl ?_
          refine g_istore X93 hx 66 (hb hby d_prog_66_method_2_64) (l' := #[.val (.ref o), .val (.ref ar), .val (.int (2 : Int32)), .val (.int ((1 : Int32) - co)), .val (.int (1 : Int32)), .val (.int u1), .val (.int (0 : Int32))]) rfl rfl ?_
          refine g_iload X93 hx 68 (hb hby d_prog_66_method_2_66) rfl rfl ?_
          refine g_bipush X93 hx 70 (hb hby d_prog_66_method_2_68) (13 : Int32) rfl rfl ?_
          refine g_icmpYes X93 hx 78 (hb hby d_prog_66_method_2_70) (own_ii_eq_t c296) (by decide) (by decide) ?_
          refine g_aload_n X93 hx 79 (hb hby d_prog_66_method_2_78) rfl rfl rfl ?_
          refine g_dup X93 hx 80 (hb hby d_prog_66_method_2_79) rfl rfl ?_
          refine own_getF X93 hx hZ hown (host := "") (Or.inl (hw _ (List.mem_of_getElem? (i := 15) rfl))) Via.refl e93 F_o_line 83 (hb hby d_prog_66_method_2_80) rfl fun T300 X300 e300 => ?_
          refine g_iconst X300 hx 84 (hb hby d_prog_66_method_2_83) (1 : Int32) rfl rfl ?_
          refine g_iadd X300 hx 85 (hb hby d_prog_66_method_2_84) rfl ?_
          refine own_putF X300 hx hZ hown (host := "") (Or.inl (hw _ (List.mem_of_getElem? (i := 15) rfl))) Via.refl e300 F_o_line E_o (Or.inl (hw _ (List.mem_of_getElem? (i := 16) rfl))) (hw _ (List.mem_of_getElem? (i := 7) rfl)) (ty := .int) (by decide) rfl rfl 88 (hb hby d_prog_66_method_2_85) rfl fun T301 h301 X301 e301 W301 => ?_
          have f301 : Fld Z h301 o "com/example/libelem/libelem/io/TextPosition" "line" "I" (.int (li + (1 : Int32))) := Fld.same W301 F_o_line
          have N301 := Fr.snoc X301 N0 g_o
          have z302 : n0 ≤ h301.size := (Nat.le_trans Z0 (Keep.of_wr W301).1)
          have K303 : Keep h0 h301 [o] := (Keep.refl h0 [o]).wr W301 (Or.inl (List.mem_of_getElem? (i := 0) rfl))
          refine g_iload X301 hx 90 (hb hby d_prog_66_method_2_88) rfl rfl ?_
          refine g_iconst X301 hx 91 (hb hby d_prog_66_method_2_90) (1 : Int32) rfl rfl ?_
          refine g_iadd X301 hx 92 (hb hby d_prog_66_method_2_91) rfl ?_
          show own_Go p e below s _ _ _ (T301.setTop (mkF m 92 _ [(.int (2 : Int32))]))
          refine g_istore_n X301 hx 93 (hb hby d_prog_66_method_2_92) (l' := #[.val (.ref o), .val (.ref ar), .val (.int (2 : Int32)), .val (.int (2 : Int32)), .val (.int (1 : Int32)), .val (.int u1), .val (.int (0 : Int32))]) rfl rfl ?_
          refine g_iinc X301 hx 96 (hb hby d_prog_66_method_2_93) (z := (2 : Int32)) rfl rfl (l' := #[.val (.ref o), .val (.ref ar), .val (.int (2 : Int32)), .val (.int (2 : Int32)), .val (.int (2 : Int32)), .val (.int u1), .val (.int (0 : Int32))]) rfl rfl ?_
          refine g_goto X301 hx 10 (hb hby d_prog_66_method_2_96) (by decide) (by decide) ?_
          refine g_iload X301 hx 12 (hb hby d_prog_66_method_2_10) rfl rfl ?_
          refine g_iload_n X301 hx 13 (hb hby d_prog_66_method_2_12) rfl rfl ?_
          refine g_icmpYes X301 hx 99 (hb hby d_prog_66_method_2_13) (own_ii_ge_t (by decide)) (by decide) (by decide) ?_
          refine g_aload_n X301 hx 100 (hb hby d_prog_66_method_2_99) rfl rfl rfl ?_
          refine g_iload_n X301 hx 101 (hb hby d_prog_66_method_2_100) rfl rfl ?_
          refine g_iload_n X301 hx 102 (hb hby d_prog_66_method_2_101) rfl rfl ?_
          refine g_isub X301 hx 103 (hb hby d_prog_66_method_2_102) rfl ?_
          show own_Go p e below s _ _ _ (T301.setTop (mkF m 103 _ [(.int (0 : Int32)), (.ref o)]))
          refine g_iconst X301 hx 104 (hb hby d_prog_66_method_2_103) (1 : Int32) rfl rfl ?_
          refine g_iadd X301 hx 105 (hb hby d_prog_66_method_2_104) rfl ?_
          show own_Go p e below s _ _ _ (T301.setTop (mkF m 105 _ [(.int (1 : Int32)), (.ref o)]))
          have f304 : Exa Z h301 o "com/example/libelem/libelem/io/TextPosition" := (Exa.wr W301 E_o)
          have f305 : Fld Z h301 o "com/example/libelem/libelem/io/TextPosition" "column" "I" (.int co) := (Fld.other W301 F_o_column (Or.inr (slot_ne (Or.inl (hw _ (List.mem_of_getElem? (i := 18) rfl))) (Or.inl (hw _ (List.mem_of_getElem? (i := 16) rfl))) (by decide) (t := .int) (t' := .int) (by decide) (by decide))))
          refine own_putF X301 hx hZ hown (host := "") (Or.inl (hw _ (List.mem_of_getElem? (i := 17) rfl))) Via.refl e301 f305 f304 (Or.inl (hw _ (List.mem_of_getElem? (i := 18) rfl))) (hw _ (List.mem_of_getElem? (i := 7) rfl)) (ty := .int) (by decide) rfl rfl 108 (hb hby d_prog_66_method_2_105) rfl fun T306 h306 X306 e306 W306 => ?_
          have f306 : Fld Z h306 o "com/example/libelem/libelem/io/TextPosition" "column" "I" (.int (1 : Int32)) := Fld.same W306 f305
          have N306 := Fr.snoc X306 N301 g_o
          have z307 : n0 ≤ h306.size := (Nat.le_trans z302 (Keep.of_wr W306).1)
          have K308 : Keep h0 h306 [o] := K303.wr W306 (Or.inl (List.mem_of_getElem? (i := 0) rfl))
          refine g_iload_n X306 hx 109 (hb hby d_prog_66_method_2_108) rfl rfl ?_
          refine g_ifNo X306 hx 112 (hb hby d_prog_66_method_2_109) (own_i0_le_f (by decide)) rfl ?_
          refine g_aload_n X306 hx 113 (hb hby d_prog_66_method_2_112) rfl rfl rfl ?_
          refine g_aload_n X306 hx 114 (hb hby d_prog_66_method_2_113) rfl rfl rfl ?_
          refine g_iload_n X306 hx 115 (hb hby d_prog_66_method_2_114) rfl rfl ?_
          refine g_iconst X306 hx 116 (hb hby d_prog_66_method_2_115) (1 : Int32) rfl rfl ?_
          refine g_isub X306 hx 117 (hb hby d_prog_66_method_2_116) rfl ?_
          show own_Go p e below s _ _ _ (T306.setTop (mkF m 117 _ [(.int (1 : Int32)), (.ref ar), (.ref o)]))
          have f309 : Arv Z h306 ar ka .char (2 : Int32) [(.int u0), (.int u1)] (.int (0 : Int32)) := ((V_ar.other W301 ne_ar_o).other W306 ne_ar_o)
          obtain ⟨cl310, Ar310, q310, S310, P310, H310, G310⟩ := id f309
          have hin310 := inb_of (j := (1 : Int32)) S310 ⟨by decide, by decide⟩
          refine own_caload X306 hx hZ e306 Ar310 (v := (.int u1)) hin310 (Has.at H310 hin310 rfl) 118 (hb hby d_prog_66_method_2_117) rfl ?_
          refine g_bipush X306 hx 120 (hb hby d_prog_66_method_2_118) (13 : Int32) rfl rfl ?_
          refine g_icmpNo X306 hx 123 (hb hby d_prog_66_method_2_120) (own_ii_ne_f c296) rfl ?_
          refine g_iconst X306 hx 124 (hb hby d_prog_66_method_2_123) (1 : Int32) rfl rfl ?_
          refine g_goto X306 hx 128 (hb hby d_prog_66_method_2_124) (by decide) (by decide) ?_
          have f312 : Exa Z h306 o "com/example/libelem/libelem/io/TextPosition" := (Exa.wr W306 f304)
          have f313 : Fld Z h306 o "com/example/libelem/libelem/io/TextPosition" "afterCarriageReturn" "Z" (.int ac) := (Fld.other W306 (Fld.other W301 F_o_afterCarriageReturn (Or.inr (slot_ne (Or.inl (hw _ (List.mem_of_getElem? (i := 38) rfl))) (Or.inl (hw _ (List.mem_of_getElem? (i := 16) rfl))) (by decide) (t := .boolean) (t' := .int) (by decide) (by decide)))) (Or.inr (slot_ne (Or.inl (hw _ (List.mem_of_getElem? (i := 38) rfl))) (Or.inl (hw _ (List.mem_of_getElem? (i := 18) rfl))) (by decide) (t := .boolean) (t' := .int) (by decide) (by decide))))
          refine own_putFN X306 hx hZ hown (hw _ (List.mem_of_getElem? (i := 37) rfl)) Via.refl e306 (.int (1 : Int32)) f313 f312 (Or.inl (hw _ (List.mem_of_getElem? (i := 38) rfl))) (hw _ (List.mem_of_getElem? (i := 7) rfl)) (ty := .boolean) (by decide) rfl rfl 131 (hb hby d_prog_66_method_2_128) rfl fun T314 h314 X314 e314 W314 => ?_
          have f314 : Fld Z h314 o "com/example/libelem/libelem/io/TextPosition" "afterCarriageReturn" "Z" (.int (1 : Int32)) := Fld.same W314 f313
          have N314 := Fr.snoc X314 N306 g_o
          have z315 : n0 ≤ h314.size := (Nat.le_trans z307 (Keep.of_wr W314).1)
          have K316 : Keep h0 h314 [o] := K308.wr W314 (Or.inl (List.mem_of_getElem? (i := 0) rfl))
          have f317 : Fld Z h314 o "com/example/libelem/libelem/io/TextPosition" "line" "I" (.int (li + (1 : Int32))) := (Fld.other W314 (Fld.other W306 f301 (Or.inr (slot_ne (Or.inl (hw _ (List.mem_of_getElem? (i := 16) rfl))) (Or.inl (hw _ (List.mem_of_getElem? (i := 18) rfl))) (by decide) (t := .int) (t' := .int) (by decide) (by decide)))) (Or.inr (slot_ne (Or.inl (hw _ (List.mem_of_getElem? (i := 16) rfl))) (Or.inl (hw _ (List.mem_of_getElem? (i := 38) rfl))) (by decide) (t := .int) (t' := .boolean) (by decide) (by decide))))
          have f318 : Fld Z h314 o "com/example/libelem/libelem/io/TextPosition" "column" "I" (.int (1 : Int32)) := (Fld.other W314 f306 (Or.inr (slot_ne (Or.inl (hw _ (List.mem_of_getElem? (i := 18) rfl))) (Or.inl (hw _ (List.mem_of_getElem? (i := 38) rfl))) (by decide) (t := .int) (t' := .boolean) (by decide) (by decide))))
          refine own_retV X314 hx hlk hret (hb hby d_prog_66_method_2_131) ?_ (by decide) (by decide)
          rw [e314]
          exact ⟨rfl, N314, K316, (own_fldV f317 (congrArg Value.int (by first | rfl | (simp [c95, c162, c296, own_sl, own_sc, own_sa, own_L0, own_L1, own_L2, own_C0, own_C1, own_C2, own_A0, own_A1, own_A2, own_k0, own_k1, own_k2]; done)))), (own_fldV f318 (congrArg Value.int (by first | rfl | (simp [c95, c162, c296, own_sl, own_sc, own_sa, own_L0, own_L1, own_L2, own_C0, own_C1, own_C2, own_A0, own_A1, own_A2, own_k0, own_k1, own_k2]; done)))), (own_fldV f314 (congrArg Value.int (by first | rfl | (simp [c95, c162, c296, own_sl, own_sc, own_sa, own_L0, own_L1, own_L2, own_C0, own_C1, own_C2, own_A0, own_A1, own_A2, own_k0, own_k1, own_k2]; done))))⟩
        · refine g_icmpNo X93 hx 29 (hb hby d_prog_66_method_2_26) (own_ii_eq_f c296) rfl ?_
          refine g_iload X93 hx 31 (hb hby d_prog_66_method_2_29) rfl rfl ?_
          refine g_bipush X93 hx 33 (hb hby d_prog_66_method_2_31) (10 : Int32) rfl rfl ?_
          by_cases c319 : u1 = (10 : Int32)
          · refine g_icmpNo X93 hx 36 (hb hby d_prog_66_method_2_33) (own_ii_ne_f c319) rfl ?_
            refine g_iload X93 hx 38 (hb hby d_prog_66_method_2_36) rfl rfl ?_
            refine g_ifYes X93 hx 48 (hb hby d_prog_66_method_2_38) (own_i0_ne_t (by decide)) (by decide) (by decide) ?_
            refine g_aload_n X93 hx 49 (hb hby d_prog_66_method_2_48) rfl rfl rfl ?_
            refine g_iload X93 hx 51 (hb hby d_prog_66_method_2_49) rfl rfl ?_
            refine g_iconst X93 hx 52 (hb hby d_prog_66_method_2_51) (1 : Int32) rfl rfl ?_
            refine g_isub X93 hx 53 (hb hby d_prog_66_method_2_52) rfl ?_
            show own_Go p e below s _ _ _ (T93.setTop (mkF m 53 _ [(.int (0 : Int32)), (.ref ar)]))
            obtain ⟨cl320, Ar320, q320, S320, P320, H320, G320⟩ := id V_ar
            have hin320 := inb_of (j := (0 : Int32)) S320 ⟨by decide, by decide⟩
            refine own_caload X93 hx hZ e93 Ar320 (v := (.int u0)) hin320 (Has.at H320 hin320 rfl) 54 (hb hby d_prog_66_method_2_53) rfl ?_
            refine g_bipush X93 hx 56 (hb hby d_prog_66_method_2_54) (13 : Int32) rfl rfl ?_
            refine g_icmpYes X93 hx 63 (hb hby d_prog_66_method_2_56) (own_ii_ne_t c95) (by decide) (by decide) ?_
            refine g_iconst X93 hx 64 (hb hby d_prog_66_method_2_63) (0 : Int32) rfl rfl ?_
            refine g_istore X93 hx 66 (hb hby d_prog_66_method_2_64) (l' := #[.val (.ref o), .val (.ref ar), .val (.int (2 : Int32)), .val (.int ((1 : Int32) - co)), .val (.int (1 : Int32)), .val (.int u1), .val (.int (0 : Int32))]) rfl rfl ?_
            refine g_iload X93 hx 68 (hb hby d_prog_66_method_2_66) rfl rfl ?_
            refine g_bipush X93 hx 70 (hb hby d_prog_66_method_2_68) (13 : Int32) rfl rfl ?_
            refine g_icmpNo X93 hx 73 (hb hby d_prog_66_method_2_70) (own_ii_eq_f c296) rfl ?_
            refine g_iload X93 hx 75 (hb hby d_prog_66_method_2_73) rfl rfl ?_
            refine g_ifNo X93 hx 78 (hb hby d_prog_66_method_2_75) (own_i0_ne_f (by decide)) rfl ?_
            refine g_aload_n X93 hx 79 (hb hby d_prog_66_method_2_78) rfl rfl rfl ?_
            refine g_dup X93 hx 80 (hb hby d_prog_66_method_2_79) rfl rfl ?_
            refine own_getF X93 hx hZ hown (host := "") (Or.inl (hw _ (List.mem_of_getElem? (i := 15) rfl))) Via.refl e93 F_o_line 83 (hb hby d_prog_66_method_2_80) rfl fun T323 X323 e323 => ?_
            refine g_iconst X323 hx 84 (hb hby d_prog_66_method_2_83) (1 : Int32) rfl rfl ?_
            refine g_iadd X323 hx 85 (hb hby d_prog_66_method_2_84) rfl ?_
            refine own_putF X323 hx hZ hown (host := "") (Or.inl (hw _ (List.mem_of_getElem? (i := 15) rfl))) Via.refl e323 F_o_line E_o (Or.inl (hw _ (List.mem_of_getElem? (i := 16) rfl))) (hw _ (List.mem_of_getElem? (i := 7) rfl)) (ty := .int) (by decide) rfl rfl 88 (hb hby d_prog_66_method_2_85) rfl fun T324 h324 X324 e324 W324 => ?_
            have f324 : Fld Z h324 o "com/example/libelem/libelem/io/TextPosition" "line" "I" (.int (li + (1 : Int32))) := Fld.same W324 F_o_line
            have N324 := Fr.snoc X324 N0 g_o
            have z325 : n0 ≤ h324.size := (Nat.le_trans Z0 (Keep.of_wr W324).1)
            have K326 : Keep h0 h324 [o] := (Keep.refl h0 [o]).wr W324 (Or.inl (List.mem_of_getElem? (i := 0) rfl))
            refine g_iload X324 hx 90 (hb hby d_prog_66_method_2_88) rfl rfl ?_
            refine g_iconst X324 hx 91 (hb hby d_prog_66_method_2_90) (1 : Int32) rfl rfl ?_
            refine g_iadd X324 hx 92 (hb hby d_prog_66_method_2_91) rfl ?_
            show own_Go p e below s _ _ _ (T324.setTop (mkF m 92 _ [(.int (2 : Int32))]))
            refine g_istore_n X324 hx 93 (hb hby d_prog_66_method_2_92) (l' := #[.val (.ref o), .val (.ref ar), .val (.int (2 : Int32)), .val (.int (2 : Int32)), .val (.int (1 : Int32)), .val (.int u1), .val (.int (0 : Int32))]) rfl rfl ?_
            refine g_iinc X324 hx 96 (hb hby d_prog_66_method_2_93) (z := (2 : Int32)) rfl rfl (l' := #[.val (.ref o), .val (.ref ar), .val (.int (2 : Int32)), .val (.int (2 : Int32)), .val (.int (2 : Int32)), .val (.int u1), .val (.int (0 : Int32))]) rfl rfl ?_
            refine g_goto X324 hx 10 (hb hby d_prog_66_method_2_96) (by decide) (by decide) ?_
            refine g_iload X324 hx 12 (hb hby d_prog_66_method_2_10) rfl rfl ?_
            refine g_iload_n X324 hx 13 (hb hby d_prog_66_method_2_12) rfl rfl ?_
            refine g_icmpYes X324 hx 99 (hb hby d_prog_66_method_2_13) (own_ii_ge_t (by decide)) (by decide) (by decide) ?_
            refine g_aload_n X324 hx 100 (hb hby d_prog_66_method_2_99) rfl rfl rfl ?_
            refine g_iload_n X324 hx 101 (hb hby d_prog_66_method_2_100) rfl rfl ?_
            refine g_iload_n X324 hx 102 (hb hby d_prog_66_method_2_101) rfl rfl ?_
            refine g_isub X324 hx 103 (hb hby d_prog_66_method_2_102) rfl ?_
            show own_Go p e below s _ _ _ (T324.setTop (mkF m 103 _ [(.int (0 : Int32)), (.ref o)]))
            refine g_iconst X324 hx 104 (hb hby d_prog_66_method_2_103) (1 : Int32) rfl rfl ?_
            refine g_iadd X324 hx 105 (hb hby d_prog_66_method_2_104) rfl ?_
            show own_Go p e below s _ _ _ (T324.setTop (mkF m 105 _ [(.int (1 : Int32)), (.ref o)]))
            have f327 : Exa Z h324 o "com/example/libelem/libelem/io/TextPosition" := (Exa.wr W324 E_o)
            have f328 : Fld Z h324 o "com/example/libelem/libelem/io/TextPosition" "column" "I" (.int co) := (Fld.other W324 F_o_column (Or.inr (slot_ne (Or.inl (hw _ (List.mem_of_getElem? (i := 18) rfl))) (Or.inl (hw _ (List.mem_of_getElem? (i := 16) rfl))) (by decide) (t := .int) (t' := .int) (by decide) (by decide))))
            refine own_putF X324 hx hZ hown (host := "") (Or.inl (hw _ (List.mem_of_getElem? (i := 17) rfl))) Via.refl e324 f328 f327 (Or.inl (hw _ (List.mem_of_getElem? (i := 18) rfl))) (hw _ (List.mem_of_getElem? (i := 7) rfl)) (ty := .int) (by decide) rfl rfl 108 (hb hby d_prog_66_method_2_105) rfl fun T329 h329 X329 e329 W329 => ?_
            have f329 : Fld Z h329 o "com/example/libelem/libelem/io/TextPosition" "column" "I" (.int (1 : Int32)) := Fld.same W329 f328
            have N329 := Fr.snoc X329 N324 g_o
            have z330 : n0 ≤ h329.size := (Nat.le_trans z325 (Keep.of_wr W329).1)
            have K331 : Keep h0 h329 [o] := K326.wr W329 (Or.inl (List.mem_of_getElem? (i := 0) rfl))
            refine g_iload_n X329 hx 109 (hb hby d_prog_66_method_2_108) rfl rfl ?_
            refine g_ifNo X329 hx 112 (hb hby d_prog_66_method_2_109) (own_i0_le_f (by decide)) rfl ?_
            refine g_aload_n X329 hx 113 (hb hby d_prog_66_method_2_112) rfl rfl rfl ?_
            refine g_aload_n X329 hx 114 (hb hby d_prog_66_method_2_113) rfl rfl rfl ?_
            refine g_iload_n X329 hx 115 (hb hby d_prog_66_method_2_114) rfl rfl ?_
            refine g_iconst X329 hx 116 (hb hby d_prog_66_method_2_115) (1 : Int32) rfl rfl ?_
            refine g_isub X329 hx 117 (hb hby d_prog_66_method_2_116) rfl ?_
            show own_Go p e below s _ _ _ (T329.setTop (mkF m 117 _ [(.int (1 : Int32)), (.ref ar), (.ref o)]))
            have f332 : Arv Z h329 ar ka .char (2 : Int32) [(.int u0), (.int u1)] (.int (0 : Int32)) := ((V_ar.other W324 ne_ar_o).other W329 ne_ar_o)
            obtain ⟨cl333, Ar333, q333, S333, P333, H333, G333⟩ := id f332
            have hin333 := inb_of (j := (1 : Int32)) S333 ⟨by decide, by decide⟩
            refine own_caload X329 hx hZ e329 Ar333 (v := (.int u1)) hin333 (Has.at H333 hin333 rfl) 118 (hb hby d_prog_66_method_2_117) rfl ?_
            refine g_bipush X329 hx 120 (hb hby d_prog_66_method_2_118) (13 : Int32) rfl rfl ?_
            refine g_icmpYes X329 hx 127 (hb hby d_prog_66_method_2_120) (own_ii_ne_t c296) (by decide) (by decide) ?_
            refine g_iconst X329 hx 128 (hb hby d_prog_66_method_2_127) (0 : Int32) rfl rfl ?_
            have f335 : Exa Z h329 o "com/example/libelem/libelem/io/TextPosition" := (Exa.wr W329 f327)
            have f336 : Fld Z h329 o "com/example/libelem/libelem/io/TextPosition" "afterCarriageReturn" "Z" (.int ac) := (Fld.other W329 (Fld.other W324 F_o_afterCarriageReturn (Or.inr (slot_ne (Or.inl (hw _ (List.mem_of_getElem? (i := 38) rfl))) (Or.inl (hw _ (List.mem_of_getElem? (i := 16) rfl))) (by decide) (t := .boolean) (t' := .int) (by decide) (by decide)))) (Or.inr (slot_ne (Or.inl (hw _ (List.mem_of_getElem? (i := 38) rfl))) (Or.inl (hw _ (List.mem_of_getElem? (i := 18) rfl))) (by decide) (t := .boolean) (t' := .int) (by decide) (by decide))))
            refine own_putFN X329 hx hZ hown (hw _ (List.mem_of_getElem? (i := 37) rfl)) Via.refl e329 (.int (0 : Int32)) f336 f335 (Or.inl (hw _ (List.mem_of_getElem? (i := 38) rfl))) (hw _ (List.mem_of_getElem? (i := 7) rfl)) (ty := .boolean) (by decide) rfl rfl 131 (hb hby d_prog_66_method_2_128) rfl fun T337 h337 X337 e337 W337 => ?_
            have f337 : Fld Z h337 o "com/example/libelem/libelem/io/TextPosition" "afterCarriageReturn" "Z" (.int (0 : Int32)) := Fld.same W337 f336
            have N337 := Fr.snoc X337 N329 g_o
            have z338 : n0 ≤ h337.size := (Nat.le_trans z330 (Keep.of_wr W337).1)
            have K339 : Keep h0 h337 [o] := K331.wr W337 (Or.inl (List.mem_of_getElem? (i := 0) rfl))
            have f340 : Fld Z h337 o "com/example/libelem/libelem/io/TextPosition" "line" "I" (.int (li + (1 : Int32))) := (Fld.other W337 (Fld.other W329 f324 (Or.inr (slot_ne (Or.inl (hw _ (List.mem_of_getElem? (i := 16) rfl))) (Or.inl (hw _ (List.mem_of_getElem? (i := 18) rfl))) (by decide) (t := .int) (t' := .int) (by decide) (by decide)))) (Or.inr (slot_ne (Or.inl (hw _ (List.mem_of_getElem? (i := 16) rfl))) (Or.inl (hw _ (List.mem_of_getElem? (i := 38) rfl))) (by decide) (t := .int) (t' := .boolean) (by decide) (by decide))))
            have f341 : Fld Z h337 o "com/example/libelem/libelem/io/TextPosition" "column" "I" (.int (1 : Int32)) := (Fld.other W337 f329 (Or.inr (slot_ne (Or.inl (hw _ (List.mem_of_getElem? (i := 18) rfl))) (Or.inl (hw _ (List.mem_of_getElem? (i := 38) rfl))) (by decide) (t := .int) (t' := .boolean) (by decide) (by decide))))
            refine own_retV X337 hx hlk hret (hb hby d_prog_66_method_2_131) ?_ (by decide) (by decide)
            rw [e337]
            exact ⟨rfl, N337, K339, (own_fldV f340 (congrArg Value.int (by first | rfl | (simp [c95, c162, c296, c319, own_sl, own_sc, own_sa, own_L0, own_L1, own_L2, own_C0, own_C1, own_C2, own_A0, own_A1, own_A2, own_k0, own_k1, own_k2]; done)))), (own_fldV f341 (congrArg Value.int (by first | rfl | (simp [c95, c162, c296, c319, own_sl, own_sc, own_sa, own_L0, own_L1, own_L2, own_C0, own_C1, own_C2, own_A0, own_A1, own_A2, own_k0, own_k1, own_k2]; done)))), (own_fldV f337 (congrArg Value.int (by first | rfl | (simp [c95, c162, c296, c319, own_sl, own_sc, own_sa, own_L0, own_L1, own_L2, own_C0, own_C1, own_C2, own_A0, own_A1, own_A2, own_k0, own_k1, own_k2]; done))))⟩
          · refine g_icmpYes X93 hx 93 (hb hby d_prog_66_method_2_33) (own_ii_ne_t c319) (by decide) (by decide) ?_
            refine g_iinc X93 hx 96 (hb hby d_prog_66_method_2_93) (z := (2 : Int32)) rfl rfl (l' := #[.val (.ref o), .val (.ref ar), .val (.int (2 : Int32)), .val (.int ((1 : Int32) - co)), .val (.int (2 : Int32)), .val (.int u1), .unset]) rfl rfl ?_
            refine g_goto X93 hx 10 (hb hby d_prog_66_method_2_96) (by decide) (by decide) ?_
            refine g_iload X93 hx 12 (hb hby d_prog_66_method_2_10) rfl rfl ?_
            refine g_iload_n X93 hx 13 (hb hby d_prog_66_method_2_12) rfl rfl ?_
            refine g_icmpYes X93 hx 99 (hb hby d_prog_66_method_2_13) (own_ii_ge_t (by decide)) (by decide) (by decide) ?_
            refine g_aload_n X93 hx 100 (hb hby d_prog_66_method_2_99) rfl rfl rfl ?_
            refine g_iload_n X93 hx 101 (hb hby d_prog_66_method_2_100) rfl rfl ?_
            refine g_iload_n X93 hx 102 (hb hby d_prog_66_method_2_101) rfl rfl ?_
            refine g_isub X93 hx 103 (hb hby d_prog_66_method_2_102) rfl ?_
            refine g_iconst X93 hx 104 (hb hby d_prog_66_method_2_103) (1 : Int32) rfl rfl ?_
            refine g_iadd X93 hx 105 (hb hby d_prog_66_method_2_104) rfl ?_
            refine own_putF X93 hx hZ hown (host := "") (Or.inl (hw _ (List.mem_of_getElem? (i := 17) rfl))) Via.refl e93 F_o_column E_o (Or.inl (hw _ (List.mem_of_getElem? (i := 18) rfl))) (hw _ (List.mem_of_getElem? (i := 7) rfl)) (ty := .int) (by decide) rfl rfl 108 (hb hby d_prog_66_method_2_105) rfl fun T342 h342 X342 e342 W342 => ?_
            have f342 : Fld Z h342 o "com/example/libelem/libelem/io/TextPosition" "column" "I" (.int (((2 : Int32) - ((1 : Int32) - co)) + (1 : Int32))) := Fld.same W342 F_o_column
            have N342 := Fr.snoc X342 N0 g_o
            have z343 : n0 ≤ h342.size := (Nat.le_trans Z0 (Keep.of_wr W342).1)
            have K344 : Keep h0 h342 [o] := (Keep.refl h0 [o]).wr W342 (Or.inl (List.mem_of_getElem? (i := 0) rfl))
            refine g_iload_n X342 hx 109 (hb hby d_prog_66_method_2_108) rfl rfl ?_
            refine g_ifNo X342 hx 112 (hb hby d_prog_66_method_2_109) (own_i0_le_f (by decide)) rfl ?_
            refine g_aload_n X342 hx 113 (hb hby d_prog_66_method_2_112) rfl rfl rfl ?_
            refine g_aload_n X342 hx 114 (hb hby d_prog_66_method_2_113) rfl rfl rfl ?_
            refine g_iload_n X342 hx 115 (hb hby d_prog_66_method_2_114) rfl rfl ?_
            refine g_iconst X342 hx 116 (hb hby d_prog_66_method_2_115) (1 : Int32) rfl rfl ?_
            refine g_isub X342 hx 117 (hb hby d_prog_66_method_2_116) rfl ?_
            show own_Go p e below s _ _ _ (T342.setTop (mkF m 117 _ [(.int (1 : Int32)), (.ref ar), (.ref o)]))
            have f345 : Arv Z h342 ar ka .char (2 : Int32) [(.int u0), (.int u1)] (.int (0 : Int32)) := (V_ar.other W342 ne_ar_o)
            obtain ⟨cl346, Ar346, q346, S346, P346, H346, G346⟩ := id f345
            have hin346 := inb_of (j := (1 : Int32)) S346 ⟨by decide, by decide⟩
            refine own_caload X342 hx hZ e342 Ar346 (v := (.int u1)) hin346 (Has.at H346 hin346 rfl) 118 (hb hby d_prog_66_method_2_117) rfl ?_
            refine g_bipush X342 hx 120 (hb hby d_prog_66_method_2_118) (13 : Int32) rfl rfl ?_
            refine g_icmpYes X342 hx 127 (hb hby d_prog_66_method_2_120) (own_ii_ne_t c296) (by decide) (by decide) ?_
            refine g_iconst X342 hx 128 (hb hby d_prog_66_method_2_127) (0 : Int32) rfl rfl ?_
            have f348 : Exa Z h342 o "com/example/libelem/libelem/io/TextPosition" := (Exa.wr W342 E_o)
            have f349 : Fld Z h342 o "com/example/libelem/libelem/io/TextPosition" "afterCarriageReturn" "Z" (.int ac) := (Fld.other W342 F_o_afterCarriageReturn (Or.inr (slot_ne (Or.inl (hw _ (List.mem_of_getElem? (i := 38) rfl))) (Or.inl (hw _ (List.mem_of_getElem? (i := 18) rfl))) (by decide) (t := .boolean) (t' := .int) (by decide) (by decide))))
            refine own_putFN X342 hx hZ hown (hw _ (List.mem_of_getElem? (i := 37) rfl)) Via.refl e342 (.int (0 : Int32)) f349 f348 (Or.inl (hw _ (List.mem_of_getElem? (i := 38) rfl))) (hw _ (List.mem_of_getElem? (i := 7) rfl)) (ty := .boolean) (by decide) rfl rfl 131 (hb hby d_prog_66_method_2_128) rfl fun T350 h350 X350 e350 W350 => ?_
            have f350 : Fld Z h350 o "com/example/libelem/libelem/io/TextPosition" "afterCarriageReturn" "Z" (.int (0 : Int32)) := Fld.same W350 f349
            have N350 := Fr.snoc X350 N342 g_o
            have z351 : n0 ≤ h350.size := (Nat.le_trans z343 (Keep.of_wr W350).1)
            have K352 : Keep h0 h350 [o] := K344.wr W350 (Or.inl (List.mem_of_getElem? (i := 0) rfl))
            have f353 : Fld Z h350 o "com/example/libelem/libelem/io/TextPosition" "line" "I" (.int li) := (Fld.other W350 (Fld.other W342 F_o_line (Or.inr (slot_ne (Or.inl (hw _ (List.mem_of_getElem? (i := 16) rfl))) (Or.inl (hw _ (List.mem_of_getElem? (i := 18) rfl))) (by decide) (t := .int) (t' := .int) (by decide) (by decide)))) (Or.inr (slot_ne (Or.inl (hw _ (List.mem_of_getElem? (i := 16) rfl))) (Or.inl (hw _ (List.mem_of_getElem? (i := 38) rfl))) (by decide) (t := .int) (t' := .boolean) (by decide) (by decide))))
            have f354 : Fld Z h350 o "com/example/libelem/libelem/io/TextPosition" "column" "I" (.int (((2 : Int32) - ((1 : Int32) - co)) + (1 : Int32))) := (Fld.other W350 f342 (Or.inr (slot_ne (Or.inl (hw _ (List.mem_of_getElem? (i := 18) rfl))) (Or.inl (hw _ (List.mem_of_getElem? (i := 38) rfl))) (by decide) (t := .int) (t' := .boolean) (by decide) (by decide))))
            refine own_retV X350 hx hlk hret (hb hby d_prog_66_method_2_131) ?_ (by decide) (by decide)
            rw [e350]
            exact ⟨rfl, N350, K352, (own_fldV f353 (congrArg Value.int (by first | rfl | (simp [c95, c162, c296, c319, own_sl, own_sc, own_sa, own_L0, own_L1, own_L2, own_C0, own_C1, own_C2, own_A0, own_A1, own_A2, own_k0, own_k1, own_k2]; done)))), (own_fldV f354 (congrArg Value.int (by first | rfl | (simp [c95, c162, c296, c319, own_sl, own_sc, own_sa, own_L0, own_L1, own_L2, own_C0, own_C1, own_C2, own_A0, own_A1, own_A2, own_k0, own_k1, own_k2]; done)))), (own_fldV f350 (congrArg Value.int (by first | rfl | (simp [c95, c162, c296, c319, own_sl, own_sc, own_sa, own_L0, own_L1, own_L2, own_C0, own_C1, own_C2, own_A0, own_A1, own_A2, own_k0, own_k1, own_k2]; done))))⟩
theorem d_method_5_0 : decode method_5_code 0 = .ok (.iload_n 1, 1) := by decide +kernel
theorem d_method_5_1 : decode method_5_code 1 = .ok (.bipush 13, 2) := by decide +kernel
theorem d_method_5_3 : decode method_5_code 3 = .ok (.if_icmp .ne 22, 3) := by decide +kernel
theorem d_method_5_6 : decode method_5_code 6 = .ok (.aload_n 0, 1) := by decide +kernel
theorem d_method_5_7 : decode method_5_code 7 = .ok (.iconst 0, 1) := by decide +kernel
theorem d_method_5_8 : decode method_5_code 8 = .ok (.aload_n 0, 1) := by decide +kernel
theorem d_method_5_9 : decode method_5_code 9 = .ok (.iconst 0, 1) := by decide +kernel
theorem d_method_5_10 : decode method_5_code 10 = .ok (.iaload, 1) := by decide +kernel
theorem d_method_5_11 : decode method_5_code 11 = .ok (.iconst 1, 1) := by decide +kernel
theorem d_method_5_12 : decode method_5_code 12 = .ok (.iadd, 1) := by decide +kernel
theorem d_method_5_13 : decode method_5_code 13 = .ok (.iastore, 1) := by decide +kernel
theorem d_method_5_14 : decode method_5_code 14 = .ok (.aload_n 0, 1) := by decide +kernel
theorem d_method_5_15 : decode method_5_code 15 = .ok (.iconst 1, 1) := by decide +kernel
theorem d_method_5_16 : decode method_5_code 16 = .ok (.iconst 1, 1) := by decide +kernel
theorem d_method_5_17 : decode method_5_code 17 = .ok (.iastore, 1) := by decide +kernel
theorem d_method_5_18 : decode method_5_code 18 = .ok (.aload_n 0, 1) := by decide +kernel
theorem d_method_5_19 : decode method_5_code 19 = .ok (.iconst 2, 1) := by decide +kernel
theorem d_method_5_20 : decode method_5_code 20 = .ok (.iconst 1, 1) := by decide +kernel
theorem d_method_5_21 : decode method_5_code 21 = .ok (.iastore, 1) := by decide +kernel
theorem d_method_5_22 : decode method_5_code 22 = .ok (.goto 46, 3) := by decide +kernel
theorem d_method_5_68 : decode method_5_code 68 = .ok (.return_, 1) := by decide +kernel
theorem d_method_5_25 : decode method_5_code 25 = .ok (.iload_n 1, 1) := by decide +kernel
theorem d_method_5_26 : decode method_5_code 26 = .ok (.bipush 10, 2) := by decide +kernel
theorem d_method_5_28 : decode method_5_code 28 = .ok (.if_icmp .ne 28, 3) := by decide +kernel
theorem d_method_5_31 : decode method_5_code 31 = .ok (.aload_n 0, 1) := by decide +kernel
theorem d_method_5_32 : decode method_5_code 32 = .ok (.iconst 2, 1) := by decide +kernel
theorem d_method_5_33 : decode method_5_code 33 = .ok (.iaload, 1) := by decide +kernel
theorem d_method_5_34 : decode method_5_code 34 = .ok (.ifCond .ne 11, 3) := by decide +kernel
theorem d_method_5_37 : decode method_5_code 37 = .ok (.aload_n 0, 1) := by decide +kernel
theorem d_method_5_38 : decode method_5_code 38 = .ok (.iconst 0, 1) := by decide +kernel
theorem d_method_5_39 : decode method_5_code 39 = .ok (.aload_n 0, 1) := by decide +kernel
theorem d_method_5_40 : decode method_5_code 40 = .ok (.iconst 0, 1) := by decide +kernel
theorem d_method_5_41 : decode method_5_code 41 = .ok (.iaload, 1) := by decide +kernel
theorem d_method_5_42 : decode method_5_code 42 = .ok (.iconst 1, 1) := by decide +kernel
theorem d_method_5_43 : decode method_5_code 43 = .ok (.iadd, 1) := by decide +kernel
theorem d_method_5_44 : decode method_5_code 44 = .ok (.iastore, 1) := by decide +kernel
theorem d_method_5_45 : decode method_5_code 45 = .ok (.aload_n 0, 1) := by decide +kernel
theorem d_method_5_46 : decode method_5_code 46 = .ok (.iconst 1, 1) := by decide +kernel
theorem d_method_5_47 : decode method_5_code 47 = .ok (.iconst 1, 1) := by decide +kernel
theorem d_method_5_48 : decode method_5_code 48 = .ok (.iastore, 1) := by decide +kernel
theorem d_method_5_49 : decode method_5_code 49 = .ok (.aload_n 0, 1) := by decide +kernel
theorem d_method_5_50 : decode method_5_code 50 = .ok (.iconst 2, 1) := by decide +kernel
theorem d_method_5_51 : decode method_5_code 51 = .ok (.iconst 0, 1) := by decide +kernel
theorem d_method_5_52 : decode method_5_code 52 = .ok (.iastore, 1) := by decide +kernel
theorem d_method_5_53 : decode method_5_code 53 = .ok (.goto 15, 3) := by decide +kernel
theorem d_method_5_56 : decode method_5_code 56 = .ok (.aload_n 0, 1) := by decide +kernel
theorem d_method_5_57 : decode method_5_code 57 = .ok (.iconst 1, 1) := by decide +kernel
theorem d_method_5_58 : decode method_5_code 58 = .ok (.aload_n 0, 1) := by decide +kernel
theorem d_method_5_59 : decode method_5_code 59 = .ok (.iconst 1, 1) := by decide +kernel
theorem d_method_5_60 : decode method_5_code 60 = .ok (.iaload, 1) := by decide +kernel
theorem d_method_5_61 : decode method_5_code 61 = .ok (.iconst 1, 1) := by decide +kernel
theorem d_method_5_62 : decode method_5_code 62 = .ok (.iadd, 1) := by decide +kernel
theorem d_method_5_63 : decode method_5_code 63 = .ok (.iastore, 1) := by decide +kernel
theorem d_method_5_64 : decode method_5_code 64 = .ok (.aload_n 0, 1) := by decide +kernel
theorem d_method_5_65 : decode method_5_code 65 = .ok (.iconst 2, 1) := by decide +kernel
theorem d_method_5_66 : decode method_5_code 66 = .ok (.iconst 0, 1) := by decide +kernel
theorem d_method_5_67 : decode method_5_code 67 = .ok (.iastore, 1) := by decide +kernel
theorem ef_3 (m : MethodId) (x0 : Addr) (x1 : Int32) : entryFrame m #[(.ref x0), (.int x1)] 2 = mkF m 0 #[.val (.ref x0), .val (.int x1)] [] := by first | (simp [entryFrame, mkF, argsToLocals, Value.category]; done) | rfl
def Q_step (Z : State) (q : Addr) (kq : ClassId) (li : Int32) (co : Int32) (ac : Int32) (u : Int32) (h0 : Heap) (n0 : Nat) (v : Option Value) (h : Heap) (L : List Loc) : Prop := v = none ∧ Fr n0 L ∧ Keep h0 h [q] ∧ Arv Z h q kq .int (3 : Int32) [(.int (own_sl li ac u)), (.int (own_sc co u)), (.int (own_sa u))] (.int (0 : Int32))
set_option maxRecDepth 65536 in
set_option maxHeartbeats 40000000 in
theorem rm_step (l : Launch) (Z : State) (a0 : Array Value) (hw : ∀ d ∈ tables_1, d.before a0 Z = true) (ws : List Jvm.Cond) (q : Addr) (kq : ClassId) (li : Int32) (co : Int32) (ac : Int32) (u : Int32) (h0 : Heap) (n0 : Nat) (Z0 : n0 ≤ h0.size) (V_q : Arv Z h0 q kq .int (3 : Int32) [(.int li), (.int co), (.int ac)] (.int (0 : Int32))) (g_q : n0 ≤ q) :
    MetFree l (⟨"com/example/libelem/libelem/io/TextPositionAdvancePinLaw", "step", "([IC)V"⟩ : MethodName) (head1 (Jvm.Cond.code (⟨"com/example/libelem/libelem/io/TextPositionAdvancePinLaw", "step", "([IC)V"⟩ : MethodName) method_5_code 2 none :: ws) ({ frames := 0, cells := 0, slots := 0, locals := 0 } : Room)) (fun aA U => aA = #[(.ref q), (.int u)] ∧ Z.Warmed39 U.vm ∧ U.heap = h0) (fun _ _ _ _ _ => True) (fun _ U oO U' => ∃ vV LL, oO = .returned vV ∧ Q_step Z q kq li co ac u h0 n0 vV U'.heap LL ∧ FrameEnd U oO U' LL ({ frames := 0, cells := 0, slots := 0, locals := 0 } : Room).cells ({ frames := 0, cells := 0, slots := 0, locals := 0 } : Room).slots) := by
  refine MetFree.of_bodySF (plainFor_of_name pn_0) hisR ?_
  intro p e s m args below meth c s₁ Bd hml0 hP hK
  obtain ⟨rfl, hZ, hh⟩ := hP
  have hx := Bd.exec
  have hby := Bd.bytes
  have hml : c.maxLocals = 2 := hml0
  have hown : s.vm.findClass "com/example/libelem/libelem/io/TextPositionAdvancePinLaw" = some m.cls := findClass_of_methodNamed Bd.named
  have hnm := (name_of_methodNamed Bd.named Bd.method).1
  have X0 : Stand p l e ({ frames := 0, cells := 0, slots := 0, locals := 0 } : Room) s m #[(.ref q), (.int u)] below meth c s₁ [] 0 0 := Stand.of_body Bd
  have e0 : s₁.heap = h0 := by rw [← hh, Bd.state]; rfl
  have N0 := Fr.nil n0
  have hret := Bd.returns
  have hlk : meth.locks = false := Bd.notSynchronized
  refine own_start (ef_3 m q u) ?_
  show own_Go p e below s (Q_step Z q kq li co ac u h0 n0) ({ frames := 0, cells := 0, slots := 0, locals := 0 } : Room).cells ({ frames := 0, cells := 0, slots := 0, locals := 0 } : Room).slots (s₁.setTop (mkF m 0 #[.val (.ref q), .val (.int u)] []))
  refine g_iload_n X0 hx 1 (hb hby d_method_5_0) rfl rfl ?_
  refine g_bipush X0 hx 3 (hb hby d_method_5_1) (13 : Int32) rfl rfl ?_
  by_cases c355 : u = (13 : Int32)
  · refine g_icmpNo X0 hx 6 (hb hby d_method_5_3) (own_ii_ne_f c355) rfl ?_
    refine g_aload_n X0 hx 7 (hb hby d_method_5_6) rfl rfl rfl ?_
    refine g_iconst X0 hx 8 (hb hby d_method_5_7) (0 : Int32) rfl rfl ?_
    refine g_aload_n X0 hx 9 (hb hby d_method_5_8) rfl rfl rfl ?_
    refine g_iconst X0 hx 10 (hb hby d_method_5_9) (0 : Int32) rfl rfl ?_
    obtain ⟨cl356, Ar356, q356, S356, P356, H356, G356⟩ := id V_q
    have hin356 := inb_of (j := (0 : Int32)) S356 ⟨by decide, by decide⟩
    refine own_iaload X0 hx hZ e0 Ar356 (v := (.int li)) hin356 (Has.at H356 hin356 rfl) 11 (hb hby d_method_5_10) rfl ?_
    refine g_iconst X0 hx 12 (hb hby d_method_5_11) (1 : Int32) rfl rfl ?_
    refine g_iadd X0 hx 13 (hb hby d_method_5_12) rfl ?_
    obtain ⟨cl357, Ar357, q357, S357, P357, H357, G357⟩ := id V_q
    have hin357 := inb_of (j := (0 : Int32)) S357 ⟨by decide, by decide⟩
    refine own_stI X0 hx hZ e0 Ar357 hin357 14 (hb hby d_method_5_13) rfl fun T357 h357 X357 e357 W357 => ?_
    have V357 : Arv Z h357 q kq .int (3 : Int32) [(.int (li + (1 : Int32))), (.int co), (.int ac)] (.int (0 : Int32)) := Arv.set Ar357 q357 S357 P357 H357 G357 (v := (.int (li + (1 : Int32)))) rfl W357 0 rfl (Nat.le_of_ble_eq_true rfl)
    have N357 := Fr.snoc X357 N0 g_q
    have z358 : n0 ≤ h357.size := (Nat.le_trans Z0 (Keep.of_wr W357).1)
    have K359 : Keep h0 h357 [q] := (Keep.refl h0 [q]).wr W357 (Or.inl (List.mem_of_getElem? (i := 0) rfl))
    refine g_aload_n X357 hx 15 (hb hby d_method_5_14) rfl rfl rfl ?_
    refine g_iconst X357 hx 16 (hb hby d_method_5_15) (1 : Int32) rfl rfl ?_
    refine g_iconst X357 hx 17 (hb hby d_method_5_16) (1 : Int32) rfl rfl ?_
    obtain ⟨cl360, Ar360, q360, S360, P360, H360, G360⟩ := id V357
    have hin360 := inb_of (j := (1 : Int32)) S360 ⟨by decide, by decide⟩
    refine own_stI X357 hx hZ e357 Ar360 hin360 18 (hb hby d_method_5_17) rfl fun T360 h360 X360 e360 W360 => ?_
    have V360 : Arv Z h360 q kq .int (3 : Int32) [(.int (li + (1 : Int32))), (.int (1 : Int32)), (.int ac)] (.int (0 : Int32)) := Arv.set Ar360 q360 S360 P360 H360 G360 (v := (.int (1 : Int32))) rfl W360 1 rfl (Nat.le_of_ble_eq_true rfl)
    have N360 := Fr.snoc X360 N357 g_q
    have z361 : n0 ≤ h360.size := (Nat.le_trans z358 (Keep.of_wr W360).1)
    have K362 : Keep h0 h360 [q] := K359.wr W360 (Or.inl (List.mem_of_getElem? (i := 0) rfl))
    refine g_aload_n X360 hx 19 (hb hby d_method_5_18) rfl rfl rfl ?_
    refine g_iconst X360 hx 20 (hb hby d_method_5_19) (2 : Int32) rfl rfl ?_
    refine g_iconst X360 hx 21 (hb hby d_method_5_20) (1 : Int32) rfl rfl ?_
    obtain ⟨cl363, Ar363, q363, S363, P363, H363, G363⟩ := id V360
    have hin363 := inb_of (j := (2 : Int32)) S363 ⟨by decide, by decide⟩
    refine own_stI X360 hx hZ e360 Ar363 hin363 22 (hb hby d_method_5_21) rfl fun T363 h363 X363 e363 W363 => ?_
    have V363 : Arv Z h363 q kq .int (3 : Int32) [(.int (li + (1 : Int32))), (.int (1 : Int32)), (.int (1 : Int32))] (.int (0 : Int32)) := Arv.set Ar363 q363 S363 P363 H363 G363 (v := (.int (1 : Int32))) rfl W363 2 rfl (Nat.le_of_ble_eq_true rfl)
    have N363 := Fr.snoc X363 N360 g_q
    have z364 : n0 ≤ h363.size := (Nat.le_trans z361 (Keep.of_wr W363).1)
    have K365 : Keep h0 h363 [q] := K362.wr W363 (Or.inl (List.mem_of_getElem? (i := 0) rfl))
    refine g_goto X363 hx 68 (hb hby d_method_5_22) (by decide) (by decide) ?_
    refine own_retV X363 hx hlk hret (hb hby d_method_5_68) ?_ (by decide) (by decide)
    rw [e363]
    exact ⟨rfl, N363, K365, (own_arvL V363 (by rw [(by first | rfl | (simp [c355, own_sl, own_sc, own_sa, own_L0, own_L1, own_L2, own_C0, own_C1, own_C2, own_A0, own_A1, own_A2, own_k0, own_k1, own_k2]; done) : (own_sl li ac u) = (li + (1 : Int32))), (by first | rfl | (simp [c355, own_sl, own_sc, own_sa, own_L0, own_L1, own_L2, own_C0, own_C1, own_C2, own_A0, own_A1, own_A2, own_k0, own_k1, own_k2]; done) : (own_sc co u) = (1 : Int32)), (by first | rfl | (simp [c355, own_sl, own_sc, own_sa, own_L0, own_L1, own_L2, own_C0, own_C1, own_C2, own_A0, own_A1, own_A2, own_k0, own_k1, own_k2]; done) : (own_sa u) = (1 : Int32))]))⟩
  · refine g_icmpYes X0 hx 25 (hb hby d_method_5_3) (own_ii_ne_t c355) (by decide) (by decide) ?_
    refine g_iload_n X0 hx 26 (hb hby d_method_5_25) rfl rfl ?_
    refine g_bipush X0 hx 28 (hb hby d_method_5_26) (10 : Int32) rfl rfl ?_
    by_cases c366 : u = (10 : Int32)
    · refine g_icmpNo X0 hx 31 (hb hby d_method_5_28) (own_ii_ne_f c366) rfl ?_
      refine g_aload_n X0 hx 32 (hb hby d_method_5_31) rfl rfl rfl ?_
      refine g_iconst X0 hx 33 (hb hby d_method_5_32) (2 : Int32) rfl rfl ?_
      obtain ⟨cl367, Ar367, q367, S367, P367, H367, G367⟩ := id V_q
      have hin367 := inb_of (j := (2 : Int32)) S367 ⟨by decide, by decide⟩
      refine own_iaload X0 hx hZ e0 Ar367 (v := (.int ac)) hin367 (Has.at H367 hin367 rfl) 34 (hb hby d_method_5_33) rfl ?_
      by_cases c368 : ac = (0 : Int32)
      · refine g_ifNo X0 hx 37 (hb hby d_method_5_34) (own_i0_ne_f c368) rfl ?_
        refine g_aload_n X0 hx 38 (hb hby d_method_5_37) rfl rfl rfl ?_
        refine g_iconst X0 hx 39 (hb hby d_method_5_38) (0 : Int32) rfl rfl ?_
        refine g_aload_n X0 hx 40 (hb hby d_method_5_39) rfl rfl rfl ?_
        refine g_iconst X0 hx 41 (hb hby d_method_5_40) (0 : Int32) rfl rfl ?_
        obtain ⟨cl369, Ar369, q369, S369, P369, H369, G369⟩ := id V_q
        have hin369 := inb_of (j := (0 : Int32)) S369 ⟨by decide, by decide⟩
        refine own_iaload X0 hx hZ e0 Ar369 (v := (.int li)) hin369 (Has.at H369 hin369 rfl) 42 (hb hby d_method_5_41) rfl ?_
        refine g_iconst X0 hx 43 (hb hby d_method_5_42) (1 : Int32) rfl rfl ?_
        refine g_iadd X0 hx 44 (hb hby d_method_5_43) rfl ?_
        obtain ⟨cl370, Ar370, q370, S370, P370, H370, G370⟩ := id V_q
        have hin370 := inb_of (j := (0 : Int32)) S370 ⟨by decide, by decide⟩
        refine own_stI X0 hx hZ e0 Ar370 hin370 45 (hb hby d_method_5_44) rfl fun T370 h370 X370 e370 W370 => ?_
        have V370 : Arv Z h370 q kq .int (3 : Int32) [(.int (li + (1 : Int32))), (.int co), (.int ac)] (.int (0 : Int32)) := Arv.set Ar370 q370 S370 P370 H370 G370 (v := (.int (li + (1 : Int32)))) rfl W370 0 rfl (Nat.le_of_ble_eq_true rfl)
        have N370 := Fr.snoc X370 N0 g_q
        have z371 : n0 ≤ h370.size := (Nat.le_trans Z0 (Keep.of_wr W370).1)
        have K372 : Keep h0 h370 [q] := (Keep.refl h0 [q]).wr W370 (Or.inl (List.mem_of_getElem? (i := 0) rfl))
        refine g_aload_n X370 hx 46 (hb hby d_method_5_45) rfl rfl rfl ?_
        refine g_iconst X370 hx 47 (hb hby d_method_5_46) (1 : Int32) rfl rfl ?_
        refine g_iconst X370 hx 48 (hb hby d_method_5_47) (1 : Int32) rfl rfl ?_
        obtain ⟨cl373, Ar373, q373, S373, P373, H373, G373⟩ := id V370
        have hin373 := inb_of (j := (1 : Int32)) S373 ⟨by decide, by decide⟩
        refine own_stI X370 hx hZ e370 Ar373 hin373 49 (hb hby d_method_5_48) rfl fun T373 h373 X373 e373 W373 => ?_
        have V373 : Arv Z h373 q kq .int (3 : Int32) [(.int (li + (1 : Int32))), (.int (1 : Int32)), (.int ac)] (.int (0 : Int32)) := Arv.set Ar373 q373 S373 P373 H373 G373 (v := (.int (1 : Int32))) rfl W373 1 rfl (Nat.le_of_ble_eq_true rfl)
        have N373 := Fr.snoc X373 N370 g_q
        have z374 : n0 ≤ h373.size := (Nat.le_trans z371 (Keep.of_wr W373).1)
        have K375 : Keep h0 h373 [q] := K372.wr W373 (Or.inl (List.mem_of_getElem? (i := 0) rfl))
        refine g_aload_n X373 hx 50 (hb hby d_method_5_49) rfl rfl rfl ?_
        refine g_iconst X373 hx 51 (hb hby d_method_5_50) (2 : Int32) rfl rfl ?_
        refine g_iconst X373 hx 52 (hb hby d_method_5_51) (0 : Int32) rfl rfl ?_
        obtain ⟨cl376, Ar376, q376, S376, P376, H376, G376⟩ := id V373
        have hin376 := inb_of (j := (2 : Int32)) S376 ⟨by decide, by decide⟩
        refine own_stI X373 hx hZ e373 Ar376 hin376 53 (hb hby d_method_5_52) rfl fun T376 h376 X376 e376 W376 => ?_
        have V376 : Arv Z h376 q kq .int (3 : Int32) [(.int (li + (1 : Int32))), (.int (1 : Int32)), (.int (0 : Int32))] (.int (0 : Int32)) := Arv.set Ar376 q376 S376 P376 H376 G376 (v := (.int (0 : Int32))) rfl W376 2 rfl (Nat.le_of_ble_eq_true rfl)
        have N376 := Fr.snoc X376 N373 g_q
        have z377 : n0 ≤ h376.size := (Nat.le_trans z374 (Keep.of_wr W376).1)
        have K378 : Keep h0 h376 [q] := K375.wr W376 (Or.inl (List.mem_of_getElem? (i := 0) rfl))
        refine g_goto X376 hx 68 (hb hby d_method_5_53) (by decide) (by decide) ?_
        refine own_retV X376 hx hlk hret (hb hby d_method_5_68) ?_ (by decide) (by decide)
        rw [e376]
        exact ⟨rfl, N376, K378, (own_arvL V376 (by rw [(by first | rfl | (simp [c355, c366, c368, own_sl, own_sc, own_sa, own_L0, own_L1, own_L2, own_C0, own_C1, own_C2, own_A0, own_A1, own_A2, own_k0, own_k1, own_k2]; done) : (own_sl li ac u) = (li + (1 : Int32))), (by first | rfl | (simp [c355, c366, c368, own_sl, own_sc, own_sa, own_L0, own_L1, own_L2, own_C0, own_C1, own_C2, own_A0, own_A1, own_A2, own_k0, own_k1, own_k2]; done) : (own_sc co u) = (1 : Int32)), (by first | rfl | (simp [c355, c366, c368, own_sl, own_sc, own_sa, own_L0, own_L1, own_L2, own_C0, own_C1, own_C2, own_A0, own_A1, own_A2, own_k0, own_k1, own_k2]; done) : (own_sa u) = (0 : Int32))]))⟩
      · refine g_ifYes X0 hx 45 (hb hby d_method_5_34) (own_i0_ne_t c368) (by decide) (by decide) ?_
        refine g_aload_n X0 hx 46 (hb hby d_method_5_45) rfl rfl rfl ?_
        refine g_iconst X0 hx 47 (hb hby d_method_5_46) (1 : Int32) rfl rfl ?_
        refine g_iconst X0 hx 48 (hb hby d_method_5_47) (1 : Int32) rfl rfl ?_
        obtain ⟨cl379, Ar379, q379, S379, P379, H379, G379⟩ := id V_q
        have hin379 := inb_of (j := (1 : Int32)) S379 ⟨by decide, by decide⟩
        refine own_stI X0 hx hZ e0 Ar379 hin379 49 (hb hby d_method_5_48) rfl fun T379 h379 X379 e379 W379 => ?_
        have V379 : Arv Z h379 q kq .int (3 : Int32) [(.int li), (.int (1 : Int32)), (.int ac)] (.int (0 : Int32)) := Arv.set Ar379 q379 S379 P379 H379 G379 (v := (.int (1 : Int32))) rfl W379 1 rfl (Nat.le_of_ble_eq_true rfl)
        have N379 := Fr.snoc X379 N0 g_q
        have z380 : n0 ≤ h379.size := (Nat.le_trans Z0 (Keep.of_wr W379).1)
        have K381 : Keep h0 h379 [q] := (Keep.refl h0 [q]).wr W379 (Or.inl (List.mem_of_getElem? (i := 0) rfl))
        refine g_aload_n X379 hx 50 (hb hby d_method_5_49) rfl rfl rfl ?_
        refine g_iconst X379 hx 51 (hb hby d_method_5_50) (2 : Int32) rfl rfl ?_
        refine g_iconst X379 hx 52 (hb hby d_method_5_51) (0 : Int32) rfl rfl ?_
        obtain ⟨cl382, Ar382, q382, S382, P382, H382, G382⟩ := id V379
        have hin382 := inb_of (j := (2 : Int32)) S382 ⟨by decide, by decide⟩
        refine own_stI X379 hx hZ e379 Ar382 hin382 53 (hb hby d_method_5_52) rfl fun T382 h382 X382 e382 W382 => ?_
        have V382 : Arv Z h382 q kq .int (3 : Int32) [(.int li), (.int (1 : Int32)), (.int (0 : Int32))] (.int (0 : Int32)) := Arv.set Ar382 q382 S382 P382 H382 G382 (v := (.int (0 : Int32))) rfl W382 2 rfl (Nat.le_of_ble_eq_true rfl)
        have N382 := Fr.snoc X382 N379 g_q
        have z383 : n0 ≤ h382.size := (Nat.le_trans z380 (Keep.of_wr W382).1)
        have K384 : Keep h0 h382 [q] := K381.wr W382 (Or.inl (List.mem_of_getElem? (i := 0) rfl))
        refine g_goto X382 hx 68 (hb hby d_method_5_53) (by decide) (by decide) ?_
        refine own_retV X382 hx hlk hret (hb hby d_method_5_68) ?_ (by decide) (by decide)
        rw [e382]
        exact ⟨rfl, N382, K384, (own_arvL V382 (by rw [(by first | rfl | (simp [c355, c366, c368, own_sl, own_sc, own_sa, own_L0, own_L1, own_L2, own_C0, own_C1, own_C2, own_A0, own_A1, own_A2, own_k0, own_k1, own_k2]; done) : (own_sl li ac u) = li), (by first | rfl | (simp [c355, c366, c368, own_sl, own_sc, own_sa, own_L0, own_L1, own_L2, own_C0, own_C1, own_C2, own_A0, own_A1, own_A2, own_k0, own_k1, own_k2]; done) : (own_sc co u) = (1 : Int32)), (by first | rfl | (simp [c355, c366, c368, own_sl, own_sc, own_sa, own_L0, own_L1, own_L2, own_C0, own_C1, own_C2, own_A0, own_A1, own_A2, own_k0, own_k1, own_k2]; done) : (own_sa u) = (0 : Int32))]))⟩
    · refine g_icmpYes X0 hx 56 (hb hby d_method_5_28) (own_ii_ne_t c366) (by decide) (by decide) ?_
      refine g_aload_n X0 hx 57 (hb hby d_method_5_56) rfl rfl rfl ?_
      refine g_iconst X0 hx 58 (hb hby d_method_5_57) (1 : Int32) rfl rfl ?_
      refine g_aload_n X0 hx 59 (hb hby d_method_5_58) rfl rfl rfl ?_
      refine g_iconst X0 hx 60 (hb hby d_method_5_59) (1 : Int32) rfl rfl ?_
      obtain ⟨cl385, Ar385, q385, S385, P385, H385, G385⟩ := id V_q
      have hin385 := inb_of (j := (1 : Int32)) S385 ⟨by decide, by decide⟩
      refine own_iaload X0 hx hZ e0 Ar385 (v := (.int co)) hin385 (Has.at H385 hin385 rfl) 61 (hb hby d_method_5_60) rfl ?_
      refine g_iconst X0 hx 62 (hb hby d_method_5_61) (1 : Int32) rfl rfl ?_
      refine g_iadd X0 hx 63 (hb hby d_method_5_62) rfl ?_
      obtain ⟨cl386, Ar386, q386, S386, P386, H386, G386⟩ := id V_q
      have hin386 := inb_of (j := (1 : Int32)) S386 ⟨by decide, by decide⟩
      refine own_stI X0 hx hZ e0 Ar386 hin386 64 (hb hby d_method_5_63) rfl fun T386 h386 X386 e386 W386 => ?_
      have V386 : Arv Z h386 q kq .int (3 : Int32) [(.int li), (.int (co + (1 : Int32))), (.int ac)] (.int (0 : Int32)) := Arv.set Ar386 q386 S386 P386 H386 G386 (v := (.int (co + (1 : Int32)))) rfl W386 1 rfl (Nat.le_of_ble_eq_true rfl)
      have N386 := Fr.snoc X386 N0 g_q
      have z387 : n0 ≤ h386.size := (Nat.le_trans Z0 (Keep.of_wr W386).1)
      have K388 : Keep h0 h386 [q] := (Keep.refl h0 [q]).wr W386 (Or.inl (List.mem_of_getElem? (i := 0) rfl))
      refine g_aload_n X386 hx 65 (hb hby d_method_5_64) rfl rfl rfl ?_
      refine g_iconst X386 hx 66 (hb hby d_method_5_65) (2 : Int32) rfl rfl ?_
      refine g_iconst X386 hx 67 (hb hby d_method_5_66) (0 : Int32) rfl rfl ?_
      obtain ⟨cl389, Ar389, q389, S389, P389, H389, G389⟩ := id V386
      have hin389 := inb_of (j := (2 : Int32)) S389 ⟨by decide, by decide⟩
      refine own_stI X386 hx hZ e386 Ar389 hin389 68 (hb hby d_method_5_67) rfl fun T389 h389 X389 e389 W389 => ?_
      have V389 : Arv Z h389 q kq .int (3 : Int32) [(.int li), (.int (co + (1 : Int32))), (.int (0 : Int32))] (.int (0 : Int32)) := Arv.set Ar389 q389 S389 P389 H389 G389 (v := (.int (0 : Int32))) rfl W389 2 rfl (Nat.le_of_ble_eq_true rfl)
      have N389 := Fr.snoc X389 N386 g_q
      have z390 : n0 ≤ h389.size := (Nat.le_trans z387 (Keep.of_wr W389).1)
      have K391 : Keep h0 h389 [q] := K388.wr W389 (Or.inl (List.mem_of_getElem? (i := 0) rfl))
      refine own_retV X389 hx hlk hret (hb hby d_method_5_68) ?_ (by decide) (by decide)
      rw [e389]
      exact ⟨rfl, N389, K391, (own_arvL V389 (by rw [(by first | rfl | (simp [c355, c366, own_sl, own_sc, own_sa, own_L0, own_L1, own_L2, own_C0, own_C1, own_C2, own_A0, own_A1, own_A2, own_k0, own_k1, own_k2]; done) : (own_sl li ac u) = li), (by first | rfl | (simp [c355, c366, own_sl, own_sc, own_sa, own_L0, own_L1, own_L2, own_C0, own_C1, own_C2, own_A0, own_A1, own_A2, own_k0, own_k1, own_k2]; done) : (own_sc co u) = (co + (1 : Int32))), (by first | rfl | (simp [c355, c366, own_sl, own_sc, own_sa, own_L0, own_L1, own_L2, own_C0, own_C1, own_C2, own_A0, own_A1, own_A2, own_k0, own_k1, own_k2]; done) : (own_sa u) = (0 : Int32))]))⟩
theorem d_method_4_0 : decode method_4_code 0 = .ok (.iload_n 2, 1) := by decide +kernel
theorem d_method_4_1 : decode method_4_code 1 = .ok (.ifCond .le 10, 3) := by decide +kernel
theorem d_method_4_11 : decode method_4_code 11 = .ok (.iload_n 2, 1) := by decide +kernel
theorem d_method_4_12 : decode method_4_code 12 = .ok (.iconst 1, 1) := by decide +kernel
theorem d_method_4_13 : decode method_4_code 13 = .ok (.if_icmp .le 10, 3) := by decide +kernel
theorem d_method_4_23 : decode method_4_code 23 = .ok (.return_, 1) := by decide +kernel
theorem d_method_4_4 : decode method_4_code 4 = .ok (.aload_n 0, 1) := by decide +kernel
theorem d_method_4_5 : decode method_4_code 5 = .ok (.aload_n 1, 1) := by decide +kernel
theorem d_method_4_6 : decode method_4_code 6 = .ok (.iconst 0, 1) := by decide +kernel
theorem d_method_4_7 : decode method_4_code 7 = .ok (.caload, 1) := by decide +kernel
theorem d_method_4_8 : decode method_4_code 8 = .ok (.invokestatic 31, 3) := by decide +kernel
theorem pd_0 : parseMethodDescriptor "([IC)V" = some ⟨[(.array .int), .char], none⟩ := by decide +kernel
theorem d_method_4_16 : decode method_4_code 16 = .ok (.aload_n 0, 1) := by decide +kernel
theorem d_method_4_17 : decode method_4_code 17 = .ok (.aload_n 1, 1) := by decide +kernel
theorem d_method_4_18 : decode method_4_code 18 = .ok (.iconst 1, 1) := by decide +kernel
theorem d_method_4_19 : decode method_4_code 19 = .ok (.caload, 1) := by decide +kernel
theorem d_method_4_20 : decode method_4_code 20 = .ok (.invokestatic 31, 3) := by decide +kernel
theorem ef_4 (m : MethodId) (x0 : Addr) (x1 : Addr) (x2 : Int32) : entryFrame m #[(.ref x0), (.ref x1), (.int x2)] 3 = mkF m 0 #[.val (.ref x0), .val (.ref x1), .val (.int x2)] [] := by first | (simp [entryFrame, mkF, argsToLocals, Value.category]; done) | rfl
def Q_feed (Z : State) (q : Addr) (kq : ClassId) (li : Int32) (co : Int32) (ac : Int32) (ar : Addr) (ka : ClassId) (nn : Int32) (u0 : Int32) (u1 : Int32) (h0 : Heap) (n0 : Nat) (v : Option Value) (h : Heap) (L : List Loc) : Prop := v = none ∧ Fr n0 L ∧ Keep h0 h [q] ∧ Arv Z h q kq .int (3 : Int32) [(.int (own_L nn li ac u0 u1)), (.int (own_C nn co u0 u1)), (.int (own_A nn ac u0 u1))] (.int (0 : Int32))
set_option maxRecDepth 65536 in
set_option maxHeartbeats 40000000 in
theorem rm_feed (l : Launch) (Z : State) (a0 : Array Value) (hw : ∀ d ∈ tables_1, d.before a0 Z = true) (ws : List Jvm.Cond) (q : Addr) (kq : ClassId) (li : Int32) (co : Int32) (ac : Int32) (ar : Addr) (ka : ClassId) (nn : Int32) (u0 : Int32) (u1 : Int32) (h0 : Heap) (n0 : Nat) (Z0 : n0 ≤ h0.size) (V_q : Arv Z h0 q kq .int (3 : Int32) [(.int li), (.int co), (.int ac)] (.int (0 : Int32))) (V_ar : Arv Z h0 ar ka .char (2 : Int32) [(.int u0), (.int u1)] (.int (0 : Int32))) (ne_ar_q : ar ≠ q) (g_q : n0 ≤ q) (hnn : nn = 0 ∨ nn = 1 ∨ nn = 2) :
    MetFree l (⟨"com/example/libelem/libelem/io/TextPositionAdvancePinLaw", "feed", "([I[CI)V"⟩ : MethodName) (head1 (Jvm.Cond.code (⟨"com/example/libelem/libelem/io/TextPositionAdvancePinLaw", "feed", "([I[CI)V"⟩ : MethodName) method_4_code 3 none :: ws) ({ frames := 1, cells := 0, slots := 0, locals := 13 } : Room)) (fun aA U => aA = #[(.ref q), (.ref ar), (.int nn)] ∧ Z.Warmed39 U.vm ∧ U.heap = h0) (fun _ _ _ _ _ => True) (fun _ U oO U' => ∃ vV LL, oO = .returned vV ∧ Q_feed Z q kq li co ac ar ka nn u0 u1 h0 n0 vV U'.heap LL ∧ FrameEnd U oO U' LL ({ frames := 1, cells := 0, slots := 0, locals := 13 } : Room).cells ({ frames := 1, cells := 0, slots := 0, locals := 13 } : Room).slots) := by
  refine MetFree.of_bodySF (plainFor_of_name pn_0) hisR ?_
  intro p e s m args below meth c s₁ Bd hml0 hP hK
  obtain ⟨rfl, hZ, hh⟩ := hP
  have hx := Bd.exec
  have hby := Bd.bytes
  have hml : c.maxLocals = 3 := hml0
  have hown : s.vm.findClass "com/example/libelem/libelem/io/TextPositionAdvancePinLaw" = some m.cls := findClass_of_methodNamed Bd.named
  have hnm := (name_of_methodNamed Bd.named Bd.method).1
  have X0 : Stand p l e ({ frames := 1, cells := 0, slots := 0, locals := 13 } : Room) s m #[(.ref q), (.ref ar), (.int nn)] below meth c s₁ [] 0 0 := Stand.of_body Bd
  have e0 : s₁.heap = h0 := by rw [← hh, Bd.state]; rfl
  have N0 := Fr.nil n0
  have hret := Bd.returns
  have hlk : meth.locks = false := Bd.notSynchronized
  refine own_start (ef_4 m q ar nn) ?_
  show own_Go p e below s (Q_feed Z q kq li co ac ar ka nn u0 u1 h0 n0) ({ frames := 1, cells := 0, slots := 0, locals := 13 } : Room).cells ({ frames := 1, cells := 0, slots := 0, locals := 13 } : Room).slots (s₁.setTop (mkF m 0 #[.val (.ref q), .val (.ref ar), .val (.int nn)] []))
  rcases hnn with rfl | rfl | rfl
  · show own_Go p e below s _ _ _ (s₁.setTop (mkF m 0 _ []))
    refine g_iload_n X0 hx 1 (hb hby d_method_4_0) rfl rfl ?_
    refine g_ifYes X0 hx 11 (hb hby d_method_4_1) (own_i0_le_t (by decide)) (by decide) (by decide) ?_
    refine g_iload_n X0 hx 12 (hb hby d_method_4_11) rfl rfl ?_
    refine g_iconst X0 hx 13 (hb hby d_method_4_12) (1 : Int32) rfl rfl ?_
    refine g_icmpYes X0 hx 23 (hb hby d_method_4_13) (own_ii_le_t (by decide)) (by decide) (by decide) ?_
    refine own_retV X0 hx hlk hret (hb hby d_method_4_23) ?_ (by decide) (by decide)
    rw [e0]
    exact ⟨rfl, N0, (Keep.refl h0 [q]), (own_arvL V_q (by rw [(by first | rfl | (simp [own_sl, own_sc, own_sa, own_L0, own_L1, own_L2, own_C0, own_C1, own_C2, own_A0, own_A1, own_A2, own_k0, own_k1, own_k2]; done) : (own_L (0 : Int32) li ac u0 u1) = li), (by first | rfl | (simp [own_sl, own_sc, own_sa, own_L0, own_L1, own_L2, own_C0, own_C1, own_C2, own_A0, own_A1, own_A2, own_k0, own_k1, own_k2]; done) : (own_C (0 : Int32) co u0 u1) = co), (by first | rfl | (simp [own_sl, own_sc, own_sa, own_L0, own_L1, own_L2, own_C0, own_C1, own_C2, own_A0, own_A1, own_A2, own_k0, own_k1, own_k2]; done) : (own_A (0 : Int32) ac u0 u1) = ac)]))⟩
  · show own_Go p e below s _ _ _ (s₁.setTop (mkF m 0 _ []))
    refine g_iload_n X0 hx 1 (hb hby d_method_4_0) rfl rfl ?_
    refine g_ifNo X0 hx 4 (hb hby d_method_4_1) (own_i0_le_f (by decide)) rfl ?_
    refine g_aload_n X0 hx 5 (hb hby d_method_4_4) rfl rfl rfl ?_
    refine g_aload_n X0 hx 6 (hb hby d_method_4_5) rfl rfl rfl ?_
    refine g_iconst X0 hx 7 (hb hby d_method_4_6) (0 : Int32) rfl rfl ?_
    obtain ⟨cl392, Ar392, q392, S392, P392, H392, G392⟩ := id V_ar
    have hin392 := inb_of (j := (0 : Int32)) S392 ⟨by decide, by decide⟩
    refine own_caload X0 hx hZ e0 Ar392 (v := (.int u0)) hin392 (Has.at H392 hin392 rfl) 8 (hb hby d_method_4_7) rfl ?_
    refine own_callS X0 hx hZ hown (hw _ (List.mem_of_getElem? (i := 39) rfl)) (hw _ (List.mem_of_getElem? (i := 40) rfl)) (by decide) (rm_step l Z a0 hw [] q kq li co ac u0 h0 n0 Z0 V_q g_q) (hw _ (List.mem_of_getElem? (i := 41) rfl)) (hw _ (List.mem_of_getElem? (i := 3) rfl)) e0 0 (by decide) (by decide) (by decide) (by decide) [(.ref q), (.int u0)] [] rfl pd_0 rfl 11 rfl (by rw [hml]; rfl) rfl (hb hby d_method_4_8) rfl fun T393 v393 L393 X393 hQ393 => ?_
    obtain ⟨rfl, Nq393, Kq393, v393_0⟩ := hQ393
    have N393 := Fr.app N0 Nq393
    have K394 : Keep h0 T393.heap [q] := (Keep.refl h0 [q]).trans Kq393 (allS (Or.inl (List.mem_of_getElem? (i := 0) rfl)) all0)
    have z395 : n0 ≤ T393.heap.size := (Nat.le_trans Z0 Kq393.1)
    show own_Go p e below s _ _ _ (T393.setTop (mkF m 11 _ []))
    refine g_iload_n X393 hx 12 (hb hby d_method_4_11) rfl rfl ?_
    refine g_iconst X393 hx 13 (hb hby d_method_4_12) (1 : Int32) rfl rfl ?_
    refine g_icmpYes X393 hx 23 (hb hby d_method_4_13) (own_ii_le_t (by decide)) (by decide) (by decide) ?_
    refine own_retV X393 hx hlk hret (hb hby d_method_4_23) ?_ (by decide) (by decide)
    exact ⟨rfl, N393, K394, (own_arvL v393_0 (by rw [(by first | rfl | (simp [own_sl, own_sc, own_sa, own_L0, own_L1, own_L2, own_C0, own_C1, own_C2, own_A0, own_A1, own_A2, own_k0, own_k1, own_k2]; done) : (own_L (1 : Int32) li ac u0 u1) = (own_sl li ac u0)), (by first | rfl | (simp [own_sl, own_sc, own_sa, own_L0, own_L1, own_L2, own_C0, own_C1, own_C2, own_A0, own_A1, own_A2, own_k0, own_k1, own_k2]; done) : (own_C (1 : Int32) co u0 u1) = (own_sc co u0)), (by first | rfl | (simp [own_sl, own_sc, own_sa, own_L0, own_L1, own_L2, own_C0, own_C1, own_C2, own_A0, own_A1, own_A2, own_k0, own_k1, own_k2]; done) : (own_A (1 : Int32) ac u0 u1) = (own_sa u0))]))⟩
  · show own_Go p e below s _ _ _ (s₁.setTop (mkF m 0 _ []))
    refine g_iload_n X0 hx 1 (hb hby d_method_4_0) rfl rfl ?_
    refine g_ifNo X0 hx 4 (hb hby d_method_4_1) (own_i0_le_f (by decide)) rfl ?_
    refine g_aload_n X0 hx 5 (hb hby d_method_4_4) rfl rfl rfl ?_
    refine g_aload_n X0 hx 6 (hb hby d_method_4_5) rfl rfl rfl ?_
    refine g_iconst X0 hx 7 (hb hby d_method_4_6) (0 : Int32) rfl rfl ?_
    obtain ⟨cl396, Ar396, q396, S396, P396, H396, G396⟩ := id V_ar
    have hin396 := inb_of (j := (0 : Int32)) S396 ⟨by decide, by decide⟩
    refine own_caload X0 hx hZ e0 Ar396 (v := (.int u0)) hin396 (Has.at H396 hin396 rfl) 8 (hb hby d_method_4_7) rfl ?_
    refine own_callS X0 hx hZ hown (hw _ (List.mem_of_getElem? (i := 39) rfl)) (hw _ (List.mem_of_getElem? (i := 40) rfl)) (by decide) (rm_step l Z a0 hw [] q kq li co ac u0 h0 n0 Z0 V_q g_q) (hw _ (List.mem_of_getElem? (i := 41) rfl)) (hw _ (List.mem_of_getElem? (i := 3) rfl)) e0 0 (by decide) (by decide) (by decide) (by decide) [(.ref q), (.int u0)] [] rfl pd_0 rfl 11 rfl (by rw [hml]; rfl) rfl (hb hby d_method_4_8) rfl fun T397 v397 L397 X397 hQ397 => ?_
    obtain ⟨rfl, Nq397, Kq397, v397_0⟩ := hQ397
    have N397 := Fr.app N0 Nq397
    have K398 : Keep h0 T397.heap [q] := (Keep.refl h0 [q]).trans Kq397 (allS (Or.inl (List.mem_of_getElem? (i := 0) rfl)) all0)
    have z399 : n0 ≤ T397.heap.size := (Nat.le_trans Z0 Kq397.1)
    show own_Go p e below s _ _ _ (T397.setTop (mkF m 11 _ []))
    refine g_iload_n X397 hx 12 (hb hby d_method_4_11) rfl rfl ?_
    refine g_iconst X397 hx 13 (hb hby d_method_4_12) (1 : Int32) rfl rfl ?_
    refine g_icmpNo X397 hx 16 (hb hby d_method_4_13) (own_ii_le_f (by decide)) rfl ?_
    refine g_aload_n X397 hx 17 (hb hby d_method_4_16) rfl rfl rfl ?_
    refine g_aload_n X397 hx 18 (hb hby d_method_4_17) rfl rfl rfl ?_
    refine g_iconst X397 hx 19 (hb hby d_method_4_18) (1 : Int32) rfl rfl ?_
    have f400 : Arv Z T397.heap ar ka .char (2 : Int32) [(.int u0), (.int u1)] (.int (0 : Int32)) := (V_ar.keep Kq397 (ninS ne_ar_q nin0))
    obtain ⟨cl401, Ar401, q401, S401, P401, H401, G401⟩ := id f400
    have hin401 := inb_of (j := (1 : Int32)) S401 ⟨by decide, by decide⟩
    refine own_caload X397 hx hZ rfl Ar401 (v := (.int u1)) hin401 (Has.at H401 hin401 rfl) 20 (hb hby d_method_4_19) rfl ?_
    refine own_callS X397 hx hZ hown (hw _ (List.mem_of_getElem? (i := 39) rfl)) (hw _ (List.mem_of_getElem? (i := 40) rfl)) (by decide) (rm_step l Z a0 hw [] q kq (own_sl li ac u0) (own_sc co u0) (own_sa u0) u1 T397.heap n0 z399 v397_0 g_q) (hw _ (List.mem_of_getElem? (i := 41) rfl)) (hw _ (List.mem_of_getElem? (i := 3) rfl)) rfl 0 (by decide) (by decide) (by decide) (by decide) [(.ref q), (.int u1)] [] rfl pd_0 rfl 23 rfl (by rw [hml]; rfl) rfl (hb hby d_method_4_20) rfl fun T402 v402 L402 X402 hQ402 => ?_
    obtain ⟨rfl, Nq402, Kq402, v402_0⟩ := hQ402
    have N402 := Fr.app N397 Nq402
    have K403 : Keep h0 T402.heap [q] := K398.trans Kq402 (allS (Or.inl (List.mem_of_getElem? (i := 0) rfl)) all0)
    have z404 : n0 ≤ T402.heap.size := (Nat.le_trans z399 Kq402.1)
    show own_Go p e below s _ _ _ (T402.setTop (mkF m 23 _ []))
    refine own_retV X402 hx hlk hret (hb hby d_method_4_23) ?_ (by decide) (by decide)
    exact ⟨rfl, N402, K403, (own_arvL v402_0 (by rw [(by first | rfl | (simp [own_sl, own_sc, own_sa, own_L0, own_L1, own_L2, own_C0, own_C1, own_C2, own_A0, own_A1, own_A2, own_k0, own_k1, own_k2]; done) : (own_L (2 : Int32) li ac u0 u1) = (own_sl (own_sl li ac u0) (own_sa u0) u1)), (by first | rfl | (simp [own_sl, own_sc, own_sa, own_L0, own_L1, own_L2, own_C0, own_C1, own_C2, own_A0, own_A1, own_A2, own_k0, own_k1, own_k2]; done) : (own_C (2 : Int32) co u0 u1) = (own_sc (own_sc co u0) u1)), (by first | rfl | (simp [own_sl, own_sc, own_sa, own_L0, own_L1, own_L2, own_C0, own_C1, own_C2, own_A0, own_A1, own_A2, own_k0, own_k1, own_k2]; done) : (own_A (2 : Int32) ac u0 u1) = (own_sa u1))]))⟩
theorem d_prog_66_method_3_0 : decode prog_66_method_3_code 0 = .ok (.aload_n 0, 1) := by decide +kernel
theorem d_prog_66_method_3_1 : decode prog_66_method_3_code 1 = .ok (.getfield 7, 3) := by decide +kernel
theorem d_prog_66_method_3_4 : decode prog_66_method_3_code 4 = .ok (.ireturn, 1) := by decide +kernel
def Q_line (Z : State) (o : Addr) (li : Int32) (h0 : Heap) (n0 : Nat) (v : Option Value) (h : Heap) (L : List Loc) : Prop := v = some (.int li) ∧ Fr n0 L ∧ h = h0
set_option maxRecDepth 65536 in
set_option maxHeartbeats 40000000 in
theorem rm_line (l : Launch) (Z : State) (a0 : Array Value) (hw : ∀ d ∈ tables_1, d.before a0 Z = true) (ws : List Jvm.Cond) (o : Addr) (li : Int32) (h0 : Heap) (n0 : Nat) (Z0 : n0 ≤ h0.size) (F_o_line : Fld Z h0 o "com/example/libelem/libelem/io/TextPosition" "line" "I" (.int li)) :
    MetFree l (⟨"com/example/libelem/libelem/io/TextPosition", "line", "()I"⟩ : MethodName) (head1 (Jvm.Cond.code (⟨"com/example/libelem/libelem/io/TextPosition", "line", "()I"⟩ : MethodName) prog_66_method_3_code 1 (some .int) :: ws) ({ frames := 0, cells := 0, slots := 0, locals := 0 } : Room)) (fun aA U => aA = #[(.ref o)] ∧ Z.Warmed39 U.vm ∧ U.heap = h0) (fun _ _ _ _ _ => True) (fun _ U oO U' => ∃ vV LL, oO = .returned vV ∧ Q_line Z o li h0 n0 vV U'.heap LL ∧ FrameEnd U oO U' LL ({ frames := 0, cells := 0, slots := 0, locals := 0 } : Room).cells ({ frames := 0, cells := 0, slots := 0, locals := 0 } : Room).slots) := by
  refine MetFree.of_bodySF (plainFor_of_name pn_1) hisR ?_
  intro p e s m args below meth c s₁ Bd hml0 hP hK
  obtain ⟨rfl, hZ, hh⟩ := hP
  have hx := Bd.exec
  have hby := Bd.bytes
  have hml : c.maxLocals = 1 := hml0
  have hown : s.vm.findClass "com/example/libelem/libelem/io/TextPosition" = some m.cls := findClass_of_methodNamed Bd.named
  have hnm := (name_of_methodNamed Bd.named Bd.method).1
  have X0 : Stand p l e ({ frames := 0, cells := 0, slots := 0, locals := 0 } : Room) s m #[(.ref o)] below meth c s₁ [] 0 0 := Stand.of_body Bd
  have e0 : s₁.heap = h0 := by rw [← hh, Bd.state]; rfl
  have N0 := Fr.nil n0
  have hret := Bd.returns
  have hlk : meth.locks = false := Bd.notSynchronized
  refine own_start (ef_1 m o) ?_
  show own_Go p e below s (Q_line Z o li h0 n0) ({ frames := 0, cells := 0, slots := 0, locals := 0 } : Room).cells ({ frames := 0, cells := 0, slots := 0, locals := 0 } : Room).slots (s₁.setTop (mkF m 0 #[.val (.ref o)] []))
  refine g_aload_n X0 hx 1 (hb hby d_prog_66_method_3_0) rfl rfl rfl ?_
  refine own_getF X0 hx hZ hown (host := "") (Or.inl (hw _ (List.mem_of_getElem? (i := 15) rfl))) Via.refl e0 F_o_line 4 (hb hby d_prog_66_method_3_1) rfl fun T405 X405 e405 => ?_
  refine own_retI X405 hx hlk hret (hb hby d_prog_66_method_3_4) ?_ (by decide) (by decide)
  rw [e405]
  exact ⟨rfl, N0, rfl⟩
theorem d_prog_66_method_4_0 : decode prog_66_method_4_code 0 = .ok (.aload_n 0, 1) := by decide +kernel
theorem d_prog_66_method_4_1 : decode prog_66_method_4_code 1 = .ok (.getfield 13, 3) := by decide +kernel
theorem d_prog_66_method_4_4 : decode prog_66_method_4_code 4 = .ok (.ireturn, 1) := by decide +kernel
def Q_column (Z : State) (o : Addr) (co : Int32) (h0 : Heap) (n0 : Nat) (v : Option Value) (h : Heap) (L : List Loc) : Prop := v = some (.int co) ∧ Fr n0 L ∧ h = h0
set_option maxRecDepth 65536 in
set_option maxHeartbeats 40000000 in
theorem rm_column (l : Launch) (Z : State) (a0 : Array Value) (hw : ∀ d ∈ tables_1, d.before a0 Z = true) (ws : List Jvm.Cond) (o : Addr) (co : Int32) (h0 : Heap) (n0 : Nat) (Z0 : n0 ≤ h0.size) (F_o_column : Fld Z h0 o "com/example/libelem/libelem/io/TextPosition" "column" "I" (.int co)) :
    MetFree l (⟨"com/example/libelem/libelem/io/TextPosition", "column", "()I"⟩ : MethodName) (head1 (Jvm.Cond.code (⟨"com/example/libelem/libelem/io/TextPosition", "column", "()I"⟩ : MethodName) prog_66_method_4_code 1 (some .int) :: ws) ({ frames := 0, cells := 0, slots := 0, locals := 0 } : Room)) (fun aA U => aA = #[(.ref o)] ∧ Z.Warmed39 U.vm ∧ U.heap = h0) (fun _ _ _ _ _ => True) (fun _ U oO U' => ∃ vV LL, oO = .returned vV ∧ Q_column Z o co h0 n0 vV U'.heap LL ∧ FrameEnd U oO U' LL ({ frames := 0, cells := 0, slots := 0, locals := 0 } : Room).cells ({ frames := 0, cells := 0, slots := 0, locals := 0 } : Room).slots) := by
  refine MetFree.of_bodySF (plainFor_of_name pn_1) hisR ?_
  intro p e s m args below meth c s₁ Bd hml0 hP hK
  obtain ⟨rfl, hZ, hh⟩ := hP
  have hx := Bd.exec
  have hby := Bd.bytes
  have hml : c.maxLocals = 1 := hml0
  have hown : s.vm.findClass "com/example/libelem/libelem/io/TextPosition" = some m.cls := findClass_of_methodNamed Bd.named
  have hnm := (name_of_methodNamed Bd.named Bd.method).1
  have X0 : Stand p l e ({ frames := 0, cells := 0, slots := 0, locals := 0 } : Room) s m #[(.ref o)] below meth c s₁ [] 0 0 := Stand.of_body Bd
  have e0 : s₁.heap = h0 := by rw [← hh, Bd.state]; rfl
  have N0 := Fr.nil n0
  have hret := Bd.returns
  have hlk : meth.locks = false := Bd.notSynchronized
  refine own_start (ef_1 m o) ?_
  show own_Go p e below s (Q_column Z o co h0 n0) ({ frames := 0, cells := 0, slots := 0, locals := 0 } : Room).cells ({ frames := 0, cells := 0, slots := 0, locals := 0 } : Room).slots (s₁.setTop (mkF m 0 #[.val (.ref o)] []))
  refine g_aload_n X0 hx 1 (hb hby d_prog_66_method_4_0) rfl rfl rfl ?_
  refine own_getF X0 hx hZ hown (host := "") (Or.inl (hw _ (List.mem_of_getElem? (i := 17) rfl))) Via.refl e0 F_o_column 4 (hb hby d_prog_66_method_4_1) rfl fun T406 X406 e406 => ?_
  refine own_retI X406 hx hlk hret (hb hby d_prog_66_method_4_4) ?_ (by decide) (by decide)
  rw [e406]
  exact ⟨rfl, N0, rfl⟩
theorem pd_1 : parseMethodDescriptor "(JI)C" = some ⟨[.long, .int], some .char⟩ := by decide +kernel
theorem pd_2 : parseMethodDescriptor "()V" = some ⟨[], none⟩ := by decide +kernel
theorem pd_3 : parseMethodDescriptor "([CI)V" = some ⟨[(.array .char), .int], none⟩ := by decide +kernel
theorem pd_4 : parseMethodDescriptor "([I[CI)V" = some ⟨[(.array .int), (.array .char), .int], none⟩ := by decide +kernel
theorem pd_5 : parseMethodDescriptor "()I" = some ⟨[], some .int⟩ := by decide +kernel
theorem ef_5 (m : MethodId) (x0 : Int64) (x1 : Int64) (x2 : Int32) (x3 : Int32) : entryFrame m #[(.long x0), (.long x1), (.int x2), (.int x3)] maxLocals = mkF m 0 #[.val (.long x0), .second, .val (.long x1), .second, .val (.int x2), .val (.int x3), .unset, .unset, .unset, .unset, .unset, .unset, .unset, .unset, .unset] [] := by first | (simp [entryFrame, mkF, argsToLocals, Value.category, maxLocals]; done) | rfl
def Q_law (Z : State) (p0 p1 : Int64) (p2 p3 : Int32) (h0 : Heap) (n0 : Nat) (v : Option Value) (h : Heap) (L : List Loc) : Prop := v = some (.int 1) ∧ Fr n0 L
set_option maxRecDepth 65536 in
set_option maxHeartbeats 40000000 in
theorem rm_law (l : Launch) (Z : State) (a0 : Array Value) (hw : ∀ d ∈ tables_1, d.before a0 Z = true) (ws : List Jvm.Cond) (p0 p1 : Int64) (p2 p3 : Int32) (h0 : Heap) (n0 : Nat) (Z0 : n0 ≤ h0.size) :
    MetFree l x (head1 (Jvm.Cond.code x code maxLocals ret :: ws) room_1) (fun aA U => aA = #[(.long p0), (.long p1), (.int p2), (.int p3)] ∧ Z.Warmed39 U.vm ∧ U.heap = h0) (fun _ _ _ _ _ => True) (fun _ U oO U' => ∃ vV LL, oO = .returned vV ∧ Q_law Z p0 p1 p2 p3 h0 n0 vV U'.heap LL ∧ FrameEnd U oO U' LL room_1.cells room_1.slots) := by
  refine MetFree.of_bodySF (plainFor_of_name pn_0) hisR ?_
  intro p e s m args below meth c s₁ Bd hml0 hP hK
  obtain ⟨rfl, hZ, hh⟩ := hP
  have hx := Bd.exec
  have hby := Bd.bytes
  have hml : c.maxLocals = 15 := hml0
  have hown : s.vm.findClass "com/example/libelem/libelem/io/TextPositionAdvancePinLaw" = some m.cls := findClass_of_methodNamed Bd.named
  have hnm := (name_of_methodNamed Bd.named Bd.method).1
  have X0 : Stand p l e room_1 s m #[(.long p0), (.long p1), (.int p2), (.int p3)] below meth c s₁ [] 0 0 := Stand.of_body Bd
  have e0 : s₁.heap = h0 := by rw [← hh, Bd.state]; rfl
  have N0 := Fr.nil n0
  have hret := Bd.returns
  have hlk : meth.locks = false := Bd.notSynchronized
  refine own_start (ef_5 m p0 p1 p2 p3) ?_
  show own_Go p e below s (Q_law Z p0 p1 p2 p3 h0 n0) room_1.cells room_1.slots (s₁.setTop (mkF m 0 #[.val (.long p0), .second, .val (.long p1), .second, .val (.int p2), .val (.int p3), .unset, .unset, .unset, .unset, .unset, .unset, .unset, .unset, .unset] []))
  refine g_iconst X0 hx 1 (hb hby at_0) (2 : Int32) rfl rfl ?_
  refine own_newP X0 hx hZ (hw _ (List.mem_of_getElem? (i := 0) rfl)) e0 3 (hb hby at_1) rfl (by decide) 2 (by decide) (by decide) (by decide) (by decide) fun T407 h407 k407 b407 X407 e407 g407 E407 A407 => ?_
  have g_b407 : n0 ≤ b407 := Nat.le_trans Z0 (Nat.le_of_eq g407.symm)
  have sz_b407 : h0.size ≤ b407 := Nat.le_trans (Keep.refl h0 []).1 (Nat.le_of_eq g407.symm)
  have K408 : Keep h0 h407 [] := (Keep.refl h0 []).ext E407
  have z409 : n0 ≤ h407.size := (Nat.le_trans Z0 E407.1)
  have V407 : Arv Z h407 b407 k407 .char (2 : Int32) [(.int (0 : Int32)), (.int (0 : Int32))] (.int (0 : Int32)) := (Arv.new A407 (by decide)).pad (pad_rep [] (.int (0 : Int32)) 2)
  refine g_dup X407 hx 4 (hb hby at_3) rfl rfl ?_
  refine g_iconst X407 hx 5 (hb hby at_4) (0 : Int32) rfl rfl ?_
  refine g_lload_n X407 hx 6 (hb hby at_5) rfl rfl ?_
  refine g_iload X407 hx 8 (hb hby at_6) rfl rfl ?_
  refine own_callS X407 hx hZ hown (hw _ (List.mem_of_getElem? (i := 1) rfl)) (hw _ (List.mem_of_getElem? (i := 2) rfl)) (by decide) (rm_pick l Z a0 hw [] p0 p2 h407 n0 z409 ) (hw _ (List.mem_of_getElem? (i := 4) rfl)) (hw _ (List.mem_of_getElem? (i := 3) rfl)) e407 3 (by decide) (by decide) (by decide) (by decide) [(.long p0), (.int p2)] [(.int (0 : Int32)), (.ref b407), (.ref b407)] rfl pd_1 rfl 11 rfl (by rw [hml]; rfl) rfl (hb hby at_8) rfl fun T410 v410 L410 X410 hQ410 => ?_
  obtain ⟨rfl, Nq410, e410⟩ := hQ410
  have N410 := Fr.app N0 Nq410
  show own_Go p e below s _ _ _ (T410.setTop (mkF m 11 _ [(.int (own_pk p0 p2)), (.int (0 : Int32)), (.ref b407), (.ref b407)]))
  obtain ⟨v0, q_v0⟩ : ∃ z, z = (own_pk p0 p2) := ⟨_, rfl⟩
  rw [← q_v0]
  obtain ⟨cl411, Ar411, q411, S411, P411, H411, G411⟩ := id V407
  have hin411 := inb_of (j := (0 : Int32)) S411 ⟨by decide, by decide⟩
  refine own_stC X410 hx hZ e410 Ar411 hin411 12 (hb hby at_11) rfl fun T411 h411 X411 e411 W411 => ?_
  have V411 : Arv Z h411 b407 k407 .char (2 : Int32) [(.int (nar .char v0)), (.int (0 : Int32))] (.int (0 : Int32)) := Arv.set Ar411 q411 S411 P411 H411 G411 (v := (.int (nar .char v0))) (fits_nar_char _) W411 0 rfl (Nat.le_of_ble_eq_true rfl)
  have N411 := Fr.snoc X411 N410 g_b407
  have z412 : n0 ≤ h411.size := (Nat.le_trans z409 (Keep.of_wr W411).1)
  have K413 : Keep h0 h411 [] := K408.wr W411 (Or.inr sz_b407)
  refine g_dup X411 hx 13 (hb hby at_12) rfl rfl ?_
  refine g_iconst X411 hx 14 (hb hby at_13) (1 : Int32) rfl rfl ?_
  refine g_lload_n X411 hx 15 (hb hby at_14) rfl rfl ?_
  refine g_bipush X411 hx 17 (hb hby at_15) (16 : Int32) rfl rfl ?_
  refine g_lushr X411 hx 18 (hb hby at_17) rfl ?_
  refine g_iload X411 hx 20 (hb hby at_18) rfl rfl ?_
  refine g_iconst X411 hx 21 (hb hby at_20) (2 : Int32) rfl rfl ?_
  refine g_iushr X411 hx 22 (hb hby at_21) rfl ?_
  refine own_callS X411 hx hZ hown (hw _ (List.mem_of_getElem? (i := 1) rfl)) (hw _ (List.mem_of_getElem? (i := 2) rfl)) (by decide) (rm_pick l Z a0 hw [] ((p0.toUInt64 >>> ((16 : Int32) &&& 0x3f).toInt64.toUInt64).toInt64) ((p2.toUInt32 >>> ((2 : Int32) &&& 31).toUInt32).toInt32) h411 n0 z412 ) (hw _ (List.mem_of_getElem? (i := 4) rfl)) (hw _ (List.mem_of_getElem? (i := 3) rfl)) e411 3 (by decide) (by decide) (by decide) (by decide) [(.long ((p0.toUInt64 >>> ((16 : Int32) &&& 0x3f).toInt64.toUInt64).toInt64)), (.int ((p2.toUInt32 >>> ((2 : Int32) &&& 31).toUInt32).toInt32))] [(.int (1 : Int32)), (.ref b407), (.ref b407)] rfl pd_1 rfl 25 rfl (by rw [hml]; rfl) rfl (hb hby at_22) rfl fun T414 v414 L414 X414 hQ414 => ?_
  obtain ⟨rfl, Nq414, e414⟩ := hQ414
  have N414 := Fr.app N411 Nq414
  show own_Go p e below s _ _ _ (T414.setTop (mkF m 25 _ [(.int (own_pk ((p0.toUInt64 >>> ((16 : Int32) &&& 0x3f).toInt64.toUInt64).toInt64) ((p2.toUInt32 >>> ((2 : Int32) &&& 31).toUInt32).toInt32))), (.int (1 : Int32)), (.ref b407), (.ref b407)]))
  obtain ⟨v1, q_v1⟩ : ∃ z, z = (own_pk ((p0.toUInt64 >>> ((16 : Int32) &&& 0x3f).toInt64.toUInt64).toInt64) ((p2.toUInt32 >>> ((2 : Int32) &&& 31).toUInt32).toInt32)) := ⟨_, rfl⟩
  rw [← q_v1]
  obtain ⟨cl415, Ar415, q415, S415, P415, H415, G415⟩ := id V411
  have hin415 := inb_of (j := (1 : Int32)) S415 ⟨by decide, by decide⟩
  refine own_stC X414 hx hZ e414 Ar415 hin415 26 (hb hby at_25) rfl fun T415 h415 X415 e415 W415 => ?_
  have V415 : Arv Z h415 b407 k407 .char (2 : Int32) [(.int (nar .char v0)), (.int (nar .char v1))] (.int (0 : Int32)) := Arv.set Ar415 q415 S415 P415 H415 G415 (v := (.int (nar .char v1))) (fits_nar_char _) W415 1 rfl (Nat.le_of_ble_eq_true rfl)
  have N415 := Fr.snoc X415 N414 g_b407
  have z416 : n0 ≤ h415.size := (Nat.le_trans z412 (Keep.of_wr W415).1)
  have K417 : Keep h0 h415 [] := K413.wr W415 (Or.inr sz_b407)
  refine g_astore X415 hx 28 (hb hby at_26) rfl (l' := #[.val (.long p0), .second, .val (.long p1), .second, .val (.int p2), .val (.int p3), .val (.ref b407), .unset, .unset, .unset, .unset, .unset, .unset, .unset, .unset]) rfl rfl ?_
  refine g_iconst X415 hx 29 (hb hby at_28) (2 : Int32) rfl rfl ?_
  refine own_newP X415 hx hZ (hw _ (List.mem_of_getElem? (i := 0) rfl)) e415 31 (hb hby at_29) rfl (by decide) 2 (by decide) (by decide) (by decide) (by decide) fun T418 h418 k418 b418 X418 e418 g418 E418 A418 => ?_
  have ne419 : b407 ≠ b418 := Nat.ne_of_lt (Nat.lt_of_lt_of_le V415.lt (Nat.le_of_eq g418.symm))
  have g_b418 : n0 ≤ b418 := Nat.le_trans z416 (Nat.le_of_eq g418.symm)
  have sz_b418 : h0.size ≤ b418 := Nat.le_trans K417.1 (Nat.le_of_eq g418.symm)
  have K420 : Keep h0 h418 [] := K417.ext E418
  have z421 : n0 ≤ h418.size := (Nat.le_trans z416 E418.1)
  have V418 : Arv Z h418 b418 k418 .char (2 : Int32) [(.int (0 : Int32)), (.int (0 : Int32))] (.int (0 : Int32)) := (Arv.new A418 (by decide)).pad (pad_rep [] (.int (0 : Int32)) 2)
  refine g_dup X418 hx 32 (hb hby at_31) rfl rfl ?_
  refine g_iconst X418 hx 33 (hb hby at_32) (0 : Int32) rfl rfl ?_
  refine g_lload_n X418 hx 34 (hb hby at_33) rfl rfl ?_
  refine g_bipush X418 hx 36 (hb hby at_34) (32 : Int32) rfl rfl ?_
  refine g_lushr X418 hx 37 (hb hby at_36) rfl ?_
  refine g_iload X418 hx 39 (hb hby at_37) rfl rfl ?_
  refine g_iconst X418 hx 40 (hb hby at_39) (4 : Int32) rfl rfl ?_
  refine g_iushr X418 hx 41 (hb hby at_40) rfl ?_
  refine own_callS X418 hx hZ hown (hw _ (List.mem_of_getElem? (i := 1) rfl)) (hw _ (List.mem_of_getElem? (i := 2) rfl)) (by decide) (rm_pick l Z a0 hw [] ((p0.toUInt64 >>> ((32 : Int32) &&& 0x3f).toInt64.toUInt64).toInt64) ((p2.toUInt32 >>> ((4 : Int32) &&& 31).toUInt32).toInt32) h418 n0 z421 ) (hw _ (List.mem_of_getElem? (i := 4) rfl)) (hw _ (List.mem_of_getElem? (i := 3) rfl)) e418 3 (by decide) (by decide) (by decide) (by decide) [(.long ((p0.toUInt64 >>> ((32 : Int32) &&& 0x3f).toInt64.toUInt64).toInt64)), (.int ((p2.toUInt32 >>> ((4 : Int32) &&& 31).toUInt32).toInt32))] [(.int (0 : Int32)), (.ref b418), (.ref b418)] rfl pd_1 rfl 44 rfl (by rw [hml]; rfl) rfl (hb hby at_41) rfl fun T422 v422 L422 X422 hQ422 => ?_
  obtain ⟨rfl, Nq422, e422⟩ := hQ422
  have N422 := Fr.app N415 Nq422
  show own_Go p e below s _ _ _ (T422.setTop (mkF m 44 _ [(.int (own_pk ((p0.toUInt64 >>> ((32 : Int32) &&& 0x3f).toInt64.toUInt64).toInt64) ((p2.toUInt32 >>> ((4 : Int32) &&& 31).toUInt32).toInt32))), (.int (0 : Int32)), (.ref b418), (.ref b418)]))
  obtain ⟨v2, q_v2⟩ : ∃ z, z = (own_pk ((p0.toUInt64 >>> ((32 : Int32) &&& 0x3f).toInt64.toUInt64).toInt64) ((p2.toUInt32 >>> ((4 : Int32) &&& 31).toUInt32).toInt32)) := ⟨_, rfl⟩
  rw [← q_v2]
  obtain ⟨cl423, Ar423, q423, S423, P423, H423, G423⟩ := id V418
  have hin423 := inb_of (j := (0 : Int32)) S423 ⟨by decide, by decide⟩
  refine own_stC X422 hx hZ e422 Ar423 hin423 45 (hb hby at_44) rfl fun T423 h423 X423 e423 W423 => ?_
  have V423 : Arv Z h423 b418 k418 .char (2 : Int32) [(.int (nar .char v2)), (.int (0 : Int32))] (.int (0 : Int32)) := Arv.set Ar423 q423 S423 P423 H423 G423 (v := (.int (nar .char v2))) (fits_nar_char _) W423 0 rfl (Nat.le_of_ble_eq_true rfl)
  have N423 := Fr.snoc X423 N422 g_b418
  have z424 : n0 ≤ h423.size := (Nat.le_trans z421 (Keep.of_wr W423).1)
  have K425 : Keep h0 h423 [] := K420.wr W423 (Or.inr sz_b418)
  refine g_dup X423 hx 46 (hb hby at_45) rfl rfl ?_
  refine g_iconst X423 hx 47 (hb hby at_46) (1 : Int32) rfl rfl ?_
  refine g_lload_n X423 hx 48 (hb hby at_47) rfl rfl ?_
  refine g_bipush X423 hx 50 (hb hby at_48) (48 : Int32) rfl rfl ?_
  refine g_lushr X423 hx 51 (hb hby at_50) rfl ?_
  refine g_iload X423 hx 53 (hb hby at_51) rfl rfl ?_
  refine g_bipush X423 hx 55 (hb hby at_53) (6 : Int32) rfl rfl ?_
  refine g_iushr X423 hx 56 (hb hby at_55) rfl ?_
  refine own_callS X423 hx hZ hown (hw _ (List.mem_of_getElem? (i := 1) rfl)) (hw _ (List.mem_of_getElem? (i := 2) rfl)) (by decide) (rm_pick l Z a0 hw [] ((p0.toUInt64 >>> ((48 : Int32) &&& 0x3f).toInt64.toUInt64).toInt64) ((p2.toUInt32 >>> ((6 : Int32) &&& 31).toUInt32).toInt32) h423 n0 z424 ) (hw _ (List.mem_of_getElem? (i := 4) rfl)) (hw _ (List.mem_of_getElem? (i := 3) rfl)) e423 3 (by decide) (by decide) (by decide) (by decide) [(.long ((p0.toUInt64 >>> ((48 : Int32) &&& 0x3f).toInt64.toUInt64).toInt64)), (.int ((p2.toUInt32 >>> ((6 : Int32) &&& 31).toUInt32).toInt32))] [(.int (1 : Int32)), (.ref b418), (.ref b418)] rfl pd_1 rfl 59 rfl (by rw [hml]; rfl) rfl (hb hby at_56) rfl fun T426 v426 L426 X426 hQ426 => ?_
  obtain ⟨rfl, Nq426, e426⟩ := hQ426
  have N426 := Fr.app N423 Nq426
  show own_Go p e below s _ _ _ (T426.setTop (mkF m 59 _ [(.int (own_pk ((p0.toUInt64 >>> ((48 : Int32) &&& 0x3f).toInt64.toUInt64).toInt64) ((p2.toUInt32 >>> ((6 : Int32) &&& 31).toUInt32).toInt32))), (.int (1 : Int32)), (.ref b418), (.ref b418)]))
  obtain ⟨v3, q_v3⟩ : ∃ z, z = (own_pk ((p0.toUInt64 >>> ((48 : Int32) &&& 0x3f).toInt64.toUInt64).toInt64) ((p2.toUInt32 >>> ((6 : Int32) &&& 31).toUInt32).toInt32)) := ⟨_, rfl⟩
  rw [← q_v3]
  obtain ⟨cl427, Ar427, q427, S427, P427, H427, G427⟩ := id V423
  have hin427 := inb_of (j := (1 : Int32)) S427 ⟨by decide, by decide⟩
  refine own_stC X426 hx hZ e426 Ar427 hin427 60 (hb hby at_59) rfl fun T427 h427 X427 e427 W427 => ?_
  have V427 : Arv Z h427 b418 k418 .char (2 : Int32) [(.int (nar .char v2)), (.int (nar .char v3))] (.int (0 : Int32)) := Arv.set Ar427 q427 S427 P427 H427 G427 (v := (.int (nar .char v3))) (fits_nar_char _) W427 1 rfl (Nat.le_of_ble_eq_true rfl)
  have N427 := Fr.snoc X427 N426 g_b418
  have z428 : n0 ≤ h427.size := (Nat.le_trans z424 (Keep.of_wr W427).1)
  have K429 : Keep h0 h427 [] := K425.wr W427 (Or.inr sz_b418)
  refine g_astore X427 hx 62 (hb hby at_60) rfl (l' := #[.val (.long p0), .second, .val (.long p1), .second, .val (.int p2), .val (.int p3), .val (.ref b407), .val (.ref b418), .unset, .unset, .unset, .unset, .unset, .unset, .unset]) rfl rfl ?_
  refine g_iconst X427 hx 63 (hb hby at_62) (2 : Int32) rfl rfl ?_
  refine own_newP X427 hx hZ (hw _ (List.mem_of_getElem? (i := 0) rfl)) e427 65 (hb hby at_63) rfl (by decide) 2 (by decide) (by decide) (by decide) (by decide) fun T430 h430 k430 b430 X430 e430 g430 E430 A430 => ?_
  have f431 : Arv Z h427 b407 k407 .char (2 : Int32) [(.int (nar .char v0)), (.int (nar .char v1))] (.int (0 : Int32)) := (((V415.ext E418).other W423 ne419).other W427 ne419)
  have ne432 : b407 ≠ b430 := Nat.ne_of_lt (Nat.lt_of_lt_of_le f431.lt (Nat.le_of_eq g430.symm))
  have ne433 : b418 ≠ b430 := Nat.ne_of_lt (Nat.lt_of_lt_of_le V427.lt (Nat.le_of_eq g430.symm))
  have g_b430 : n0 ≤ b430 := Nat.le_trans z428 (Nat.le_of_eq g430.symm)
  have sz_b430 : h0.size ≤ b430 := Nat.le_trans K429.1 (Nat.le_of_eq g430.symm)
  have K434 : Keep h0 h430 [] := K429.ext E430
  have z435 : n0 ≤ h430.size := (Nat.le_trans z428 E430.1)
  have V430 : Arv Z h430 b430 k430 .char (2 : Int32) [(.int (0 : Int32)), (.int (0 : Int32))] (.int (0 : Int32)) := (Arv.new A430 (by decide)).pad (pad_rep [] (.int (0 : Int32)) 2)
  refine g_dup X430 hx 66 (hb hby at_65) rfl rfl ?_
  refine g_iconst X430 hx 67 (hb hby at_66) (0 : Int32) rfl rfl ?_
  refine g_lload_n X430 hx 68 (hb hby at_67) rfl rfl ?_
  refine g_iload X430 hx 70 (hb hby at_68) rfl rfl ?_
  refine g_bipush X430 hx 72 (hb hby at_70) (8 : Int32) rfl rfl ?_
  refine g_iushr X430 hx 73 (hb hby at_72) rfl ?_
  refine own_callS X430 hx hZ hown (hw _ (List.mem_of_getElem? (i := 1) rfl)) (hw _ (List.mem_of_getElem? (i := 2) rfl)) (by decide) (rm_pick l Z a0 hw [] p1 ((p2.toUInt32 >>> ((8 : Int32) &&& 31).toUInt32).toInt32) h430 n0 z435 ) (hw _ (List.mem_of_getElem? (i := 4) rfl)) (hw _ (List.mem_of_getElem? (i := 3) rfl)) e430 3 (by decide) (by decide) (by decide) (by decide) [(.long p1), (.int ((p2.toUInt32 >>> ((8 : Int32) &&& 31).toUInt32).toInt32))] [(.int (0 : Int32)), (.ref b430), (.ref b430)] rfl pd_1 rfl 76 rfl (by rw [hml]; rfl) rfl (hb hby at_73) rfl fun T436 v436 L436 X436 hQ436 => ?_
  obtain ⟨rfl, Nq436, e436⟩ := hQ436
  have N436 := Fr.app N427 Nq436
  show own_Go p e below s _ _ _ (T436.setTop (mkF m 76 _ [(.int (own_pk p1 ((p2.toUInt32 >>> ((8 : Int32) &&& 31).toUInt32).toInt32))), (.int (0 : Int32)), (.ref b430), (.ref b430)]))
  obtain ⟨v4, q_v4⟩ : ∃ z, z = (own_pk p1 ((p2.toUInt32 >>> ((8 : Int32) &&& 31).toUInt32).toInt32)) := ⟨_, rfl⟩
  rw [← q_v4]
  obtain ⟨cl437, Ar437, q437, S437, P437, H437, G437⟩ := id V430
  have hin437 := inb_of (j := (0 : Int32)) S437 ⟨by decide, by decide⟩
  refine own_stC X436 hx hZ e436 Ar437 hin437 77 (hb hby at_76) rfl fun T437 h437 X437 e437 W437 => ?_
  have V437 : Arv Z h437 b430 k430 .char (2 : Int32) [(.int (nar .char v4)), (.int (0 : Int32))] (.int (0 : Int32)) := Arv.set Ar437 q437 S437 P437 H437 G437 (v := (.int (nar .char v4))) (fits_nar_char _) W437 0 rfl (Nat.le_of_ble_eq_true rfl)
  have N437 := Fr.snoc X437 N436 g_b430
  have z438 : n0 ≤ h437.size := (Nat.le_trans z435 (Keep.of_wr W437).1)
  have K439 : Keep h0 h437 [] := K434.wr W437 (Or.inr sz_b430)
  refine g_dup X437 hx 78 (hb hby at_77) rfl rfl ?_
  refine g_iconst X437 hx 79 (hb hby at_78) (1 : Int32) rfl rfl ?_
  refine g_lload_n X437 hx 80 (hb hby at_79) rfl rfl ?_
  refine g_bipush X437 hx 82 (hb hby at_80) (16 : Int32) rfl rfl ?_
  refine g_lushr X437 hx 83 (hb hby at_82) rfl ?_
  refine g_iload X437 hx 85 (hb hby at_83) rfl rfl ?_
  refine g_bipush X437 hx 87 (hb hby at_85) (10 : Int32) rfl rfl ?_
  refine g_iushr X437 hx 88 (hb hby at_87) rfl ?_
  refine own_callS X437 hx hZ hown (hw _ (List.mem_of_getElem? (i := 1) rfl)) (hw _ (List.mem_of_getElem? (i := 2) rfl)) (by decide) (rm_pick l Z a0 hw [] ((p1.toUInt64 >>> ((16 : Int32) &&& 0x3f).toInt64.toUInt64).toInt64) ((p2.toUInt32 >>> ((10 : Int32) &&& 31).toUInt32).toInt32) h437 n0 z438 ) (hw _ (List.mem_of_getElem? (i := 4) rfl)) (hw _ (List.mem_of_getElem? (i := 3) rfl)) e437 3 (by decide) (by decide) (by decide) (by decide) [(.long ((p1.toUInt64 >>> ((16 : Int32) &&& 0x3f).toInt64.toUInt64).toInt64)), (.int ((p2.toUInt32 >>> ((10 : Int32) &&& 31).toUInt32).toInt32))] [(.int (1 : Int32)), (.ref b430), (.ref b430)] rfl pd_1 rfl 91 rfl (by rw [hml]; rfl) rfl (hb hby at_88) rfl fun T440 v440 L440 X440 hQ440 => ?_
  obtain ⟨rfl, Nq440, e440⟩ := hQ440
  have N440 := Fr.app N437 Nq440
  show own_Go p e below s _ _ _ (T440.setTop (mkF m 91 _ [(.int (own_pk ((p1.toUInt64 >>> ((16 : Int32) &&& 0x3f).toInt64.toUInt64).toInt64) ((p2.toUInt32 >>> ((10 : Int32) &&& 31).toUInt32).toInt32))), (.int (1 : Int32)), (.ref b430), (.ref b430)]))
  obtain ⟨v5, q_v5⟩ : ∃ z, z = (own_pk ((p1.toUInt64 >>> ((16 : Int32) &&& 0x3f).toInt64.toUInt64).toInt64) ((p2.toUInt32 >>> ((10 : Int32) &&& 31).toUInt32).toInt32)) := ⟨_, rfl⟩
  rw [← q_v5]
  obtain ⟨cl441, Ar441, q441, S441, P441, H441, G441⟩ := id V437
  have hin441 := inb_of (j := (1 : Int32)) S441 ⟨by decide, by decide⟩
  refine own_stC X440 hx hZ e440 Ar441 hin441 92 (hb hby at_91) rfl fun T441 h441 X441 e441 W441 => ?_
  have V441 : Arv Z h441 b430 k430 .char (2 : Int32) [(.int (nar .char v4)), (.int (nar .char v5))] (.int (0 : Int32)) := Arv.set Ar441 q441 S441 P441 H441 G441 (v := (.int (nar .char v5))) (fits_nar_char _) W441 1 rfl (Nat.le_of_ble_eq_true rfl)
  have N441 := Fr.snoc X441 N440 g_b430
  have z442 : n0 ≤ h441.size := (Nat.le_trans z438 (Keep.of_wr W441).1)
  have K443 : Keep h0 h441 [] := K439.wr W441 (Or.inr sz_b430)
  refine g_astore X441 hx 94 (hb hby at_92) rfl (l' := #[.val (.long p0), .second, .val (.long p1), .second, .val (.int p2), .val (.int p3), .val (.ref b407), .val (.ref b418), .val (.ref b430), .unset, .unset, .unset, .unset, .unset, .unset]) rfl rfl ?_
  refine g_iload X441 hx 96 (hb hby at_94) rfl rfl ?_
  refine g_iconst X441 hx 97 (hb hby at_96) (3 : Int32) rfl rfl ?_
  refine g_iand X441 hx 98 (hb hby at_97) rfl ?_
  refine g_iconst X441 hx 99 (hb hby at_98) (3 : Int32) rfl rfl ?_
  refine g_irem X441 hx 100 (hb hby at_99) rfl (by decide) ?_
  obtain ⟨na, q_na⟩ : ∃ z, z = ((p3 &&& (3 : Int32)) % (3 : Int32)) := ⟨_, rfl⟩
  have h_na := own_three _ q_na
  rw [← q_na]
  refine g_istore X441 hx 102 (hb hby at_100) (l' := #[.val (.long p0), .second, .val (.long p1), .second, .val (.int p2), .val (.int p3), .val (.ref b407), .val (.ref b418), .val (.ref b430), .val (.int na), .unset, .unset, .unset, .unset, .unset]) rfl rfl ?_
  refine g_iload X441 hx 104 (hb hby at_102) rfl rfl ?_
  refine g_iconst X441 hx 105 (hb hby at_104) (2 : Int32) rfl rfl ?_
  refine g_iushr X441 hx 106 (hb hby at_105) rfl ?_
  refine g_iconst X441 hx 107 (hb hby at_106) (3 : Int32) rfl rfl ?_
  refine g_iand X441 hx 108 (hb hby at_107) rfl ?_
  refine g_iconst X441 hx 109 (hb hby at_108) (3 : Int32) rfl rfl ?_
  refine g_irem X441 hx 110 (hb hby at_109) rfl (by decide) ?_
  obtain ⟨nb, q_nb⟩ : ∃ z, z = ((((p3.toUInt32 >>> ((2 : Int32) &&& 31).toUInt32).toInt32) &&& (3 : Int32)) % (3 : Int32)) := ⟨_, rfl⟩
  have h_nb := own_three _ q_nb
  rw [← q_nb]
  refine g_istore X441 hx 112 (hb hby at_110) (l' := #[.val (.long p0), .second, .val (.long p1), .second, .val (.int p2), .val (.int p3), .val (.ref b407), .val (.ref b418), .val (.ref b430), .val (.int na), .val (.int nb), .unset, .unset, .unset, .unset]) rfl rfl ?_
  refine g_iload X441 hx 114 (hb hby at_112) rfl rfl ?_
  refine g_iconst X441 hx 115 (hb hby at_114) (4 : Int32) rfl rfl ?_
  refine g_iushr X441 hx 116 (hb hby at_115) rfl ?_
  refine g_iconst X441 hx 117 (hb hby at_116) (3 : Int32) rfl rfl ?_
  refine g_iand X441 hx 118 (hb hby at_117) rfl ?_
  refine g_iconst X441 hx 119 (hb hby at_118) (3 : Int32) rfl rfl ?_
  refine g_irem X441 hx 120 (hb hby at_119) rfl (by decide) ?_
  obtain ⟨nc, q_nc⟩ : ∃ z, z = ((((p3.toUInt32 >>> ((4 : Int32) &&& 31).toUInt32).toInt32) &&& (3 : Int32)) % (3 : Int32)) := ⟨_, rfl⟩
  have h_nc := own_three _ q_nc
  rw [← q_nc]
  refine g_istore X441 hx 122 (hb hby at_120) (l' := #[.val (.long p0), .second, .val (.long p1), .second, .val (.int p2), .val (.int p3), .val (.ref b407), .val (.ref b418), .val (.ref b430), .val (.int na), .val (.int nb), .val (.int nc), .unset, .unset, .unset]) rfl rfl ?_
  refine g_iconst X441 hx 123 (hb hby at_122) (3 : Int32) rfl rfl ?_
  refine own_newP X441 hx hZ (hw _ (List.mem_of_getElem? (i := 5) rfl)) e441 125 (hb hby at_123) rfl (by decide) 3 (by decide) (by decide) (by decide) (by decide) fun T444 h444 k444 b444 X444 e444 g444 E444 A444 => ?_
  have f445 : Arv Z h441 b407 k407 .char (2 : Int32) [(.int (nar .char v0)), (.int (nar .char v1))] (.int (0 : Int32)) := (((f431.ext E430).other W437 ne432).other W441 ne432)
  have ne446 : b407 ≠ b444 := Nat.ne_of_lt (Nat.lt_of_lt_of_le f445.lt (Nat.le_of_eq g444.symm))
  have f447 : Arv Z h441 b418 k418 .char (2 : Int32) [(.int (nar .char v2)), (.int (nar .char v3))] (.int (0 : Int32)) := (((V427.ext E430).other W437 ne433).other W441 ne433)
  have ne448 : b418 ≠ b444 := Nat.ne_of_lt (Nat.lt_of_lt_of_le f447.lt (Nat.le_of_eq g444.symm))
  have ne449 : b430 ≠ b444 := Nat.ne_of_lt (Nat.lt_of_lt_of_le V441.lt (Nat.le_of_eq g444.symm))
  have g_b444 : n0 ≤ b444 := Nat.le_trans z442 (Nat.le_of_eq g444.symm)
  have sz_b444 : h0.size ≤ b444 := Nat.le_trans K443.1 (Nat.le_of_eq g444.symm)
  have K450 : Keep h0 h444 [] := K443.ext E444
  have z451 : n0 ≤ h444.size := (Nat.le_trans z442 E444.1)
  have V444 : Arv Z h444 b444 k444 .int (3 : Int32) [(.int (0 : Int32)), (.int (0 : Int32)), (.int (0 : Int32))] (.int (0 : Int32)) := (Arv.new A444 (by decide)).pad (pad_rep [] (.int (0 : Int32)) 3)
  refine g_dup X444 hx 126 (hb hby at_125) rfl rfl ?_
  refine g_iconst X444 hx 127 (hb hby at_126) (0 : Int32) rfl rfl ?_
  refine g_iconst X444 hx 128 (hb hby at_127) (1 : Int32) rfl rfl ?_
  obtain ⟨cl452, Ar452, q452, S452, P452, H452, G452⟩ := id V444
  have hin452 := inb_of (j := (0 : Int32)) S452 ⟨by decide, by decide⟩
  refine own_stI X444 hx hZ e444 Ar452 hin452 129 (hb hby at_128) rfl fun T452 h452 X452 e452 W452 => ?_
  have V452 : Arv Z h452 b444 k444 .int (3 : Int32) [(.int (1 : Int32)), (.int (0 : Int32)), (.int (0 : Int32))] (.int (0 : Int32)) := Arv.set Ar452 q452 S452 P452 H452 G452 (v := (.int (1 : Int32))) rfl W452 0 rfl (Nat.le_of_ble_eq_true rfl)
  have N452 := Fr.snoc X452 N441 g_b444
  have z453 : n0 ≤ h452.size := (Nat.le_trans z451 (Keep.of_wr W452).1)
  have K454 : Keep h0 h452 [] := K450.wr W452 (Or.inr sz_b444)
  refine g_dup X452 hx 130 (hb hby at_129) rfl rfl ?_
  refine g_iconst X452 hx 131 (hb hby at_130) (1 : Int32) rfl rfl ?_
  refine g_iconst X452 hx 132 (hb hby at_131) (1 : Int32) rfl rfl ?_
  obtain ⟨cl455, Ar455, q455, S455, P455, H455, G455⟩ := id V452
  have hin455 := inb_of (j := (1 : Int32)) S455 ⟨by decide, by decide⟩
  refine own_stI X452 hx hZ e452 Ar455 hin455 133 (hb hby at_132) rfl fun T455 h455 X455 e455 W455 => ?_
  have V455 : Arv Z h455 b444 k444 .int (3 : Int32) [(.int (1 : Int32)), (.int (1 : Int32)), (.int (0 : Int32))] (.int (0 : Int32)) := Arv.set Ar455 q455 S455 P455 H455 G455 (v := (.int (1 : Int32))) rfl W455 1 rfl (Nat.le_of_ble_eq_true rfl)
  have N455 := Fr.snoc X455 N452 g_b444
  have z456 : n0 ≤ h455.size := (Nat.le_trans z453 (Keep.of_wr W455).1)
  have K457 : Keep h0 h455 [] := K454.wr W455 (Or.inr sz_b444)
  refine g_dup X455 hx 134 (hb hby at_133) rfl rfl ?_
  refine g_iconst X455 hx 135 (hb hby at_134) (2 : Int32) rfl rfl ?_
  refine g_iconst X455 hx 136 (hb hby at_135) (0 : Int32) rfl rfl ?_
  obtain ⟨cl458, Ar458, q458, S458, P458, H458, G458⟩ := id V455
  have hin458 := inb_of (j := (2 : Int32)) S458 ⟨by decide, by decide⟩
  refine own_stI X455 hx hZ e455 Ar458 hin458 137 (hb hby at_136) rfl fun T458 h458 X458 e458 W458 => ?_
  have V458 : Arv Z h458 b444 k444 .int (3 : Int32) [(.int (1 : Int32)), (.int (1 : Int32)), (.int (0 : Int32))] (.int (0 : Int32)) := Arv.set Ar458 q458 S458 P458 H458 G458 (v := (.int (0 : Int32))) rfl W458 2 rfl (Nat.le_of_ble_eq_true rfl)
  have N458 := Fr.snoc X458 N455 g_b444
  have z459 : n0 ≤ h458.size := (Nat.le_trans z456 (Keep.of_wr W458).1)
  have K460 : Keep h0 h458 [] := K457.wr W458 (Or.inr sz_b444)
  refine g_astore X458 hx 139 (hb hby at_137) rfl (l' := #[.val (.long p0), .second, .val (.long p1), .second, .val (.int p2), .val (.int p3), .val (.ref b407), .val (.ref b418), .val (.ref b430), .val (.int na), .val (.int nb), .val (.int nc), .val (.ref b444), .unset, .unset]) rfl rfl ?_
  refine own_newO X458 hx hZ hown (hw _ (List.mem_of_getElem? (i := 6) rfl)) (hw _ (List.mem_of_getElem? (i := 7) rfl)) (hw _ (List.mem_of_getElem? (i := 8) rfl)) e458 142 (hb hby at_139) rfl (by decide) (by decide) fun T461 h461 b461 X461 e461 g461 E461 A461 D461 => ?_
  have f462 : Arv Z h458 b407 k407 .char (2 : Int32) [(.int (nar .char v0)), (.int (nar .char v1))] (.int (0 : Int32)) := ((((f445.ext E444).other W452 ne446).other W455 ne446).other W458 ne446)
  have ne463 : b407 ≠ b461 := Nat.ne_of_lt (Nat.lt_of_lt_of_le f462.lt (Nat.le_of_eq g461.symm))
  have f464 : Arv Z h458 b418 k418 .char (2 : Int32) [(.int (nar .char v2)), (.int (nar .char v3))] (.int (0 : Int32)) := ((((f447.ext E444).other W452 ne448).other W455 ne448).other W458 ne448)
  have ne465 : b418 ≠ b461 := Nat.ne_of_lt (Nat.lt_of_lt_of_le f464.lt (Nat.le_of_eq g461.symm))
  have f466 : Arv Z h458 b430 k430 .char (2 : Int32) [(.int (nar .char v4)), (.int (nar .char v5))] (.int (0 : Int32)) := ((((V441.ext E444).other W452 ne449).other W455 ne449).other W458 ne449)
  have ne467 : b430 ≠ b461 := Nat.ne_of_lt (Nat.lt_of_lt_of_le f466.lt (Nat.le_of_eq g461.symm))
  have ne468 : b444 ≠ b461 := Nat.ne_of_lt (Nat.lt_of_lt_of_le V458.lt (Nat.le_of_eq g461.symm))
  have g_b461 : n0 ≤ b461 := Nat.le_trans z459 (Nat.le_of_eq g461.symm)
  have sz_b461 : h0.size ≤ b461 := Nat.le_trans K460.1 (Nat.le_of_eq g461.symm)
  have K469 : Keep h0 h461 [] := K460.ext E461
  have z470 : n0 ≤ h461.size := (Nat.le_trans z459 E461.1)
  have f471 : Fld Z h461 b461 "com/example/libelem/libelem/io/TextPosition" "line" "I" (.int (0 : Int32)) := D461 (Or.inl (hw _ (List.mem_of_getElem? (i := 16) rfl))) (ty := .int) (by decide)
  have f472 : Fld Z h461 b461 "com/example/libelem/libelem/io/TextPosition" "column" "I" (.int (0 : Int32)) := D461 (Or.inl (hw _ (List.mem_of_getElem? (i := 18) rfl))) (ty := .int) (by decide)
  have f473 : Fld Z h461 b461 "com/example/libelem/libelem/io/TextPosition" "afterCarriageReturn" "Z" (.int (0 : Int32)) := D461 (Or.inl (hw _ (List.mem_of_getElem? (i := 38) rfl))) (ty := .boolean) (by decide)
  refine g_dup X461 hx 143 (hb hby at_142) rfl rfl ?_
  refine own_callI X461 hx hZ hown rfl (hw _ (List.mem_of_getElem? (i := 9) rfl)) (hw _ (List.mem_of_getElem? (i := 10) rfl)) (by decide) (rm_init l Z a0 hw [] b461 h461 n0 z470 A461 f471 f472 f473 g_b461) (hw _ (List.mem_of_getElem? (i := 11) rfl)) (hw _ (List.mem_of_getElem? (i := 8) rfl)) e461 1 (by decide) (by decide) (by decide) (by decide) b461 [] [(.ref b461)] rfl pd_2 rfl 146 rfl (by rw [hml]; rfl) rfl (hb hby at_143) rfl fun T474 v474 L474 X474 hQ474 => ?_
  obtain ⟨rfl, Nq474, Kq474, f474_0, f474_1, f474_2⟩ := hQ474
  have N474 := Fr.app N458 Nq474
  have K475 : Keep h0 T474.heap [] := K469.trans Kq474 (allS (Or.inr sz_b461) all0)
  have z476 : n0 ≤ T474.heap.size := (Nat.le_trans z470 Kq474.1)
  show own_Go p e below s _ _ _ (T474.setTop (mkF m 146 _ [(.ref b461)]))
  refine g_astore X474 hx 148 (hb hby at_146) rfl (l' := #[.val (.long p0), .second, .val (.long p1), .second, .val (.int p2), .val (.int p3), .val (.ref b407), .val (.ref b418), .val (.ref b430), .val (.int na), .val (.int nb), .val (.int nc), .val (.ref b444), .val (.ref b461), .unset]) rfl rfl ?_
  refine g_iconst X474 hx 149 (hb hby at_148) (1 : Int32) rfl rfl ?_
  refine g_istore X474 hx 151 (hb hby at_149) (l' := #[.val (.long p0), .second, .val (.long p1), .second, .val (.int p2), .val (.int p3), .val (.ref b407), .val (.ref b418), .val (.ref b430), .val (.int na), .val (.int nb), .val (.int nc), .val (.ref b444), .val (.ref b461), .val (.int (1 : Int32))]) rfl rfl ?_
  refine g_aload X474 hx 153 (hb hby at_151) rfl rfl rfl ?_
  refine g_aload X474 hx 155 (hb hby at_153) rfl rfl rfl ?_
  refine g_iload X474 hx 157 (hb hby at_155) rfl rfl ?_
  have f478 : Exa Z T474.heap b461 "com/example/libelem/libelem/io/TextPosition" := (A461.keep Kq474)
  have f479 : Arv Z T474.heap b407 k407 .char (2 : Int32) [(.int (nar .char v0)), (.int (nar .char v1))] (.int (0 : Int32)) := ((f462.ext E461).keep Kq474 (ninS ne463 nin0))
  refine own_callV X474 hx hZ hown (hw _ (List.mem_of_getElem? (i := 19) rfl)) (hw _ (List.mem_of_getElem? (i := 20) rfl)) (own_nf hZ (hw _ (List.mem_of_getElem? (i := 22) rfl))) (hw _ (List.mem_of_getElem? (i := 22) rfl)) (hw _ (List.mem_of_getElem? (i := 21) rfl)) (by decide) (rm_adv l Z a0 hw [] b461 b407 k407 na (1 : Int32) (1 : Int32) (0 : Int32) (nar .char v0) (nar .char v1) T474.heap n0 z476 f478 f474_0 f474_1 f474_2 f479 ne463 g_b461 h_na) (hw _ (List.mem_of_getElem? (i := 23) rfl)) (hw _ (List.mem_of_getElem? (i := 8) rfl)) rfl 0 (by decide) (by decide) (by decide) (by decide) f478 [(.ref b407), (.int na)] [] rfl pd_3 rfl 160 rfl (by rw [hml]; rfl) rfl (hb hby at_157) rfl fun T477 v477 L477 X477 hQ477 => ?_
  obtain ⟨rfl, Nq477, Kq477, f477_0, f477_1, f477_2⟩ := hQ477
  have N477 := Fr.app N474 Nq477
  have K480 : Keep h0 T477.heap [] := K475.trans Kq477 (allS (Or.inr sz_b461) all0)
  have z481 : n0 ≤ T477.heap.size := (Nat.le_trans z476 Kq477.1)
  show own_Go p e below s _ _ _ (T477.setTop (mkF m 160 _ []))
  refine g_aload X477 hx 162 (hb hby at_160) rfl rfl rfl ?_
  refine g_aload X477 hx 164 (hb hby at_162) rfl rfl rfl ?_
  refine g_iload X477 hx 166 (hb hby at_164) rfl rfl ?_
  have f483 : Arv Z T477.heap b444 k444 .int (3 : Int32) [(.int (1 : Int32)), (.int (1 : Int32)), (.int (0 : Int32))] (.int (0 : Int32)) := (((V458.ext E461).keep Kq474 (ninS ne468 nin0)).keep Kq477 (ninS ne468 nin0))
  have f484 : Arv Z T477.heap b407 k407 .char (2 : Int32) [(.int (nar .char v0)), (.int (nar .char v1))] (.int (0 : Int32)) := (f479.keep Kq477 (ninS ne463 nin0))
  refine own_callS X477 hx hZ hown (hw _ (List.mem_of_getElem? (i := 24) rfl)) (hw _ (List.mem_of_getElem? (i := 25) rfl)) (by decide) (rm_feed l Z a0 hw [] b444 k444 (1 : Int32) (1 : Int32) (0 : Int32) b407 k407 na (nar .char v0) (nar .char v1) T477.heap n0 z481 f483 f484 ne446 g_b444 h_na) (hw _ (List.mem_of_getElem? (i := 26) rfl)) (hw _ (List.mem_of_getElem? (i := 3) rfl)) rfl 0 (by decide) (by decide) (by decide) (by decide) [(.ref b444), (.ref b407), (.int na)] [] rfl pd_4 rfl 169 rfl (by rw [hml]; rfl) rfl (hb hby at_166) rfl fun T482 v482 L482 X482 hQ482 => ?_
  obtain ⟨rfl, Nq482, Kq482, v482_0⟩ := hQ482
  have N482 := Fr.app N477 Nq482
  have K485 : Keep h0 T482.heap [] := K480.trans Kq482 (allS (Or.inr sz_b444) all0)
  have z486 : n0 ≤ T482.heap.size := (Nat.le_trans z481 Kq482.1)
  show own_Go p e below s _ _ _ (T482.setTop (mkF m 169 _ []))
  refine g_iload X482 hx 171 (hb hby at_169) rfl rfl ?_
  refine g_ifNo X482 hx 174 (hb hby at_171) (own_i0_eq_f (by decide)) rfl ?_
  refine g_aload X482 hx 176 (hb hby at_174) rfl rfl rfl ?_
  have f488 : Fld Z T482.heap b461 "com/example/libelem/libelem/io/TextPosition" "line" "I" (.int (own_L na (1 : Int32) (0 : Int32) (nar .char v0) (nar .char v1))) := (f477_0.keep Kq482 (ninS (Ne.symm ne468) nin0))
  have f489 : Exa Z T482.heap b461 "com/example/libelem/libelem/io/TextPosition" := ((f478.keep Kq477).keep Kq482)
  refine own_callV X482 hx hZ hown (hw _ (List.mem_of_getElem? (i := 27) rfl)) (hw _ (List.mem_of_getElem? (i := 28) rfl)) (own_nf hZ (hw _ (List.mem_of_getElem? (i := 30) rfl))) (hw _ (List.mem_of_getElem? (i := 30) rfl)) (hw _ (List.mem_of_getElem? (i := 29) rfl)) (by decide) (rm_line l Z a0 hw [] b461 (own_L na (1 : Int32) (0 : Int32) (nar .char v0) (nar .char v1)) T482.heap n0 z486 f488) (hw _ (List.mem_of_getElem? (i := 31) rfl)) (hw _ (List.mem_of_getElem? (i := 8) rfl)) rfl 0 (by decide) (by decide) (by decide) (by decide) f489 [] [] rfl pd_5 rfl 179 rfl (by rw [hml]; rfl) rfl (hb hby at_176) rfl fun T487 v487 L487 X487 hQ487 => ?_
  obtain ⟨rfl, Nq487, e487⟩ := hQ487
  have N487 := Fr.app N482 Nq487
  show own_Go p e below s _ _ _ (T487.setTop (mkF m 179 _ [(.int (own_L na (1 : Int32) (0 : Int32) (nar .char v0) (nar .char v1)))]))
  refine g_aload X487 hx 181 (hb hby at_179) rfl rfl rfl ?_
  refine g_iconst X487 hx 182 (hb hby at_181) (0 : Int32) rfl rfl ?_
  obtain ⟨cl490, Ar490, q490, S490, P490, H490, G490⟩ := id v482_0
  have hin490 := inb_of (j := (0 : Int32)) S490 ⟨by decide, by decide⟩
  refine own_iaload X487 hx hZ e487 Ar490 (v := (.int (own_L na (1 : Int32) (0 : Int32) (nar .char v0) (nar .char v1)))) hin490 (Has.at H490 hin490 rfl) 183 (hb hby at_182) rfl ?_
  refine g_icmpNo X487 hx 186 (hb hby at_183) (own_ii_ne_f rfl) rfl ?_
  refine g_aload X487 hx 188 (hb hby at_186) rfl rfl rfl ?_
  have f492 : Fld Z T482.heap b461 "com/example/libelem/libelem/io/TextPosition" "column" "I" (.int (own_C na (1 : Int32) (nar .char v0) (nar .char v1))) := (f477_1.keep Kq482 (ninS (Ne.symm ne468) nin0))
  refine own_callV X487 hx hZ hown (hw _ (List.mem_of_getElem? (i := 32) rfl)) (hw _ (List.mem_of_getElem? (i := 33) rfl)) (own_nf hZ (hw _ (List.mem_of_getElem? (i := 35) rfl))) (hw _ (List.mem_of_getElem? (i := 35) rfl)) (hw _ (List.mem_of_getElem? (i := 34) rfl)) (by decide) (rm_column l Z a0 hw [] b461 (own_C na (1 : Int32) (nar .char v0) (nar .char v1)) T482.heap n0 z486 f492) (hw _ (List.mem_of_getElem? (i := 36) rfl)) (hw _ (List.mem_of_getElem? (i := 8) rfl)) e487 0 (by decide) (by decide) (by decide) (by decide) f489 [] [] rfl pd_5 rfl 191 rfl (by rw [hml]; rfl) rfl (hb hby at_188) rfl fun T491 v491 L491 X491 hQ491 => ?_
  obtain ⟨rfl, Nq491, e491⟩ := hQ491
  have N491 := Fr.app N487 Nq491
  show own_Go p e below s _ _ _ (T491.setTop (mkF m 191 _ [(.int (own_C na (1 : Int32) (nar .char v0) (nar .char v1)))]))
  refine g_aload X491 hx 193 (hb hby at_191) rfl rfl rfl ?_
  refine g_iconst X491 hx 194 (hb hby at_193) (1 : Int32) rfl rfl ?_
  obtain ⟨cl493, Ar493, q493, S493, P493, H493, G493⟩ := id v482_0
  have hin493 := inb_of (j := (1 : Int32)) S493 ⟨by decide, by decide⟩
  refine own_iaload X491 hx hZ e491 Ar493 (v := (.int (own_C na (1 : Int32) (nar .char v0) (nar .char v1)))) hin493 (Has.at H493 hin493 rfl) 195 (hb hby at_194) rfl ?_
  refine g_icmpNo X491 hx 198 (hb hby at_195) (own_ii_ne_f rfl) rfl ?_
  refine g_iconst X491 hx 199 (hb hby at_198) (1 : Int32) rfl rfl ?_
  refine g_goto X491 hx 203 (hb hby at_199) (by decide) (by decide) ?_
  refine g_istore X491 hx 205 (hb hby at_203) (l' := #[.val (.long p0), .second, .val (.long p1), .second, .val (.int p2), .val (.int p3), .val (.ref b407), .val (.ref b418), .val (.ref b430), .val (.int na), .val (.int nb), .val (.int nc), .val (.ref b444), .val (.ref b461), .val (.int (1 : Int32))]) rfl rfl ?_
  refine g_aload X491 hx 207 (hb hby at_205) rfl rfl rfl ?_
  refine g_aload X491 hx 209 (hb hby at_207) rfl rfl rfl ?_
  refine g_iload X491 hx 211 (hb hby at_209) rfl rfl ?_
  have f495 : Fld Z T482.heap b461 "com/example/libelem/libelem/io/TextPosition" "afterCarriageReturn" "Z" (.int (own_A na (0 : Int32) (nar .char v0) (nar .char v1))) := (f477_2.keep Kq482 (ninS (Ne.symm ne468) nin0))
  have f496 : Arv Z T482.heap b418 k418 .char (2 : Int32) [(.int (nar .char v2)), (.int (nar .char v3))] (.int (0 : Int32)) := ((((f464.ext E461).keep Kq474 (ninS ne465 nin0)).keep Kq477 (ninS ne465 nin0)).keep Kq482 (ninS ne448 nin0))
  refine own_callV X491 hx hZ hown (hw _ (List.mem_of_getElem? (i := 19) rfl)) (hw _ (List.mem_of_getElem? (i := 20) rfl)) (own_nf hZ (hw _ (List.mem_of_getElem? (i := 22) rfl))) (hw _ (List.mem_of_getElem? (i := 22) rfl)) (hw _ (List.mem_of_getElem? (i := 21) rfl)) (by decide) (rm_adv l Z a0 hw [] b461 b418 k418 nb (own_L na (1 : Int32) (0 : Int32) (nar .char v0) (nar .char v1)) (own_C na (1 : Int32) (nar .char v0) (nar .char v1)) (own_A na (0 : Int32) (nar .char v0) (nar .char v1)) (nar .char v2) (nar .char v3) T482.heap n0 z486 f489 f488 f492 f495 f496 ne465 g_b461 h_nb) (hw _ (List.mem_of_getElem? (i := 23) rfl)) (hw _ (List.mem_of_getElem? (i := 8) rfl)) e491 0 (by decide) (by decide) (by decide) (by decide) f489 [(.ref b418), (.int nb)] [] rfl pd_3 rfl 214 rfl (by rw [hml]; rfl) rfl (hb hby at_211) rfl fun T494 v494 L494 X494 hQ494 => ?_
  obtain ⟨rfl, Nq494, Kq494, f494_0, f494_1, f494_2⟩ := hQ494
  have N494 := Fr.app N491 Nq494
  have K497 : Keep h0 T494.heap [] := K485.trans Kq494 (allS (Or.inr sz_b461) all0)
  have z498 : n0 ≤ T494.heap.size := (Nat.le_trans z486 Kq494.1)
  show own_Go p e below s _ _ _ (T494.setTop (mkF m 214 _ []))
  refine g_aload X494 hx 216 (hb hby at_214) rfl rfl rfl ?_
  refine g_aload X494 hx 218 (hb hby at_216) rfl rfl rfl ?_
  refine g_iload X494 hx 220 (hb hby at_218) rfl rfl ?_
  have f500 : Arv Z T494.heap b444 k444 .int (3 : Int32) [(.int (own_L na (1 : Int32) (0 : Int32) (nar .char v0) (nar .char v1))), (.int (own_C na (1 : Int32) (nar .char v0) (nar .char v1))), (.int (own_A na (0 : Int32) (nar .char v0) (nar .char v1)))] (.int (0 : Int32)) := (v482_0.keep Kq494 (ninS ne468 nin0))
  have f501 : Arv Z T494.heap b418 k418 .char (2 : Int32) [(.int (nar .char v2)), (.int (nar .char v3))] (.int (0 : Int32)) := (f496.keep Kq494 (ninS ne465 nin0))
  refine own_callS X494 hx hZ hown (hw _ (List.mem_of_getElem? (i := 24) rfl)) (hw _ (List.mem_of_getElem? (i := 25) rfl)) (by decide) (rm_feed l Z a0 hw [] b444 k444 (own_L na (1 : Int32) (0 : Int32) (nar .char v0) (nar .char v1)) (own_C na (1 : Int32) (nar .char v0) (nar .char v1)) (own_A na (0 : Int32) (nar .char v0) (nar .char v1)) b418 k418 nb (nar .char v2) (nar .char v3) T494.heap n0 z498 f500 f501 ne448 g_b444 h_nb) (hw _ (List.mem_of_getElem? (i := 26) rfl)) (hw _ (List.mem_of_getElem? (i := 3) rfl)) rfl 0 (by decide) (by decide) (by decide) (by decide) [(.ref b444), (.ref b418), (.int nb)] [] rfl pd_4 rfl 223 rfl (by rw [hml]; rfl) rfl (hb hby at_220) rfl fun T499 v499 L499 X499 hQ499 => ?_
  obtain ⟨rfl, Nq499, Kq499, v499_0⟩ := hQ499
  have N499 := Fr.app N494 Nq499
  have K502 : Keep h0 T499.heap [] := K497.trans Kq499 (allS (Or.inr sz_b444) all0)
  have z503 : n0 ≤ T499.heap.size := (Nat.le_trans z498 Kq499.1)
  show own_Go p e below s _ _ _ (T499.setTop (mkF m 223 _ []))
  refine g_iload X499 hx 225 (hb hby at_223) rfl rfl ?_
  refine g_ifNo X499 hx 228 (hb hby at_225) (own_i0_eq_f (by decide)) rfl ?_
  refine g_aload X499 hx 230 (hb hby at_228) rfl rfl rfl ?_
  have f505 : Fld Z T499.heap b461 "com/example/libelem/libelem/io/TextPosition" "line" "I" (.int (own_L nb (own_L na (1 : Int32) (0 : Int32) (nar .char v0) (nar .char v1)) (own_A na (0 : Int32) (nar .char v0) (nar .char v1)) (nar .char v2) (nar .char v3))) := (f494_0.keep Kq499 (ninS (Ne.symm ne468) nin0))
  have f506 : Exa Z T499.heap b461 "com/example/libelem/libelem/io/TextPosition" := ((f489.keep Kq494).keep Kq499)
  refine own_callV X499 hx hZ hown (hw _ (List.mem_of_getElem? (i := 27) rfl)) (hw _ (List.mem_of_getElem? (i := 28) rfl)) (own_nf hZ (hw _ (List.mem_of_getElem? (i := 30) rfl))) (hw _ (List.mem_of_getElem? (i := 30) rfl)) (hw _ (List.mem_of_getElem? (i := 29) rfl)) (by decide) (rm_line l Z a0 hw [] b461 (own_L nb (own_L na (1 : Int32) (0 : Int32) (nar .char v0) (nar .char v1)) (own_A na (0 : Int32) (nar .char v0) (nar .char v1)) (nar .char v2) (nar .char v3)) T499.heap n0 z503 f505) (hw _ (List.mem_of_getElem? (i := 31) rfl)) (hw _ (List.mem_of_getElem? (i := 8) rfl)) rfl 0 (by decide) (by decide) (by decide) (by decide) f506 [] [] rfl pd_5 rfl 233 rfl (by rw [hml]; rfl) rfl (hb hby at_230) rfl fun T504 v504 L504 X504 hQ504 => ?_
  obtain ⟨rfl, Nq504, e504⟩ := hQ504
  have N504 := Fr.app N499 Nq504
  show own_Go p e below s _ _ _ (T504.setTop (mkF m 233 _ [(.int (own_L nb (own_L na (1 : Int32) (0 : Int32) (nar .char v0) (nar .char v1)) (own_A na (0 : Int32) (nar .char v0) (nar .char v1)) (nar .char v2) (nar .char v3)))]))
  refine g_aload X504 hx 235 (hb hby at_233) rfl rfl rfl ?_
  refine g_iconst X504 hx 236 (hb hby at_235) (0 : Int32) rfl rfl ?_
  obtain ⟨cl507, Ar507, q507, S507, P507, H507, G507⟩ := id v499_0
  have hin507 := inb_of (j := (0 : Int32)) S507 ⟨by decide, by decide⟩
  refine own_iaload X504 hx hZ e504 Ar507 (v := (.int (own_L nb (own_L na (1 : Int32) (0 : Int32) (nar .char v0) (nar .char v1)) (own_A na (0 : Int32) (nar .char v0) (nar .char v1)) (nar .char v2) (nar .char v3)))) hin507 (Has.at H507 hin507 rfl) 237 (hb hby at_236) rfl ?_
  refine g_icmpNo X504 hx 240 (hb hby at_237) (own_ii_ne_f rfl) rfl ?_
  refine g_aload X504 hx 242 (hb hby at_240) rfl rfl rfl ?_
  have f509 : Fld Z T499.heap b461 "com/example/libelem/libelem/io/TextPosition" "column" "I" (.int (own_C nb (own_C na (1 : Int32) (nar .char v0) (nar .char v1)) (nar .char v2) (nar .char v3))) := (f494_1.keep Kq499 (ninS (Ne.symm ne468) nin0))
  refine own_callV X504 hx hZ hown (hw _ (List.mem_of_getElem? (i := 32) rfl)) (hw _ (List.mem_of_getElem? (i := 33) rfl)) (own_nf hZ (hw _ (List.mem_of_getElem? (i := 35) rfl))) (hw _ (List.mem_of_getElem? (i := 35) rfl)) (hw _ (List.mem_of_getElem? (i := 34) rfl)) (by decide) (rm_column l Z a0 hw [] b461 (own_C nb (own_C na (1 : Int32) (nar .char v0) (nar .char v1)) (nar .char v2) (nar .char v3)) T499.heap n0 z503 f509) (hw _ (List.mem_of_getElem? (i := 36) rfl)) (hw _ (List.mem_of_getElem? (i := 8) rfl)) e504 0 (by decide) (by decide) (by decide) (by decide) f506 [] [] rfl pd_5 rfl 245 rfl (by rw [hml]; rfl) rfl (hb hby at_242) rfl fun T508 v508 L508 X508 hQ508 => ?_
  obtain ⟨rfl, Nq508, e508⟩ := hQ508
  have N508 := Fr.app N504 Nq508
  show own_Go p e below s _ _ _ (T508.setTop (mkF m 245 _ [(.int (own_C nb (own_C na (1 : Int32) (nar .char v0) (nar .char v1)) (nar .char v2) (nar .char v3)))]))
  refine g_aload X508 hx 247 (hb hby at_245) rfl rfl rfl ?_
  refine g_iconst X508 hx 248 (hb hby at_247) (1 : Int32) rfl rfl ?_
  obtain ⟨cl510, Ar510, q510, S510, P510, H510, G510⟩ := id v499_0
  have hin510 := inb_of (j := (1 : Int32)) S510 ⟨by decide, by decide⟩
  refine own_iaload X508 hx hZ e508 Ar510 (v := (.int (own_C nb (own_C na (1 : Int32) (nar .char v0) (nar .char v1)) (nar .char v2) (nar .char v3)))) hin510 (Has.at H510 hin510 rfl) 249 (hb hby at_248) rfl ?_
  refine g_icmpNo X508 hx 252 (hb hby at_249) (own_ii_ne_f rfl) rfl ?_
  refine g_iconst X508 hx 253 (hb hby at_252) (1 : Int32) rfl rfl ?_
  refine g_goto X508 hx 257 (hb hby at_253) (by decide) (by decide) ?_
  refine g_istore X508 hx 259 (hb hby at_257) (l' := #[.val (.long p0), .second, .val (.long p1), .second, .val (.int p2), .val (.int p3), .val (.ref b407), .val (.ref b418), .val (.ref b430), .val (.int na), .val (.int nb), .val (.int nc), .val (.ref b444), .val (.ref b461), .val (.int (1 : Int32))]) rfl rfl ?_
  refine g_aload X508 hx 261 (hb hby at_259) rfl rfl rfl ?_
  refine g_aload X508 hx 263 (hb hby at_261) rfl rfl rfl ?_
  refine g_iload X508 hx 265 (hb hby at_263) rfl rfl ?_
  have f512 : Fld Z T499.heap b461 "com/example/libelem/libelem/io/TextPosition" "afterCarriageReturn" "Z" (.int (own_A nb (own_A na (0 : Int32) (nar .char v0) (nar .char v1)) (nar .char v2) (nar .char v3))) := (f494_2.keep Kq499 (ninS (Ne.symm ne468) nin0))
  have f513 : Arv Z T499.heap b430 k430 .char (2 : Int32) [(.int (nar .char v4)), (.int (nar .char v5))] (.int (0 : Int32)) := ((((((f466.ext E461).keep Kq474 (ninS ne467 nin0)).keep Kq477 (ninS ne467 nin0)).keep Kq482 (ninS ne449 nin0)).keep Kq494 (ninS ne467 nin0)).keep Kq499 (ninS ne449 nin0))
  refine own_callV X508 hx hZ hown (hw _ (List.mem_of_getElem? (i := 19) rfl)) (hw _ (List.mem_of_getElem? (i := 20) rfl)) (own_nf hZ (hw _ (List.mem_of_getElem? (i := 22) rfl))) (hw _ (List.mem_of_getElem? (i := 22) rfl)) (hw _ (List.mem_of_getElem? (i := 21) rfl)) (by decide) (rm_adv l Z a0 hw [] b461 b430 k430 nc (own_L nb (own_L na (1 : Int32) (0 : Int32) (nar .char v0) (nar .char v1)) (own_A na (0 : Int32) (nar .char v0) (nar .char v1)) (nar .char v2) (nar .char v3)) (own_C nb (own_C na (1 : Int32) (nar .char v0) (nar .char v1)) (nar .char v2) (nar .char v3)) (own_A nb (own_A na (0 : Int32) (nar .char v0) (nar .char v1)) (nar .char v2) (nar .char v3)) (nar .char v4) (nar .char v5) T499.heap n0 z503 f506 f505 f509 f512 f513 ne467 g_b461 h_nc) (hw _ (List.mem_of_getElem? (i := 23) rfl)) (hw _ (List.mem_of_getElem? (i := 8) rfl)) e508 0 (by decide) (by decide) (by decide) (by decide) f506 [(.ref b430), (.int nc)] [] rfl pd_3 rfl 268 rfl (by rw [hml]; rfl) rfl (hb hby at_265) rfl fun T511 v511 L511 X511 hQ511 => ?_
  obtain ⟨rfl, Nq511, Kq511, f511_0, f511_1, f511_2⟩ := hQ511
  have N511 := Fr.app N508 Nq511
  have K514 : Keep h0 T511.heap [] := K502.trans Kq511 (allS (Or.inr sz_b461) all0)
  have z515 : n0 ≤ T511.heap.size := (Nat.le_trans z503 Kq511.1)
  show own_Go p e below s _ _ _ (T511.setTop (mkF m 268 _ []))
  refine g_aload X511 hx 270 (hb hby at_268) rfl rfl rfl ?_
  refine g_aload X511 hx 272 (hb hby at_270) rfl rfl rfl ?_
  refine g_iload X511 hx 274 (hb hby at_272) rfl rfl ?_
  have f517 : Arv Z T511.heap b444 k444 .int (3 : Int32) [(.int (own_L nb (own_L na (1 : Int32) (0 : Int32) (nar .char v0) (nar .char v1)) (own_A na (0 : Int32) (nar .char v0) (nar .char v1)) (nar .char v2) (nar .char v3))), (.int (own_C nb (own_C na (1 : Int32) (nar .char v0) (nar .char v1)) (nar .char v2) (nar .char v3))), (.int (own_A nb (own_A na (0 : Int32) (nar .char v0) (nar .char v1)) (nar .char v2) (nar .char v3)))] (.int (0 : Int32)) := (v499_0.keep Kq511 (ninS ne468 nin0))
  have f518 : Arv Z T511.heap b430 k430 .char (2 : Int32) [(.int (nar .char v4)), (.int (nar .char v5))] (.int (0 : Int32)) := (f513.keep Kq511 (ninS ne467 nin0))
  refine own_callS X511 hx hZ hown (hw _ (List.mem_of_getElem? (i := 24) rfl)) (hw _ (List.mem_of_getElem? (i := 25) rfl)) (by decide) (rm_feed l Z a0 hw [] b444 k444 (own_L nb (own_L na (1 : Int32) (0 : Int32) (nar .char v0) (nar .char v1)) (own_A na (0 : Int32) (nar .char v0) (nar .char v1)) (nar .char v2) (nar .char v3)) (own_C nb (own_C na (1 : Int32) (nar .char v0) (nar .char v1)) (nar .char v2) (nar .char v3)) (own_A nb (own_A na (0 : Int32) (nar .char v0) (nar .char v1)) (nar .char v2) (nar .char v3)) b430 k430 nc (nar .char v4) (nar .char v5) T511.heap n0 z515 f517 f518 ne449 g_b444 h_nc) (hw _ (List.mem_of_getElem? (i := 26) rfl)) (hw _ (List.mem_of_getElem? (i := 3) rfl)) rfl 0 (by decide) (by decide) (by decide) (by decide) [(.ref b444), (.ref b430), (.int nc)] [] rfl pd_4 rfl 277 rfl (by rw [hml]; rfl) rfl (hb hby at_274) rfl fun T516 v516 L516 X516 hQ516 => ?_
  obtain ⟨rfl, Nq516, Kq516, v516_0⟩ := hQ516
  have N516 := Fr.app N511 Nq516
  have K519 : Keep h0 T516.heap [] := K514.trans Kq516 (allS (Or.inr sz_b444) all0)
  have z520 : n0 ≤ T516.heap.size := (Nat.le_trans z515 Kq516.1)
  show own_Go p e below s _ _ _ (T516.setTop (mkF m 277 _ []))
  refine g_iload X516 hx 279 (hb hby at_277) rfl rfl ?_
  refine g_ifNo X516 hx 282 (hb hby at_279) (own_i0_eq_f (by decide)) rfl ?_
  refine g_aload X516 hx 284 (hb hby at_282) rfl rfl rfl ?_
  have f522 : Fld Z T516.heap b461 "com/example/libelem/libelem/io/TextPosition" "line" "I" (.int (own_L nc (own_L nb (own_L na (1 : Int32) (0 : Int32) (nar .char v0) (nar .char v1)) (own_A na (0 : Int32) (nar .char v0) (nar .char v1)) (nar .char v2) (nar .char v3)) (own_A nb (own_A na (0 : Int32) (nar .char v0) (nar .char v1)) (nar .char v2) (nar .char v3)) (nar .char v4) (nar .char v5))) := (f511_0.keep Kq516 (ninS (Ne.symm ne468) nin0))
  have f523 : Exa Z T516.heap b461 "com/example/libelem/libelem/io/TextPosition" := ((f506.keep Kq511).keep Kq516)
  refine own_callV X516 hx hZ hown (hw _ (List.mem_of_getElem? (i := 27) rfl)) (hw _ (List.mem_of_getElem? (i := 28) rfl)) (own_nf hZ (hw _ (List.mem_of_getElem? (i := 30) rfl))) (hw _ (List.mem_of_getElem? (i := 30) rfl)) (hw _ (List.mem_of_getElem? (i := 29) rfl)) (by decide) (rm_line l Z a0 hw [] b461 (own_L nc (own_L nb (own_L na (1 : Int32) (0 : Int32) (nar .char v0) (nar .char v1)) (own_A na (0 : Int32) (nar .char v0) (nar .char v1)) (nar .char v2) (nar .char v3)) (own_A nb (own_A na (0 : Int32) (nar .char v0) (nar .char v1)) (nar .char v2) (nar .char v3)) (nar .char v4) (nar .char v5)) T516.heap n0 z520 f522) (hw _ (List.mem_of_getElem? (i := 31) rfl)) (hw _ (List.mem_of_getElem? (i := 8) rfl)) rfl 0 (by decide) (by decide) (by decide) (by decide) f523 [] [] rfl pd_5 rfl 287 rfl (by rw [hml]; rfl) rfl (hb hby at_284) rfl fun T521 v521 L521 X521 hQ521 => ?_
  obtain ⟨rfl, Nq521, e521⟩ := hQ521
  have N521 := Fr.app N516 Nq521
  show own_Go p e below s _ _ _ (T521.setTop (mkF m 287 _ [(.int (own_L nc (own_L nb (own_L na (1 : Int32) (0 : Int32) (nar .char v0) (nar .char v1)) (own_A na (0 : Int32) (nar .char v0) (nar .char v1)) (nar .char v2) (nar .char v3)) (own_A nb (own_A na (0 : Int32) (nar .char v0) (nar .char v1)) (nar .char v2) (nar .char v3)) (nar .char v4) (nar .char v5)))]))
  refine g_aload X521 hx 289 (hb hby at_287) rfl rfl rfl ?_
  refine g_iconst X521 hx 290 (hb hby at_289) (0 : Int32) rfl rfl ?_
  obtain ⟨cl524, Ar524, q524, S524, P524, H524, G524⟩ := id v516_0
  have hin524 := inb_of (j := (0 : Int32)) S524 ⟨by decide, by decide⟩
  refine own_iaload X521 hx hZ e521 Ar524 (v := (.int (own_L nc (own_L nb (own_L na (1 : Int32) (0 : Int32) (nar .char v0) (nar .char v1)) (own_A na (0 : Int32) (nar .char v0) (nar .char v1)) (nar .char v2) (nar .char v3)) (own_A nb (own_A na (0 : Int32) (nar .char v0) (nar .char v1)) (nar .char v2) (nar .char v3)) (nar .char v4) (nar .char v5)))) hin524 (Has.at H524 hin524 rfl) 291 (hb hby at_290) rfl ?_
  refine g_icmpNo X521 hx 294 (hb hby at_291) (own_ii_ne_f rfl) rfl ?_
  refine g_aload X521 hx 296 (hb hby at_294) rfl rfl rfl ?_
  have f526 : Fld Z T516.heap b461 "com/example/libelem/libelem/io/TextPosition" "column" "I" (.int (own_C nc (own_C nb (own_C na (1 : Int32) (nar .char v0) (nar .char v1)) (nar .char v2) (nar .char v3)) (nar .char v4) (nar .char v5))) := (f511_1.keep Kq516 (ninS (Ne.symm ne468) nin0))
  refine own_callV X521 hx hZ hown (hw _ (List.mem_of_getElem? (i := 32) rfl)) (hw _ (List.mem_of_getElem? (i := 33) rfl)) (own_nf hZ (hw _ (List.mem_of_getElem? (i := 35) rfl))) (hw _ (List.mem_of_getElem? (i := 35) rfl)) (hw _ (List.mem_of_getElem? (i := 34) rfl)) (by decide) (rm_column l Z a0 hw [] b461 (own_C nc (own_C nb (own_C na (1 : Int32) (nar .char v0) (nar .char v1)) (nar .char v2) (nar .char v3)) (nar .char v4) (nar .char v5)) T516.heap n0 z520 f526) (hw _ (List.mem_of_getElem? (i := 36) rfl)) (hw _ (List.mem_of_getElem? (i := 8) rfl)) e521 0 (by decide) (by decide) (by decide) (by decide) f523 [] [] rfl pd_5 rfl 299 rfl (by rw [hml]; rfl) rfl (hb hby at_296) rfl fun T525 v525 L525 X525 hQ525 => ?_
  obtain ⟨rfl, Nq525, e525⟩ := hQ525
  have N525 := Fr.app N521 Nq525
  show own_Go p e below s _ _ _ (T525.setTop (mkF m 299 _ [(.int (own_C nc (own_C nb (own_C na (1 : Int32) (nar .char v0) (nar .char v1)) (nar .char v2) (nar .char v3)) (nar .char v4) (nar .char v5)))]))
  refine g_aload X525 hx 301 (hb hby at_299) rfl rfl rfl ?_
  refine g_iconst X525 hx 302 (hb hby at_301) (1 : Int32) rfl rfl ?_
  obtain ⟨cl527, Ar527, q527, S527, P527, H527, G527⟩ := id v516_0
  have hin527 := inb_of (j := (1 : Int32)) S527 ⟨by decide, by decide⟩
  refine own_iaload X525 hx hZ e525 Ar527 (v := (.int (own_C nc (own_C nb (own_C na (1 : Int32) (nar .char v0) (nar .char v1)) (nar .char v2) (nar .char v3)) (nar .char v4) (nar .char v5)))) hin527 (Has.at H527 hin527 rfl) 303 (hb hby at_302) rfl ?_
  refine g_icmpNo X525 hx 306 (hb hby at_303) (own_ii_ne_f rfl) rfl ?_
  refine g_iconst X525 hx 307 (hb hby at_306) (1 : Int32) rfl rfl ?_
  refine g_goto X525 hx 311 (hb hby at_307) (by decide) (by decide) ?_
  refine g_istore X525 hx 313 (hb hby at_311) (l' := #[.val (.long p0), .second, .val (.long p1), .second, .val (.int p2), .val (.int p3), .val (.ref b407), .val (.ref b418), .val (.ref b430), .val (.int na), .val (.int nb), .val (.int nc), .val (.ref b444), .val (.ref b461), .val (.int (1 : Int32))]) rfl rfl ?_
  refine g_iload X525 hx 315 (hb hby at_313) rfl rfl ?_
  refine own_retN X525 hx hlk (t := .boolean) hret (by simp) (hb hby at_315) ?_ (by decide) (by decide)
  rw [e525]
  exact ⟨rfl, N525⟩
set_option maxRecDepth 65536 in
set_option maxHeartbeats 40000000 in
theorem comes_1 {Post : Tables → Env → Array Value → State → Outcome → State → Prop} (hpost : ∀ tb e args s v u, (limb_1_1.after args s (.returned v) u = true ∧ limb_1_2.after args s (.returned v) u = true ∧ True) → FrameEnd s (.returned v) u (Jvm.fieldLocs frame_1_writes args s ++ Jvm.arrayLocs frame_1_arrays args s ++ Jvm.staticLocs frame_1_statics s) 24 128 → Post tb e args s (.returned v) u) :
    ArmFor flags0 classFile x code maxLocals ret World_1 tables_1 room_1 Calls_1 rest_1 Pre_1 Post := by
  intro l hfl _ _ p e ha hc hk s m args below hf hA hF happ hP
  obtain ⟨hcalls, hrest, hpre⟩ := hP
  obtain ⟨-, -, -, hnamed, -, -, -, hat⟩ := (Spec.applies_iff hf).mp happ
  obtain ⟨hg, hn⟩ := and_e (Cond.before_iff.mp (show (Jvm.Cond.and given_1 narrow_1).before args s = true from hpre))
  obtain ⟨gc, q0⟩ := and_e hg
  obtain ⟨ga0, q1⟩ := and_e q0
  obtain ⟨ga1, q2⟩ := and_e q1
  obtain ⟨ga2, q3⟩ := and_e q2
  have ga3 := q3
  obtain ⟨w0, w1, w2, w3, rfl⟩ : ∃ w0 w1 w2 w3 : Value, args = #[w0, w1, w2, w3] := by
    have hs : args.size = 4 := by simpa [Cond.value, given_1] using gc
    obtain ⟨L⟩ := args
    match L, hs with
    | [w0, w1, w2, w3], _ => exact ⟨w0, w1, w2, w3, rfl⟩
  have hw := fun d (hd : d ∈ tables_1) => atoms_spec (ws := Jvm.Cond.code x code maxLocals ret :: tables_1) hat d (List.mem_cons_of_mem _ hd)
  have hfit : Fit s := fun {y c} hc i hi => by
    obtain ⟨ha, rfl⟩ := Array.getElem?_eq_some_iff.mp hc
    have q := List.all_eq_true.mp ((Array.all_eq_true_iff_forall_mem.mp hF) _ (Array.getElem_mem ha)) i (List.mem_range.mpr hi)
    simpa [Array.getElem?_eq_getElem hi] using q
  obtain ⟨i0, ei0⟩ := isL_v ga0
  obtain rfl : w0 = (.long i0) := Option.some.inj ei0
  obtain ⟨i1, ei1⟩ := isL_v ga1
  obtain rfl : w1 = (.long i1) := Option.some.inj ei1
  obtain ⟨i2, ei2⟩ := is_v ga2
  obtain rfl : w2 = (.int i2) := Option.some.inj ei2
  obtain ⟨i3, ei3⟩ := is_v ga3
  obtain rfl : w3 = (.int i3) := Option.some.inj ei3
  obtain ⟨n, o, h1, h2, h3, _, L, rfl, ⟨rfl, N⟩, hq⟩ := rm_law l s _ hw tables_1 i0 i1 i2 i3  s.heap s.heap.size (Nat.le_refl _)  p e ha hc hk s m _ below hf ((Spec.applies_iff_loose hf).mp happ).1 ⟨rfl, State.Warmed39.refl s, rfl⟩ trivial
  refine ⟨n, _, h1, h2, h3, hpost _ _ _ _ _ _ ⟨Cond.after_iff.mpr rfl, Cond.after_iff.mpr (eq_i res_at (Term.int_eval (1)) rfl), trivial⟩ ⟨hq.1, hq.2.1, (hq.2.2.sift fun y hy => Or.inr (N y hy)).mono (by decide) (by decide)⟩⟩
theorem main_1_1 : Claimed_1_1 := comes_1 fun _ _ _ _ _ _ h hF => ⟨h.1, hF⟩
theorem main_1_2 : Claimed_1_2 := comes_1 fun _ _ _ _ _ _ h hF => ⟨h.2.1, hF⟩
end Jvm.Pilot.@@N@@
namespace Jvm.Pilot.@@N@@
open Jvm Jvm.ClassFile Sem Op Lib Jvm.Free Jvm.Stand Jvm.Pilot.@@N@@.Jvm.D
/-! MADE BY PROGRAM (witnessworld.py) out of the Statement's table words and the real class files: 11 classes; the members and pool entries that the words name. The judged class is class 1, her method 1. -/
namespace start1
open Jvm.ClassFile
def u (s : String) : CpInfo := .utf8 (stringToUtf16 s)
/-- a pool by its gaps: so many unusable entries, then the entry; so many at the end -/
def gap : Nat → List CpInfo → List CpInfo
  | 0, r => r
  | n + 1, r => .unusable :: gap n r
def poolList (es : List (Nat × CpInfo)) (last : Nat) : List CpInfo := es.foldr (fun e r => gap e.1 (e.2 :: r)) (gap last [])
def pool (es : List (Nat × CpInfo)) (last : Nat) : Array CpInfo := ⟨poolList es last⟩
def fileOf (pool : Array CpInfo) (this : Nat) (attrs : Array Attribute := #[]) (ms : Array MethodInfo := #[]) (fl : Nat := 33) (sup : Nat := 0) (ifs : Array Nat := #[]) (fds : Array FieldInfo := #[]) : ClassFile where
  minorVersion := 0
  majorVersion := 65
  constantPool := pool
  accessFlags := fl
  thisClass := this
  superClass := sup
  interfaces := ifs
  fields := fds
  methods := ms
  attributes := attrs
def plain (name : String) (sup : Option ClassId) : Class where
  name := name
  kind := .ordinary
  loader := none
  accessFlags := 33
  super := sup
  interfaces := #[]
  cf := none
  fields := #[]
  methods := #[]
  instanceTypes := #[]
  staticTypes := #[]
  resolved := #[]
  callSites := []
  init := .initialized
  statics := none
  mirror := none

def pool0 : Array CpInfo := pool [(5, u "<init>"), (0, u "()V"), (1, .class_ 10), (1, u "java/lang/Object")] 113

def k0c0 : Code := { maxStack := 0, maxLocals := 1, code := object_method_1_code, exceptionTable := #[], attributes := #[] }
def k0m0 : Method := { name := "<init>", desc := "()V", sig := { parameters := [], returnType := none }, accessFlags := 1, code := some k0c0 }
/-- java/lang/Object -/
def k0 : Class := { plain "java/lang/Object" none with
  accessFlags := 33
  interfaces := #[]
  cf := some (fileOf pool0 8 #[] #[{ accessFlags := 1, nameIndex := 5, descriptorIndex := 6, attributes := #[] }] 33 0 #[] #[])
  fields := #[]
  methods := #[k0m0]
  instanceTypes := #[]
  staticTypes := #[]
  resolved := Array.replicate 124 none
  statics := none }

def pool1 : Array CpInfo := pool [(2, .class_ 4), (0, .nameAndType 5 6), (0, u "java/lang/Object"), (0, u "<init>"), (0, u "()V"), (0, .methodref 8 9), (0, .class_ 10), (0, .nameAndType 11 12), (0, u "com/example/libelem/libelem/io/TextPositionAdvancePinLaw"), (0, u "pick"), (0, u "(JI)C"), (0, .class_ 14), (0, u "com/example/libelem/libelem/io/TextPosition"), (0, .methodref 13 3), (0, .methodref 13 17), (0, .nameAndType 18 19), (0, u "advance"), (0, u "([CI)V"), (0, .methodref 8 21), (0, .nameAndType 22 23), (0, u "feed"), (0, u "([I[CI)V"), (0, .methodref 13 25), (0, .nameAndType 26 27), (0, u "line"), (0, u "()I"), (0, .methodref 13 29), (0, .nameAndType 30 27), (0, u "column"), (0, .methodref 8 32), (0, .nameAndType 33 34), (0, u "step"), (0, u "([IC)V"), (2, u "law"), (0, u "(JJII)Z")] 7

def k1m0 : Method := { name := "<init>", desc := "()V", sig := { parameters := [], returnType := none }, accessFlags := 1, code := none }
def k1c1 : Code := { maxStack := 7, maxLocals := 15, code := code, exceptionTable := #[], attributes := #[] }
def k1m1 : Method := { name := "law", desc := "(JJII)Z", sig := { parameters := [.long, .long, .int, .int], returnType := some .boolean }, accessFlags := 9, code := some k1c1 }
def k1c2 : Code := { maxStack := 2, maxLocals := 4, code := method_3_code, exceptionTable := #[], attributes := #[] }
def k1m2 : Method := { name := "pick", desc := "(JI)C", sig := { parameters := [.long, .int], returnType := some .char }, accessFlags := 10, code := some k1c2 }
def k1c3 : Code := { maxStack := 3, maxLocals := 3, code := method_4_code, exceptionTable := #[], attributes := #[] }
def k1m3 : Method := { name := "feed", desc := "([I[CI)V", sig := { parameters := [(.array .int), (.array .char), .int], returnType := none }, accessFlags := 10, code := some k1c3 }
def k1c4 : Code := { maxStack := 4, maxLocals := 2, code := method_5_code, exceptionTable := #[], attributes := #[] }
def k1m4 : Method := { name := "step", desc := "([IC)V", sig := { parameters := [(.array .int), .char], returnType := none }, accessFlags := 10, code := some k1c4 }
/-- com/example/libelem/libelem/io/TextPositionAdvancePinLaw -/
def k1 : Class := { plain "com/example/libelem/libelem/io/TextPositionAdvancePinLaw" (some 0) with
  accessFlags := 49
  interfaces := #[]
  cf := some (fileOf pool1 8 #[] #[{ accessFlags := 1, nameIndex := 5, descriptorIndex := 6, attributes := #[] }, { accessFlags := 9, nameIndex := 37, descriptorIndex := 38, attributes := #[] }, { accessFlags := 10, nameIndex := 11, descriptorIndex := 12, attributes := #[] }, { accessFlags := 10, nameIndex := 22, descriptorIndex := 23, attributes := #[] }, { accessFlags := 10, nameIndex := 33, descriptorIndex := 34, attributes := #[] }] 49 2 #[] #[])
  fields := #[]
  methods := #[k1m0, k1m1, k1m2, k1m3, k1m4]
  instanceTypes := #[]
  staticTypes := #[]
  resolved := Array.replicate 46 none
  statics := none }

def pool2 : Array CpInfo := pool [(1, .methodref 2 3), (0, .class_ 4), (0, .nameAndType 5 6), (0, u "java/lang/Object"), (0, u "<init>"), (0, u "()V"), (0, .fieldref 8 9), (0, .class_ 10), (0, .nameAndType 11 12), (0, u "com/example/libelem/libelem/io/TextPosition"), (0, u "line"), (0, u "I"), (0, .fieldref 8 14), (0, .nameAndType 15 12), (0, u "column"), (0, .fieldref 8 17), (0, .nameAndType 18 19), (0, u "afterCarriageReturn"), (0, u "Z"), (2, .class_ 23), (0, u "com/example/libelem/libelem/io/TextPosition$Place"), (21, u "()I"), (4, u "MESSAGE_START"), (0, u "Ljava/lang/String;"), (3, u "advance"), (0, u "([CI)V")] 12

def k2c0 : Code := { maxStack := 2, maxLocals := 1, code := prog_66_method_1_code, exceptionTable := #[], attributes := #[] }
def k2m0 : Method := { name := "<init>", desc := "()V", sig := { parameters := [], returnType := none }, accessFlags := 0, code := some k2c0 }
def k2c1 : Code := { maxStack := 4, maxLocals := 7, code := prog_66_method_2_code, exceptionTable := #[], attributes := #[] }
def k2m1 : Method := { name := "advance", desc := "([CI)V", sig := { parameters := [(.array .char), .int], returnType := none }, accessFlags := 0, code := some k2c1 }
def k2c2 : Code := { maxStack := 1, maxLocals := 1, code := prog_66_method_3_code, exceptionTable := #[], attributes := #[] }
def k2m2 : Method := { name := "line", desc := "()I", sig := { parameters := [], returnType := some .int }, accessFlags := 0, code := some k2c2 }
def k2c3 : Code := { maxStack := 1, maxLocals := 1, code := prog_66_method_4_code, exceptionTable := #[], attributes := #[] }
def k2m3 : Method := { name := "column", desc := "()I", sig := { parameters := [], returnType := some .int }, accessFlags := 0, code := some k2c3 }
/-- com/example/libelem/libelem/io/TextPosition -/
def k2 : Class := { plain "com/example/libelem/libelem/io/TextPosition" (some 0) with
  accessFlags := 32
  interfaces := #[]
  cf := some (fileOf pool2 8 #[.nestMembers #[22]] #[{ accessFlags := 0, nameIndex := 5, descriptorIndex := 6, attributes := #[] }, { accessFlags := 0, nameIndex := 55, descriptorIndex := 56, attributes := #[] }, { accessFlags := 0, nameIndex := 11, descriptorIndex := 45, attributes := #[] }, { accessFlags := 0, nameIndex := 15, descriptorIndex := 45, attributes := #[] }] 32 2 #[] #[{ accessFlags := 26, nameIndex := 50, descriptorIndex := 51, attributes := #[] }, { accessFlags := 2, nameIndex := 11, descriptorIndex := 12, attributes := #[] }, { accessFlags := 2, nameIndex := 15, descriptorIndex := 12, attributes := #[] }, { accessFlags := 2, nameIndex := 18, descriptorIndex := 19, attributes := #[] }])
  fields := #[{ name := "MESSAGE_START", type := (.object "java/lang/String"), accessFlags := 26, slot := 0, constantValue := 0 }, { name := "line", type := .int, accessFlags := 2, slot := 0, constantValue := 0 }, { name := "column", type := .int, accessFlags := 2, slot := 1, constantValue := 0 }, { name := "afterCarriageReturn", type := .boolean, accessFlags := 2, slot := 2, constantValue := 0 }]
  methods := #[k2m0, k2m1, k2m2, k2m3]
  instanceTypes := #[.int, .int, .boolean]
  staticTypes := #[(.object "java/lang/String")]
  resolved := Array.replicate 69 none
  statics := none }

def pool3 : Array CpInfo := pool [(1, u "java/lang/Cloneable"), (0, .class_ 1), (0, u "java/lang/Object"), (0, .class_ 3)] 3

/-- java/lang/Cloneable -/
def k3 : Class := { plain "java/lang/Cloneable" (some 0) with
  accessFlags := 1537
  interfaces := #[]
  cf := some (fileOf pool3 2 #[] #[] 1537 4 #[] #[])
  fields := #[]
  methods := #[]
  instanceTypes := #[]
  staticTypes := #[]
  resolved := Array.replicate 8 none
  statics := none }

def pool4 : Array CpInfo := pool [(1, u "java/io/Serializable"), (0, .class_ 1), (0, u "java/lang/Object"), (0, .class_ 3)] 3

/-- java/io/Serializable -/
def k4 : Class := { plain "java/io/Serializable" (some 0) with
  accessFlags := 1537
  interfaces := #[]
  cf := some (fileOf pool4 2 #[] #[] 1537 4 #[] #[])
  fields := #[]
  methods := #[]
  instanceTypes := #[]
  staticTypes := #[]
  resolved := Array.replicate 8 none
  statics := none }

/-- the primitive byte -/
def k5 : Class := { plain "byte" none with kind := .primitive 'B', accessFlags := 0x411 }
/-- [B -/
def k6 : Class := { plain "[B" (some 0) with kind := .array 5 .byte, interfaces := #[3, 4], accessFlags := 1041 }

/-- the primitive char -/
def k7 : Class := { plain "char" none with kind := .primitive 'C', accessFlags := 0x411 }
/-- [C -/
def k8 : Class := { plain "[C" (some 0) with kind := .array 7 .char, interfaces := #[3, 4], accessFlags := 1041 }

/-- the primitive int -/
def k9 : Class := { plain "int" none with kind := .primitive 'I', accessFlags := 0x411 }
/-- [I -/
def k10 : Class := { plain "[I" (some 0) with kind := .array 9 .int, interfaces := #[3, 4], accessFlags := 1041 }

def heap : Heap := #[]
def classes : Array Class := #[k0, k1, k2, k3, k4, k5, k6, k7, k8, k9, k10]
def interned : List (Array UInt16 × Addr) := []
def slotsUsed : Nat := 0
def theMethod : MethodId := ⟨1, 1⟩
def args0 : Array Value := #[.long 5, .long 7, .int 3, .int 2]
def aboutOver (below : List Frame) : State where
  vm := { classes := classes, interned := interned.toArray }
  heap := heap
  slotsUsed := slotsUsed
  threads := #[{ frames := .invoking theMethod args0 :: below }]
def below0 : List Frame := [.native { method := ⟨0, 0⟩, args := #[] }]
def about1 : State := aboutOver below0
def p0 : Program := .bare "" "" ""
def e0 : Env := launch0.env 0 0 0
theorem w_frames : about1.frames = Frame.invoking theMethod args0 :: below0 := rfl
set_option maxRecDepth 65536 in
theorem w_args : argsFit about1.vm theMethod args0 = true := by decide +kernel
set_option maxRecDepth 65536 in
theorem w_heap : heapFits about1 = true := by decide +kernel
set_option maxRecDepth 65536 in
theorem w_runnable : about1.curStatus? = some .runnable := by decide +kernel
set_option maxRecDepth 65536 in
theorem w_alone : about1.alone = true := by decide +kernel
set_option maxRecDepth 65536 in
theorem w_named : about1.methodNamed? x = some theMethod := by decide +kernel
set_option maxRecDepth 65536 in
theorem w_hears : about1.hears theMethod below0 = true := by decide +kernel
set_option maxRecDepth 65536 in
theorem w_ripe : about1.ripe theMethod args0 below0 = true := by decide +kernel
theorem w_running : about1.status = .running := rfl
set_option maxRecDepth 65536 in
theorem w_room : about1.hasRoom e0.platform room_1 = true :=
  launch0.hasRoom_least _ room_1 (by decide +kernel) (by decide +kernel) (by decide +kernel) (by decide +kernel) (by decide +kernel) (by decide +kernel)
theorem allAtoms_all (ts : List Jvm.Cond) (a : Array Jvm.Value) (st : Jvm.State) : (allAtoms ts).before a st = ts.all (fun c => c.before a st) := by
  induction ts with
  | nil => rfl
  | cons c t ih =>
    show (Jvm.Cond.and c (allAtoms t)).before a st = _
    rw [Jvm.Cond.before_and, ih, List.all_cons]
def words1 : List Jvm.Cond := Jvm.Cond.code x code maxLocals ret :: tables_1
/-- a 'code' word, met by the world's own term for the bytes: nothing is compared byte by byte -/
theorem code_word {y : MethodName} {bytes : ByteArray} {mx : Nat} {rt : Option FieldType} {a : Array Value} {s : State} {m : MethodId} {meth : Method} {c : Code} (h1 : s.methodNamed? y = some m) (h2 : s.vm.method? m = some meth) (h3 : meth.code = some c) (h4 : c.code = bytes)
    (h5 : (c.maxLocals == mx && c.exceptionTable.isEmpty && decide (c.maxStack ≤ mostOperands) && decide (meth.sig.returnType = rt) && !meth.locks && decide (parseMethodDescriptor y.desc = some meth.sig)) = true) : (Jvm.Cond.code y bytes mx rt).before a s = true := by
  simp only [Bool.and_eq_true, beq_iff_eq, Bool.not_eq_true', decide_eq_true_eq] at h5
  obtain ⟨⟨⟨⟨⟨g1, g2⟩, g3⟩, g4⟩, g5⟩, g6⟩ := h5
  simp [Cond.before, Cond.holds, Cond.value, h1, h2, h3, h4, g1, g2, g3, g4, g5, g6]
def isCode : Jvm.Cond → Bool
  | .code _ _ _ _ => true
  | _ => false
theorem all_split {L : List Jvm.Cond} {P : Jvm.Cond → Bool} (h1 : L.all (fun c => isCode c || P c) = true) (h2 : ∀ c ∈ L.filter isCode, P c = true) : L.all P = true := by
  refine List.all_eq_true.mpr fun c hc => ?_
  have h := List.all_eq_true.mp h1 c hc
  rcases Bool.eq_false_or_eq_true (isCode c) with hi | hi
  · exact h2 c (List.mem_filter.mpr ⟨hc, hi⟩)
  · simpa [hi] using h
set_option maxRecDepth 65536 in
theorem w_c0 : (Jvm.Cond.code x code maxLocals ret).before args0 about1 = true := code_word (m := ⟨1, 1⟩) (meth := k1m1) (c := k1c1) (by decide +kernel) rfl rfl rfl (by decide +kernel)
set_option maxRecDepth 65536 in
theorem w_c1 : (Jvm.Cond.code ({ cls := "com/example/libelem/libelem/io/TextPositionAdvancePinLaw", name := "pick", desc := "(JI)C" } : Jvm.MethodName) method_3_code (4 : Nat) (Option.some Jvm.ClassFile.FieldType.char)).before args0 about1 = true := code_word (m := ⟨1, 2⟩) (meth := k1m2) (c := k1c2) (by decide +kernel) rfl rfl rfl (by decide +kernel)
set_option maxRecDepth 65536 in
theorem w_c2 : (Jvm.Cond.code ({ cls := "com/example/libelem/libelem/io/TextPosition", name := "<init>", desc := "()V" } : Jvm.MethodName) prog_66_method_1_code (1 : Nat) (Option.none : Option Jvm.ClassFile.FieldType)).before args0 about1 = true := code_word (m := ⟨2, 0⟩) (meth := k2m0) (c := k2c0) (by decide +kernel) rfl rfl rfl (by decide +kernel)
set_option maxRecDepth 65536 in
theorem w_c3 : (Jvm.Cond.code ({ cls := "java/lang/Object", name := "<init>", desc := "()V" } : Jvm.MethodName) object_method_1_code (1 : Nat) (Option.none : Option Jvm.ClassFile.FieldType)).before args0 about1 = true := code_word (m := ⟨0, 0⟩) (meth := k0m0) (c := k0c0) (by decide +kernel) rfl rfl rfl (by decide +kernel)
set_option maxRecDepth 65536 in
theorem w_c4 : (Jvm.Cond.code ({ cls := "com/example/libelem/libelem/io/TextPosition", name := "advance", desc := "([CI)V" } : Jvm.MethodName) prog_66_method_2_code (7 : Nat) (Option.none : Option Jvm.ClassFile.FieldType)).before args0 about1 = true := code_word (m := ⟨2, 1⟩) (meth := k2m1) (c := k2c1) (by decide +kernel) rfl rfl rfl (by decide +kernel)
set_option maxRecDepth 65536 in
theorem w_c5 : (Jvm.Cond.code ({ cls := "com/example/libelem/libelem/io/TextPositionAdvancePinLaw", name := "feed", desc := "([I[CI)V" } : Jvm.MethodName) method_4_code (3 : Nat) (Option.none : Option Jvm.ClassFile.FieldType)).before args0 about1 = true := code_word (m := ⟨1, 3⟩) (meth := k1m3) (c := k1c3) (by decide +kernel) rfl rfl rfl (by decide +kernel)
set_option maxRecDepth 65536 in
theorem w_c6 : (Jvm.Cond.code ({ cls := "com/example/libelem/libelem/io/TextPosition", name := "line", desc := "()I" } : Jvm.MethodName) prog_66_method_3_code (1 : Nat) (Option.some Jvm.ClassFile.FieldType.int)).before args0 about1 = true := code_word (m := ⟨2, 2⟩) (meth := k2m2) (c := k2c2) (by decide +kernel) rfl rfl rfl (by decide +kernel)
set_option maxRecDepth 65536 in
theorem w_c7 : (Jvm.Cond.code ({ cls := "com/example/libelem/libelem/io/TextPosition", name := "column", desc := "()I" } : Jvm.MethodName) prog_66_method_4_code (1 : Nat) (Option.some Jvm.ClassFile.FieldType.int)).before args0 about1 = true := code_word (m := ⟨2, 3⟩) (meth := k2m3) (c := k2c3) (by decide +kernel) rfl rfl rfl (by decide +kernel)
set_option maxRecDepth 65536 in
theorem w_c8 : (Jvm.Cond.code ({ cls := "com/example/libelem/libelem/io/TextPositionAdvancePinLaw", name := "step", desc := "([IC)V" } : Jvm.MethodName) method_5_code (2 : Nat) (Option.none : Option Jvm.ClassFile.FieldType)).before args0 about1 = true := code_word (m := ⟨1, 4⟩) (meth := k1m4) (c := k1c4) (by decide +kernel) rfl rfl rfl (by decide +kernel)
def codes1 : List Jvm.Cond := [Jvm.Cond.code x code maxLocals ret, Jvm.Cond.code ({ cls := "com/example/libelem/libelem/io/TextPositionAdvancePinLaw", name := "pick", desc := "(JI)C" } : Jvm.MethodName) method_3_code (4 : Nat) (Option.some Jvm.ClassFile.FieldType.char), Jvm.Cond.code ({ cls := "com/example/libelem/libelem/io/TextPosition", name := "<init>", desc := "()V" } : Jvm.MethodName) prog_66_method_1_code (1 : Nat) (Option.none : Option Jvm.ClassFile.FieldType), Jvm.Cond.code ({ cls := "java/lang/Object", name := "<init>", desc := "()V" } : Jvm.MethodName) object_method_1_code (1 : Nat) (Option.none : Option Jvm.ClassFile.FieldType), Jvm.Cond.code ({ cls := "com/example/libelem/libelem/io/TextPosition", name := "advance", desc := "([CI)V" } : Jvm.MethodName) prog_66_method_2_code (7 : Nat) (Option.none : Option Jvm.ClassFile.FieldType), Jvm.Cond.code ({ cls := "com/example/libelem/libelem/io/TextPositionAdvancePinLaw", name := "feed", desc := "([I[CI)V" } : Jvm.MethodName) method_4_code (3 : Nat) (Option.none : Option Jvm.ClassFile.FieldType), Jvm.Cond.code ({ cls := "com/example/libelem/libelem/io/TextPosition", name := "line", desc := "()I" } : Jvm.MethodName) prog_66_method_3_code (1 : Nat) (Option.some Jvm.ClassFile.FieldType.int), Jvm.Cond.code ({ cls := "com/example/libelem/libelem/io/TextPosition", name := "column", desc := "()I" } : Jvm.MethodName) prog_66_method_4_code (1 : Nat) (Option.some Jvm.ClassFile.FieldType.int), Jvm.Cond.code ({ cls := "com/example/libelem/libelem/io/TextPositionAdvancePinLaw", name := "step", desc := "([IC)V" } : Jvm.MethodName) method_5_code (2 : Nat) (Option.none : Option Jvm.ClassFile.FieldType)]
set_option maxRecDepth 65536 in
theorem codes_eq : words1.filter isCode = codes1 := rfl
theorem w_codes : ∀ c ∈ words1.filter isCode, c.before args0 about1 = true := by
  rw [codes_eq]
  intro c hc
  simp only [codes1, List.mem_cons, List.not_mem_nil, or_false] at hc
  rcases hc with rfl | rfl | rfl | rfl | rfl | rfl | rfl | rfl | rfl
  · exact w_c0
  · exact w_c1
  · exact w_c2
  · exact w_c3
  · exact w_c4
  · exact w_c5
  · exact w_c6
  · exact w_c7
  · exact w_c8
set_option maxRecDepth 65536 in
theorem w_t1 : (words1.take 24).all (fun c => isCode c || c.before args0 about1) = true := by decide +kernel
set_option maxRecDepth 65536 in
theorem w_t2 : (words1.drop 24).all (fun c => isCode c || c.before args0 about1) = true := by decide +kernel
theorem w_tables : (allAtoms (Jvm.Cond.code x code maxLocals ret :: tables_1)).before args0 about1 = true := by
  rw [allAtoms_all]
  show words1.all (fun c => c.before args0 about1) = true
  refine all_split ?_ w_codes
  rw [← List.take_append_drop 24 words1, List.all_append, w_t1, w_t2]
  rfl
set_option maxRecDepth 65536 in
theorem w_case : (Jvm.Cond.and given_1 narrow_1).before args0 about1 = true := by decide +kernel
theorem w_applies : (headSpec (Jvm.Cond.code x code maxLocals ret :: tables_1) room_1).applies x e0.platform about1 = true :=
  (Spec.applies_iff w_frames).mpr ⟨w_running, w_runnable, w_alone, w_named, w_hears, w_ripe, w_room, w_tables⟩
theorem atStart : AtStart classFile x code maxLocals ret World_1 tables_1 room_1 Calls_1 rest_1 Pre_1 launch0 p0 e0 about1 theMethod args0 below0 :=
  ⟨lists_1, trivial, launch0.admits_env _ _ _, launch0.least_env, fairChoices_fair.cas, fairChoices_fair.clock, w_frames, w_args, w_heap, w_applies, trivial, trivial, w_case⟩
end start1
theorem witness_1 : WitnessClaimed_1 := ⟨start1.p0, start1.e0, start1.about1, start1.theMethod, start1.args0, start1.below0, start1.atStart⟩
end Jvm.Pilot.@@N@@
