import JvmDerived
import JvmDerived.Pilot.@@N@@Statement
import JvmDerived.Pilot.@@N@@Code
set_option linter.unusedVariables false
set_option linter.unusedSimpArgs false
namespace Jvm.Pilot.@@N@@
open Jvm Jvm.ClassFile Sem Op Lib Jvm.Free Jvm.Stand Jvm.LawKit Jvm.RoadKit Bundle Jvm.Pilot.@@N@@.Jvm.D
section Own
variable {p : Program} {l : Launch} {e : Env} {R : Room} {s : State} {m : MethodId} {args : Array Value} {below : List Frame} {meth : Method} {c : Code} {T : State} {locs : List Loc} {cells slots : Nat}
/-- from S0 the run ends as Q says, within the frame of k cells and n slots -/
def own_Go (p : Program) (e : Env) (below : List Frame) (s : State) (Q : Option Value → Heap → List Loc → Prop) (k n : Nat) (S0 : State) : Prop :=
  ∃ U o, Steps p.tables e below S0 U ∧ U.status = .running ∧ Ended U below o ∧ ∃ v L, o = .returned v ∧ Q v U.heap L ∧ FrameEnd s o U L k n
variable {Q : Option Value → Heap → List Loc → Prop} {K N : Nat} {S0 S1 : State}
theorem own_step (h : ∀ t, Steps p.tables e below S1 t → Steps p.tables e below S0 t) (G : own_Go p e below s Q K N S1) : own_Go p e below s Q K N S0 := by
  obtain ⟨U, o, h1, r⟩ := G
  exact ⟨U, o, h _ h1, r⟩
theorem own_start {g g' : JFrame} (q : g = g') (G : own_Go p e below s Q K N (T.setTop g')) : own_Go p e below s Q K N (T.setTop g) := q ▸ G
theorem own_end (X : Stand p l e R s m args below meth c T locs cells slots) {v : Option Value} (hv : meth.sig.returnType = none → v = none) (hlk : meth.locks = false) (hq : Q v T.heap locs) (hk : cells ≤ K) (hn : slots ≤ N)
    (go : ∀ fs, (∀ (f : JFrame) (acts : List Action), f.method = m → f.locked = none → f.entered = [] → (doReturn e (T.setTop f) acts v).1 = T.setFrames fs) → Steps p.tables e below S0 (T.setFrames fs)) : own_Go p e below s Q K N S0 := by
  obtain ⟨fs, hr, hrun, hended, hW, hsame⟩ := X.leave (v := v) hv hlk
  exact ⟨_, _, go fs hr, hrun, hended, _, _, rfl, hq, ⟨_, rfl⟩, hW, hsame.mono hk hn⟩
theorem own_retN (X : Stand p l e R s m args below meth c T locs cells slots) (hx : p.tables.exec = Jvm.exec) (hlk : meth.locks = false) {pc : Nat} {Ls : Array Slot} {z : Int32} {t : FieldType} {rest : List Value} (hret : meth.sig.returnType = some t) (ht : t = .boolean ∨ t = .byte ∨ t = .char ∨ t = .short)
    (hd : decode c.code pc = .ok (.ireturn, 1)) (hq : Q (some (.int (nar t z))) T.heap locs) (hk : cells ≤ K) (hn : slots ≤ N) : own_Go p e below s Q K N (T.setTop (mkF m pc Ls (.int z :: rest))) :=
  own_end X (fun h => by rw [hret] at h; cases h) hlk hq hk hn fun fs hr => retN X hx hret ht hd hr
theorem own_retI (X : Stand p l e R s m args below meth c T locs cells slots) (hx : p.tables.exec = Jvm.exec) (hlk : meth.locks = false) {pc : Nat} {Ls : Array Slot} {z : Int32} {rest : List Value} (hret : meth.sig.returnType = some .int)
    (hd : decode c.code pc = .ok (.ireturn, 1)) (hq : Q (some (.int z)) T.heap locs) (hk : cells ≤ K) (hn : slots ≤ N) : own_Go p e below s Q K N (T.setTop (mkF m pc Ls (.int z :: rest))) :=
  own_end X (fun h => by rw [hret] at h; cases h) hlk hq hk hn fun fs hr => retOut X hx hret rfl (Or.inl ⟨rfl, Or.inl rfl, _, rfl⟩) hd hr
theorem own_retJ (X : Stand p l e R s m args below meth c T locs cells slots) (hx : p.tables.exec = Jvm.exec) (hlk : meth.locks = false) {pc : Nat} {Ls : Array Slot} {z : Int64} {rest : List Value} (hret : meth.sig.returnType = some .long)
    (hd : decode c.code pc = .ok (.lreturn, 1)) (hq : Q (some (.long z)) T.heap locs) (hk : cells ≤ K) (hn : slots ≤ N) : own_Go p e below s Q K N (T.setTop (mkF m pc Ls (.long z :: rest))) :=
  own_end X (fun h => by rw [hret] at h; cases h) hlk hq hk hn fun fs hr => retOut X hx hret rfl (Or.inr (Or.inl ⟨rfl, rfl, _, rfl⟩)) hd hr
theorem own_retA (X : Stand p l e R s m args below meth c T locs cells slots) (hx : p.tables.exec = Jvm.exec) (hlk : meth.locks = false) {pc : Nat} {Ls : Array Slot} {w : Value} {t : FieldType} {rest : List Value} (hret : meth.sig.returnType = some t) (ht : t.isReference = true) (hw : w.isRef = true)
    (hd : decode c.code pc = .ok (.areturn, 1)) (hq : Q (some w) T.heap locs) (hk : cells ≤ K) (hn : slots ≤ N) : own_Go p e below s Q K N (T.setTop (mkF m pc Ls (w :: rest))) :=
  own_end X (fun h => by rw [hret] at h; cases h) hlk hq hk hn fun fs hr => retOut X hx hret (by cases t <;> first | (cases ht; done) | (cases w <;> rfl)) (Or.inr (Or.inr (Or.inr (Or.inr ⟨rfl, ht, hw⟩)))) hd hr
theorem own_retV (X : Stand p l e R s m args below meth c T locs cells slots) (hx : p.tables.exec = Jvm.exec) (hlk : meth.locks = false) {pc : Nat} {Ls : Array Slot} (hret : meth.sig.returnType = none)
    (hd : decode c.code pc = .ok (.return_, 1)) (hq : Q none T.heap locs) (hk : cells ≤ K) (hn : slots ≤ N) : own_Go p e below s Q K N (T.setTop (mkF m pc Ls [])) :=
  own_end X (fun _ => rfl) hlk hq hk hn fun fs hr => X.returnOut hx hret hd hr
theorem own_Sta_keep {Z : State} {h h' : Heap} {ws : List Addr} {C n d : String} {w : Value} (Kp : Keep h h' ws) (F : Sta Z h C n d w) (q : ∀ a ∈ ws, ∀ cell : Cell, h[a]? = some cell → cell.vm.isStatics = false) : Sta Z h' C n d w := by
  obtain ⟨cf, i, k, f, st, cell, h1, h2, h3, h4, h5, h6, h7⟩ := F
  exact ⟨cf, i, k, f, st, cell, h1, h2, h3, h4, Kp.2.1 _ _ h5 (fun hm => by rw [q _ hm _ h5] at h6; cases h6), h6, h7⟩
theorem g_iload_n (X : Stand p l e R s m args below meth c T locs cells slots) (hx : p.tables.exec = Jvm.exec) {pc : Nat} (pc' : Nat) {Ls : Array Slot} {k : Fin 4} {v : Int32} {st : List Value} (hd : decode c.code pc = .ok (.iload_n k, 1)) (hl : Ls[k.val]? = some (.val (.int v))) (hp : pc + 1 = pc') (G : own_Go p e below s Q K N (T.setTop (mkF m pc' Ls (.int v :: st)))) : own_Go p e below s Q K N (T.setTop (mkF m pc Ls (st))) := by
  subst hp; exact own_step (fun _ k => XS.iloadN X.here hx rfl hd hl k) G
theorem g_iload (X : Stand p l e R s m args below meth c T locs cells slots) (hx : p.tables.exec = Jvm.exec) {pc : Nat} (pc' : Nat) {Ls : Array Slot} {k : Nat} {v : Int32} {st : List Value} (hd : decode c.code pc = .ok (.iload k, 2)) (hl : Ls[k]? = some (.val (.int v))) (hp : pc + 2 = pc') (G : own_Go p e below s Q K N (T.setTop (mkF m pc' Ls (.int v :: st)))) : own_Go p e below s Q K N (T.setTop (mkF m pc Ls (st))) := by
  subst hp; exact own_step (fun _ k => XS.iload X.here hx rfl hd hl k) G
theorem g_istore_n (X : Stand p l e R s m args below meth c T locs cells slots) (hx : p.tables.exec = Jvm.exec) {pc : Nat} (pc' : Nat) {Ls : Array Slot} {k : Fin 4} {v : Int32} {st : List Value} {l' : Array Slot} (hd : decode c.code pc = .ok (.istore_n k, 1)) (hl : storeLocals Ls k.val (.int v) = some l') (hp : pc + 1 = pc') (G : own_Go p e below s Q K N (T.setTop (mkF m pc' l' (st)))) : own_Go p e below s Q K N (T.setTop (mkF m pc Ls (.int v :: st))) := by
  subst hp; exact own_step (fun _ k => XS.istoreN X.here hx rfl hd rfl hl k) G
theorem g_istore (X : Stand p l e R s m args below meth c T locs cells slots) (hx : p.tables.exec = Jvm.exec) {pc : Nat} (pc' : Nat) {Ls : Array Slot} {k : Nat} {v : Int32} {st : List Value} {l' : Array Slot} (hd : decode c.code pc = .ok (.istore k, 2)) (hl : storeLocals Ls k (.int v) = some l') (hp : pc + 2 = pc') (G : own_Go p e below s Q K N (T.setTop (mkF m pc' l' (st)))) : own_Go p e below s Q K N (T.setTop (mkF m pc Ls (.int v :: st))) := by
  subst hp; exact own_step (fun _ k => XS.istore X.here hx rfl hd rfl hl k) G
theorem g_lload_n (X : Stand p l e R s m args below meth c T locs cells slots) (hx : p.tables.exec = Jvm.exec) {pc : Nat} (pc' : Nat) {Ls : Array Slot} {k : Fin 4} {v : Int64} {st : List Value} (hd : decode c.code pc = .ok (.lload_n k, 1)) (hl : Ls[k.val]? = some (.val (.long v))) (hp : pc + 1 = pc') (G : own_Go p e below s Q K N (T.setTop (mkF m pc' Ls (.long v :: st)))) : own_Go p e below s Q K N (T.setTop (mkF m pc Ls (st))) := by
  subst hp; exact own_step (fun _ k => XS.lloadN X.here hx rfl hd hl k) G
theorem g_lload (X : Stand p l e R s m args below meth c T locs cells slots) (hx : p.tables.exec = Jvm.exec) {pc : Nat} (pc' : Nat) {Ls : Array Slot} {k : Nat} {v : Int64} {st : List Value} (hd : decode c.code pc = .ok (.lload k, 2)) (hl : Ls[k]? = some (.val (.long v))) (hp : pc + 2 = pc') (G : own_Go p e below s Q K N (T.setTop (mkF m pc' Ls (.long v :: st)))) : own_Go p e below s Q K N (T.setTop (mkF m pc Ls (st))) := by
  subst hp; exact own_step (fun _ k => XS.lload X.here hx rfl hd hl k) G
theorem g_lstore_n (X : Stand p l e R s m args below meth c T locs cells slots) (hx : p.tables.exec = Jvm.exec) {pc : Nat} (pc' : Nat) {Ls : Array Slot} {k : Fin 4} {v : Int64} {st : List Value} {l' : Array Slot} (hd : decode c.code pc = .ok (.lstore_n k, 1)) (hl : storeLocals Ls k.val (.long v) = some l') (hp : pc + 1 = pc') (G : own_Go p e below s Q K N (T.setTop (mkF m pc' l' (st)))) : own_Go p e below s Q K N (T.setTop (mkF m pc Ls (.long v :: st))) := by
  subst hp; exact own_step (fun _ k => XS.lstoreN X.here hx rfl hd rfl hl k) G
theorem g_lstore (X : Stand p l e R s m args below meth c T locs cells slots) (hx : p.tables.exec = Jvm.exec) {pc : Nat} (pc' : Nat) {Ls : Array Slot} {k : Nat} {v : Int64} {st : List Value} {l' : Array Slot} (hd : decode c.code pc = .ok (.lstore k, 2)) (hl : storeLocals Ls k (.long v) = some l') (hp : pc + 2 = pc') (G : own_Go p e below s Q K N (T.setTop (mkF m pc' l' (st)))) : own_Go p e below s Q K N (T.setTop (mkF m pc Ls (.long v :: st))) := by
  subst hp; exact own_step (fun _ k => XS.lstore X.here hx rfl hd rfl hl k) G
theorem g_aload_n (X : Stand p l e R s m args below meth c T locs cells slots) (hx : p.tables.exec = Jvm.exec) {pc : Nat} (pc' : Nat) {Ls : Array Slot} {k : Fin 4} {v : Value} {st : List Value} (hd : decode c.code pc = .ok (.aload_n k, 1)) (hl : Ls[k.val]? = some (.val v)) (hv : v.isRef = true) (hp : pc + 1 = pc') (G : own_Go p e below s Q K N (T.setTop (mkF m pc' Ls (v :: st)))) : own_Go p e below s Q K N (T.setTop (mkF m pc Ls (st))) := by
  subst hp; exact own_step (fun _ k => XS.aloadN X.here hx rfl hd hl hv k) G
theorem g_aload (X : Stand p l e R s m args below meth c T locs cells slots) (hx : p.tables.exec = Jvm.exec) {pc : Nat} (pc' : Nat) {Ls : Array Slot} {k : Nat} {v : Value} {st : List Value} (hd : decode c.code pc = .ok (.aload k, 2)) (hl : Ls[k]? = some (.val v)) (hv : v.isRef = true) (hp : pc + 2 = pc') (G : own_Go p e below s Q K N (T.setTop (mkF m pc' Ls (v :: st)))) : own_Go p e below s Q K N (T.setTop (mkF m pc Ls (st))) := by
  subst hp; exact own_step (fun _ k => XS.aload X.here hx rfl hd hl hv k) G
theorem g_astore_n (X : Stand p l e R s m args below meth c T locs cells slots) (hx : p.tables.exec = Jvm.exec) {pc : Nat} (pc' : Nat) {Ls : Array Slot} {k : Fin 4} {v : Value} {st : List Value} {l' : Array Slot} (hd : decode c.code pc = .ok (.astore_n k, 1)) (hv : v.isRef = true) (hl : storeLocals Ls k.val v = some l') (hp : pc + 1 = pc') (G : own_Go p e below s Q K N (T.setTop (mkF m pc' l' (st)))) : own_Go p e below s Q K N (T.setTop (mkF m pc Ls (v :: st))) := by
  subst hp; exact own_step (fun _ k => XS.astoreN X.here hx rfl hd rfl hv hl k) G
theorem g_astore (X : Stand p l e R s m args below meth c T locs cells slots) (hx : p.tables.exec = Jvm.exec) {pc : Nat} (pc' : Nat) {Ls : Array Slot} {k : Nat} {v : Value} {st : List Value} {l' : Array Slot} (hd : decode c.code pc = .ok (.astore k, 2)) (hv : v.isRef = true) (hl : storeLocals Ls k v = some l') (hp : pc + 2 = pc') (G : own_Go p e below s Q K N (T.setTop (mkF m pc' l' (st)))) : own_Go p e below s Q K N (T.setTop (mkF m pc Ls (v :: st))) := by
  subst hp; exact own_step (fun _ k => XS.astore X.here hx rfl hd rfl hv hl k) G
theorem g_iconst (X : Stand p l e R s m args below meth c T locs cells slots) (hx : p.tables.exec = Jvm.exec) {pc : Nat} (pc' : Nat) {Ls : Array Slot} {i : Int} {st : List Value} (hd : decode c.code pc = .ok (.iconst i, 1)) (z : Int32) (hz : Int32.ofInt i = z) (hp : pc + 1 = pc') (G : own_Go p e below s Q K N (T.setTop (mkF m pc' Ls (.int z :: st)))) : own_Go p e below s Q K N (T.setTop (mkF m pc Ls st)) := by
  subst hp hz; exact own_step (fun _ k => XS.iconst X.here hx rfl hd k) G
theorem g_bipush (X : Stand p l e R s m args below meth c T locs cells slots) (hx : p.tables.exec = Jvm.exec) {pc : Nat} (pc' : Nat) {Ls : Array Slot} {i : Int} {st : List Value} (hd : decode c.code pc = .ok (.bipush i, 2)) (z : Int32) (hz : (Int8.ofInt i).toInt32 = z) (hp : pc + 2 = pc') (G : own_Go p e below s Q K N (T.setTop (mkF m pc' Ls (.int z :: st)))) : own_Go p e below s Q K N (T.setTop (mkF m pc Ls st)) := by
  subst hp hz; exact own_step (fun _ k => XS.bipush X.here hx rfl hd k) G
theorem g_sipush (X : Stand p l e R s m args below meth c T locs cells slots) (hx : p.tables.exec = Jvm.exec) {pc : Nat} (pc' : Nat) {Ls : Array Slot} {i : Int} {st : List Value} (hd : decode c.code pc = .ok (.sipush i, 3)) (z : Int32) (hz : (Int16.ofInt i).toInt32 = z) (hp : pc + 3 = pc') (G : own_Go p e below s Q K N (T.setTop (mkF m pc' Ls (.int z :: st)))) : own_Go p e below s Q K N (T.setTop (mkF m pc Ls st)) := by
  subst hp hz; exact own_step (fun _ k => XS.sipush X.here hx rfl hd k) G
theorem g_lconst (X : Stand p l e R s m args below meth c T locs cells slots) (hx : p.tables.exec = Jvm.exec) {pc : Nat} (pc' : Nat) {Ls : Array Slot} {i : Fin 2} {st : List Value} (hd : decode c.code pc = .ok (.lconst i, 1)) (z : Int64) (hz : Int64.ofNat i.val = z) (hp : pc + 1 = pc') (G : own_Go p e below s Q K N (T.setTop (mkF m pc' Ls (.long z :: st)))) : own_Go p e below s Q K N (T.setTop (mkF m pc Ls st)) := by
  subst hp hz; exact own_step (fun _ k => XS.lconst X.here hx rfl hd k) G
theorem g_aconst_null (X : Stand p l e R s m args below meth c T locs cells slots) (hx : p.tables.exec = Jvm.exec) {pc : Nat} (pc' : Nat) {Ls : Array Slot} {st : List Value} (hd : decode c.code pc = .ok (.aconst_null, 1))  (hp : pc + 1 = pc') (G : own_Go p e below s Q K N (T.setTop (mkF m pc' Ls (.null :: st)))) : own_Go p e below s Q K N (T.setTop (mkF m pc Ls (st))) := by
  subst hp; exact own_step (fun _ k => XS.aconstNull X.here hx rfl hd k) G
theorem g_iadd (X : Stand p l e R s m args below meth c T locs cells slots) (hx : p.tables.exec = Jvm.exec) {pc : Nat} (pc' : Nat) {Ls : Array Slot} {x y : Int32} {st : List Value} (hd : decode c.code pc = .ok (.iadd, 1))  (hp : pc + 1 = pc') (G : own_Go p e below s Q K N (T.setTop (mkF m pc' Ls (.int (x + y) :: st)))) : own_Go p e below s Q K N (T.setTop (mkF m pc Ls (.int y :: .int x :: st))) := by
  subst hp; exact own_step (fun _ k => XS.iadd X.here hx rfl hd rfl k) G
theorem g_ladd (X : Stand p l e R s m args below meth c T locs cells slots) (hx : p.tables.exec = Jvm.exec) {pc : Nat} (pc' : Nat) {Ls : Array Slot} {x y : Int64} {st : List Value} (hd : decode c.code pc = .ok (.ladd, 1))  (hp : pc + 1 = pc') (G : own_Go p e below s Q K N (T.setTop (mkF m pc' Ls (.long (x + y) :: st)))) : own_Go p e below s Q K N (T.setTop (mkF m pc Ls (.long y :: .long x :: st))) := by
  subst hp; exact own_step (fun _ k => XS.ladd X.here hx rfl hd rfl k) G
theorem g_isub (X : Stand p l e R s m args below meth c T locs cells slots) (hx : p.tables.exec = Jvm.exec) {pc : Nat} (pc' : Nat) {Ls : Array Slot} {x y : Int32} {st : List Value} (hd : decode c.code pc = .ok (.isub, 1))  (hp : pc + 1 = pc') (G : own_Go p e below s Q K N (T.setTop (mkF m pc' Ls (.int (x - y) :: st)))) : own_Go p e below s Q K N (T.setTop (mkF m pc Ls (.int y :: .int x :: st))) := by
  subst hp; exact own_step (fun _ k => XS.isub X.here hx rfl hd rfl k) G
theorem g_lsub (X : Stand p l e R s m args below meth c T locs cells slots) (hx : p.tables.exec = Jvm.exec) {pc : Nat} (pc' : Nat) {Ls : Array Slot} {x y : Int64} {st : List Value} (hd : decode c.code pc = .ok (.lsub, 1))  (hp : pc + 1 = pc') (G : own_Go p e below s Q K N (T.setTop (mkF m pc' Ls (.long (x - y) :: st)))) : own_Go p e below s Q K N (T.setTop (mkF m pc Ls (.long y :: .long x :: st))) := by
  subst hp; exact own_step (fun _ k => XS.lsub X.here hx rfl hd rfl k) G
theorem g_imul (X : Stand p l e R s m args below meth c T locs cells slots) (hx : p.tables.exec = Jvm.exec) {pc : Nat} (pc' : Nat) {Ls : Array Slot} {x y : Int32} {st : List Value} (hd : decode c.code pc = .ok (.imul, 1))  (hp : pc + 1 = pc') (G : own_Go p e below s Q K N (T.setTop (mkF m pc' Ls (.int (x * y) :: st)))) : own_Go p e below s Q K N (T.setTop (mkF m pc Ls (.int y :: .int x :: st))) := by
  subst hp; exact own_step (fun _ k => XS.imul X.here hx rfl hd rfl k) G
theorem g_lmul (X : Stand p l e R s m args below meth c T locs cells slots) (hx : p.tables.exec = Jvm.exec) {pc : Nat} (pc' : Nat) {Ls : Array Slot} {x y : Int64} {st : List Value} (hd : decode c.code pc = .ok (.lmul, 1))  (hp : pc + 1 = pc') (G : own_Go p e below s Q K N (T.setTop (mkF m pc' Ls (.long (x * y) :: st)))) : own_Go p e below s Q K N (T.setTop (mkF m pc Ls (.long y :: .long x :: st))) := by
  subst hp; exact own_step (fun _ k => XS.lmul X.here hx rfl hd rfl k) G
theorem g_iand (X : Stand p l e R s m args below meth c T locs cells slots) (hx : p.tables.exec = Jvm.exec) {pc : Nat} (pc' : Nat) {Ls : Array Slot} {x y : Int32} {st : List Value} (hd : decode c.code pc = .ok (.iand, 1))  (hp : pc + 1 = pc') (G : own_Go p e below s Q K N (T.setTop (mkF m pc' Ls (.int (x &&& y) :: st)))) : own_Go p e below s Q K N (T.setTop (mkF m pc Ls (.int y :: .int x :: st))) := by
  subst hp; exact own_step (fun _ k => XS.iand X.here hx rfl hd rfl k) G
theorem g_land (X : Stand p l e R s m args below meth c T locs cells slots) (hx : p.tables.exec = Jvm.exec) {pc : Nat} (pc' : Nat) {Ls : Array Slot} {x y : Int64} {st : List Value} (hd : decode c.code pc = .ok (.land, 1))  (hp : pc + 1 = pc') (G : own_Go p e below s Q K N (T.setTop (mkF m pc' Ls (.long (x &&& y) :: st)))) : own_Go p e below s Q K N (T.setTop (mkF m pc Ls (.long y :: .long x :: st))) := by
  subst hp; exact own_step (fun _ k => XS.land X.here hx rfl hd rfl k) G
theorem g_ior (X : Stand p l e R s m args below meth c T locs cells slots) (hx : p.tables.exec = Jvm.exec) {pc : Nat} (pc' : Nat) {Ls : Array Slot} {x y : Int32} {st : List Value} (hd : decode c.code pc = .ok (.ior, 1))  (hp : pc + 1 = pc') (G : own_Go p e below s Q K N (T.setTop (mkF m pc' Ls (.int (x ||| y) :: st)))) : own_Go p e below s Q K N (T.setTop (mkF m pc Ls (.int y :: .int x :: st))) := by
  subst hp; exact own_step (fun _ k => XS.ior X.here hx rfl hd rfl k) G
theorem g_lor (X : Stand p l e R s m args below meth c T locs cells slots) (hx : p.tables.exec = Jvm.exec) {pc : Nat} (pc' : Nat) {Ls : Array Slot} {x y : Int64} {st : List Value} (hd : decode c.code pc = .ok (.lor, 1))  (hp : pc + 1 = pc') (G : own_Go p e below s Q K N (T.setTop (mkF m pc' Ls (.long (x ||| y) :: st)))) : own_Go p e below s Q K N (T.setTop (mkF m pc Ls (.long y :: .long x :: st))) := by
  subst hp; exact own_step (fun _ k => XS.lor X.here hx rfl hd rfl k) G
theorem g_ixor (X : Stand p l e R s m args below meth c T locs cells slots) (hx : p.tables.exec = Jvm.exec) {pc : Nat} (pc' : Nat) {Ls : Array Slot} {x y : Int32} {st : List Value} (hd : decode c.code pc = .ok (.ixor, 1))  (hp : pc + 1 = pc') (G : own_Go p e below s Q K N (T.setTop (mkF m pc' Ls (.int (x ^^^ y) :: st)))) : own_Go p e below s Q K N (T.setTop (mkF m pc Ls (.int y :: .int x :: st))) := by
  subst hp; exact own_step (fun _ k => XS.ixor X.here hx rfl hd rfl k) G
theorem g_lxor (X : Stand p l e R s m args below meth c T locs cells slots) (hx : p.tables.exec = Jvm.exec) {pc : Nat} (pc' : Nat) {Ls : Array Slot} {x y : Int64} {st : List Value} (hd : decode c.code pc = .ok (.lxor, 1))  (hp : pc + 1 = pc') (G : own_Go p e below s Q K N (T.setTop (mkF m pc' Ls (.long (x ^^^ y) :: st)))) : own_Go p e below s Q K N (T.setTop (mkF m pc Ls (.long y :: .long x :: st))) := by
  subst hp; exact own_step (fun _ k => XS.lxor X.here hx rfl hd rfl k) G
theorem g_ineg (X : Stand p l e R s m args below meth c T locs cells slots) (hx : p.tables.exec = Jvm.exec) {pc : Nat} (pc' : Nat) {Ls : Array Slot} {x : Int32} {st : List Value} (hd : decode c.code pc = .ok (.ineg, 1))  (hp : pc + 1 = pc') (G : own_Go p e below s Q K N (T.setTop (mkF m pc' Ls (.int (-x) :: st)))) : own_Go p e below s Q K N (T.setTop (mkF m pc Ls (.int x :: st))) := by
  subst hp; exact own_step (fun _ k => XS.ineg X.here hx rfl hd rfl k) G
theorem g_lneg (X : Stand p l e R s m args below meth c T locs cells slots) (hx : p.tables.exec = Jvm.exec) {pc : Nat} (pc' : Nat) {Ls : Array Slot} {x : Int64} {st : List Value} (hd : decode c.code pc = .ok (.lneg, 1))  (hp : pc + 1 = pc') (G : own_Go p e below s Q K N (T.setTop (mkF m pc' Ls (.long (-x) :: st)))) : own_Go p e below s Q K N (T.setTop (mkF m pc Ls (.long x :: st))) := by
  subst hp; exact own_step (fun _ k => XS.lneg X.here hx rfl hd rfl k) G
theorem g_i2l (X : Stand p l e R s m args below meth c T locs cells slots) (hx : p.tables.exec = Jvm.exec) {pc : Nat} (pc' : Nat) {Ls : Array Slot} {x : Int32} {st : List Value} (hd : decode c.code pc = .ok (.i2l, 1))  (hp : pc + 1 = pc') (G : own_Go p e below s Q K N (T.setTop (mkF m pc' Ls (.long (x.toInt64) :: st)))) : own_Go p e below s Q K N (T.setTop (mkF m pc Ls (.int x :: st))) := by
  subst hp; exact own_step (fun _ k => XS.i2l X.here hx rfl hd rfl k) G
theorem g_l2i (X : Stand p l e R s m args below meth c T locs cells slots) (hx : p.tables.exec = Jvm.exec) {pc : Nat} (pc' : Nat) {Ls : Array Slot} {x : Int64} {st : List Value} (hd : decode c.code pc = .ok (.l2i, 1))  (hp : pc + 1 = pc') (G : own_Go p e below s Q K N (T.setTop (mkF m pc' Ls (.int (x.toInt32) :: st)))) : own_Go p e below s Q K N (T.setTop (mkF m pc Ls (.long x :: st))) := by
  subst hp; exact own_step (fun _ k => XS.l2i X.here hx rfl hd rfl k) G
theorem g_i2b (X : Stand p l e R s m args below meth c T locs cells slots) (hx : p.tables.exec = Jvm.exec) {pc : Nat} (pc' : Nat) {Ls : Array Slot} {x : Int32} {st : List Value} (hd : decode c.code pc = .ok (.i2b, 1))  (hp : pc + 1 = pc') (G : own_Go p e below s Q K N (T.setTop (mkF m pc' Ls (.int (x.toInt8.toInt32) :: st)))) : own_Go p e below s Q K N (T.setTop (mkF m pc Ls (.int x :: st))) := by
  subst hp; exact own_step (fun _ k => XS.i2b X.here hx rfl hd rfl k) G
theorem g_i2s (X : Stand p l e R s m args below meth c T locs cells slots) (hx : p.tables.exec = Jvm.exec) {pc : Nat} (pc' : Nat) {Ls : Array Slot} {x : Int32} {st : List Value} (hd : decode c.code pc = .ok (.i2s, 1))  (hp : pc + 1 = pc') (G : own_Go p e below s Q K N (T.setTop (mkF m pc' Ls (.int (x.toInt16.toInt32) :: st)))) : own_Go p e below s Q K N (T.setTop (mkF m pc Ls (.int x :: st))) := by
  subst hp; exact own_step (fun _ k => XS.i2s X.here hx rfl hd rfl k) G
theorem g_i2c (X : Stand p l e R s m args below meth c T locs cells slots) (hx : p.tables.exec = Jvm.exec) {pc : Nat} (pc' : Nat) {Ls : Array Slot} {x : Int32} {st : List Value} (hd : decode c.code pc = .ok (.i2c, 1))  (hp : pc + 1 = pc') (G : own_Go p e below s Q K N (T.setTop (mkF m pc' Ls (.int (x.toUInt32.toUInt16.toUInt32.toInt32) :: st)))) : own_Go p e below s Q K N (T.setTop (mkF m pc Ls (.int x :: st))) := by
  subst hp; exact own_step (fun _ k => XS.i2c X.here hx rfl hd rfl k) G
theorem g_ishl (X : Stand p l e R s m args below meth c T locs cells slots) (hx : p.tables.exec = Jvm.exec) {pc : Nat} (pc' : Nat) {Ls : Array Slot} {x : Int32} {y : Int32} {st : List Value} (hd : decode c.code pc = .ok (.ishl, 1))  (hp : pc + 1 = pc') (G : own_Go p e below s Q K N (T.setTop (mkF m pc' Ls (.int (x <<< (y &&& 31)) :: st)))) : own_Go p e below s Q K N (T.setTop (mkF m pc Ls (.int y :: .int x :: st))) := by
  subst hp; exact own_step (fun _ k => XS.ishl X.here hx rfl hd rfl k) G
theorem g_ishr (X : Stand p l e R s m args below meth c T locs cells slots) (hx : p.tables.exec = Jvm.exec) {pc : Nat} (pc' : Nat) {Ls : Array Slot} {x : Int32} {y : Int32} {st : List Value} (hd : decode c.code pc = .ok (.ishr, 1))  (hp : pc + 1 = pc') (G : own_Go p e below s Q K N (T.setTop (mkF m pc' Ls (.int (x >>> (y &&& 31)) :: st)))) : own_Go p e below s Q K N (T.setTop (mkF m pc Ls (.int y :: .int x :: st))) := by
  subst hp; exact own_step (fun _ k => XS.ishr X.here hx rfl hd rfl k) G
theorem g_iushr (X : Stand p l e R s m args below meth c T locs cells slots) (hx : p.tables.exec = Jvm.exec) {pc : Nat} (pc' : Nat) {Ls : Array Slot} {x : Int32} {y : Int32} {st : List Value} (hd : decode c.code pc = .ok (.iushr, 1))  (hp : pc + 1 = pc') (G : own_Go p e below s Q K N (T.setTop (mkF m pc' Ls (.int ((x.toUInt32 >>> (y &&& 31).toUInt32).toInt32) :: st)))) : own_Go p e below s Q K N (T.setTop (mkF m pc Ls (.int y :: .int x :: st))) := by
  subst hp; exact own_step (fun _ k => XS.iushr X.here hx rfl hd rfl k) G
theorem g_lshl (X : Stand p l e R s m args below meth c T locs cells slots) (hx : p.tables.exec = Jvm.exec) {pc : Nat} (pc' : Nat) {Ls : Array Slot} {x : Int64} {y : Int32} {st : List Value} (hd : decode c.code pc = .ok (.lshl, 1))  (hp : pc + 1 = pc') (G : own_Go p e below s Q K N (T.setTop (mkF m pc' Ls (.long (x <<< (y &&& 0x3f).toInt64) :: st)))) : own_Go p e below s Q K N (T.setTop (mkF m pc Ls (.int y :: .long x :: st))) := by
  subst hp; exact own_step (fun _ k => XS.lshl X.here hx rfl hd rfl k) G
theorem g_lshr (X : Stand p l e R s m args below meth c T locs cells slots) (hx : p.tables.exec = Jvm.exec) {pc : Nat} (pc' : Nat) {Ls : Array Slot} {x : Int64} {y : Int32} {st : List Value} (hd : decode c.code pc = .ok (.lshr, 1))  (hp : pc + 1 = pc') (G : own_Go p e below s Q K N (T.setTop (mkF m pc' Ls (.long (x >>> (y &&& 0x3f).toInt64) :: st)))) : own_Go p e below s Q K N (T.setTop (mkF m pc Ls (.int y :: .long x :: st))) := by
  subst hp; exact own_step (fun _ k => XS.lshr X.here hx rfl hd rfl k) G
theorem g_lushr (X : Stand p l e R s m args below meth c T locs cells slots) (hx : p.tables.exec = Jvm.exec) {pc : Nat} (pc' : Nat) {Ls : Array Slot} {x : Int64} {y : Int32} {st : List Value} (hd : decode c.code pc = .ok (.lushr, 1))  (hp : pc + 1 = pc') (G : own_Go p e below s Q K N (T.setTop (mkF m pc' Ls (.long ((x.toUInt64 >>> (y &&& 0x3f).toInt64.toUInt64).toInt64) :: st)))) : own_Go p e below s Q K N (T.setTop (mkF m pc Ls (.int y :: .long x :: st))) := by
  subst hp; exact own_step (fun _ k => XS.lushr X.here hx rfl hd rfl k) G
theorem g_lcmp (X : Stand p l e R s m args below meth c T locs cells slots) (hx : p.tables.exec = Jvm.exec) {pc : Nat} (pc' : Nat) {Ls : Array Slot} {x y : Int64} {st : List Value} (hd : decode c.code pc = .ok (.lcmp, 1))  (hp : pc + 1 = pc') (G : own_Go p e below s Q K N (T.setTop (mkF m pc' Ls (.int (lcmpW x y) :: st)))) : own_Go p e below s Q K N (T.setTop (mkF m pc Ls (.long y :: .long x :: st))) := by
  subst hp; exact own_step (fun _ k => XS.lcmp X.here hx rfl hd rfl k) G
theorem g_idiv (X : Stand p l e R s m args below meth c T locs cells slots) (hx : p.tables.exec = Jvm.exec) {pc : Nat} (pc' : Nat) {Ls : Array Slot} {x y : Int32} {st : List Value} (hd : decode c.code pc = .ok (.idiv, 1)) (hp : pc + 1 = pc') (hy : y ≠ 0) (G : own_Go p e below s Q K N (T.setTop (mkF m pc' Ls (.int (x / y) :: st)))) : own_Go p e below s Q K N (T.setTop (mkF m pc Ls (.int y :: .int x :: st))) := by
  subst hp; exact own_step (fun _ k => XS.idiv X.here hx rfl hd rfl hy k) G
theorem g_ldiv (X : Stand p l e R s m args below meth c T locs cells slots) (hx : p.tables.exec = Jvm.exec) {pc : Nat} (pc' : Nat) {Ls : Array Slot} {x y : Int64} {st : List Value} (hd : decode c.code pc = .ok (.ldiv, 1)) (hp : pc + 1 = pc') (hy : y ≠ 0) (G : own_Go p e below s Q K N (T.setTop (mkF m pc' Ls (.long (x / y) :: st)))) : own_Go p e below s Q K N (T.setTop (mkF m pc Ls (.long y :: .long x :: st))) := by
  subst hp; exact own_step (fun _ k => XS.ldiv X.here hx rfl hd rfl hy k) G
theorem g_irem (X : Stand p l e R s m args below meth c T locs cells slots) (hx : p.tables.exec = Jvm.exec) {pc : Nat} (pc' : Nat) {Ls : Array Slot} {x y : Int32} {st : List Value} (hd : decode c.code pc = .ok (.irem, 1)) (hp : pc + 1 = pc') (hy : y ≠ 0) (G : own_Go p e below s Q K N (T.setTop (mkF m pc' Ls (.int (x % y) :: st)))) : own_Go p e below s Q K N (T.setTop (mkF m pc Ls (.int y :: .int x :: st))) := by
  subst hp; exact own_step (fun _ k => iremM X hx rfl hd rfl hy k) G
theorem g_lrem (X : Stand p l e R s m args below meth c T locs cells slots) (hx : p.tables.exec = Jvm.exec) {pc : Nat} (pc' : Nat) {Ls : Array Slot} {x y : Int64} {st : List Value} (hd : decode c.code pc = .ok (.lrem, 1)) (hp : pc + 1 = pc') (hy : y ≠ 0) (G : own_Go p e below s Q K N (T.setTop (mkF m pc' Ls (.long (x % y) :: st)))) : own_Go p e below s Q K N (T.setTop (mkF m pc Ls (.long y :: .long x :: st))) := by
  subst hp; rw [← lrem_mod] at G; exact own_step (fun _ k => XS.lrem X.here hx rfl hd rfl hy k) G
theorem g_iinc (X : Stand p l e R s m args below meth c T locs cells slots) (hx : p.tables.exec = Jvm.exec) {pc : Nat} (pc' : Nat) {Ls : Array Slot} {k : Nat} {cst : Int} {x z : Int32} {l' : Array Slot} {st : List Value} (hd : decode c.code pc = .ok (.iinc k cst, 3)) (hl : Ls[k]? = some (.val (.int x))) (hz : x + Int32.ofInt cst = z) (hl' : storeLocals Ls k (.int z) = some l') (hp : pc + 3 = pc') (G : own_Go p e below s Q K N (T.setTop (mkF m pc' l' st))) : own_Go p e below s Q K N (T.setTop (mkF m pc Ls st)) := by
  subst hp hz; exact own_step (fun _ k => XS.iinc X.here hx rfl hd hl hl' k) G
theorem g_dup (X : Stand p l e R s m args below meth c T locs cells slots) (hx : p.tables.exec = Jvm.exec) {pc : Nat} (pc' : Nat) {Ls : Array Slot} {x : Value} {st : List Value} (hd : decode c.code pc = .ok (.dup, 1)) (hc : x.category = 1) (hp : pc + 1 = pc') (G : own_Go p e below s Q K N (T.setTop (mkF m pc' Ls (x :: x :: st)))) : own_Go p e below s Q K N (T.setTop (mkF m pc Ls (x :: st))) := by
  subst hp; exact own_step (fun _ k => XS.dup X.here hx rfl hd rfl hc k) G
theorem g_pop (X : Stand p l e R s m args below meth c T locs cells slots) (hx : p.tables.exec = Jvm.exec) {pc : Nat} (pc' : Nat) {Ls : Array Slot} {x : Value} {st : List Value} (hd : decode c.code pc = .ok (.pop, 1)) (hc : x.category = 1) (hp : pc + 1 = pc') (G : own_Go p e below s Q K N (T.setTop (mkF m pc' Ls (st)))) : own_Go p e below s Q K N (T.setTop (mkF m pc Ls (x :: st))) := by
  subst hp; exact own_step (fun _ k => XS.pop X.here hx rfl hd rfl hc k) G
theorem g_dup_x1 (X : Stand p l e R s m args below meth c T locs cells slots) (hx : p.tables.exec = Jvm.exec) {pc : Nat} (pc' : Nat) {Ls : Array Slot} {x y : Value} {st : List Value} (hd : decode c.code pc = .ok (.dup_x1, 1)) (hc : x.category = 1) (hc' : y.category = 1) (hp : pc + 1 = pc') (G : own_Go p e below s Q K N (T.setTop (mkF m pc' Ls (x :: y :: x :: st)))) : own_Go p e below s Q K N (T.setTop (mkF m pc Ls (x :: y :: st))) := by
  subst hp; exact own_step (fun _ k => XS.dupX1 X.here hx rfl hd rfl hc hc' k) G
theorem g_dup2 (X : Stand p l e R s m args below meth c T locs cells slots) (hx : p.tables.exec = Jvm.exec) {pc : Nat} (pc' : Nat) {Ls : Array Slot} {x y : Value} {st : List Value} (hd : decode c.code pc = .ok (.dup2, 1)) (hc : x.category = 1) (hc' : y.category = 1) (hp : pc + 1 = pc') (G : own_Go p e below s Q K N (T.setTop (mkF m pc' Ls (x :: y :: x :: y :: st)))) : own_Go p e below s Q K N (T.setTop (mkF m pc Ls (x :: y :: st))) := by
  subst hp; exact own_step (fun _ k => XT.dup2 X.here hx rfl hd rfl hc hc' k) G
theorem g_dup2L (X : Stand p l e R s m args below meth c T locs cells slots) (hx : p.tables.exec = Jvm.exec) {pc : Nat} (pc' : Nat) {Ls : Array Slot} {x : Int64} {st : List Value} (hd : decode c.code pc = .ok (.dup2, 1))  (hp : pc + 1 = pc') (G : own_Go p e below s Q K N (T.setTop (mkF m pc' Ls (.long x :: .long x :: st)))) : own_Go p e below s Q K N (T.setTop (mkF m pc Ls (.long x :: st))) := by
  subst hp; exact own_step (fun _ k => XT.dup2L X.here hx rfl hd rfl k) G
theorem g_goto (X : Stand p l e R s m args below meth c T locs cells slots) (hx : p.tables.exec = Jvm.exec) {pc : Nat} (pc' : Nat) {Ls : Array Slot} {o : Int} {st : List Value} (hd : decode c.code pc = .ok (.goto o, 3)) (ho : 0 ≤ (pc : Int) + o) (hp : ((pc : Int) + o).toNat = pc') (G : own_Go p e below s Q K N (T.setTop (mkF m pc' Ls st))) : own_Go p e below s Q K N (T.setTop (mkF m pc Ls st)) :=
  own_step (fun _ k => XS.goto X.here hx rfl rfl hd ho hp k) G
theorem g_ifYes (X : Stand p l e R s m args below meth c T locs cells slots) (hx : p.tables.exec = Jvm.exec) {pc : Nat} (pc' : Nat) {Ls : Array Slot} {cd : ClassFile.Cond} {x : Int32} {o : Int} {st : List Value} (hd : decode c.code pc = .ok (.ifCond cd o, 3)) (hc : ifCond.holds cd x = true) (ho : 0 ≤ (pc : Int) + o) (hp : ((pc : Int) + o).toNat = pc') (G : own_Go p e below s Q K N (T.setTop (mkF m pc' Ls st))) : own_Go p e below s Q K N (T.setTop (mkF m pc Ls (.int x :: st))) :=
  own_step (fun _ k => XS.ifYes X.here hx rfl rfl hd rfl hc ho hp k) G
theorem g_ifNo (X : Stand p l e R s m args below meth c T locs cells slots) (hx : p.tables.exec = Jvm.exec) {pc : Nat} (pc' : Nat) {Ls : Array Slot} {cd : ClassFile.Cond} {x : Int32} {o : Int} {st : List Value} (hd : decode c.code pc = .ok (.ifCond cd o, 3)) (hc : ifCond.holds cd x = false) (hp : pc + 3 = pc') (G : own_Go p e below s Q K N (T.setTop (mkF m pc' Ls st))) : own_Go p e below s Q K N (T.setTop (mkF m pc Ls (.int x :: st))) := by
  subst hp; exact own_step (fun _ k => XS.ifNo X.here hx rfl hd rfl hc k) G
theorem g_icmpYes (X : Stand p l e R s m args below meth c T locs cells slots) (hx : p.tables.exec = Jvm.exec) {pc : Nat} (pc' : Nat) {Ls : Array Slot} {cd : ClassFile.Cond} {x y : Int32} {o : Int} {st : List Value} (hd : decode c.code pc = .ok (.if_icmp cd o, 3)) (hc : if_icmp.holds cd x y = true) (ho : 0 ≤ (pc : Int) + o) (hp : ((pc : Int) + o).toNat = pc') (G : own_Go p e below s Q K N (T.setTop (mkF m pc' Ls st))) : own_Go p e below s Q K N (T.setTop (mkF m pc Ls (.int y :: .int x :: st))) :=
  own_step (fun _ k => XS.icmpYes X.here hx rfl rfl hd rfl hc ho hp k) G
theorem g_icmpNo (X : Stand p l e R s m args below meth c T locs cells slots) (hx : p.tables.exec = Jvm.exec) {pc : Nat} (pc' : Nat) {Ls : Array Slot} {cd : ClassFile.Cond} {x y : Int32} {o : Int} {st : List Value} (hd : decode c.code pc = .ok (.if_icmp cd o, 3)) (hc : if_icmp.holds cd x y = false) (hp : pc + 3 = pc') (G : own_Go p e below s Q K N (T.setTop (mkF m pc' Ls st))) : own_Go p e below s Q K N (T.setTop (mkF m pc Ls (.int y :: .int x :: st))) := by
  subst hp; exact own_step (fun _ k => XS.icmpNo X.here hx rfl hd rfl hc k) G
theorem g_ifnullYes (X : Stand p l e R s m args below meth c T locs cells slots) (hx : p.tables.exec = Jvm.exec) {pc : Nat} (pc' : Nat) {Ls : Array Slot} {o : Int} {st : List Value} (hd : decode c.code pc = .ok (.ifnull o, 3)) (ho : 0 ≤ (pc : Int) + o) (hp : ((pc : Int) + o).toNat = pc') (G : own_Go p e below s Q K N (T.setTop (mkF m pc' Ls st))) : own_Go p e below s Q K N (T.setTop (mkF m pc Ls (.null :: st))) :=
  own_step (fun _ k => XS.ifnullYes X.here hx rfl rfl hd rfl ho hp k) G
theorem g_ifnullNo (X : Stand p l e R s m args below meth c T locs cells slots) (hx : p.tables.exec = Jvm.exec) {pc : Nat} (pc' : Nat) {Ls : Array Slot} {b : Addr} {o : Int} {st : List Value} (hd : decode c.code pc = .ok (.ifnull o, 3)) (hp : pc + 3 = pc') (G : own_Go p e below s Q K N (T.setTop (mkF m pc' Ls st))) : own_Go p e below s Q K N (T.setTop (mkF m pc Ls (.ref b :: st))) := by
  subst hp; exact own_step (fun _ k => XS.ifnullNo X.here hx rfl hd rfl k) G
theorem g_ifnonnullYes (X : Stand p l e R s m args below meth c T locs cells slots) (hx : p.tables.exec = Jvm.exec) {pc : Nat} (pc' : Nat) {Ls : Array Slot} {b : Addr} {o : Int} {st : List Value} (hd : decode c.code pc = .ok (.ifnonnull o, 3)) (ho : 0 ≤ (pc : Int) + o) (hp : ((pc : Int) + o).toNat = pc') (G : own_Go p e below s Q K N (T.setTop (mkF m pc' Ls st))) : own_Go p e below s Q K N (T.setTop (mkF m pc Ls (.ref b :: st))) :=
  own_step (fun _ k => XS.ifnonnullYes X.here hx rfl rfl hd rfl ho hp k) G
theorem g_ifnonnullNo (X : Stand p l e R s m args below meth c T locs cells slots) (hx : p.tables.exec = Jvm.exec) {pc : Nat} (pc' : Nat) {Ls : Array Slot} {o : Int} {st : List Value} (hd : decode c.code pc = .ok (.ifnonnull o, 3)) (hp : pc + 3 = pc') (G : own_Go p e below s Q K N (T.setTop (mkF m pc' Ls st))) : own_Go p e below s Q K N (T.setTop (mkF m pc Ls (.null :: st))) := by
  subst hp; exact own_step (fun _ k => XS.ifnonnullNo X.here hx rfl hd rfl k) G
theorem g_acmp (X : Stand p l e R s m args below meth c T locs cells slots) (hx : p.tables.exec = Jvm.exec) {pc : Nat} {Ls : Array Slot} {cd : ACond} {x y : Value} {o : Int} {st : List Value} {same : Bool} (pc' : Nat) (hd : decode c.code pc = .ok (.if_acmp cd o, 3)) (h1 : x.isRef = true) (h2 : y.isRef = true) (hq : decide (x = y) = same) (ho : 0 ≤ (pc : Int) + o) (hp : pc' = if acV cd same = true then ((pc : Int) + o).toNat else pc + 3) (G : own_Go p e below s Q K N (T.setTop (mkF m pc' Ls st))) : own_Go p e below s Q K N (T.setTop (mkF m pc Ls (y :: x :: st))) :=
  own_step (fun _ k => Jvm.RoadKit.acmp X hx rfl h1 h2 rfl hd rfl hq ho hp k) G
theorem g_ldc (X : Stand p l e R s m args below meth c T locs cells slots) (hx : p.tables.exec = Jvm.exec) {own : String} (hown : s.vm.findClass own = some m.cls) {pc : Nat} (pc' : Nat) {Ls : Array Slot} {i : Nat} {z : Int32} {st : List Value} (hw : (Jvm.Cond.constant own i z).before args s = true) (hd : decode c.code pc = .ok (.ldc i, 2)) (hp : pc + 2 = pc') (G : own_Go p e below s Q K N (T.setTop (mkF m pc' Ls (.int z :: st)))) : own_Go p e below s Q K N (T.setTop (mkF m pc Ls st)) := by
  subst hp; exact own_step (fun _ k => X.ldcInt hx hown hw (g := mkF m pc Ls st) rfl hd _ k) G
theorem g_ldc_w (X : Stand p l e R s m args below meth c T locs cells slots) (hx : p.tables.exec = Jvm.exec) {own : String} (hown : s.vm.findClass own = some m.cls) {pc : Nat} (pc' : Nat) {Ls : Array Slot} {i : Nat} {z : Int32} {st : List Value} (hw : (Jvm.Cond.constant own i z).before args s = true) (hd : decode c.code pc = .ok (.ldc_w i, 3)) (hp : pc + 3 = pc') (G : own_Go p e below s Q K N (T.setTop (mkF m pc' Ls (.int z :: st)))) : own_Go p e below s Q K N (T.setTop (mkF m pc Ls st)) := by
  subst hp; exact own_step (fun _ k => X.ldcwInt hx hown hw (g := mkF m pc Ls st) rfl hd _ k) G
theorem g_ldc2_w (X : Stand p l e R s m args below meth c T locs cells slots) (hx : p.tables.exec = Jvm.exec) {own : String} (hown : s.vm.findClass own = some m.cls) {pc : Nat} (pc' : Nat) {Ls : Array Slot} {i : Nat} {z : Int64} {st : List Value} (hw : (Jvm.Cond.constantLong own i z).before args s = true) (hd : decode c.code pc = .ok (.ldc2_w i, 3)) (hp : pc + 3 = pc') (G : own_Go p e below s Q K N (T.setTop (mkF m pc' Ls (.long z :: st)))) : own_Go p e below s Q K N (T.setTop (mkF m pc Ls st)) := by
  subst hp; exact own_step (fun _ k => X.ldc2Long hx hown hw (g := mkF m pc Ls st) rfl hd _ k) G
theorem g_tswIn (X : Stand p l e R s m args below meth c T locs cells slots) (hx : p.tables.exec = Jvm.exec) {pc : Nat} (pc' : Nat) {Ls : Array Slot} {dflt low high : Int} {offs : Array Int} {len : Nat} {o : Int} {i : Int32} {st : List Value} (hd : decode c.code pc = .ok (.tableswitch dflt low high offs, len)) (hin : ¬ (i.toInt < low ∨ i.toInt > high)) (hoff : offs[(i.toInt - low).toNat]? = some o) (ho : 0 ≤ (pc : Int) + o) (hp : ((pc : Int) + o).toNat = pc') (G : own_Go p e below s Q K N (T.setTop (mkF m pc' Ls st))) : own_Go p e below s Q K N (T.setTop (mkF m pc Ls (.int i :: st))) :=
  own_step (fun _ k => XS.tswIn X.here hx rfl rfl hd rfl hin hoff ho hp k) G
theorem g_tswOut (X : Stand p l e R s m args below meth c T locs cells slots) (hx : p.tables.exec = Jvm.exec) {pc : Nat} (pc' : Nat) {Ls : Array Slot} {dflt low high : Int} {offs : Array Int} {len : Nat} {i : Int32} {st : List Value} (hd : decode c.code pc = .ok (.tableswitch dflt low high offs, len)) (hout : i.toInt < low ∨ i.toInt > high) (ho : 0 ≤ (pc : Int) + dflt) (hp : ((pc : Int) + dflt).toNat = pc') (G : own_Go p e below s Q K N (T.setTop (mkF m pc' Ls st))) : own_Go p e below s Q K N (T.setTop (mkF m pc Ls (.int i :: st))) :=
  own_step (fun _ k => XS.tswOut X.here hx rfl rfl hd rfl hout ho hp k) G
theorem own_ii_eq_t {x y : Int32} (h : x = y) : if_icmp.holds .eq x y = true := XT.ii_eq_t h
theorem own_i0_eq_t {x : Int32} (h : x = 0) : ifCond.holds .eq x = true := XT.i0_eq_t h
theorem own_ll_eq_t {x y : Int64} (h : x = y) : ifCond.holds .eq (lcmpW x y) = true := XT.ll_eq_t h
theorem own_ii_eq_f {x y : Int32} (h : ¬ (x = y)) : if_icmp.holds .eq x y = false := XT.ii_eq_f h
theorem own_i0_eq_f {x : Int32} (h : ¬ (x = 0)) : ifCond.holds .eq x = false := XT.i0_eq_f h
theorem own_ll_eq_f {x y : Int64} (h : ¬ (x = y)) : ifCond.holds .eq (lcmpW x y) = false := XT.ll_eq_f h
theorem own_ii_ne_t {x y : Int32} (h : ¬ (x = y)) : if_icmp.holds .ne x y = true := XT.ii_ne_t h
theorem own_i0_ne_t {x : Int32} (h : ¬ (x = 0)) : ifCond.holds .ne x = true := XT.i0_ne_t h
theorem own_ll_ne_t {x y : Int64} (h : ¬ (x = y)) : ifCond.holds .ne (lcmpW x y) = true := XT.ll_ne_t h
theorem own_ii_ne_f {x y : Int32} (h : x = y) : if_icmp.holds .ne x y = false := XT.ii_ne_f h
theorem own_i0_ne_f {x : Int32} (h : x = 0) : ifCond.holds .ne x = false := XT.i0_ne_f h
theorem own_ll_ne_f {x y : Int64} (h : x = y) : ifCond.holds .ne (lcmpW x y) = false := XT.ll_ne_f h
theorem own_ii_lt_t {x y : Int32} (h : x < y) : if_icmp.holds .lt x y = true := XT.ii_lt_t h
theorem own_i0_lt_t {x : Int32} (h : x < 0) : ifCond.holds .lt x = true := XT.i0_lt_t h
theorem own_ll_lt_t {x y : Int64} (h : x < y) : ifCond.holds .lt (lcmpW x y) = true := XT.ll_lt_t h
theorem own_ii_lt_f {x y : Int32} (h : ¬ (x < y)) : if_icmp.holds .lt x y = false := XT.ii_lt_f h
theorem own_i0_lt_f {x : Int32} (h : ¬ (x < 0)) : ifCond.holds .lt x = false := XT.i0_lt_f h
theorem own_ll_lt_f {x y : Int64} (h : ¬ (x < y)) : ifCond.holds .lt (lcmpW x y) = false := XT.ll_lt_f h
theorem own_ii_ge_t {x y : Int32} (h : ¬ (x < y)) : if_icmp.holds .ge x y = true := XT.ii_ge_t h
theorem own_i0_ge_t {x : Int32} (h : ¬ (x < 0)) : ifCond.holds .ge x = true := XT.i0_ge_t h
theorem own_ll_ge_t {x y : Int64} (h : ¬ (x < y)) : ifCond.holds .ge (lcmpW x y) = true := XT.ll_ge_t h
theorem own_ii_ge_f {x y : Int32} (h : x < y) : if_icmp.holds .ge x y = false := XT.ii_ge_f h
theorem own_i0_ge_f {x : Int32} (h : x < 0) : ifCond.holds .ge x = false := XT.i0_ge_f h
theorem own_ll_ge_f {x y : Int64} (h : x < y) : ifCond.holds .ge (lcmpW x y) = false := XT.ll_ge_f h
theorem own_ii_gt_t {x y : Int32} (h : y < x) : if_icmp.holds .gt x y = true := XT.ii_gt_t h
theorem own_i0_gt_t {x : Int32} (h : 0 < x) : ifCond.holds .gt x = true := XT.i0_gt_t h
theorem own_ll_gt_t {x y : Int64} (h : y < x) : ifCond.holds .gt (lcmpW x y) = true := XT.ll_gt_t h
theorem own_ii_gt_f {x y : Int32} (h : ¬ (y < x)) : if_icmp.holds .gt x y = false := XT.ii_gt_f h
theorem own_i0_gt_f {x : Int32} (h : ¬ (0 < x)) : ifCond.holds .gt x = false := XT.i0_gt_f h
theorem own_ll_gt_f {x y : Int64} (h : ¬ (y < x)) : ifCond.holds .gt (lcmpW x y) = false := XT.ll_gt_f h
theorem own_ii_le_t {x y : Int32} (h : ¬ (y < x)) : if_icmp.holds .le x y = true := XT.ii_le_t h
theorem own_i0_le_t {x : Int32} (h : ¬ (0 < x)) : ifCond.holds .le x = true := XT.i0_le_t h
theorem own_ll_le_t {x y : Int64} (h : ¬ (y < x)) : ifCond.holds .le (lcmpW x y) = true := XT.ll_le_t h
theorem own_ii_le_f {x y : Int32} (h : y < x) : if_icmp.holds .le x y = false := XT.ii_le_f h
theorem own_i0_le_f {x : Int32} (h : 0 < x) : ifCond.holds .le x = false := XT.i0_le_f h
theorem own_ll_le_f {x y : Int64} (h : y < x) : ifCond.holds .le (lcmpW x y) = false := XT.ll_le_f h
theorem own_getF (X : Stand p l e R s m args below meth c T locs cells slots) (hx : p.tables.exec = Jvm.exec) {Z : State} {a0 : Array Value} {h : Heap} (hZ : Z.Warmed39 s.vm) {own : String} (hown : s.vm.findClass own = some m.cls) {R0 O n d host : String} {index : Nat} (w : (Jvm.Cond.fieldLink own index R0 n d).before a0 Z = true ∨ (Jvm.Cond.fieldLinkNest own index R0 n d host).before a0 Z = true) (via : Via Z R0 O n d) (eT : T.heap = h) {a : Addr} {v : Value} (F : Fld Z h a O n d v) {pc : Nat} (pc' : Nat) {Ls : Array Slot} {rest : List Value} (hd : decode c.code pc = .ok (.getfield index, 3)) (hp : pc + 3 = pc') (k : ∀ T', Stand p l e R s m args below meth c T' locs cells slots → T'.heap = h → own_Go p e below s Q K N (T'.setTop (mkF m pc' Ls (v :: rest)))) : own_Go p e below s Q K N (T.setTop (mkF m pc Ls (.ref a :: rest))) := by
  subst hp
  obtain ⟨T', X', e', st⟩ := getF X hx hZ hown w via eT F (g := mkF m pc Ls (.ref a :: rest)) rfl rfl hd
  exact own_step st (k T' X' e')
theorem own_getS (X : Stand p l e R s m args below meth c T locs cells slots) (hx : p.tables.exec = Jvm.exec) {Z : State} {a0 : Array Value} {h : Heap} (hZ : Z.Warmed39 s.vm) {own : String} (hown : s.vm.findClass own = some m.cls) {R0 O n d host : String} {index : Nat} (w : (Jvm.Cond.fieldLink own index R0 n d).before a0 Z = true ∨ (Jvm.Cond.fieldLinkNest own index R0 n d host).before a0 Z = true) (via : Via Z R0 O n d) (eT : T.heap = h) {v : Value} (F : Sta Z h O n d v) {pc : Nat} (pc' : Nat) {Ls : Array Slot} {rest : List Value} (hd : decode c.code pc = .ok (.getstatic index, 3)) (hp : pc + 3 = pc') (k : ∀ T', Stand p l e R s m args below meth c T' locs cells slots → T'.heap = h → own_Go p e below s Q K N (T'.setTop (mkF m pc' Ls (v :: rest)))) : own_Go p e below s Q K N (T.setTop (mkF m pc Ls rest)) := by
  subst hp
  obtain ⟨T', X', e', st⟩ := getS2 X hx hZ hown w via eT F (g := mkF m pc Ls rest) rfl hd
  exact own_step st (k T' X' e')
theorem own_putF (X : Stand p l e R s m args below meth c T locs cells slots) (hx : p.tables.exec = Jvm.exec) {Z : State} {a0 : Array Value} {h : Heap} (hZ : Z.Warmed39 s.vm) {own : String} (hown : s.vm.findClass own = some m.cls) {R0 O n d host : String} {index : Nat} (w : (Jvm.Cond.fieldLink own index R0 n d).before a0 Z = true ∨ (Jvm.Cond.fieldLinkNest own index R0 n d host).before a0 Z = true) (via : Via Z R0 O n d) (eT : T.heap = h) {a : Addr} {v old : Value} (F : Fld Z h a O n d old) {C : String} {kk : Nat} {ty : FieldType} (E : Exa Z h a C) (L : (Jvm.Cond.lays C O n d).before a0 Z = true ∨ ((Jvm.Cond.laysFinal C O n d).before a0 Z = true ∧ own = O ∧ meth.name = "<init>")) (wi : (Jvm.Cond.instantiable C kk).before a0 Z = true) (hty : parseFieldDescriptor d = some ty) (hn : narrow ty v = v) (hf : fits ty v = true) {pc : Nat} (pc' : Nat) {Ls : Array Slot} {rest : List Value} (hd : decode c.code pc = .ok (.putfield index, 3)) (hp : pc + 3 = pc') (k : ∀ T' h', Stand p l e R s m args below meth c T' (locs ++ [⟨a, Jvm.RoadKit.slotOf Z O n d⟩]) cells slots → T'.heap = h' → Wr h h' a (Jvm.RoadKit.slotOf Z O n d) v → own_Go p e below s Q K N (T'.setTop (mkF m pc' Ls rest))) : own_Go p e below s Q K N (T.setTop (mkF m pc Ls (v :: .ref a :: rest))) := by
  subst hp
  obtain ⟨T', h', X', e', W', st⟩ := putF X hx hZ hown w via eT F E L wi hty hn hf (g := mkF m pc Ls (v :: .ref a :: rest)) rfl rfl hd
  exact own_step st (k T' h' X' e' W')
theorem own_putFN (X : Stand p l e R s m args below meth c T locs cells slots) (hx : p.tables.exec = Jvm.exec) {Z : State} {a0 : Array Value} {h : Heap} (hZ : Z.Warmed39 s.vm) {own : String} (hown : s.vm.findClass own = some m.cls) {R0 O n d : String} {index : Nat} (w : (Jvm.Cond.fieldLink own index R0 n d).before a0 Z = true) (via : Via Z R0 O n d) (eT : T.heap = h) {a : Addr} {v old : Value} (v' : Value) (F : Fld Z h a O n d old) {C : String} {kk : Nat} {ty : FieldType} (E : Exa Z h a C) (L : (Jvm.Cond.lays C O n d).before a0 Z = true ∨ ((Jvm.Cond.laysFinal C O n d).before a0 Z = true ∧ own = O ∧ meth.name = "<init>")) (wi : (Jvm.Cond.instantiable C kk).before a0 Z = true) (hty : parseFieldDescriptor d = some ty) (hn : narrow ty v = v') (hf : fits ty v' = true) {pc : Nat} (pc' : Nat) {Ls : Array Slot} {rest : List Value} (hd : decode c.code pc = .ok (.putfield index, 3)) (hp : pc + 3 = pc') (k : ∀ T' h', Stand p l e R s m args below meth c T' (locs ++ [⟨a, Jvm.RoadKit.slotOf Z O n d⟩]) cells slots → T'.heap = h' → Wr h h' a (Jvm.RoadKit.slotOf Z O n d) v' → own_Go p e below s Q K N (T'.setTop (mkF m pc' Ls rest))) : own_Go p e below s Q K N (T.setTop (mkF m pc Ls (v :: .ref a :: rest))) := by
  subst hp
  obtain ⟨T', h', X', e', W', st⟩ := putFN X hx hZ hown w via eT F E L wi hty hn hf (g := mkF m pc Ls (v :: .ref a :: rest)) rfl rfl hd
  exact own_step st (k T' h' X' e' W')
theorem own_newO (X : Stand p l e R s m args below meth c T locs cells slots) (hx : p.tables.exec = Jvm.exec) {Z : State} {a0 : Array Value} {h : Heap} (hZ : Z.Warmed39 s.vm) {own : String} (hown : s.vm.findClass own = some m.cls) {C : String} {index n : Nat} (w : (Jvm.Cond.classLink own index C).before a0 Z = true) (wi : (Jvm.Cond.instantiable C n).before a0 Z = true) (wz : (Jvm.Cond.initialized C).before a0 Z = true) (eT : T.heap = h) {pc : Nat} (pc' : Nat) {Ls : Array Slot} {rest : List Value} (hd : decode c.code pc = .ok (.new index, 3)) (hp : pc + 3 = pc') (hc : cells + 1 ≤ R.cells) (hl : slots + n ≤ R.slots)
    (k : ∀ T' h' b, Stand p l e R s m args below meth c T' locs (cells + 1) (slots + n) → T'.heap = h' → b = h.size → Ext h h' → Exa Z h' b C → (∀ {O nm d : String} {ty : FieldType}, Laid Z a0 C O nm d → parseFieldDescriptor d = some ty → Fld Z h' b O nm d (defaultValue ty)) → own_Go p e below s Q K N (T'.setTop (mkF m pc' Ls (.ref b :: rest)))) : own_Go p e below s Q K N (T.setTop (mkF m pc Ls rest)) := by
  subst hp
  obtain ⟨T', h', X', e', E', A', D', -, st⟩ := newO X hx hZ hown w wi wz eT (g := mkF m pc Ls rest) rfl hd hc hl
  exact own_step st (k T' h' _ X' e' rfl E' A' D')
theorem own_newP (X : Stand p l e R s m args below meth c T locs cells slots) (hx : p.tables.exec = Jvm.exec) {Z : State} {a0 : Array Value} {h : Heap} (hZ : Z.Warmed39 s.vm) {aty : ArrayType} (w : (Jvm.Cond.arrayClass (newarray.typeOf aty)).before a0 Z = true) (eT : T.heap = h) {n : Int32} {pc : Nat} (pc' : Nat) {Ls : Array Slot} {rest : List Value} (hd : decode c.code pc = .ok (.newarray aty, 2)) (hp : pc + 2 = pc') (hn : ¬ n < 0) (cap : Nat) (hcap : n.toNatClampNeg ≤ cap) (hb : cap * 8 ≤ 536870912) (hc : cells + 1 ≤ R.cells) (hl : slots + cap ≤ R.slots)
    (k : ∀ T' h' cA b, Stand p l e R s m args below meth c T' locs (cells + 1) (slots + cap) → T'.heap = h' → b = h.size → Ext h h' → Arr Z h' b (newA cA (newarray.typeOf aty) n) (newarray.typeOf aty) → own_Go p e below s Q K N (T'.setTop (mkF m pc' Ls (.ref b :: rest)))) : own_Go p e below s Q K N (T.setTop (mkF m pc Ls (.int n :: rest))) := by
  subst hp
  obtain ⟨T', h', cA, X', e', E', A', st⟩ := newP X hx hZ w eT (g := mkF m pc Ls (.int n :: rest)) rfl hd rfl hn hcap hb hc hl
  exact own_step st (k T' h' cA _ X' e' rfl E' A')
theorem own_newR (X : Stand p l e R s m args below meth c T locs cells slots) (hx : p.tables.exec = Jvm.exec) {Z : State} {a0 : Array Value} {h : Heap} (hZ : Z.Warmed39 s.vm) {own : String} (hown : s.vm.findClass own = some m.cls) {C : String} {index : Nat} (w1 : (Jvm.Cond.classLink own index C).before a0 Z = true) (w2 : (Jvm.Cond.arrayOver (.object C)).before a0 Z = true) (eT : T.heap = h) {n : Int32} {pc : Nat} (pc' : Nat) {Ls : Array Slot} {rest : List Value} (hd : decode c.code pc = .ok (.anewarray index, 3)) (hp : pc + 3 = pc') (hn : ¬ n < 0) (cap : Nat) (hcap : n.toNatClampNeg ≤ cap) (hb : cap * 8 ≤ 536870912) (hc : cells + 1 ≤ R.cells) (hl : slots + cap ≤ R.slots)
    (k : ∀ T' h' cA b, Stand p l e R s m args below meth c T' locs (cells + 1) (slots + cap) → T'.heap = h' → b = h.size → Ext h h' → Arr Z h' b (newA cA (.object C) n) (.object C) → Ovr Z cA C → own_Go p e below s Q K N (T'.setTop (mkF m pc' Ls (.ref b :: rest)))) : own_Go p e below s Q K N (T.setTop (mkF m pc Ls (.int n :: rest))) := by
  subst hp
  obtain ⟨T', h', cA, X', e', E', A', O', st⟩ := newR X hx hZ hown w1 w2 eT (g := mkF m pc Ls (.int n :: rest)) rfl hd rfl hn hcap hb hc hl
  exact own_step st (k T' h' cA _ X' e' rfl E' A' O')
theorem own_stI (X : Stand p l e R s m args below meth c T locs cells slots) (hx : p.tables.exec = Jvm.exec) {Z : State} {h : Heap} (hZ : Z.Warmed39 s.vm) (eT : T.heap = h) {a : Addr} {cl : Cell} (A : Arr Z h a cl .int) {j : Int32} {x : Int32} (hj : ¬ (j < 0 ∨ cl.slots.size ≤ j.toNatClampNeg)) {pc : Nat} (pc' : Nat) {Ls : Array Slot} {rest : List Value} (hd : decode c.code pc = .ok (.iastore, 1)) (hp : pc + 1 = pc') (k : ∀ T' h', Stand p l e R s m args below meth c T' (locs ++ [⟨a, j.toNatClampNeg⟩]) cells slots → T'.heap = h' → Wr h h' a j.toNatClampNeg (.int x) → own_Go p e below s Q K N (T'.setTop (mkF m pc' Ls rest))) : own_Go p e below s Q K N (T.setTop (mkF m pc Ls (.int x :: .int j :: .ref a :: rest))) := by
  subst hp
  obtain ⟨T', h', X', e', W', st⟩ := stI X hx hZ eT A hj (g := mkF m pc Ls (.int x :: .int j :: .ref a :: rest)) rfl rfl hd
  exact own_step st (k T' h' X' e' W')
theorem own_stC (X : Stand p l e R s m args below meth c T locs cells slots) (hx : p.tables.exec = Jvm.exec) {Z : State} {h : Heap} (hZ : Z.Warmed39 s.vm) (eT : T.heap = h) {a : Addr} {cl : Cell} (A : Arr Z h a cl .char) {j : Int32} {x : Int32} (hj : ¬ (j < 0 ∨ cl.slots.size ≤ j.toNatClampNeg)) {pc : Nat} (pc' : Nat) {Ls : Array Slot} {rest : List Value} (hd : decode c.code pc = .ok (.castore, 1)) (hp : pc + 1 = pc') (k : ∀ T' h', Stand p l e R s m args below meth c T' (locs ++ [⟨a, j.toNatClampNeg⟩]) cells slots → T'.heap = h' → Wr h h' a j.toNatClampNeg (.int (nar .char x)) → own_Go p e below s Q K N (T'.setTop (mkF m pc' Ls rest))) : own_Go p e below s Q K N (T.setTop (mkF m pc Ls (.int x :: .int j :: .ref a :: rest))) := by
  subst hp
  obtain ⟨T', h', X', e', W', st⟩ := stC X hx hZ eT A hj (g := mkF m pc Ls (.int x :: .int j :: .ref a :: rest)) rfl rfl hd
  exact own_step st (k T' h' X' e' W')
theorem own_stZ (X : Stand p l e R s m args below meth c T locs cells slots) (hx : p.tables.exec = Jvm.exec) {Z : State} {h : Heap} (hZ : Z.Warmed39 s.vm) (eT : T.heap = h) {a : Addr} {cl : Cell} (A : Arr Z h a cl .boolean) {j : Int32} {x : Int32} (hj : ¬ (j < 0 ∨ cl.slots.size ≤ j.toNatClampNeg)) {pc : Nat} (pc' : Nat) {Ls : Array Slot} {rest : List Value} (hd : decode c.code pc = .ok (.bastore, 1)) (hp : pc + 1 = pc') (k : ∀ T' h', Stand p l e R s m args below meth c T' (locs ++ [⟨a, j.toNatClampNeg⟩]) cells slots → T'.heap = h' → Wr h h' a j.toNatClampNeg (.int (nar .boolean x)) → own_Go p e below s Q K N (T'.setTop (mkF m pc' Ls rest))) : own_Go p e below s Q K N (T.setTop (mkF m pc Ls (.int x :: .int j :: .ref a :: rest))) := by
  subst hp
  obtain ⟨T', h', X', e', W', st⟩ := stZ X hx hZ eT A hj (g := mkF m pc Ls (.int x :: .int j :: .ref a :: rest)) rfl rfl hd
  exact own_step st (k T' h' X' e' W')
theorem own_stB (X : Stand p l e R s m args below meth c T locs cells slots) (hx : p.tables.exec = Jvm.exec) {Z : State} {h : Heap} (hZ : Z.Warmed39 s.vm) (eT : T.heap = h) {a : Addr} {cl : Cell} (A : Arr Z h a cl .byte) {j : Int32} {x : Int32} (hj : ¬ (j < 0 ∨ cl.slots.size ≤ j.toNatClampNeg)) {pc : Nat} (pc' : Nat) {Ls : Array Slot} {rest : List Value} (hd : decode c.code pc = .ok (.bastore, 1)) (hp : pc + 1 = pc') (k : ∀ T' h', Stand p l e R s m args below meth c T' (locs ++ [⟨a, j.toNatClampNeg⟩]) cells slots → T'.heap = h' → Wr h h' a j.toNatClampNeg (.int (nar .byte x)) → own_Go p e below s Q K N (T'.setTop (mkF m pc' Ls rest))) : own_Go p e below s Q K N (T.setTop (mkF m pc Ls (.int x :: .int j :: .ref a :: rest))) := by
  subst hp
  obtain ⟨T', h', X', e', W', st⟩ := stB X hx hZ eT A hj (g := mkF m pc Ls (.int x :: .int j :: .ref a :: rest)) rfl rfl hd
  exact own_step st (k T' h' X' e' W')
theorem own_stS (X : Stand p l e R s m args below meth c T locs cells slots) (hx : p.tables.exec = Jvm.exec) {Z : State} {h : Heap} (hZ : Z.Warmed39 s.vm) (eT : T.heap = h) {a : Addr} {cl : Cell} (A : Arr Z h a cl .short) {j : Int32} {x : Int32} (hj : ¬ (j < 0 ∨ cl.slots.size ≤ j.toNatClampNeg)) {pc : Nat} (pc' : Nat) {Ls : Array Slot} {rest : List Value} (hd : decode c.code pc = .ok (.sastore, 1)) (hp : pc + 1 = pc') (k : ∀ T' h', Stand p l e R s m args below meth c T' (locs ++ [⟨a, j.toNatClampNeg⟩]) cells slots → T'.heap = h' → Wr h h' a j.toNatClampNeg (.int (nar .short x)) → own_Go p e below s Q K N (T'.setTop (mkF m pc' Ls rest))) : own_Go p e below s Q K N (T.setTop (mkF m pc Ls (.int x :: .int j :: .ref a :: rest))) := by
  subst hp
  obtain ⟨T', h', X', e', W', st⟩ := stS X hx hZ eT A hj (g := mkF m pc Ls (.int x :: .int j :: .ref a :: rest)) rfl rfl hd
  exact own_step st (k T' h' X' e' W')
theorem own_stJ (X : Stand p l e R s m args below meth c T locs cells slots) (hx : p.tables.exec = Jvm.exec) {Z : State} {h : Heap} (hZ : Z.Warmed39 s.vm) (eT : T.heap = h) {a : Addr} {cl : Cell} (A : Arr Z h a cl .long) {j : Int32} {x : Int64} (hj : ¬ (j < 0 ∨ cl.slots.size ≤ j.toNatClampNeg)) {pc : Nat} (pc' : Nat) {Ls : Array Slot} {rest : List Value} (hd : decode c.code pc = .ok (.lastore, 1)) (hp : pc + 1 = pc') (k : ∀ T' h', Stand p l e R s m args below meth c T' (locs ++ [⟨a, j.toNatClampNeg⟩]) cells slots → T'.heap = h' → Wr h h' a j.toNatClampNeg (.long x) → own_Go p e below s Q K N (T'.setTop (mkF m pc' Ls rest))) : own_Go p e below s Q K N (T.setTop (mkF m pc Ls (.long x :: .int j :: .ref a :: rest))) := by
  subst hp
  obtain ⟨T', h', X', e', W', st⟩ := stJ X hx hZ eT A hj (g := mkF m pc Ls (.long x :: .int j :: .ref a :: rest)) rfl rfl hd
  exact own_step st (k T' h' X' e' W')
theorem own_stR (X : Stand p l e R s m args below meth c T locs cells slots) (hx : p.tables.exec = Jvm.exec) {Z : State} {h : Heap} (hZ : Z.Warmed39 s.vm) (eT : T.heap = h) {a : Addr} {cl : Cell} {ty : FieldType} (A : Arr Z h a cl ty) {j : Int32} {v : Value} (hj : ¬ (j < 0 ∨ cl.slots.size ≤ j.toNatClampNeg)) (hty : ty.isReference = true) (F : Sto Z h a v) {pc : Nat} (pc' : Nat) {Ls : Array Slot} {rest : List Value} (hd : decode c.code pc = .ok (.aastore, 1)) (hp : pc + 1 = pc') (k : ∀ T' h', Stand p l e R s m args below meth c T' (locs ++ [⟨a, j.toNatClampNeg⟩]) cells slots → T'.heap = h' → Wr h h' a j.toNatClampNeg v → own_Go p e below s Q K N (T'.setTop (mkF m pc' Ls rest))) : own_Go p e below s Q K N (T.setTop (mkF m pc Ls (v :: .int j :: .ref a :: rest))) := by
  subst hp
  obtain ⟨T', h', X', e', W', st⟩ := stR X hx hZ eT A hj hty F (g := mkF m pc Ls (v :: .int j :: .ref a :: rest)) rfl rfl hd
  exact own_step st (k T' h' X' e' W')
theorem own_iaload (X : Stand p l e R s m args below meth c T locs cells slots) (hx : p.tables.exec = Jvm.exec) {Z : State} {h : Heap} (hZ : Z.Warmed39 s.vm) (eT : T.heap = h) {a : Addr} {cl : Cell} (A : Arr Z h a cl .int) {j : Int32} {v : Value} (hj : ¬ (j < 0 ∨ cl.slots.size ≤ j.toNatClampNeg)) (hv : cl.slots[j.toNatClampNeg]? = some v) {pc : Nat} (pc' : Nat) {Ls : Array Slot} {rest : List Value} (hd : decode c.code pc = .ok (.iaload, 1)) (hp : pc + 1 = pc') (G : own_Go p e below s Q K N (T.setTop (mkF m pc' Ls (v :: rest)))) : own_Go p e below s Q K N (T.setTop (mkF m pc Ls (.int j :: .ref a :: rest))) := by
  subst hp eT
  exact own_step (X.iaload hx (j := j) (v := v) A.1 (State.isArrayOf_alike hZ.alike A.2.1) A.2.2 hj hv (g := mkF m pc Ls (.int j :: .ref a :: rest)) rfl rfl hd) G
theorem own_caload (X : Stand p l e R s m args below meth c T locs cells slots) (hx : p.tables.exec = Jvm.exec) {Z : State} {h : Heap} (hZ : Z.Warmed39 s.vm) (eT : T.heap = h) {a : Addr} {cl : Cell} (A : Arr Z h a cl .char) {j : Int32} {v : Value} (hj : ¬ (j < 0 ∨ cl.slots.size ≤ j.toNatClampNeg)) (hv : cl.slots[j.toNatClampNeg]? = some v) {pc : Nat} (pc' : Nat) {Ls : Array Slot} {rest : List Value} (hd : decode c.code pc = .ok (.caload, 1)) (hp : pc + 1 = pc') (G : own_Go p e below s Q K N (T.setTop (mkF m pc' Ls (v :: rest)))) : own_Go p e below s Q K N (T.setTop (mkF m pc Ls (.int j :: .ref a :: rest))) := by
  subst hp eT
  exact own_step (X.caload hx (j := j) (v := v) A.1 (State.isArrayOf_alike hZ.alike A.2.1) A.2.2 hj hv (g := mkF m pc Ls (.int j :: .ref a :: rest)) rfl rfl hd) G
theorem own_laload (X : Stand p l e R s m args below meth c T locs cells slots) (hx : p.tables.exec = Jvm.exec) {Z : State} {h : Heap} (hZ : Z.Warmed39 s.vm) (eT : T.heap = h) {a : Addr} {cl : Cell} (A : Arr Z h a cl .long) {j : Int32} {v : Value} (hj : ¬ (j < 0 ∨ cl.slots.size ≤ j.toNatClampNeg)) (hv : cl.slots[j.toNatClampNeg]? = some v) {pc : Nat} (pc' : Nat) {Ls : Array Slot} {rest : List Value} (hd : decode c.code pc = .ok (.laload, 1)) (hp : pc + 1 = pc') (G : own_Go p e below s Q K N (T.setTop (mkF m pc' Ls (v :: rest)))) : own_Go p e below s Q K N (T.setTop (mkF m pc Ls (.int j :: .ref a :: rest))) := by
  subst hp eT
  exact own_step (X.laload hx (j := j) (v := v) A.1 (State.isArrayOf_alike hZ.alike A.2.1) A.2.2 hj hv (g := mkF m pc Ls (.int j :: .ref a :: rest)) rfl rfl hd) G
theorem own_baloadB (X : Stand p l e R s m args below meth c T locs cells slots) (hx : p.tables.exec = Jvm.exec) {Z : State} {h : Heap} (hZ : Z.Warmed39 s.vm) (eT : T.heap = h) {a : Addr} {cl : Cell} (A : Arr Z h a cl .byte) {j : Int32} {v : Value} (hj : ¬ (j < 0 ∨ cl.slots.size ≤ j.toNatClampNeg)) (hv : cl.slots[j.toNatClampNeg]? = some v) {pc : Nat} (pc' : Nat) {Ls : Array Slot} {rest : List Value} (hd : decode c.code pc = .ok (.baload, 1)) (hp : pc + 1 = pc') (G : own_Go p e below s Q K N (T.setTop (mkF m pc' Ls (v :: rest)))) : own_Go p e below s Q K N (T.setTop (mkF m pc Ls (.int j :: .ref a :: rest))) := by
  subst hp eT
  exact own_step (X.baloadBytes hx (j := j) (v := v) A.1 (State.isArrayOf_alike hZ.alike A.2.1) A.2.2 hj hv (g := mkF m pc Ls (.int j :: .ref a :: rest)) rfl rfl hd) G
theorem own_baloadZ (X : Stand p l e R s m args below meth c T locs cells slots) (hx : p.tables.exec = Jvm.exec) {Z : State} {h : Heap} (hZ : Z.Warmed39 s.vm) (eT : T.heap = h) {a : Addr} {cl : Cell} (A : Arr Z h a cl .boolean) {j : Int32} {v : Value} (hj : ¬ (j < 0 ∨ cl.slots.size ≤ j.toNatClampNeg)) (hv : cl.slots[j.toNatClampNeg]? = some v) {pc : Nat} (pc' : Nat) {Ls : Array Slot} {rest : List Value} (hd : decode c.code pc = .ok (.baload, 1)) (hp : pc + 1 = pc') (G : own_Go p e below s Q K N (T.setTop (mkF m pc' Ls (v :: rest)))) : own_Go p e below s Q K N (T.setTop (mkF m pc Ls (.int j :: .ref a :: rest))) := by
  subst hp eT
  exact own_step (X.baloadBooleans hx (j := j) (v := v) A.1 (State.isArrayOf_alike hZ.alike A.2.1) A.2.2 hj hv (g := mkF m pc Ls (.int j :: .ref a :: rest)) rfl rfl hd) G
theorem own_aaload (X : Stand p l e R s m args below meth c T locs cells slots) (hx : p.tables.exec = Jvm.exec) {Z : State} {h : Heap} (hZ : Z.Warmed39 s.vm) (eT : T.heap = h) {a : Addr} {cl : Cell} {ty : FieldType} (hty : ty.isReference = true) (A : Arr Z h a cl ty) {j : Int32} {v : Value} (hj : ¬ (j < 0 ∨ cl.slots.size ≤ j.toNatClampNeg)) (hv : cl.slots[j.toNatClampNeg]? = some v) {pc : Nat} (pc' : Nat) {Ls : Array Slot} {rest : List Value} (hd : decode c.code pc = .ok (.aaload, 1)) (hp : pc + 1 = pc') (G : own_Go p e below s Q K N (T.setTop (mkF m pc' Ls (v :: rest)))) : own_Go p e below s Q K N (T.setTop (mkF m pc Ls (.int j :: .ref a :: rest))) := by
  subst hp eT
  exact own_step (X.aaload hx (j := j) (v := v) A.1 (State.isArrayOf_alike hZ.alike A.2.1) hty A.2.2 hj hv (g := mkF m pc Ls (.int j :: .ref a :: rest)) rfl rfl hd) G
theorem own_arraylength (X : Stand p l e R s m args below meth c T locs cells slots) (hx : p.tables.exec = Jvm.exec) {Z : State} {h : Heap} (hZ : Z.Warmed39 s.vm) (eT : T.heap = h) {a : Addr} {cl : Cell} {ty : FieldType} (A : Arr Z h a cl ty) {z : Int32} (hz : cl.slots.size = z.toNatClampNeg) (h0 : ¬ z < 0) {pc : Nat} (pc' : Nat) {Ls : Array Slot} {rest : List Value} (hd : decode c.code pc = .ok (.arraylength, 1)) (hp : pc + 1 = pc') (G : own_Go p e below s Q K N (T.setTop (mkF m pc' Ls (.int z :: rest)))) : own_Go p e below s Q K N (T.setTop (mkF m pc Ls (.ref a :: rest))) := by
  subst hp eT
  refine own_step (X.arraylength hx A.1 (State.isArrayOf_alike hZ.alike A.2.1) (g := mkF m pc Ls (.ref a :: rest)) rfl rfl hd) ?_
  rw [len_of hz h0]
  exact G
theorem own_initO (X : Stand p l e R s m args below meth c T locs cells slots) (hx : p.tables.exec = Jvm.exec) {Z : State} {a0 : Array Value} {h : Heap} (hZ : Z.Warmed39 s.vm) {own : String} (hown : s.vm.findClass own = some m.cls) {idx : Nat} (w1 : (Jvm.Cond.methodLink own idx Lib.objectInit).before a0 Z = true) (w2 : (Jvm.Cond.instanceMethod Lib.objectInit).before a0 Z = true) (w3 : (Jvm.Cond.code Lib.objectInit ⟨#[0xb1]⟩ 1 none).before a0 Z = true) (eT : T.heap = h) {a : Addr} {pc : Nat} (pc' : Nat) {Ls : Array Slot} {rest : List Value} (hsize : Ls.size = c.maxLocals) (hd : decode c.code pc = .ok (.invokespecial idx, 3)) (hp : pc + 3 = pc') (hf : 1 ≤ R.frames) (W : Nat) (hW : (rest.map fun v => v.category).sum = W) (hl : W + 12 ≤ R.locals) (k : ∀ T', Stand p l e R s m args below meth c T' locs cells slots → T'.heap = h → own_Go p e below s Q K N (T'.setTop (mkF m pc' Ls rest))) : own_Go p e below s Q K N (T.setTop (mkF m pc Ls (.ref a :: rest))) := by
  subst hp
  obtain ⟨T', X', e', st⟩ := initO X hx hZ hown w1 w2 w3 eT (g := mkF m pc Ls (.ref a :: rest)) rfl hsize rfl hd hf (W := W) (by show 2 * 0 + _ ≤ _; omega) hl
  exact own_step st (k T' X' e')
theorem own_callS (X : Stand p l e R s m args below meth c T locs cells slots) (hx : p.tables.exec = Jvm.exec) {Z : State} {a0 : Array Value} {h : Heap} (hZ : Z.Warmed39 s.vm) {own : String} (hown : s.vm.findClass own = some m.cls) {index : Nat} {y : MethodName} {bytes : ByteArray} {maxL : Nat} {ret : Option FieldType} {rm : Room} {as' : Array Value} {Q' : Option Value → Heap → List Loc → Prop} (w1 : (Jvm.Cond.methodLink own index y).before a0 Z = true) (w2 : (Jvm.Cond.static y).before a0 Z = true) (hy : y.cls ≠ "java/lang/invoke/MethodHandle" ∧ y.cls ≠ "java/lang/invoke/VarHandle") (hM : MetFree l y (head1 [Jvm.Cond.code y bytes maxL ret] rm) (fun a U => a = as' ∧ Z.Warmed39 U.vm ∧ U.heap = h) (fun _ _ _ _ _ => True) (fun _ U o U' => ∃ v L, o = .returned v ∧ Q' v U'.heap L ∧ FrameEnd U o U' L rm.cells rm.slots)) (wc : (Jvm.Cond.code y bytes maxL ret).before a0 Z = true) (wz : (Jvm.Cond.initialized y.cls).before a0 Z = true) (eT : T.heap = h) (W : Nat) (hf : rm.frames + 1 ≤ R.frames) (hl : W + (maxL + 11) + rm.locals ≤ R.locals) (hc : cells + rm.cells ≤ R.cells) (hs : slots + rm.slots ≤ R.slots) (argsL rest : List Value) (has : argsL.toArray = as') {ps : List FieldType} {rr : Option FieldType} (hpd : parseMethodDescriptor y.desc = some ⟨ps, rr⟩) (hlen : argsL.length = ps.length) {pc : Nat} (pc' : Nat) {Ls : Array Slot} {stk : List Value} (hstk : stk = argsL.reverse ++ rest) (hsize : Ls.size = c.maxLocals) (hW : (rest.map fun v => v.category).sum = W) (hd : decode c.code pc = .ok (.invokestatic index, 3)) (hp : pc + 3 = pc') (k : ∀ T' v L, Stand p l e R s m args below meth c T' (locs ++ L) (cells + rm.cells) (slots + rm.slots) → Q' v T'.heap L → own_Go p e below s Q K N (T'.setTop (mkF m pc' Ls (v.toList ++ rest)))) : own_Go p e below s Q K N (T.setTop (mkF m pc Ls stk)) := by
  subst hp hstk
  obtain ⟨v', _, ⟨T', L', k', n'⟩, -, X', ⟨Lc', hQ', l', y', z'⟩, st'⟩ := Jvm.LawKit.callS X hx (y := y) hown (mvT hZ w1) (mvT hZ w2) (mvT hZ wz) (mvT hZ wc) hy (backOf (W := W) hM hZ wc wz hf hl) (g := mkF m pc Ls (argsL.reverse ++ rest)) rfl hsize (argsL := argsL) (rest := rest) (lenOf hpd hlen) rfl (by show 2 * 0 + _ ≤ _; omega) hd (fun _ _ => ⟨has, eT, hc, hs⟩)
  dsimp only [Pt.U, Pt.locs, Pt.cells, Pt.slots] at X' l' y' z' st' hQ'
  subst l' y' z'
  exact own_step (fun t kk => st' _ kk) (k T' v' _ X' hQ')
theorem own_callI (X : Stand p l e R s m args below meth c T locs cells slots) (hx : p.tables.exec = Jvm.exec) {Z : State} {a0 : Array Value} {h : Heap} (hZ : Z.Warmed39 s.vm) {own : String} (hown : s.vm.findClass own = some m.cls) {index : Nat} {y : MethodName} {bytes : ByteArray} {maxL : Nat} {rm : Room} {as' : Array Value} {Q' : Option Value → Heap → List Loc → Prop} (hy1 : y.name = "<init>") (w1 : (Jvm.Cond.methodLink own index y).before a0 Z = true) (w2 : (Jvm.Cond.instanceMethod y).before a0 Z = true) (hy : y.cls ≠ "java/lang/invoke/MethodHandle" ∧ y.cls ≠ "java/lang/invoke/VarHandle") (hM : MetFree l y (head1 [Jvm.Cond.code y bytes maxL none] rm) (fun a U => a = as' ∧ Z.Warmed39 U.vm ∧ U.heap = h) (fun _ _ _ _ _ => True) (fun _ U o U' => ∃ v L, o = .returned v ∧ Q' v U'.heap L ∧ FrameEnd U o U' L rm.cells rm.slots)) (wc : (Jvm.Cond.code y bytes maxL none).before a0 Z = true) (wz : (Jvm.Cond.initialized y.cls).before a0 Z = true) (eT : T.heap = h) (W : Nat) (hf : rm.frames + 1 ≤ R.frames) (hl : W + (maxL + 11) + rm.locals ≤ R.locals) (hc : cells + rm.cells ≤ R.cells) (hs : slots + rm.slots ≤ R.slots) (a : Addr) (argsL rest : List Value) (has : (.ref a :: argsL).toArray = as') {ps : List FieldType} {rr : Option FieldType} (hpd : parseMethodDescriptor y.desc = some ⟨ps, rr⟩) (hlen : argsL.length = ps.length) {pc : Nat} (pc' : Nat) {Ls : Array Slot} {stk : List Value} (hstk : stk = argsL.reverse ++ .ref a :: rest) (hsize : Ls.size = c.maxLocals) (hW : (rest.map fun v => v.category).sum = W) (hd : decode c.code pc = .ok (.invokespecial index, 3)) (hp : pc + 3 = pc') (k : ∀ T' v L, Stand p l e R s m args below meth c T' (locs ++ L) (cells + rm.cells) (slots + rm.slots) → Q' v T'.heap L → own_Go p e below s Q K N (T'.setTop (mkF m pc' Ls (v.toList ++ rest)))) : own_Go p e below s Q K N (T.setTop (mkF m pc Ls stk)) := by
  subst hp hstk
  obtain ⟨v', _, ⟨T', L', k', n'⟩, -, X', ⟨Lc', hQ', l', y', z'⟩, st'⟩ := X.specialBack hx (y := y) hy1 hown (mvT hZ w1) (mvT hZ w2) (mvT hZ wc) hy (backOf (W := W) hM hZ wc wz hf hl) (g := mkF m pc Ls (argsL.reverse ++ .ref a :: rest)) rfl hsize (Steps.refl _) (a := a) (argsL := argsL) (rest := rest) (lenOf hpd hlen) rfl (by show 2 * 0 + _ ≤ _; omega) hd (fun _ _ => ⟨has, eT, hc, hs⟩)
  dsimp only [Pt.U, Pt.locs, Pt.cells, Pt.slots] at X' l' y' z' st' hQ'
  subst l' y' z'
  exact own_step (fun t kk => st'.trans kk) (k T' v' _ X' hQ')
theorem own_callV (X : Stand p l e R s m args below meth c T locs cells slots) (hx : p.tables.exec = Jvm.exec) {Z : State} {a0 : Array Value} {h : Heap} (hZ : Z.Warmed39 s.vm) {own : String} (hown : s.vm.findClass own = some m.cls) {C : String} {index : Nat} {y z : MethodName} {bytes : ByteArray} {maxL : Nat} {ret : Option FieldType} {rm : Room} {as' : Array Value} {Q' : Option Value → Heap → List Loc → Prop} (w1 : (Jvm.Cond.methodLink own index y).before a0 Z = true) (w2 : (Jvm.Cond.declares y).before a0 Z = true) (hnf : NotFace s y) (w3 : (Jvm.Cond.selects C y z).before a0 Z = true) (w4 : (Jvm.Cond.instanceMethod z).before a0 Z = true) (hy : y.cls ≠ "java/lang/invoke/MethodHandle" ∧ y.cls ≠ "java/lang/invoke/VarHandle") (hM : MetFree l z (head1 [Jvm.Cond.code z bytes maxL ret] rm) (fun a U => a = as' ∧ Z.Warmed39 U.vm ∧ U.heap = h) (fun _ _ _ _ _ => True) (fun _ U o U' => ∃ v L, o = .returned v ∧ Q' v U'.heap L ∧ FrameEnd U o U' L rm.cells rm.slots)) (wc : (Jvm.Cond.code z bytes maxL ret).before a0 Z = true) (wz : (Jvm.Cond.initialized z.cls).before a0 Z = true) (eT : T.heap = h) (W : Nat) (hf : rm.frames + 1 ≤ R.frames) (hl : W + (maxL + 11) + rm.locals ≤ R.locals) (hc : cells + rm.cells ≤ R.cells) (hs : slots + rm.slots ≤ R.slots) {a : Addr} (E : Exa Z h a C) (argsL rest : List Value) (has : (.ref a :: argsL).toArray = as') {ps : List FieldType} {rr : Option FieldType} (hpd : parseMethodDescriptor y.desc = some ⟨ps, rr⟩) (hlen : argsL.length = ps.length) {pc : Nat} (pc' : Nat) {Ls : Array Slot} {stk : List Value} (hstk : stk = argsL.reverse ++ .ref a :: rest) (hsize : Ls.size = c.maxLocals) (hW : (rest.map fun v => v.category).sum = W) (hd : decode c.code pc = .ok (.invokevirtual index, 3)) (hp : pc + 3 = pc') (k : ∀ T' v L, Stand p l e R s m args below meth c T' (locs ++ L) (cells + rm.cells) (slots + rm.slots) → Q' v T'.heap L → own_Go p e below s Q K N (T'.setTop (mkF m pc' Ls (v.toList ++ rest)))) : own_Go p e below s Q K N (T.setTop (mkF m pc Ls stk)) := by
  subst hp hstk
  obtain ⟨cq, kq, qa, qb, qc⟩ := isOf hZ eT E
  obtain ⟨v', _, ⟨T', L', k', n'⟩, -, X', ⟨Lc', hQ', l', y', z'⟩, st'⟩ := X.virtualBack hx (y := y) (z := z) hown (mvT hZ w1) (mvT hZ w2) hnf (mvT hZ w3) (mvT hZ w4) hy (backOf (W := W) hM hZ wc wz hf hl) qa qc (g := mkF m pc Ls (argsL.reverse ++ .ref a :: rest)) rfl hsize (Steps.refl _) (argsL := argsL) (rest := rest) (lenOf hpd hlen) rfl (by show 2 * 0 + _ ≤ _; omega) hd (fun _ _ => ⟨has, eT, hc, hs⟩)
  dsimp only [Pt.U, Pt.locs, Pt.cells, Pt.slots] at X' l' y' z' st' hQ'
  subst l' y' z'
  exact own_step (fun t kk => st'.trans kk) (k T' v' _ X' hQ')
theorem own_callU (X : Stand p l e R s m args below meth c T locs cells slots) (hx : p.tables.exec = Jvm.exec) {Z : State} {a0 : Array Value} {h : Heap} (hZ : Z.Warmed39 s.vm) {own : String} (hown : s.vm.findClass own = some m.cls) {C owner : String} {index : Nat} {y z : MethodName} {bytes : ByteArray} {maxL : Nat} {ret : Option FieldType} {rm : Room} {as' : Array Value} {Q' : Option Value → Heap → List Loc → Prop} (w1 : (Jvm.Cond.methodLink own index y).before a0 Z = true) (w5 : (Jvm.Cond.sameMethod y.cls owner y.name y.desc).before a0 Z = true) (w2 : (Jvm.Cond.declares ⟨owner, y.name, y.desc⟩).before a0 Z = true) (ho : owner ≠ "java/lang/invoke/MethodHandle" ∧ owner ≠ "java/lang/invoke/VarHandle") (w3 : (Jvm.Cond.selects C y z).before a0 Z = true) (w4 : (Jvm.Cond.instanceMethod z).before a0 Z = true) (hM : MetFree l z (head1 [Jvm.Cond.code z bytes maxL ret] rm) (fun a U => a = as' ∧ Z.Warmed39 U.vm ∧ U.heap = h) (fun _ _ _ _ _ => True) (fun _ U o U' => ∃ v L, o = .returned v ∧ Q' v U'.heap L ∧ FrameEnd U o U' L rm.cells rm.slots)) (wc : (Jvm.Cond.code z bytes maxL ret).before a0 Z = true) (wz : (Jvm.Cond.initialized z.cls).before a0 Z = true) (eT : T.heap = h) (W : Nat) (hf : rm.frames + 1 ≤ R.frames) (hl : W + (maxL + 11) + rm.locals ≤ R.locals) (hc : cells + rm.cells ≤ R.cells) (hs : slots + rm.slots ≤ R.slots) {a : Addr} (E : Exa Z h a C) (argsL rest : List Value) (has : (.ref a :: argsL).toArray = as') {ps : List FieldType} {rr : Option FieldType} (hpd : parseMethodDescriptor y.desc = some ⟨ps, rr⟩) (hlen : argsL.length = ps.length) {pc : Nat} (pc' : Nat) {Ls : Array Slot} {stk : List Value} (hstk : stk = argsL.reverse ++ .ref a :: rest) (hsize : Ls.size = c.maxLocals) (hW : (rest.map fun v => v.category).sum = W) (hd : decode c.code pc = .ok (.invokevirtual index, 3)) (hp : pc + 3 = pc') (k : ∀ T' v L, Stand p l e R s m args below meth c T' (locs ++ L) (cells + rm.cells) (slots + rm.slots) → Q' v T'.heap L → own_Go p e below s Q K N (T'.setTop (mkF m pc' Ls (v.toList ++ rest)))) : own_Go p e below s Q K N (T.setTop (mkF m pc Ls stk)) := by
  subst hp hstk
  obtain ⟨cq, kq, qa, qb, qc⟩ := isOf hZ eT E
  obtain ⟨v', _, ⟨T', L', k', n'⟩, -, X', ⟨Lc', hQ', l', y', z'⟩, st'⟩ := X.virtualBackUp hx (owner := owner) (x := y) (y := z) hown (mvT hZ w1) (mvT hZ w5) (mvT hZ w2) ho (mvT hZ w3) (mvT hZ w4) (backOf (W := W) hM hZ wc wz hf hl) qa qc (g := mkF m pc Ls (argsL.reverse ++ .ref a :: rest)) rfl hsize (Steps.refl _) (argsL := argsL) (rest := rest) (lenOf hpd hlen) rfl (by show 2 * 0 + _ ≤ _; omega) hd (fun _ _ => ⟨has, eT, hc, hs⟩)
  dsimp only [Pt.U, Pt.locs, Pt.cells, Pt.slots] at X' l' y' z' st' hQ'
  subst l' y' z'
  exact own_step (fun t kk => st'.trans kk) (k T' v' _ X' hQ')
theorem own_nf {C : String} {y : MethodName} {Z : State} {a0 : Array Value} (hZ : Z.Warmed39 s.vm) (w : (Jvm.Cond.selects C y y).before a0 Z = true) : NotFace s y := notFace_of_selects (args := #[]) (mvT hZ w)
theorem own_selfsel {K : String} {y y' : MethodName} (w : (Jvm.Cond.selects K y' y').before args s = true) (hK : y'.cls = y.cls) (hp : s.PrivateAt y) (hi : (Jvm.Cond.instanceMethod y).before args s = true) (hy : y.cls ≠ "java/lang/invoke/MethodHandle" ∧ y.cls ≠ "java/lang/invoke/VarHandle") : (Jvm.Cond.selects y.cls y y).before args s = true := by
  obtain ⟨c2, r2, m2, -, -, q3, -, kP, hkP, hkPi⟩ := Cond.selects_spec w
  exact selects_self_of_private (by rw [← hK]; exact findClass_of_methodNamed q3) hkP hkPi hp hi hy
theorem own_callP (X : Stand p l e R s m args below meth c T locs cells slots) (hx : p.tables.exec = Jvm.exec) {Z : State} {a0 : Array Value} {h : Heap} (hZ : Z.Warmed39 s.vm) {own : String} (hown : s.vm.findClass own = some m.cls) {C K' : String} {index : Nat} {y y' : MethodName} {bytes : ByteArray} {maxL : Nat} {ret : Option FieldType} {rm : Room} {as' : Array Value} {Q' : Option Value → Heap → List Loc → Prop} (w1 : (Jvm.Cond.methodLink own index y).before a0 Z = true) (w2 : (Jvm.Cond.instanceMethod y).before a0 Z = true) (w3 : (Jvm.Cond.selects K' y' y').before a0 Z = true) (hK : y'.cls = y.cls) (w4 : (Jvm.Cond.privateMethod y).before a0 Z = true) (hy : y.cls ≠ "java/lang/invoke/MethodHandle" ∧ y.cls ≠ "java/lang/invoke/VarHandle") (hM : MetFree l y (head1 [Jvm.Cond.code y bytes maxL ret] rm) (fun a U => a = as' ∧ Z.Warmed39 U.vm ∧ U.heap = h) (fun _ _ _ _ _ => True) (fun _ U o U' => ∃ v L, o = .returned v ∧ Q' v U'.heap L ∧ FrameEnd U o U' L rm.cells rm.slots)) (wc : (Jvm.Cond.code y bytes maxL ret).before a0 Z = true) (wz : (Jvm.Cond.initialized y.cls).before a0 Z = true) (eT : T.heap = h) (W : Nat) (hf : rm.frames + 1 ≤ R.frames) (hl : W + (maxL + 11) + rm.locals ≤ R.locals) (hc : cells + rm.cells ≤ R.cells) (hs : slots + rm.slots ≤ R.slots) {a : Addr} (E : Exa Z h a C) (argsL rest : List Value) (has : (.ref a :: argsL).toArray = as') {ps : List FieldType} {rr : Option FieldType} (hpd : parseMethodDescriptor y.desc = some ⟨ps, rr⟩) (hlen : argsL.length = ps.length) {pc : Nat} (pc' : Nat) {Ls : Array Slot} {stk : List Value} (hstk : stk = argsL.reverse ++ .ref a :: rest) (hsize : Ls.size = c.maxLocals) (hW : (rest.map fun v => v.category).sum = W) (hd : decode c.code pc = .ok (.invokevirtual index, 3)) (hp : pc + 3 = pc') (k : ∀ T' v L, Stand p l e R s m args below meth c T' (locs ++ L) (cells + rm.cells) (slots + rm.slots) → Q' v T'.heap L → own_Go p e below s Q K N (T'.setTop (mkF m pc' Ls (v.toList ++ rest)))) : own_Go p e below s Q K N (T.setTop (mkF m pc Ls stk)) := by
  subst hp hstk
  obtain ⟨cq, qa, qb⟩ := E.cell
  have hpr := Cond.privateMethod_at (mvP hZ w4 (args := args))
  obtain ⟨v', _, ⟨T', L', k', n'⟩, -, X', ⟨Lc', hQ', l', y', z'⟩, st'⟩ := X.privateBack hx (y := y) hown (mvT hZ w1) (mvT hZ w2) (own_selfsel (mvT hZ w3) hK hpr (mvT hZ w2) hy) hpr (mvT hZ wc) hy (backOf (W := W) hM hZ wc wz hf hl) (g := mkF m pc Ls (argsL.reverse ++ .ref a :: rest)) rfl hsize (Steps.refl _) (a := a) (by rw [eT]; exact qa) qb (argsL := argsL) (rest := rest) (lenOf hpd hlen) rfl (by show 2 * 0 + _ ≤ _; omega) hd (fun _ _ => ⟨has, eT, hc, hs⟩)
  dsimp only [Pt.U, Pt.locs, Pt.cells, Pt.slots] at X' l' y' z' st' hQ'
  subst l' y' z'
  exact own_step (fun t kk => st'.trans kk) (k T' v' _ X' hQ')
theorem own_cpA (X : Stand p l e R s m args below meth c T locs cells slots) (hx : p.tables.exec = Jvm.exec) {Z : State} {a0 : Array Value} {h : Heap} (hZ : Z.Warmed39 s.vm) {own : String} (hown : s.vm.findClass own = some m.cls) {index : Nat} (w1 : (Jvm.Cond.methodLink own index Jvm.Stand.acN).before a0 Z = true) (w2 : (Jvm.Cond.native Jvm.Stand.acN).before a0 Z = true) (w3 : (Jvm.Cond.static Jvm.Stand.acN).before a0 Z = true) (w4 : (Jvm.Cond.initialized "java/lang/System").before a0 Z = true) (eT : T.heap = h)
    {a b : Addr} {k k' : ClassId} {ty ty' : FieldType} {z z' sp dp nn : Int32} {vs vd : List Value} {dv dd : Value} (us : List Value) (A : Arv Z h a k ty z vs dv) (B : Arv Z h b k' ty' z' vd dd) (hty : (ty = ty' ∧ refKind ty = false) ∨ (refKind ty = true ∧ refKind ty' = true ∧ StoL Z h b us))
    (h1 : ¬ sp < 0) (h2 : ¬ dp < 0) (h3 : ¬ nn < 0) (h4 : sp.toNatClampNeg + nn.toNatClampNeg ≤ z.toNatClampNeg) (h5 : dp.toNatClampNeg + nn.toNatClampNeg ≤ z'.toNatClampNeg) (hus : us = (List.range nn.toNatClampNeg).map fun i => vs.getD (sp.toNatClampNeg + i) dv) (hl : dp.toNatClampNeg + nn.toNatClampNeg ≤ vd.length) {n0 : Nat} (Nf : Fr n0 locs) (ge : n0 ≤ b)
    {pc : Nat} (pc' : Nat) {Ls : Array Slot} {rest : List Value} (hsize : Ls.size = c.maxLocals) (hd : decode c.code pc = .ok (.invokestatic index, 3)) (hp : pc + 3 = pc') (hf : 1 ≤ R.frames) (W : Nat) (hW : (rest.map fun v => v.category).sum = W) (hlo : W + (nativeFrameWords "java/lang/System" "arraycopy" 5 + 11) ≤ R.locals)
    (kk : ∀ T' h' L, Stand p l e R s m args below meth c T' L cells slots → T'.heap = h' → Fr n0 L → Keep h h' [b] → Arv Z h' b k' ty' z' (vd.take dp.toNatClampNeg ++ us ++ vd.drop (dp.toNatClampNeg + nn.toNatClampNeg)) dd → own_Go p e below s Q K N (T'.setTop (mkF m pc' Ls rest))) : own_Go p e below s Q K N (T.setTop (mkF m pc Ls (.int nn :: .int dp :: .ref b :: .int sp :: .ref a :: rest))) := by
  subst hp
  obtain ⟨T', h', L', X', e', N', K', B', st⟩ := cpA X hx hZ hown w1 w2 w3 w4 eT A B hty h1 h2 h3 h4 h5 hus hl Nf ge (g := mkF m pc Ls (.int nn :: .int dp :: .ref b :: .int sp :: .ref a :: rest)) rfl hsize rfl hd hf (W := W) (by show 2 * 0 + _ ≤ _; omega) hlo
  exact own_step st (kk T' h' L' X' e' N' K' B')
theorem own_plainE {Z : State} {h : Heap} {a : Addr} {C : String} (E : Exa Z h a C) : ∀ cell : Cell, h[a]? = some cell → cell.vm.isStatics = false := fun cell hc => by
  obtain ⟨c', k', h1, -, -, h2, -⟩ := E
  cases h1.symm.trans hc; exact h2
theorem own_plainA {Z : State} {h : Heap} {a : Addr} {k : ClassId} {ty : FieldType} {z : Int32} {vs : List Value} {dv : Value} (V : Arv Z h a k ty z vs dv) : ∀ cell : Cell, h[a]? = some cell → cell.vm.isStatics = false := fun cell hc => by
  obtain ⟨c', A, -⟩ := V
  cases A.1.symm.trans hc; exact A.plain
theorem own_castY (X : Stand p l e R s m args below meth c T locs cells slots) (hx : p.tables.exec = Jvm.exec) {Z : State} {a0 : Array Value} {h : Heap} (hZ : Z.Warmed39 s.vm) {own : String} (hown : s.vm.findClass own = some m.cls) {K' : String} {index : Nat} (w : (Jvm.Cond.classLink own index K').before a0 Z = true) (eT : T.heap = h) {a : Addr} (F : Ins Z h a K' true) {pc : Nat} (pc' : Nat) {Ls : Array Slot} {rest : List Value} (hd : decode c.code pc = .ok (.checkcast index, 3)) (hp : pc + 3 = pc') (k : ∀ T', Stand p l e R s m args below meth c T' locs cells slots → T'.heap = h → own_Go p e below s Q K N (T'.setTop (mkF m pc' Ls (.ref a :: rest)))) : own_Go p e below s Q K N (T.setTop (mkF m pc Ls (.ref a :: rest))) := by
  subst hp
  obtain ⟨T', X', e', st⟩ := castY X hx hZ hown w eT F (g := mkF m pc Ls (.ref a :: rest)) rfl rfl hd
  exact own_step st (k T' X' e')
theorem own_instY (X : Stand p l e R s m args below meth c T locs cells slots) (hx : p.tables.exec = Jvm.exec) {Z : State} {a0 : Array Value} {h : Heap} (hZ : Z.Warmed39 s.vm) {own : String} (hown : s.vm.findClass own = some m.cls) {K' : String} {index : Nat} (w : (Jvm.Cond.classLink own index K').before a0 Z = true) (eT : T.heap = h) {a : Addr} (F : Ins Z h a K' true) {pc : Nat} (pc' : Nat) {Ls : Array Slot} {rest : List Value} (hd : decode c.code pc = .ok (.instanceof index, 3)) (hp : pc + 3 = pc') (k : ∀ T', Stand p l e R s m args below meth c T' locs cells slots → T'.heap = h → own_Go p e below s Q K N (T'.setTop (mkF m pc' Ls (.int 1 :: rest)))) : own_Go p e below s Q K N (T.setTop (mkF m pc Ls (.ref a :: rest))) := by
  subst hp
  obtain ⟨T', X', e', st⟩ := instY X hx hZ hown w eT F (g := mkF m pc Ls (.ref a :: rest)) rfl rfl hd
  exact own_step st (k T' X' e')
theorem own_instNo (X : Stand p l e R s m args below meth c T locs cells slots) (hx : p.tables.exec = Jvm.exec) {Z : State} {a0 : Array Value} {h : Heap} (hZ : Z.Warmed39 s.vm) {own : String} (hown : s.vm.findClass own = some m.cls) {K' : String} {index : Nat} (w : (Jvm.Cond.classLink own index K').before a0 Z = true) (eT : T.heap = h) {a : Addr} {C : String} (E : Exa Z h a C) (F : ∃ c t, Z.vm.findClass C = some c ∧ Z.vm.findClass K' = some t ∧ Z.vm.assignable c t = false) {pc : Nat} (pc' : Nat) {Ls : Array Slot} {rest : List Value} (hd : decode c.code pc = .ok (.instanceof index, 3)) (hp : pc + 3 = pc') (k : ∀ T', Stand p l e R s m args below meth c T' locs cells slots → T'.heap = h → own_Go p e below s Q K N (T'.setTop (mkF m pc' Ls (.int 0 :: rest)))) : own_Go p e below s Q K N (T.setTop (mkF m pc Ls (.ref a :: rest))) := by
  subst hp
  obtain ⟨T', X', e', st⟩ := instNo X hx hZ hown w eT E F (g := mkF m pc Ls (.ref a :: rest)) rfl rfl hd
  exact own_step st (k T' X' e')
theorem own_instNull (X : Stand p l e R s m args below meth c T locs cells slots) (hx : p.tables.exec = Jvm.exec) {index : Nat} {pc : Nat} (pc' : Nat) {Ls : Array Slot} {rest : List Value} (hd : decode c.code pc = .ok (.instanceof index, 3)) (hp : pc + 3 = pc') (G : own_Go p e below s Q K N (T.setTop (mkF m pc' Ls (.int 0 :: rest)))) : own_Go p e below s Q K N (T.setTop (mkF m pc Ls (.null :: rest))) := by
  subst hp
  exact own_step (X.instanceofNull hx (g := mkF m pc Ls (.null :: rest)) rfl rfl hd) G
theorem g_dload_n (X : Stand p l e R s m args below meth c T locs cells slots) (hx : p.tables.exec = Jvm.exec) {pc : Nat} (pc' : Nat) {Ls : Array Slot} {k : Fin 4} {v : UInt64} {st : List Value} (hd : decode c.code pc = .ok (.dload_n k, 1)) (hl : Ls[k.val]? = some (.val (.double v))) (hp : pc + 1 = pc') (G : own_Go p e below s Q K N (T.setTop (mkF m pc' Ls (.double v :: st)))) : own_Go p e below s Q K N (T.setTop (mkF m pc Ls (st))) := by
  subst hp; exact own_step (fun _ k => XS.dloadN X.here hx rfl hd hl k) G
theorem g_dload (X : Stand p l e R s m args below meth c T locs cells slots) (hx : p.tables.exec = Jvm.exec) {pc : Nat} (pc' : Nat) {Ls : Array Slot} {k : Nat} {v : UInt64} {st : List Value} (hd : decode c.code pc = .ok (.dload k, 2)) (hl : Ls[k]? = some (.val (.double v))) (hp : pc + 2 = pc') (G : own_Go p e below s Q K N (T.setTop (mkF m pc' Ls (.double v :: st)))) : own_Go p e below s Q K N (T.setTop (mkF m pc Ls (st))) := by
  subst hp; exact own_step (fun _ k => XS.dload X.here hx rfl hd hl k) G
theorem g_dstore_n (X : Stand p l e R s m args below meth c T locs cells slots) (hx : p.tables.exec = Jvm.exec) {pc : Nat} (pc' : Nat) {Ls : Array Slot} {k : Fin 4} {v : UInt64} {st : List Value} {l' : Array Slot} (hd : decode c.code pc = .ok (.dstore_n k, 1)) (hl : storeLocals Ls k.val (.double v) = some l') (hp : pc + 1 = pc') (G : own_Go p e below s Q K N (T.setTop (mkF m pc' l' (st)))) : own_Go p e below s Q K N (T.setTop (mkF m pc Ls (.double v :: st))) := by
  subst hp; exact own_step (fun _ k => XS.dstoreN X.here hx rfl hd rfl hl k) G
theorem g_dstore (X : Stand p l e R s m args below meth c T locs cells slots) (hx : p.tables.exec = Jvm.exec) {pc : Nat} (pc' : Nat) {Ls : Array Slot} {k : Nat} {v : UInt64} {st : List Value} {l' : Array Slot} (hd : decode c.code pc = .ok (.dstore k, 2)) (hl : storeLocals Ls k (.double v) = some l') (hp : pc + 2 = pc') (G : own_Go p e below s Q K N (T.setTop (mkF m pc' l' (st)))) : own_Go p e below s Q K N (T.setTop (mkF m pc Ls (.double v :: st))) := by
  subst hp; exact own_step (fun _ k => XS.dstore X.here hx rfl hd rfl hl k) G
theorem g_l2d (X : Stand p l e R s m args below meth c T locs cells slots) (hx : p.tables.exec = Jvm.exec) {pc : Nat} (pc' : Nat) {Ls : Array Slot} {x : Int64} {st : List Value} (hd : decode c.code pc = .ok (.l2d, 1))  (hp : pc + 1 = pc') (G : own_Go p e below s Q K N (T.setTop (mkF m pc' Ls (.double (FP.l2d x) :: st)))) : own_Go p e below s Q K N (T.setTop (mkF m pc Ls (.long x :: st))) := by
  subst hp; exact own_step (fun _ k => XS.l2dS X.here hx rfl hd rfl rfl k) G
theorem g_i2d (X : Stand p l e R s m args below meth c T locs cells slots) (hx : p.tables.exec = Jvm.exec) {pc : Nat} (pc' : Nat) {Ls : Array Slot} {x : Int32} {st : List Value} (hd : decode c.code pc = .ok (.i2d, 1))  (hp : pc + 1 = pc') (G : own_Go p e below s Q K N (T.setTop (mkF m pc' Ls (.double (FP.i2d x) :: st)))) : own_Go p e below s Q K N (T.setTop (mkF m pc Ls (.int x :: st))) := by
  subst hp; exact own_step (fun _ k => XS.i2dS X.here hx rfl hd rfl rfl k) G
theorem g_dadd (X : Stand p l e R s m args below meth c T locs cells slots) (hx : p.tables.exec = Jvm.exec) {pc : Nat} (pc' : Nat) {Ls : Array Slot} {x y : UInt64} {st : List Value} (hd : decode c.code pc = .ok (.dadd, 1)) (hn : Jvm.Free.Fl.NoNaN64 (FP.dadd x y)) (hp : pc + 1 = pc') (G : own_Go p e below s Q K N (T.setTop (mkF m pc' Ls (.double (FP.dadd x y) :: st)))) : own_Go p e below s Q K N (T.setTop (mkF m pc Ls (.double y :: .double x :: st))) := by
  subst hp; exact own_step (fun _ k => XS.daddS X.here hx rfl hd rfl hn rfl k) G
theorem g_dsub (X : Stand p l e R s m args below meth c T locs cells slots) (hx : p.tables.exec = Jvm.exec) {pc : Nat} (pc' : Nat) {Ls : Array Slot} {x y : UInt64} {st : List Value} (hd : decode c.code pc = .ok (.dsub, 1)) (hn : Jvm.Free.Fl.NoNaN64 (FP.dsub x y)) (hp : pc + 1 = pc') (G : own_Go p e below s Q K N (T.setTop (mkF m pc' Ls (.double (FP.dsub x y) :: st)))) : own_Go p e below s Q K N (T.setTop (mkF m pc Ls (.double y :: .double x :: st))) := by
  subst hp; exact own_step (fun _ k => XS.dsubS X.here hx rfl hd rfl hn rfl k) G
theorem g_dmul (X : Stand p l e R s m args below meth c T locs cells slots) (hx : p.tables.exec = Jvm.exec) {pc : Nat} (pc' : Nat) {Ls : Array Slot} {x y : UInt64} {st : List Value} (hd : decode c.code pc = .ok (.dmul, 1)) (hn : Jvm.Free.Fl.NoNaN64 (FP.dmul x y)) (hp : pc + 1 = pc') (G : own_Go p e below s Q K N (T.setTop (mkF m pc' Ls (.double (FP.dmul x y) :: st)))) : own_Go p e below s Q K N (T.setTop (mkF m pc Ls (.double y :: .double x :: st))) := by
  subst hp; exact own_step (fun _ k => XS.dmulS X.here hx rfl hd rfl hn rfl k) G
theorem g_ddiv (X : Stand p l e R s m args below meth c T locs cells slots) (hx : p.tables.exec = Jvm.exec) {pc : Nat} (pc' : Nat) {Ls : Array Slot} {x y : UInt64} {st : List Value} (hd : decode c.code pc = .ok (.ddiv, 1)) (hn : Jvm.Free.Fl.NoNaN64 (FP.ddiv x y)) (hp : pc + 1 = pc') (G : own_Go p e below s Q K N (T.setTop (mkF m pc' Ls (.double (FP.ddiv x y) :: st)))) : own_Go p e below s Q K N (T.setTop (mkF m pc Ls (.double y :: .double x :: st))) := by
  subst hp; exact own_step (fun _ k => XS.ddivS X.here hx rfl hd rfl hn rfl k) G
theorem g_dcmp (X : Stand p l e R s m args below meth c T locs cells slots) (hx : p.tables.exec = Jvm.exec) {pc : Nat} (pc' : Nat) {Ls : Array Slot} {o : CmpOp} {x y : UInt64} {st : List Value} (hd : decode c.code pc = .ok (.dcmp o, 1))  (hp : pc + 1 = pc') (G : own_Go p e below s Q K N (T.setTop (mkF m pc' Ls (.int (cmpValue (FP.dcmp x y) o) :: st)))) : own_Go p e below s Q K N (T.setTop (mkF m pc Ls (.double y :: .double x :: st))) := by
  subst hp; exact own_step (fun _ k => XS.dcmpS X.here hx rfl hd rfl rfl k) G
theorem g_dconst0 (X : Stand p l e R s m args below meth c T locs cells slots) (hx : p.tables.exec = Jvm.exec) {pc : Nat} (pc' : Nat) {Ls : Array Slot} {v : UInt64} {st : List Value} (hd : decode c.code pc = .ok (.dconst 0, 1)) (hv : FP.dconst0 = v) (hp : pc + 1 = pc') (G : own_Go p e below s Q K N (T.setTop (mkF m pc' Ls (.double v :: st)))) : own_Go p e below s Q K N (T.setTop (mkF m pc Ls (st))) := by
  subst hp; exact own_step (fun _ k => XS.dconst0 X.here hx rfl hd hv k) G
theorem g_dconst1 (X : Stand p l e R s m args below meth c T locs cells slots) (hx : p.tables.exec = Jvm.exec) {pc : Nat} (pc' : Nat) {Ls : Array Slot} {v : UInt64} {st : List Value} (hd : decode c.code pc = .ok (.dconst 1, 1)) (hv : FP.dconst1 = v) (hp : pc + 1 = pc') (G : own_Go p e below s Q K N (T.setTop (mkF m pc' Ls (.double v :: st)))) : own_Go p e below s Q K N (T.setTop (mkF m pc Ls (st))) := by
  subst hp; exact own_step (fun _ k => XS.dconst1 X.here hx rfl hd hv k) G
theorem g_ldc2_wD (X : Stand p l e R s m args below meth c T locs cells slots) (hx : p.tables.exec = Jvm.exec) {own : String} (hown : s.vm.findClass own = some m.cls) {pc : Nat} (pc' : Nat) {Ls : Array Slot} {i : Nat} {z : UInt64} {st : List Value} (hw : (Jvm.Cond.constantDouble own i z).before args s = true) (hd : decode c.code pc = .ok (.ldc2_w i, 3)) (hp : pc + 3 = pc') (G : own_Go p e below s Q K N (T.setTop (mkF m pc' Ls (.double z :: st)))) : own_Go p e below s Q K N (T.setTop (mkF m pc Ls st)) := by
  subst hp; exact own_step (fun _ k => X.ldc2DoubleC hx hown hw (g := mkF m pc Ls st) rfl hd _ k) G
theorem own_retD (X : Stand p l e R s m args below meth c T locs cells slots) (hx : p.tables.exec = Jvm.exec) (hlk : meth.locks = false) {pc : Nat} {Ls : Array Slot} {z : UInt64} {rest : List Value} (hret : meth.sig.returnType = some .double)
    (hd : decode c.code pc = .ok (.dreturn, 1)) (hq : Q (some (.double z)) T.heap locs) (hk : cells ≤ K) (hn : slots ≤ N) : own_Go p e below s Q K N (T.setTop (mkF m pc Ls (.double z :: rest))) :=
  own_end X (fun h => by rw [hret] at h; cases h) hlk hq hk hn fun fs hr => retOut X hx hret rfl (Or.inr (Or.inr (Or.inl ⟨rfl, rfl, _, rfl⟩))) hd hr
theorem own_irr (x : Int32) : ¬ x < x := by rw [Int32.lt_iff_toInt_lt]; omega
theorem own_fldV {Z : State} {h : Heap} {a : Addr} {C n d : String} {v w : Value} (F : Fld Z h a C n d v) (q : v = w) : Fld Z h a C n d w := q ▸ F
theorem own_arvL {Z : State} {h : Heap} {a : Addr} {k : ClassId} {ty : FieldType} {z : Int32} {vs ws : List Value} {dv : Value} (F : Arv Z h a k ty z vs dv) (q : ws = vs) : Arv Z h a k ty z ws dv := q ▸ F
end Own
section Math
open Jvm.FP.Core
theorem own_pows {A B c d : Nat} {q r : Int} (h1 : c * 2 ^ q.toNat = A * 2 ^ (-q).toNat) (h2 : d * 2 ^ r.toNat = B * 2 ^ (-r).toNat) :
    c * B * 2 ^ (q - r - 0).toNat = A * d * 2 ^ (0 - (q - r)).toNat := by
  have e : (-q).toNat + r.toNat + (q - r - 0).toNat = (0 - (q - r)).toNat + q.toNat + (-r).toNat := by omega
  apply Nat.eq_of_mul_eq_mul_right (Nat.mul_pos (Nat.two_pow_pos q.toNat) (Nat.two_pow_pos (-r).toNat))
  calc c * B * 2 ^ (q - r - 0).toNat * (2 ^ q.toNat * 2 ^ (-r).toNat) = (c * 2 ^ q.toNat) * (B * 2 ^ (-r).toNat) * 2 ^ (q - r - 0).toNat := by ac_rfl
    _ = (A * 2 ^ (-q).toNat) * (d * 2 ^ r.toNat) * 2 ^ (q - r - 0).toNat := by rw [h1, ← h2]
    _ = A * d * 2 ^ ((-q).toNat + r.toNat + (q - r - 0).toNat) := by rw [Nat.pow_add, Nat.pow_add]; ac_rfl
    _ = A * d * 2 ^ (0 - (q - r)).toNat * (2 ^ q.toNat * 2 ^ (-r).toNat) := by rw [e, Nat.pow_add, Nat.pow_add]; ac_rfl
/-- the datum times 2^k -/
def own_sh (k : Nat) : Datum → Datum
  | .fin s c q => .fin s c (q + k)
  | d => d
/-- x is worth n / 2^k -/
def own_Dy (n : Int) (k : Nat) (x : UInt64) : Prop := Whole n (own_sh k (val64 x))
theorem own_Dy.fin {n : Int} {k : Nat} {x : UInt64} (h : own_Dy n k x) : ∃ s c q, val64 x = .fin s c q ∧ Whole n (.fin s c (q + k)) := by
  unfold own_Dy at h
  cases e : val64 x with
  | nan => rw [e] at h; exact h.elim
  | inf s => rw [e] at h; exact h.elim
  | fin s c q => rw [e] at h; exact ⟨s, c, q, rfl, h⟩
theorem own_Dy.nn {n : Int} {k : Nat} {x : UInt64} (h : own_Dy n k x) : val64 x ≠ .nan := by
  obtain ⟨s, c, q, e, -⟩ := h.fin
  rw [e]; simp
theorem own_Dy.no {n : Int} {k : Nat} {x : UInt64} (h : own_Dy n k x) : Jvm.Free.Fl.NoNaN64 x := Jvm.Free.Fl.noNaN64_no.mpr ((notNaN_iff _).mpr h.nn)
theorem own_Dy.of_int {n : Int} {x : UInt64} (h : DInt n x) : own_Dy n 0 x := by
  unfold DInt at h
  unfold own_Dy
  cases e : val64 x with
  | nan => rw [e] at h; exact h
  | inf s => rw [e] at h; exact h
  | fin s c q => rw [e] at h; show Whole n (.fin s c (q + (0 : Nat))); rw [show q + ((0 : Nat) : Int) = q by omega]; exact h
theorem own_sh_sum (k : Nat) (x y : Datum) : own_sh k (exactSum x y) = exactSum (own_sh k x) (own_sh k y) := by
  cases x <;> cases y <;> try rfl
  · rename_i s t
    show own_sh k (if s = t then .inf s else .nan) = (if s = t then .inf s else .nan)
    split <;> rfl
  · rename_i s c q t d r
    have hm : min (q + (k : Int)) (r + k) = min q r + k := by omega
    have hu : ∀ (c : Nat) (q e : Int), inUnits c (q + k) (e + k) = inUnits c q e := fun c q e => by unfold inUnits; rw [show q + (k : Int) - (e + k) = q - e by omega]
    show Datum.fin _ _ _ = Datum.fin _ _ _
    rw [hm]
    unfold sumUnits
    rw [hu, hu]
theorem own_sh_prod (k l : Nat) {s t : Bool} {c d : Nat} {q r : Int} : own_sh (k + l) (exactProduct (.fin s c q) (.fin t d r)) = exactProduct (own_sh k (.fin s c q)) (own_sh l (.fin t d r)) := by
  show Datum.fin _ _ _ = Datum.fin _ _ _
  congr 1
  show q + r + ((k + l : Nat) : Int) = q + k + (r + l)
  omega
theorem own_sh_neg (k : Nat) (x : Datum) : own_sh k (negate x) = negate (own_sh k x) := by cases x <;> rfl
/-- a whole number of at most 53 bits over 2^k is a double -/
theorem own_fit (s : Bool) {n k : Nat} (hn : n ≤ 2 ^ 53) (hk : k ≤ 900) : ∃ c q, Jvm.FP.Core.fits b64 (.fin s c q) ∧ n * 2 ^ (-((k : Int)) - q).toNat = c * 2 ^ (q - (-(k : Int))).toNat := by
  by_cases h0 : n = 0
  · subst h0
    exact ⟨0, b64.qmin, zero_fits good_b64 s, by simp⟩
  · obtain ⟨c, q, hf, he⟩ := natFit good_b64 wide_b64 s (n := n) hn
    obtain ⟨h1, h2, h3, h4⟩ := hf
    rw [Nat.mul_one] at he
    have hq : -60 ≤ q := by
      apply Int.not_lt.mp
      intro hlt
      rw [show (q - 0).toNat = 0 by omega, Nat.pow_zero, Nat.mul_one] at he
      have a1 : 2 ^ 60 ≤ 2 ^ (0 - q).toNat := Nat.pow_le_pow_right (by decide) (by omega)
      have a2 : 2 ^ (0 - q).toNat ≤ n * 2 ^ (0 - q).toNat := Nat.le_mul_of_pos_left _ (by omega)
      have a3 : c < 2 ^ 53 := h1
      have a4 : (2 : Nat) ^ 53 ≤ 2 ^ 60 := by decide
      omega
    have hmin : b64.qmin = -1074 := qmin_b64
    have hc : b64.tails ≤ c := by
      rcases h4 with h | h
      · omega
      · exact h
    refine ⟨c, q - k, ⟨h1, by omega, by omega, Or.inr hc⟩, ?_⟩
    rw [show (-(k : Int) - (q - k)).toNat = (0 - q).toNat by omega, show (q - k - -(k : Int)).toNat = (q - 0).toNat by omega]
    exact he
theorem own_whole_of {i : Int} {s : Bool} {c c' : Nat} {q q' : Int} (h : Whole i (.fin s c q)) (he : c * 2 ^ (q - q').toNat = c' * 2 ^ (q' - q).toNat) : Whole i (.fin s c' q') := by
  have key : ∀ (a b : Nat), a * 2 ^ (q - q').toNat = b * 2 ^ (q' - q).toNat → signed s (a * 2 ^ q.toNat) = i * ((2 ^ (-q).toNat : Nat) : Int) → signed s (b * 2 ^ q'.toNat) = i * ((2 ^ (-q').toNat : Nat) : Int) := by
    intro a b hab hw
    have e : q.toNat + (-q').toNat + (q' - q).toNat = (-q).toNat + q'.toNat + (q - q').toNat := by omega
    rw [signed_mul] at hw ⊢
    have hs : signed s a * ((2 ^ (q - q').toNat : Nat) : Int) = signed s b * ((2 ^ (q' - q).toNat : Nat) : Int) := by rw [← signed_mul, ← signed_mul, hab]
    have p1 : ((2 ^ (q' - q).toNat : Nat) : Int) ≠ 0 := by have := Nat.two_pow_pos (q' - q).toNat; omega
    have p2 : ((2 ^ q.toNat : Nat) : Int) ≠ 0 := by have := Nat.two_pow_pos q.toNat; omega
    have e' : ((2 ^ q.toNat : Nat) : Int) * ((2 ^ (-q').toNat : Nat) : Int) * ((2 ^ (q' - q).toNat : Nat) : Int) = ((2 ^ (-q).toNat : Nat) : Int) * ((2 ^ q'.toNat : Nat) : Int) * ((2 ^ (q - q').toNat : Nat) : Int) := by
      rw [← Int.natCast_mul, ← Int.natCast_mul, ← Int.natCast_mul, ← Int.natCast_mul, ← Nat.pow_add, ← Nat.pow_add, ← Nat.pow_add, ← Nat.pow_add, e]
    apply Int.eq_of_mul_eq_mul_right p2
    apply Int.eq_of_mul_eq_mul_right p1
    generalize signed s a = A at *
    generalize signed s b = B at *
    generalize ((2 ^ q.toNat : Nat) : Int) = P at *
    generalize ((2 ^ (-q).toNat : Nat) : Int) = P' at *
    generalize ((2 ^ q'.toNat : Nat) : Int) = R at *
    generalize ((2 ^ (-q').toNat : Nat) : Int) = R' at *
    generalize ((2 ^ (q - q').toNat : Nat) : Int) = D at *
    generalize ((2 ^ (q' - q).toNat : Nat) : Int) = D' at *
    calc B * R * P * D' = (B * D') * (R * P) := by ac_rfl
      _ = (A * D) * (R * P) := by rw [hs]
      _ = (A * P) * (R * D) := by ac_rfl
      _ = (i * P') * (R * D) := by rw [hw]
      _ = i * (P' * R * D) := by ac_rfl
      _ = i * (P * R' * D') := by rw [e']
      _ = i * R' * P * D' := by ac_rfl
  exact key c c' he h
theorem own_align {c c' N : Nat} {q q' : Int} {k : Int} (h1 : c * 2 ^ (q + k).toNat = N * 2 ^ (-(q + k)).toNat) (h2 : N * 2 ^ (-k - q').toNat = c' * 2 ^ (q' - -k).toNat) : c * 2 ^ (q - q').toNat = c' * 1 * 2 ^ (q' - q).toNat := by
  have e : (q' - -k).toNat + (-(q + k)).toNat + (q - q').toNat = (q' - q).toNat + (q + k).toNat + (-k - q').toNat := by omega
  rw [Nat.mul_one]
  apply Nat.eq_of_mul_eq_mul_right (Nat.mul_pos (Nat.two_pow_pos (q + k).toNat) (Nat.two_pow_pos (-k - q').toNat))
  calc c * 2 ^ (q - q').toNat * (2 ^ (q + k).toNat * 2 ^ (-k - q').toNat) = (c * 2 ^ (q + k).toNat) * (2 ^ (q - q').toNat * 2 ^ (-k - q').toNat) := by ac_rfl
    _ = (N * 2 ^ (-(q + k)).toNat) * (2 ^ (q - q').toNat * 2 ^ (-k - q').toNat) := by rw [h1]
    _ = (N * 2 ^ (-k - q').toNat) * (2 ^ (-(q + k)).toNat * 2 ^ (q - q').toNat) := by ac_rfl
    _ = (c' * 2 ^ (q' - -k).toNat) * (2 ^ (-(q + k)).toNat * 2 ^ (q - q').toNat) := by rw [h2]
    _ = c' * 2 ^ ((q' - -k).toNat + (-(q + k)).toNat + (q - q').toNat) := by rw [Nat.pow_add, Nat.pow_add]; ac_rfl
    _ = c' * 2 ^ (q' - q).toNat * (2 ^ (q + k).toNat * 2 ^ (-k - q').toNat) := by rw [e, Nat.pow_add, Nat.pow_add]; ac_rfl
theorem own_round {n : Int} {k : Nat} (hn : n.natAbs ≤ 2 ^ 53) (hk : k ≤ 900) {d : Datum} (h : Whole n (own_sh k d)) : Whole n (own_sh k (round b64 d)) := by
  cases d with
  | nan => exact h.elim
  | inf s => exact h.elim
  | fin s c q =>
    obtain ⟨c', q', hf, he⟩ := own_fit s hn hk
    have h' : Whole n (.fin s c (q + k)) := h
    have a := own_align (whole_natAbs h') he
    have r : round b64 (.fin s c q) = .fin s c' q' := roundRatio_exact good_b64 (by decide) hf a
    rw [r]
    refine own_whole_of h' ?_
    rw [show q + (k : Int) - (q' + k) = q - q' by omega, show q' + (k : Int) - (q + k) = q' - q by omega]
    rw [Nat.mul_one] at a
    exact a
theorem own_Dy.add {i j : Int} {k : Nat} {x y : UInt64} (hx : own_Dy i k x) (hy : own_Dy j k y) (h : (i + j).natAbs ≤ 2 ^ 53) (hk : k ≤ 900) : own_Dy (i + j) k (dadd x y) := by
  unfold own_Dy
  rw [val64_dadd]
  exact own_round h hk (by rw [own_sh_sum]; exact whole_sum hx hy)
theorem own_Dy.sub {i j : Int} {k : Nat} {x y : UInt64} (hx : own_Dy i k x) (hy : own_Dy j k y) (h : (i - j).natAbs ≤ 2 ^ 53) (hk : k ≤ 900) : own_Dy (i - j) k (dsub x y) := by
  unfold own_Dy
  rw [val64_dsub]
  refine own_round h hk ?_
  rw [own_sh_sum, own_sh_neg, Int.sub_eq_add_neg]
  exact whole_sum hx (whole_negate hy)
theorem own_Dy.mul {i j : Int} {k l : Nat} {x y : UInt64} (hx : own_Dy i k x) (hy : own_Dy j l y) (h : (i * j).natAbs ≤ 2 ^ 53) (hk : k + l ≤ 900) : own_Dy (i * j) (k + l) (dmul x y) := by
  obtain ⟨s, c, q, ex, wx⟩ := hx.fin
  obtain ⟨t, d, r, ey, wy⟩ := hy.fin
  unfold own_Dy
  rw [val64_dmul]
  refine own_round h hk ?_
  rw [ex, ey, own_sh_prod]
  exact whole_product wx wy
/-- what a quotient is: the ratio, rounded -/
theorem own_Dy.div {i j : Int} {k l : Nat} {x y : UInt64} (hx : own_Dy i k x) (hy : own_Dy j l y) (hj : j ≠ 0) : ∃ s, val64 (ddiv x y) = roundRatio b64 s i.natAbs j.natAbs ((l : Int) - k) ∧ (i ≠ 0 → s = (decide (i < 0) != decide (j < 0))) := by
  obtain ⟨s, c, q, ex, wx⟩ := hx.fin
  obtain ⟨t, d, r, ey, wy⟩ := hy.fin
  have hd : d ≠ 0 := fun z => hj ((whole_zero wy).mp z)
  refine ⟨s != t, ?_, fun hi => by rw [whole_sign wx hi, whole_sign wy hj]⟩
  rw [val64_ddiv, ex, ey]
  show (if d = 0 then _ else _) = _
  rw [if_neg hd]
  refine roundRatio_congr (Nat.pos_of_ne_zero hd) (Int.natAbs_pos.mpr hj) ?_
  have p := own_pows (whole_natAbs wx) (whole_natAbs wy)
  rw [show q - r - ((l : Int) - k) = q + k - (r + l) - 0 by omega, show (l : Int) - k - (q - r) = 0 - (q + k - (r + l)) by omega]
  exact p
/-- by a power of two: exact -/
theorem own_Dy.shr {i : Int} {k e : Nat} {x y : UInt64} (hx : own_Dy i k x) (hy : own_Dy ((2 ^ e : Nat) : Int) 0 y) (h : i.natAbs ≤ 2 ^ 53) (hk : k + e ≤ 900) : own_Dy i (k + e) (ddiv x y) := by
  have hp := Nat.two_pow_pos e
  obtain ⟨s, hv, hs⟩ := hx.div hy (by omega)
  obtain ⟨c, q, hf, he⟩ := own_fit s h hk
  have hr : val64 (ddiv x y) = .fin s c q := by
    rw [hv]
    refine roundRatio_exact good_b64 (by rw [Int.natAbs_natCast]; exact hp) hf ?_
    rw [Int.natAbs_natCast, show ((0 : Nat) : Int) - k - q = -(k : Int) - q by omega, show q - (((0 : Nat) : Int) - k) = q + k by omega]
    have e2 : (-(k : Int) - q).toNat + (q + (k + e)).toNat = (-((k : Int) + e) - q).toNat + e + (q + k).toNat := by omega
    have e3 : ((k + e : Nat) : Int) = (k : Int) + e := by omega
    rw [e3] at he
    apply Nat.eq_of_mul_eq_mul_right (Nat.two_pow_pos (-((k : Int) + e) - q).toNat)
    calc i.natAbs * 2 ^ (-(k : Int) - q).toNat * 2 ^ (-((k : Int) + e) - q).toNat = (i.natAbs * 2 ^ (-((k : Int) + e) - q).toNat) * 2 ^ (-(k : Int) - q).toNat := by ac_rfl
      _ = (c * 2 ^ (q - -((k : Int) + e)).toNat) * 2 ^ (-(k : Int) - q).toNat := by rw [he]
      _ = c * 2 ^ ((-(k : Int) - q).toNat + (q + (k + e)).toNat) := by rw [show q - -((k : Int) + e) = q + (k + e) by omega, Nat.pow_add]; ac_rfl
      _ = c * 2 ^ e * 2 ^ (q + k).toNat * 2 ^ (-((k : Int) + e) - q).toNat := by rw [e2, Nat.pow_add, Nat.pow_add]; ac_rfl
  unfold own_Dy
  rw [hr]
  by_cases h0 : i = 0
  · subst h0
    have hc : c = 0 := by
      have z : c * 2 ^ (q - -(((k + e : Nat) : Int))).toNat = 0 := by rw [← he]; simp
      rcases Nat.mul_eq_zero.mp z with z | z
      · exact z
      · exact absurd z (Nat.ne_of_gt (Nat.two_pow_pos _))
    subst hc
    show signed s (0 * _) = 0 * _
    rw [Nat.zero_mul, signed_zero, Int.zero_mul]
  · have hs' : s = decide (i < 0) := by
      have z : ¬ ((2 ^ e : Nat) : Int) < 0 := by omega
      rw [hs h0, decide_eq_false z]
      simp
    have hw : Whole i (ofInt i) := whole_ofInt i
    have hw2 : Whole i (.fin s i.natAbs 0) := by rw [hs']; exact hw
    refine own_whole_of hw2 ?_
    rw [show (0 : Int) - (q + ((k + e : Nat) : Int)) = -((k + e : Nat) : Int) - q by omega, show q + ((k + e : Nat) : Int) - 0 = q - -((k + e : Nat) : Int) by omega]
    exact he
/-- two quotients of one worth compare as equal -/
theorem own_Dy.same {i j i' j' : Int} {k l k' l' : Nat} {x y x' y' : UInt64} (hx : own_Dy i k x) (hy : own_Dy j l y) (hj : 0 < j) (hx' : own_Dy i' k' x') (hy' : own_Dy j' l' y') (hj' : 0 < j')
    (h : i * j' * ((2 ^ (l + k') : Nat) : Int) = i' * j * ((2 ^ (l' + k) : Nat) : Int)) : dcmp (ddiv x y) (ddiv x' y') = some .eq := by
  obtain ⟨s, hv, hs⟩ := hx.div hy (by omega)
  obtain ⟨s', hv', hs'⟩ := hx'.div hy' (by omega)
  have p1 : (0 : Int) < ((2 ^ (l + k') : Nat) : Int) := by have := Nat.two_pow_pos (l + k'); omega
  have p2 : (0 : Int) < ((2 ^ (l' + k) : Nat) : Int) := by have := Nat.two_pow_pos (l' + k); omega
  show order (val64 (ddiv x y)) (val64 (ddiv x' y')) = _
  by_cases h0 : i = 0
  · have h0' : i' = 0 := by
      rw [h0, Int.zero_mul, Int.zero_mul] at h
      rcases Int.mul_eq_zero.mp h.symm with h | h
      · rcases Int.mul_eq_zero.mp h with h | h
        · exact h
        · omega
      · omega
    rw [hv, hv', h0, h0']
    show order (.fin s 0 b64.qmin) (.fin s' 0 b64.qmin) = _
    show some (compare (signed s (0 * _)) (signed s' (0 * _))) = _
    rw [Nat.zero_mul, signed_zero, signed_zero]
    rfl
  · have sgn : ∀ {a b c : Int}, 0 < b → 0 < c → (a * b * c < 0 ↔ a < 0) := fun {a b c} hb hc => by
      rw [Int.mul_assoc]
      have hbc := Int.mul_pos hb hc
      constructor
      · intro q
        apply Int.not_le.mp
        intro ha
        have := Int.mul_nonneg ha (Int.le_of_lt hbc)
        omega
      · intro q
        exact Int.mul_neg_of_neg_of_pos q hbc
    have h0' : i' ≠ 0 := by
      intro z
      rw [z, Int.zero_mul, Int.zero_mul] at h
      rcases Int.mul_eq_zero.mp h with h | h
      · rcases Int.mul_eq_zero.mp h with h | h
        · exact h0 h
        · omega
      · omega
    have hss : s = s' := by
      rw [hs h0, hs' h0']
      have a : i < 0 ↔ i' < 0 := by rw [← sgn hj' p1, h, sgn hj p2]
      have b1 : decide (j < 0) = false := decide_eq_false (by omega)
      have b2 : decide (j' < 0) = false := decide_eq_false (by omega)
      rw [b1, b2]
      by_cases q : i < 0
      · rw [decide_eq_true q, decide_eq_true (a.mp q)]
      · rw [decide_eq_false q, decide_eq_false (fun z => q (a.mpr z))]
    have e : roundRatio b64 s i.natAbs j.natAbs ((l : Int) - k) = roundRatio b64 s i'.natAbs j'.natAbs ((l' : Int) - k') := by
      refine roundRatio_congr (by omega) (by omega) ?_
      have hn := congrArg Int.natAbs h
      rw [Int.natAbs_mul, Int.natAbs_mul, Int.natAbs_mul, Int.natAbs_mul, Int.natAbs_natCast, Int.natAbs_natCast] at hn
      have hE : l' + k + ((l : Int) - k - (l' - k')).toNat = l + k' + ((l' : Int) - k' - (l - k)).toNat := by omega
      apply Nat.eq_of_mul_eq_mul_right (Nat.two_pow_pos (l' + k))
      calc i.natAbs * j'.natAbs * 2 ^ ((l : Int) - k - (l' - k')).toNat * 2 ^ (l' + k) = i.natAbs * j'.natAbs * 2 ^ (l' + k + ((l : Int) - k - (l' - k')).toNat) := by rw [Nat.pow_add 2 (l' + k) _, Nat.mul_assoc, Nat.mul_comm (2 ^ ((l : Int) - k - (l' - k')).toNat)]
        _ = i.natAbs * j'.natAbs * 2 ^ (l + k') * 2 ^ ((l' : Int) - k' - (l - k)).toNat := by rw [hE, Nat.pow_add 2 (l + k') _, ← Nat.mul_assoc]
        _ = i'.natAbs * j.natAbs * 2 ^ (l' + k) * 2 ^ ((l' : Int) - k' - (l - k)).toNat := by rw [hn]
        _ = i'.natAbs * j.natAbs * 2 ^ ((l' : Int) - k' - (l - k)).toNat * 2 ^ (l' + k) := Nat.mul_right_comm _ _ _
    rw [hv, hv', ← hss, e]
    exact order_self (roundRatio_ne_nan _ _ _ _ _)
theorem own_Dy.up {n : Int} {k : Nat} {x : UInt64} (h : own_Dy n k x) (j : Nat) : own_Dy (n * ((2 ^ j : Nat) : Int)) (k + j) x := by
  obtain ⟨s, c, q, e, w⟩ := h.fin
  have w2 : Whole ((2 ^ j : Nat) : Int) (.fin false 1 (j : Int)) := by
    show signed false (1 * 2 ^ ((j : Int)).toNat) = ((2 ^ j : Nat) : Int) * ((2 ^ (-(j : Int)).toNat : Nat) : Int)
    rw [show ((j : Int)).toNat = j by omega, show (-(j : Int)).toNat = 0 by omega, Nat.one_mul, Nat.pow_zero]
    show ((2 ^ j : Nat) : Int) = ((2 ^ j : Nat) : Int) * 1
    rw [Int.mul_one]
  have p : Whole (n * ((2 ^ j : Nat) : Int)) (.fin (s != false) (c * 1) (q + k + j)) := whole_product w w2
  unfold own_Dy
  rw [e]
  show Whole _ (.fin s c (q + ((k + j : Nat) : Int)))
  rw [show q + ((k + j : Nat) : Int) = q + k + j by omega]
  rw [Nat.mul_one, show (s != false) = s by cases s <;> rfl] at p
  exact p
theorem own_Dy.cast {n n' : Int} {k k' : Nat} {x : UInt64} (h : own_Dy n k x) (e : n = n') (e' : k = k') : own_Dy n' k' x := e ▸ e' ▸ h
theorem own_mulb {x y : Int} {a b : Nat} (hx : x.natAbs ≤ a) (hy : y.natAbs ≤ b) : (x * y).natAbs ≤ a * b := by rw [Int.natAbs_mul]; exact Nat.mul_le_mul hx hy
theorem own_c1 : own_Dy 1 0 4607182418800017408 := by
  rw [show (4607182418800017408 : UInt64) = l2d 1 by decide +kernel]; exact (own_Dy.of_int (l2d_int (a := 1) (by decide))).cast (by decide) rfl
theorem own_c4 : own_Dy ((2 ^ 2 : Nat) : Int) 0 4616189618054758400 := by
  rw [show (4616189618054758400 : UInt64) = l2d 4 by decide +kernel]; exact (own_Dy.of_int (l2d_int (a := 4) (by decide))).cast (by decide) rfl
theorem own_c16 : own_Dy ((2 ^ 4 : Nat) : Int) 0 4625196817309499392 := by
  rw [show (4625196817309499392 : UInt64) = l2d 16 by decide +kernel]; exact (own_Dy.of_int (l2d_int (a := 16) (by decide))).cast (by decide) rfl
theorem own_i (x : Int32) : own_Dy x.toInt 0 (i2d x) := own_Dy.of_int (i2d_int x)
theorem own_l {x : Int64} (h : x.toInt.natAbs ≤ 2 ^ 53) : own_Dy x.toInt 0 (l2d x) := own_Dy.of_int (l2d_int h)
/-- by a power of two over a power of two: exact -/
theorem own_Dy.shr2 {i : Int} {k e l : Nat} {x y : UInt64} (hx : own_Dy i k x) (hy : own_Dy ((2 ^ e : Nat) : Int) l y) (h : (i * ((2 ^ l : Nat) : Int)).natAbs ≤ 2 ^ 53) (hk : k + e ≤ 900) : own_Dy (i * ((2 ^ l : Nat) : Int)) (k + e) (ddiv x y) := by
  have hp := Nat.two_pow_pos e
  have hl := Nat.two_pow_pos l
  obtain ⟨s, hv0, hs0⟩ := hx.div hy (by omega)
  have hv : val64 (ddiv x y) = roundRatio b64 s (i * ((2 ^ l : Nat) : Int)).natAbs ((2 ^ e : Nat) : Int).natAbs (((0 : Nat) : Int) - k) := by
    rw [hv0]
    refine roundRatio_congr (by rw [Int.natAbs_natCast]; exact hp) (by rw [Int.natAbs_natCast]; exact hp) ?_
    rw [Int.natAbs_mul, Int.natAbs_natCast, Int.natAbs_natCast, show ((l : Int) - k - (((0 : Nat) : Int) - k)).toNat = l by omega, show (((0 : Nat) : Int) - k - ((l : Int) - k)).toNat = 0 by omega, Nat.pow_zero, Nat.mul_one]
    ac_rfl
  have hs : i * ((2 ^ l : Nat) : Int) ≠ 0 → s = (decide (i * ((2 ^ l : Nat) : Int) < 0) != decide (((2 ^ e : Nat) : Int) < 0)) := by
    intro hi
    have i0 : i ≠ 0 := fun z => hi (by rw [z, Int.zero_mul])
    rw [hs0 i0]
    have q : i * ((2 ^ l : Nat) : Int) < 0 ↔ i < 0 := by
      constructor
      · intro z
        apply Int.not_le.mp
        intro w
        have := Int.mul_nonneg w (Int.natCast_nonneg (2 ^ l))
        omega
      · intro z
        exact Int.mul_neg_of_neg_of_pos z (by omega)
    rw [show decide (i * ((2 ^ l : Nat) : Int) < 0) = decide (i < 0) from decide_eq_decide.mpr q]
  generalize i * ((2 ^ l : Nat) : Int) = i at *
  obtain ⟨c, q, hf, he⟩ := own_fit s h hk
  have hr : val64 (ddiv x y) = .fin s c q := by
    rw [hv]
    refine roundRatio_exact good_b64 (by rw [Int.natAbs_natCast]; exact hp) hf ?_
    rw [Int.natAbs_natCast, show ((0 : Nat) : Int) - k - q = -(k : Int) - q by omega, show q - (((0 : Nat) : Int) - k) = q + k by omega]
    have e2 : (-(k : Int) - q).toNat + (q + (k + e)).toNat = (-((k : Int) + e) - q).toNat + e + (q + k).toNat := by omega
    have e3 : ((k + e : Nat) : Int) = (k : Int) + e := by omega
    rw [e3] at he
    apply Nat.eq_of_mul_eq_mul_right (Nat.two_pow_pos (-((k : Int) + e) - q).toNat)
    calc i.natAbs * 2 ^ (-(k : Int) - q).toNat * 2 ^ (-((k : Int) + e) - q).toNat = (i.natAbs * 2 ^ (-((k : Int) + e) - q).toNat) * 2 ^ (-(k : Int) - q).toNat := by ac_rfl
      _ = (c * 2 ^ (q - -((k : Int) + e)).toNat) * 2 ^ (-(k : Int) - q).toNat := by rw [he]
      _ = c * 2 ^ ((-(k : Int) - q).toNat + (q + (k + e)).toNat) := by rw [show q - -((k : Int) + e) = q + (k + e) by omega, Nat.pow_add]; ac_rfl
      _ = c * 2 ^ e * 2 ^ (q + k).toNat * 2 ^ (-((k : Int) + e) - q).toNat := by rw [e2, Nat.pow_add, Nat.pow_add]; ac_rfl
  unfold own_Dy
  rw [hr]
  by_cases h0 : i = 0
  · subst h0
    have hc : c = 0 := by
      have z : c * 2 ^ (q - -(((k + e : Nat) : Int))).toNat = 0 := by rw [← he]; simp
      rcases Nat.mul_eq_zero.mp z with z | z
      · exact z
      · exact absurd z (Nat.ne_of_gt (Nat.two_pow_pos _))
    subst hc
    show signed s (0 * _) = 0 * _
    rw [Nat.zero_mul, signed_zero, Int.zero_mul]
  · have hs' : s = decide (i < 0) := by
      have z : ¬ ((2 ^ e : Nat) : Int) < 0 := by omega
      rw [hs h0, decide_eq_false z]
      simp
    have hw : Whole i (ofInt i) := whole_ofInt i
    have hw2 : Whole i (.fin s i.natAbs 0) := by rw [hs']; exact hw
    refine own_whole_of hw2 ?_
    rw [show (0 : Int) - (q + ((k + e : Nat) : Int)) = -((k + e : Nat) : Int) - q by omega, show q + ((k + e : Nat) : Int) - 0 = q - -((k + e : Nat) : Int) by omega]
    exact he
/-- a rounded ratio that is not too great is finite, and its exponent is known -/
theorem own_rr (s : Bool) {A B a : Nat} {e : Int} (hA : A < 2 ^ a) (h0 : A ≠ 0) (h : (a : Int) + e ≤ 900) : ∃ c q, roundRatio b64 s A B e = .fin s c q ∧ q ≤ max (-1074) (a + e - 52) + 1 ∧ quantum b64 A B e ≤ q := by
  have hlog : A.log2 < a := (Nat.log2_lt h0).mpr hA
  have hl : leading A B ≤ a - 1 := by
    unfold leading
    dsimp only
    split <;> omega
  have hq : quantum b64 A B e ≤ max (-1074) (a + e - 52) := by
    unfold quantum
    rw [qmin_b64]
    have : ((b64.p : Nat) : Int) = 53 := rfl
    omega
  have hm : b64.qmax = 971 := by decide
  unfold roundRatio
  rw [if_neg h0]
  unfold roundAt settle bound
  split
  · rw [if_pos (by rw [hm]; omega)]
    exact ⟨_, _, rfl, by omega, Int.le_refl _⟩
  · rw [if_pos (by rw [hm]; omega)]
    exact ⟨_, _, rfl, by omega, by omega⟩
theorem own_lx {z : Int64} (h : 0 < z.toInt) : ∃ c q, val64 (l2d z) = .fin false c q ∧ 4503599627370496 ≤ c ∧ c < 9007199254740992 ∧ -53 ≤ q ∧ q ≤ 13 := by
  have r1 := Int64.toInt_lt z
  have e : val64 (l2d z) = roundRatio b64 false z.toInt.natAbs 1 0 := by
    rw [val64_l2d]
    unfold ofInt
    rw [decide_eq_false (by omega)]
    rfl
  obtain ⟨c, q, hv, h1, h2⟩ := own_rr false (A := z.toInt.natAbs) (B := 1) (a := 63) (e := 0) (by omega) (by omega) (by decide)
  have hq : -53 ≤ quantum b64 z.toInt.natAbs 1 0 := by
    have hl : -1 ≤ leading z.toInt.natAbs 1 := by
      unfold leading
      dsimp only
      have : Nat.log2 1 = 0 := by decide
      rw [this]
      split <;> omega
    unfold quantum
    have : ((b64.p : Nat) : Int) = 53 := rfl
    omega
  have hf := val64_fits (l2d z)
  rw [e, hv] at hf
  obtain ⟨f1, f2, f3, f4⟩ := hf
  have ht : b64.tails = 4503599627370496 := by decide
  have hp : 2 ^ b64.p = 9007199254740992 := by decide
  rw [qmin_b64] at f4
  rw [ht] at f4
  rw [hp] at f1
  refine ⟨c, q, by rw [e, hv], ?_, f1, by omega, by omega⟩
  rcases f4 with z | z
  · omega
  · exact z
theorem own_divx {s : Bool} {c : Nat} {q : Int} {x y : UInt64} {j : Int} {l : Nat} (hx : val64 x = .fin s c q) (hy : own_Dy j l y) (hj : 0 < j) : val64 (ddiv x y) = roundRatio b64 s c j.natAbs (q + l) := by
  obtain ⟨t, d, r, ey, wy⟩ := hy.fin
  have hd : d ≠ 0 := fun z => by have := (whole_zero wy).mp z; omega
  have ht : t = false := by rw [whole_sign wy (by omega)]; exact decide_eq_false (by omega)
  subst ht
  rw [val64_ddiv, hx, ey]
  show (if d = 0 then _ else roundRatio b64 (s != false) c d (q - r)) = _
  rw [if_neg hd, show (s != false) = s by cases s <;> rfl]
  refine roundRatio_congr (Nat.pos_of_ne_zero hd) (by omega) ?_
  have p := whole_natAbs wy
  rw [show q - r - (q + (l : Int)) = -(r + l) by omega, show q + (l : Int) - (q - r) = r + l by omega]
  calc c * j.natAbs * 2 ^ (-(r + (l : Int))).toNat = c * (j.natAbs * 2 ^ (-(r + (l : Int))).toNat) := Nat.mul_assoc _ _ _
    _ = c * (d * 2 ^ (r + (l : Int)).toNat) := by rw [p]
    _ = c * d * 2 ^ (r + (l : Int)).toNat := (Nat.mul_assoc _ _ _).symm
theorem own_mulx {c : Nat} {q : Int} {x y : UInt64} {e : Nat} (hx : val64 x = .fin false c q) (h1 : 4503599627370496 ≤ c) (h2 : c < 9007199254740992) (h3 : -53 ≤ q) (h4 : q + e ≤ 900) (hy : own_Dy ((2 ^ e : Nat) : Int) 0 y) : val64 (dmul x y) = .fin false c (q + e) := by
  obtain ⟨t, d, r, ey, wy⟩ := hy.fin
  have hp := Nat.two_pow_pos e
  have hm : b64.qmax = 971 := by decide
  have ht : t = false := by rw [whole_sign wy (by omega)]; exact decide_eq_false (by omega)
  subst ht
  rw [val64_dmul, hx, ey]
  show roundRatio b64 (false != false) (c * d) 1 (q + r) = _
  rw [show (false != false) = false from rfl]
  refine roundRatio_exact good_b64 (by decide) ⟨h2, by rw [qmin_b64]; omega, by rw [hm]; omega, Or.inr h1⟩ ?_
  have p := whole_natAbs wy
  rw [Int.natAbs_natCast, show r + ((0 : Nat) : Int) = r by omega] at p
  rw [Nat.mul_one, show q + r - (q + (e : Int)) = r - e by omega, show q + (e : Int) - (q + r) = e - r by omega]
  have e1 : r.toNat + ((e : Int) - r).toNat = (-r).toNat + e + (r - e).toNat := by omega
  apply Nat.eq_of_mul_eq_mul_right (Nat.two_pow_pos r.toNat)
  calc c * d * 2 ^ (r - (e : Int)).toNat * 2 ^ r.toNat = c * (d * 2 ^ r.toNat) * 2 ^ (r - (e : Int)).toNat := by ac_rfl
    _ = c * (2 ^ e * 2 ^ (-r).toNat) * 2 ^ (r - (e : Int)).toNat := by rw [p]
    _ = c * 2 ^ ((-r).toNat + e + (r - (e : Int)).toNat) := by rw [Nat.pow_add, Nat.pow_add]; ac_rfl
    _ = c * 2 ^ ((e : Int) - r).toNat * 2 ^ r.toNat := by rw [← e1, Nat.pow_add]; ac_rfl
theorem own_sh_order (k : Nat) (x y : Datum) : order (own_sh k x) (own_sh k y) = order x y := by
  cases x <;> cases y <;> try rfl
  rename_i s c q t d r
  have hm : min (q + (k : Int)) (r + k) = min q r + k := by omega
  have hu : ∀ (c : Nat) (q e : Int), inUnits c (q + k) (e + k) = inUnits c q e := fun c q e => by unfold inUnits; rw [show q + (k : Int) - (e + k) = q - e by omega]
  show some (compare (signed s (inUnits c (q + k) (min (q + (k : Int)) (r + k)))) (signed t (inUnits d (r + k) (min (q + (k : Int)) (r + k))))) = _
  rw [hm, hu, hu]
  rfl
theorem own_Dy.cmp {i j : Int} {k : Nat} {x y : UInt64} (hx : own_Dy i k x) (hy : own_Dy j k y) : dcmp x y = some (compare i j) := by
  show order (val64 x) (val64 y) = _
  rw [← own_sh_order k]
  exact order_whole hx hy
theorem own_Dy.dfin {i : Int} {k : Nat} {x : UInt64} (hx : own_Dy i k x) : DFin x := by
  obtain ⟨s, c, q, e, -⟩ := hx.fin
  exact ⟨s, c, q, e⟩
theorem own_c0 (k : Nat) : own_Dy 0 k 0 := by
  rw [show (0 : UInt64) = l2d 0 by decide +kernel]
  have h : own_Dy 0 0 (l2d 0) := (own_Dy.of_int (l2d_int (a := 0) (by decide))).cast (by decide) rfl
  exact (h.up k).cast (by rw [Int.zero_mul]) (by omega)
theorem own_c8 : own_Dy ((2 ^ 3 : Nat) : Int) 0 4620693217682128896 := by
  rw [show (4620693217682128896 : UInt64) = l2d 8 by decide +kernel]; exact (own_Dy.of_int (l2d_int (a := 8) (by decide))).cast (by decide) rfl
theorem own_ge {i : Int} {k : Nat} {x : UInt64} (hx : own_Dy i k x) (hi : 0 ≤ i) : ¬ ((cmpValue (FP.dcmp x (0 : UInt64)) .l) < (0 : Int32)) := by
  rw [show FP.dcmp x 0 = some (compare i 0) from hx.cmp (own_c0 k), compare_ite, if_neg (by omega)]
  split <;> decide
theorem own_inf {i : Int} {k : Nat} {x : UInt64} (hx : own_Dy i k x) : (cmpValue (FP.dcmp x (9218868437227405312 : UInt64)) .g) < (0 : Int32) := by
  rw [show FP.dcmp x 9218868437227405312 = some .lt from (fin_lt_inf hx.dfin).1]
  decide
theorem own_le1 {i : Int} {x : UInt64} (hx : own_Dy i 2 x) (hi : i ≤ 4) : ¬ ((0 : Int32) < (cmpValue (FP.dcmp x (4607182418800017408 : UInt64)) .g)) := by
  rw [show FP.dcmp x 4607182418800017408 = some (compare i 4) from hx.cmp ((own_c1.up 2).cast (by decide) rfl), compare_ite]
  by_cases h : i < 4
  · rw [if_pos h]; decide
  · rw [if_neg h, if_pos (by omega)]; decide
theorem own_pos {i : Int} {k : Nat} {x : UInt64} (hx : own_Dy i k x) (hi : 0 < i) : (0 : Int32) < (cmpValue (FP.dcmp x (0 : UInt64)) .l) := by
  rw [show FP.dcmp x 0 = some (compare i 0) from hx.cmp (own_c0 k), compare_ite, if_neg (by omega), if_neg (by omega)]
  decide
/-- the law's heart: k = 4B, len, s = 2^e; the divisor n = s(4 - k) + 4 k len -/
theorem own_cf {kk : Int32} {len tf n s4 : Int64} {e : Nat} {xw avd : UInt64} {wv : Int} (hk : 0 ≤ kk.toInt ∧ kk.toInt ≤ 4) (hl : 0 ≤ len.toInt ∧ len.toInt ≤ 1099511627775) (hkl : kk.toInt = 4 → 0 < len.toInt) (he : e ≤ 5) (hav : own_Dy ((2 ^ e : Nat) : Int) 2 avd) (htf : 0 < tf.toInt)
    (hw : own_Dy wv 3 xw) (hn : n.toInt = ((2 ^ e : Nat) : Int) * (4 - kk.toInt) + 4 * kk.toInt * len.toInt) (hs4 : s4.toInt = ((2 ^ (2 + e) : Nat) : Int)) :
    let b := FP.ddiv (FP.i2d kk) 4616189618054758400
    let u1 := FP.dsub 4607182418800017408 b
    let u2 := FP.dmul b (FP.l2d len)
    let u3 := FP.ddiv u2 avd
    let u4 := FP.dadd u1 u3
    let u5 := FP.ddiv (FP.l2d tf) u4
    let v1 := FP.dmul (FP.l2d tf) (FP.l2d s4)
    let v2 := FP.ddiv v1 (FP.l2d n)
    Jvm.Free.Fl.NoNaN64 u1 ∧ Jvm.Free.Fl.NoNaN64 u2 ∧ Jvm.Free.Fl.NoNaN64 u3 ∧ Jvm.Free.Fl.NoNaN64 u4 ∧ Jvm.Free.Fl.NoNaN64 u5 ∧ Jvm.Free.Fl.NoNaN64 (FP.dmul xw u5) ∧ Jvm.Free.Fl.NoNaN64 v1 ∧ Jvm.Free.Fl.NoNaN64 v2 ∧ Jvm.Free.Fl.NoNaN64 (FP.dmul xw v2) ∧ FP.dcmp (FP.dmul xw u5) (FP.dmul xw v2) = some .eq := by
  intro b u1 u2 u3 u4 u5 v1 v2
  have hp : (2 ^ e : Nat) ≤ 32 := Nat.le_trans (Nat.pow_le_pow_right (by decide) he) (by decide)
  have hp0 := Nat.two_pow_pos e
  have hb : own_Dy kk.toInt 2 b := (own_Dy.shr (own_i kk) own_c4 (by omega) (by decide)).cast rfl rfl
  have h1 : own_Dy (4 - kk.toInt) 2 u1 := own_Dy.sub ((own_c1.up 2).cast (by decide) rfl) hb (by omega) (by decide)
  have b2 : (kk.toInt * len.toInt).natAbs ≤ 4 * 1099511627775 := own_mulb (by omega) (by omega)
  have h2 : own_Dy (kk.toInt * len.toInt) 2 u2 := (own_Dy.mul hb (own_l (by omega)) (by omega) (by decide)).cast rfl rfl
  have b3 : (kk.toInt * len.toInt * ((2 ^ 2 : Nat) : Int)).natAbs ≤ 4 * 1099511627775 * 4 := own_mulb b2 (by decide)
  have h3 : own_Dy (kk.toInt * len.toInt * ((2 ^ 2 : Nat) : Int)) (2 + e) u3 := own_Dy.shr2 h2 hav (by omega) (by omega)
  have h1' : own_Dy ((4 - kk.toInt) * ((2 ^ e : Nat) : Int)) (2 + e) u1 := h1.up e
  have b1 : ((4 - kk.toInt) * ((2 ^ e : Nat) : Int)).natAbs ≤ 4 * 32 := own_mulb (by omega) (by rw [Int.natAbs_natCast]; exact hp)
  have en : (4 - kk.toInt) * ((2 ^ e : Nat) : Int) + kk.toInt * len.toInt * ((2 ^ 2 : Nat) : Int) = n.toInt := by
    rw [hn, show ((2 ^ 2 : Nat) : Int) = 4 from rfl, Int.mul_comm (4 - kk.toInt), Int.mul_comm 4 kk.toInt, Int.mul_right_comm]
  have b10 : 0 ≤ (4 - kk.toInt) * ((2 ^ e : Nat) : Int) := Int.mul_nonneg (by omega) (Int.natCast_nonneg _)
  have b30 : 0 ≤ kk.toInt * len.toInt := Int.mul_nonneg hk.1 hl.1
  have pos : 0 < n.toInt := by
    rw [← en, show ((2 ^ 2 : Nat) : Int) = 4 from rfl]
    by_cases q : kk.toInt = 4
    · have := hkl q
      rw [q] at b30 b10 ⊢
      omega
    · have : 0 < (4 - kk.toInt) * ((2 ^ e : Nat) : Int) := Int.mul_pos (by omega) (by omega)
      omega
  have h4 : own_Dy n.toInt (2 + e) u4 := (own_Dy.add h1' h3 (by omega) (by omega)).cast en rfl
  have hN : own_Dy n.toInt 0 (FP.l2d n) := own_l (by omega)
  have hS : own_Dy ((2 ^ (2 + e) : Nat) : Int) 0 (FP.l2d s4) := (own_l (by rw [hs4, Int.natAbs_natCast]; exact Nat.pow_le_pow_right (by decide) (by omega))).cast hs4 rfl
  obtain ⟨c, q, hx, c1, c2, q1, q2⟩ := own_lx htf
  have g1 : val64 v1 = .fin false c (q + ((2 + e : Nat) : Int)) := own_mulx hx c1 c2 q1 (by omega) hS
  have g2 : val64 v2 = roundRatio b64 false c n.toInt.natAbs (q + ((2 + e : Nat) : Int) + ((0 : Nat) : Int)) := own_divx g1 hN pos
  have g5 : val64 u5 = roundRatio b64 false c n.toInt.natAbs (q + ((2 + e : Nat) : Int)) := own_divx hx h4 pos
  rw [show q + ((2 + e : Nat) : Int) + ((0 : Nat) : Int) = q + ((2 + e : Nat) : Int) by omega] at g2
  obtain ⟨c', q', hr, -, -⟩ := own_rr false (A := c) (B := n.toInt.natAbs) (a := 53) (e := q + ((2 + e : Nat) : Int)) c2 (by omega) (by omega)
  have f5 : DFin u5 := ⟨false, c', q', by rw [g5, hr]⟩
  have f2 : DFin v2 := ⟨false, c', q', by rw [g2, hr]⟩
  have f1 : DFin v1 := ⟨_, _, _, g1⟩
  have same : u5 = v2 := val64_inj f5.ne_nan (by rw [g5, g2])
  have no : ∀ {x : UInt64}, DFin x → Jvm.Free.Fl.NoNaN64 x := fun h => Jvm.Free.Fl.noNaN64_no.mpr h.notNaN
  have m5 : dIsNaN (dmul xw u5) = false := dmul_out hw.dfin f5
  have m2 : dIsNaN (dmul xw v2) = false := dmul_out hw.dfin f2
  refine ⟨h1.no, h2.no, h3.no, h4.no, no f5, Jvm.Free.Fl.noNaN64_no.mpr m5, no f1, no f2, Jvm.Free.Fl.noNaN64_no.mpr m2, ?_⟩
  rw [same]
  exact dcmp_refl m2
theorem own_q4 (a : Int32) : own_Dy a.toInt 2 (FP.ddiv (FP.i2d a) 4616189618054758400) := (own_Dy.shr (own_i a) own_c4 (by have := rng32 a; omega) (by decide)).cast rfl rfl
theorem own_q8 (a : Int32) : own_Dy a.toInt 3 (FP.ddiv (FP.i2d a) 4620693217682128896) := (own_Dy.shr (own_i a) own_c8 (by have := rng32 a; omega) (by decide)).cast rfl rfl
theorem own_avd {ss : Int64} {e : Nat} (he : e ≤ 5) (h : ss.toInt = ((2 ^ e : Nat) : Int)) : own_Dy ((2 ^ e : Nat) : Int) 2 (FP.ddiv (FP.l2d ss) 4616189618054758400) := by
  have b : ((2 ^ e : Nat) : Int).natAbs ≤ 2 ^ 53 := by rw [Int.natAbs_natCast]; exact Nat.pow_le_pow_right (by decide) (by omega)
  have q : own_Dy ((2 ^ e : Nat) : Int) 0 (FP.l2d ss) := (own_l (by rw [h]; exact b)).cast h rfl
  exact (own_Dy.shr q own_c4 b (by decide)).cast rfl rfl
end Math
theorem own_kk (p : Int32) {i : Int32} (q : i = ((p &&& (2147483647 : Int32)) % (5 : Int32))) : 0 ≤ i.toInt ∧ i.toInt ≤ 4 := by
  have h := c_mask p 2147483647 31 (by decide) (by decide)
  have r := (c_irem (p &&& (2147483647 : Int32)) 5 5 rfl).1 (by rw [h]; omega)
  rw [← q] at r
  omega
theorem own_wv (p : Int32) {i : Int32} (q : i = (p &&& (1023 : Int32))) : 0 ≤ i.toInt ∧ i.toInt ≤ 1023 := by
  have h := c_mask p 1023 10 (by decide) (by decide)
  rw [← q] at h
  omega
theorem own_lv (p : Int64) {i : Int64} (q : i = (p &&& (1099511627775 : Int64))) : 0 ≤ i.toInt ∧ i.toInt ≤ 1099511627775 := by
  have h := c_maskL p 1099511627775 40 (by decide) (by decide)
  rw [← q] at h
  omega
theorem own_7 (p : Int32) {i : Int32} (q : i = (p &&& (7 : Int32))) : 0 ≤ i.toInt ∧ i.toInt ≤ 7 := by
  have h := c_mask p 7 3 (by decide) (by decide)
  rw [← q] at h
  omega
theorem own_lnA {kk : Int32} {lv : Int64} (h : 0 ≤ lv.toInt ∧ lv.toInt ≤ 1099511627775) (c : ¬ (kk = (4 : Int32))) : (0 ≤ lv.toInt ∧ lv.toInt ≤ 1099511627775) ∧ (kk.toInt = 4 → 0 < lv.toInt) :=
  ⟨h, fun q => absurd (Int32.toInt_inj.mp (q.trans (show (4 : Int) = (4 : Int32).toInt from rfl))) c⟩
theorem own_lnB (kk : Int32) : (0 ≤ (1 : Int64).toInt ∧ (1 : Int64).toInt ≤ 1099511627775) ∧ (kk.toInt = 4 → 0 < (1 : Int64).toInt) := ⟨by decide, fun _ => by decide⟩
theorem own_lnC {kk : Int32} {lv : Int64} (h : 0 ≤ lv.toInt ∧ lv.toInt ≤ 1099511627775) (c : ¬ (lv = (0 : Int64))) : (0 ≤ lv.toInt ∧ lv.toInt ≤ 1099511627775) ∧ (kk.toInt = 4 → 0 < lv.toInt) := by
  refine ⟨h, fun _ => ?_⟩
  have : lv.toInt ≠ 0 := fun q => c (Int64.toInt_inj.mp (q.trans (show (0 : Int) = (0 : Int64).toInt from rfl)))
  omega
theorem own_sv2 {sv : Int32} (h : 0 ≤ sv.toInt ∧ sv.toInt ≤ 7) (c0 : ¬ (sv = (0 : Int32))) (c1 : ¬ (sv = (1 : Int32))) : 2 ≤ sv.toInt := by
  have : sv.toInt ≠ 0 := fun q => c0 (Int32.toInt_inj.mp (q.trans (show (0 : Int) = (0 : Int32).toInt from rfl)))
  have : sv.toInt ≠ 1 := fun q => c1 (Int32.toInt_inj.mp (q.trans (show (1 : Int) = (1 : Int32).toInt from rfl)))
  omega
theorem own_sv3 {sv : Int32} (h : 2 ≤ sv.toInt) : ¬ (sv < (2 : Int32)) := by
  rw [Int32.lt_iff_toInt_lt]
  have : (2 : Int32).toInt = 2 := rfl
  omega
theorem own_ss {sv : Int32} (h : 0 ≤ sv.toInt ∧ sv.toInt ≤ 7) (h2 : 2 ≤ sv.toInt) {ss : Int64} (q : ss = ((1 : Int64) <<< ((sv - (2 : Int32)) &&& 0x3f).toInt64)) : ∃ e : Nat, e ≤ 5 ∧ ss.toInt = ((2 ^ e : Nat) : Int) := by
  have e : sv = Int32.ofNat (sv.toInt.toNat - 2 + 2) := by
    apply Int32.toInt_inj.mp
    rw [Int32.toInt_ofNat_of_lt (by omega)]
    omega
  have all : ∀ n : Fin 6, ((1 : Int64) <<< ((Int32.ofNat (n.val + 2) - (2 : Int32)) &&& 0x3f).toInt64).toInt = ((2 ^ n.val : Nat) : Int) := by decide +kernel
  refine ⟨sv.toInt.toNat - 2, by omega, ?_⟩
  rw [q]
  have := all ⟨sv.toInt.toNat - 2, by omega⟩
  rw [← e] at this
  exact this
theorem own_nv {kk : Int32} {ss len : Int64} {e : Nat} (hk : 0 ≤ kk.toInt ∧ kk.toInt ≤ 4) (hl : 0 ≤ len.toInt ∧ len.toInt ≤ 1099511627775) (he : e ≤ 5) (hs : ss.toInt = ((2 ^ e : Nat) : Int)) :
    ((ss * (((4 : Int32) - kk).toInt64)) + (((4 : Int64) * (kk.toInt64)) * len)).toInt = ((2 ^ e : Nat) : Int) * (4 - kk.toInt) + 4 * kk.toInt * len.toInt := by
  have hp1 : (2 ^ e : Nat) ≤ 32 := Nat.le_trans (Nat.pow_le_pow_right (by decide) he) (by decide)
  have a0 := c_isub 4 kk
  have r0 := rng32 ((4 : Int32) - kk)
  have k4 : (4 : Int32).toInt = 4 := rfl
  have e0 : ((4 : Int32) - kk).toInt = 4 - kk.toInt := by omega
  have a1 := c_lmul ss (((4 : Int32) - kk).toInt64)
  rw [c_i2l, e0, hs] at a1
  have r1 := rng64 (ss * (((4 : Int32) - kk).toInt64))
  have b1 : (((2 ^ e : Nat) : Int) * (4 - kk.toInt)).natAbs ≤ 32 * 4 := own_mulb (by rw [Int.natAbs_natCast]; exact hp1) (by omega)
  have a2 := c_lmul 4 kk.toInt64
  have r2 := rng64 ((4 : Int64) * (kk.toInt64))
  have k4' : (4 : Int64).toInt = 4 := rfl
  rw [c_i2l, k4'] at a2
  have e2 : ((4 : Int64) * (kk.toInt64)).toInt = 4 * kk.toInt := by omega
  have a3 := c_lmul ((4 : Int64) * (kk.toInt64)) len
  have r3 := rng64 (((4 : Int64) * (kk.toInt64)) * len)
  rw [e2] at a3
  have b3 : (4 * kk.toInt * len.toInt).natAbs ≤ 16 * 1099511627775 := own_mulb (by omega) (by omega)
  have a4 := c_ladd (ss * (((4 : Int32) - kk).toInt64)) (((4 : Int64) * (kk.toInt64)) * len)
  have r4 := rng64 ((ss * (((4 : Int32) - kk).toInt64)) + (((4 : Int64) * (kk.toInt64)) * len))
  generalize ((2 ^ e : Nat) : Int) * (4 - kk.toInt) = X at *
  generalize 4 * kk.toInt * len.toInt = Y at *
  omega
theorem own_s4 {ss : Int64} {e : Nat} (he : e ≤ 5) (hs : ss.toInt = ((2 ^ e : Nat) : Int)) : ((4 : Int64) * ss).toInt = ((2 ^ (2 + e) : Nat) : Int) := by
  have hp1 : (2 ^ e : Nat) ≤ 32 := Nat.le_trans (Nat.pow_le_pow_right (by decide) he) (by decide)
  have a := c_lmul 4 ss
  have r := rng64 ((4 : Int64) * ss)
  have k4 : (4 : Int64).toInt = 4 := rfl
  rw [hs, k4] at a
  rw [Nat.pow_add, show (2 ^ 2 : Nat) = 4 from rfl]
  generalize (2 ^ e : Nat) = P at *
  omega
theorem own_tf {z : Int64} (h : (0 : Int64) < z) : 0 < z.toInt := by
  rw [Int64.lt_iff_toInt_lt] at h
  exact h
theorem own_fld_ref {Z : State} {args : Array Value} {t : Term} {a b : Addr} {C n d : String} (ht : t.eval args Z none [] Z = some (.ref a)) (h : (Term.field t C n d).eval args Z none [] Z = some (.ref b)) : Fld Z Z.heap a C n d (.ref b) := by
  rw [fld_at ht] at h
  exact Fld.start h
theorem d_jdk_30_method_1_0 : decode jdk_30_method_1_code 0 = .ok (.aload_n 0, 1) := by decide +kernel
theorem d_jdk_30_method_1_1 : decode jdk_30_method_1_code 1 = .ok (.invokespecial 1, 3) := by decide +kernel
theorem d_jdk_30_method_1_4 : decode jdk_30_method_1_code 4 = .ok (.return_, 1) := by decide +kernel
theorem ef_0 (m : MethodId) (x0 : Addr) : entryFrame m #[(.ref x0)] 1 = mkF m 0 #[.val (.ref x0)] [] := by first | (simp [entryFrame, mkF, argsToLocals, Value.category]; done) | rfl
theorem pn_0 : plainName "java/lang/Record" = true := by first | (simp [plainName, overriddenIn]; done) | decide +kernel
def Q_rec (Z : State) (o : Addr) (h0 : Heap) (n0 : Nat) (v : Option Value) (h : Heap) (L : List Loc) : Prop := v = none ∧ Fr n0 L ∧ h = h0
set_option maxRecDepth 65536 in
set_option maxHeartbeats 40000000 in
theorem rm_rec (l : Launch) (Z : State) (a0 : Array Value) (hw : ∀ d ∈ tables_1, d.before a0 Z = true) (ws : List Jvm.Cond) (o : Addr) (h0 : Heap) (n0 : Nat) (Z0 : n0 ≤ h0.size) :
    MetFree l (⟨"java/lang/Record", "<init>", "()V"⟩ : MethodName) (head1 (Jvm.Cond.code (⟨"java/lang/Record", "<init>", "()V"⟩ : MethodName) jdk_30_method_1_code 1 none :: ws) ({ frames := 1, cells := 0, slots := 0, locals := 12 } : Room)) (fun aA U => aA = #[(.ref o)] ∧ Z.Warmed39 U.vm ∧ U.heap = h0) (fun _ _ _ _ _ => True) (fun _ U oO U' => ∃ vV LL, oO = .returned vV ∧ Q_rec Z o h0 n0 vV U'.heap LL ∧ FrameEnd U oO U' LL ({ frames := 1, cells := 0, slots := 0, locals := 12 } : Room).cells ({ frames := 1, cells := 0, slots := 0, locals := 12 } : Room).slots) := by
  refine MetFree.of_bodySF (plainFor_of_name pn_0) hisR ?_
  intro p e s m args below meth c s₁ Bd hml0 hP hK
  obtain ⟨rfl, hZ, hh⟩ := hP
  have hx := Bd.exec
  have hby := Bd.bytes
  have hml : c.maxLocals = 1 := hml0
  have hown : s.vm.findClass "java/lang/Record" = some m.cls := findClass_of_methodNamed Bd.named
  have hnm := (name_of_methodNamed Bd.named Bd.method).1
  have X0 : Stand p l e ({ frames := 1, cells := 0, slots := 0, locals := 12 } : Room) s m #[(.ref o)] below meth c s₁ [] 0 0 := Stand.of_body Bd
  have e0 : s₁.heap = h0 := by rw [← hh, Bd.state]; rfl
  have N0 := Fr.nil n0
  have hret := Bd.returns
  have hlk : meth.locks = false := Bd.notSynchronized
  refine own_start (ef_0 m o) ?_
  show own_Go p e below s (Q_rec Z o h0 n0) ({ frames := 1, cells := 0, slots := 0, locals := 12 } : Room).cells ({ frames := 1, cells := 0, slots := 0, locals := 12 } : Room).slots (s₁.setTop (mkF m 0 #[.val (.ref o)] []))
  refine g_aload_n X0 hx 1 (hb hby d_jdk_30_method_1_0) rfl rfl rfl ?_
  refine own_initO X0 hx hZ hown (hw _ (List.mem_of_getElem? (i := 24) rfl)) (hw _ (List.mem_of_getElem? (i := 25) rfl)) (hw _ (List.mem_of_getElem? (i := 26) rfl)) e0 4 (by rw [hml]; rfl) (hb hby d_jdk_30_method_1_1) rfl (by decide) 0 rfl (by decide) fun T1 X1 e1 => ?_
  refine own_retV X1 hx hlk hret (hb hby d_jdk_30_method_1_4) ?_ (by decide) (by decide)
  rw [e1]
  exact ⟨rfl, N0, rfl⟩
theorem d_prog_85_method_7_0 : decode prog_85_method_7_code 0 = .ok (.aload_n 0, 1) := by decide +kernel
theorem d_prog_85_method_7_1 : decode prog_85_method_7_code 1 = .ok (.getfield 27, 3) := by decide +kernel
theorem d_prog_85_method_7_4 : decode prog_85_method_7_code 4 = .ok (.areturn, 1) := by decide +kernel
theorem pn_1 : plainName "com/example/libelem/libelem/rank/ContextField" = true := by first | (simp [plainName, overriddenIn]; done) | decide +kernel
def Q_names (Z : State) (o : Addr) (sn : Addr) (h0 : Heap) (n0 : Nat) (v : Option Value) (h : Heap) (L : List Loc) : Prop := v = some (.ref sn) ∧ Fr n0 L ∧ h = h0
set_option maxRecDepth 65536 in
set_option maxHeartbeats 40000000 in
theorem rm_names (l : Launch) (Z : State) (a0 : Array Value) (hw : ∀ d ∈ tables_1, d.before a0 Z = true) (ws : List Jvm.Cond) (o : Addr) (sn : Addr) (h0 : Heap) (n0 : Nat) (Z0 : n0 ≤ h0.size) (F_o_names : Fld Z h0 o "com/example/libelem/libelem/rank/ContextField" "names" "Ljava/util/Set;" (.ref sn)) :
    MetFree l (⟨"com/example/libelem/libelem/rank/ContextField", "names", "()Ljava/util/Set;"⟩ : MethodName) (head1 (Jvm.Cond.code (⟨"com/example/libelem/libelem/rank/ContextField", "names", "()Ljava/util/Set;"⟩ : MethodName) prog_85_method_7_code 1 (some (.object "java/util/Set")) :: ws) ({ frames := 0, cells := 0, slots := 0, locals := 0 } : Room)) (fun aA U => aA = #[(.ref o)] ∧ Z.Warmed39 U.vm ∧ U.heap = h0) (fun _ _ _ _ _ => True) (fun _ U oO U' => ∃ vV LL, oO = .returned vV ∧ Q_names Z o sn h0 n0 vV U'.heap LL ∧ FrameEnd U oO U' LL ({ frames := 0, cells := 0, slots := 0, locals := 0 } : Room).cells ({ frames := 0, cells := 0, slots := 0, locals := 0 } : Room).slots) := by
  refine MetFree.of_bodySF (plainFor_of_name pn_1) hisR ?_
  intro p e s m args below meth c s₁ Bd hml0 hP hK
  obtain ⟨rfl, hZ, hh⟩ := hP
  have hx := Bd.exec
  have hby := Bd.bytes
  have hml : c.maxLocals = 1 := hml0
  have hown : s.vm.findClass "com/example/libelem/libelem/rank/ContextField" = some m.cls := findClass_of_methodNamed Bd.named
  have hnm := (name_of_methodNamed Bd.named Bd.method).1
  have X0 : Stand p l e ({ frames := 0, cells := 0, slots := 0, locals := 0 } : Room) s m #[(.ref o)] below meth c s₁ [] 0 0 := Stand.of_body Bd
  have e0 : s₁.heap = h0 := by rw [← hh, Bd.state]; rfl
  have N0 := Fr.nil n0
  have hret := Bd.returns
  have hlk : meth.locks = false := Bd.notSynchronized
  refine own_start (ef_0 m o) ?_
  show own_Go p e below s (Q_names Z o sn h0 n0) ({ frames := 0, cells := 0, slots := 0, locals := 0 } : Room).cells ({ frames := 0, cells := 0, slots := 0, locals := 0 } : Room).slots (s₁.setTop (mkF m 0 #[.val (.ref o)] []))
  refine g_aload_n X0 hx 1 (hb hby d_prog_85_method_7_0) rfl rfl rfl ?_
  refine own_getF X0 hx hZ hown (host := "") (Or.inl (hw _ (List.mem_of_getElem? (i := 14) rfl))) Via.refl e0 F_o_names 4 (hb hby d_prog_85_method_7_1) rfl fun T2 X2 e2 => ?_
  refine own_retA X2 hx hlk hret rfl rfl (hb hby d_prog_85_method_7_4) ?_ (by decide) (by decide)
  rw [e2]
  exact ⟨rfl, N0, rfl⟩
theorem d_jdk_96_method_29_0 : decode jdk_96_method_29_code 0 = .ok (.aload_n 0, 1) := by decide +kernel
theorem d_jdk_96_method_29_1 : decode jdk_96_method_29_code 1 = .ok (.instanceof 31, 3) := by decide +kernel
theorem d_jdk_96_method_29_4 : decode jdk_96_method_29_code 4 = .ok (.ifCond .eq 8, 3) := by decide +kernel
theorem d_jdk_96_method_29_7 : decode jdk_96_method_29_code 7 = .ok (.aload_n 0, 1) := by decide +kernel
theorem d_jdk_96_method_29_8 : decode jdk_96_method_29_code 8 = .ok (.checkcast 33, 3) := by decide +kernel
theorem d_jdk_96_method_29_11 : decode jdk_96_method_29_code 11 = .ok (.areturn, 1) := by decide +kernel
theorem pn_2 : plainName "java/util/Set" = true := by first | (simp [plainName, overriddenIn]; done) | decide +kernel
def Q_copyOf (Z : State) (sn : Addr) (h0 : Heap) (n0 : Nat) (v : Option Value) (h : Heap) (L : List Loc) : Prop := v = some (.ref sn) ∧ Fr n0 L ∧ h = h0
set_option maxRecDepth 65536 in
set_option maxHeartbeats 40000000 in
theorem rm_copyOf (l : Launch) (Z : State) (a0 : Array Value) (hw : ∀ d ∈ tables_1, d.before a0 Z = true) (ws : List Jvm.Cond) (sn : Addr) (h0 : Heap) (n0 : Nat) (Z0 : n0 ≤ h0.size) (E_sn : Exa Z h0 sn "java/util/ImmutableCollections$SetN") :
    MetFree l (⟨"java/util/Set", "copyOf", "(Ljava/util/Collection;)Ljava/util/Set;"⟩ : MethodName) (head1 (Jvm.Cond.code (⟨"java/util/Set", "copyOf", "(Ljava/util/Collection;)Ljava/util/Set;"⟩ : MethodName) jdk_96_method_29_code 1 (some (.object "java/util/Set")) :: ws) ({ frames := 0, cells := 0, slots := 0, locals := 0 } : Room)) (fun aA U => aA = #[(.ref sn)] ∧ Z.Warmed39 U.vm ∧ U.heap = h0) (fun _ _ _ _ _ => True) (fun _ U oO U' => ∃ vV LL, oO = .returned vV ∧ Q_copyOf Z sn h0 n0 vV U'.heap LL ∧ FrameEnd U oO U' LL ({ frames := 0, cells := 0, slots := 0, locals := 0 } : Room).cells ({ frames := 0, cells := 0, slots := 0, locals := 0 } : Room).slots) := by
  refine MetFree.of_bodySF (plainFor_of_name pn_2) hisR ?_
  intro p e s m args below meth c s₁ Bd hml0 hP hK
  obtain ⟨rfl, hZ, hh⟩ := hP
  have hx := Bd.exec
  have hby := Bd.bytes
  have hml : c.maxLocals = 1 := hml0
  have hown : s.vm.findClass "java/util/Set" = some m.cls := findClass_of_methodNamed Bd.named
  have hnm := (name_of_methodNamed Bd.named Bd.method).1
  have X0 : Stand p l e ({ frames := 0, cells := 0, slots := 0, locals := 0 } : Room) s m #[(.ref sn)] below meth c s₁ [] 0 0 := Stand.of_body Bd
  have e0 : s₁.heap = h0 := by rw [← hh, Bd.state]; rfl
  have N0 := Fr.nil n0
  have hret := Bd.returns
  have hlk : meth.locks = false := Bd.notSynchronized
  refine own_start (ef_0 m sn) ?_
  show own_Go p e below s (Q_copyOf Z sn h0 n0) ({ frames := 0, cells := 0, slots := 0, locals := 0 } : Room).cells ({ frames := 0, cells := 0, slots := 0, locals := 0 } : Room).slots (s₁.setTop (mkF m 0 #[.val (.ref sn)] []))
  refine g_aload_n X0 hx 1 (hb hby d_jdk_96_method_29_0) rfl rfl rfl ?_
  refine own_instY X0 hx hZ hown (hw _ (List.mem_of_getElem? (i := 31) rfl)) e0 (Ins.of_exa E_sn (hw _ (List.mem_of_getElem? (i := 32) rfl))) 4 (hb hby d_jdk_96_method_29_1) rfl fun T3 X3 e3 => ?_
  refine g_ifNo X3 hx 7 (hb hby d_jdk_96_method_29_4) (own_i0_eq_f (by decide)) rfl ?_
  refine g_aload_n X3 hx 8 (hb hby d_jdk_96_method_29_7) rfl rfl rfl ?_
  refine own_castY X3 hx hZ hown (hw _ (List.mem_of_getElem? (i := 33) rfl)) e3 (Ins.of_exa E_sn (hw _ (List.mem_of_getElem? (i := 34) rfl))) 11 (hb hby d_jdk_96_method_29_8) rfl fun T4 X4 e4 => ?_
  refine own_retA X4 hx hlk hret rfl rfl (hb hby d_jdk_96_method_29_11) ?_ (by decide) (by decide)
  rw [e4]
  exact ⟨rfl, N0, rfl⟩
theorem d_prog_85_method_1_0 : decode prog_85_method_1_code 0 = .ok (.aload_n 0, 1) := by decide +kernel
theorem d_prog_85_method_1_1 : decode prog_85_method_1_code 1 = .ok (.invokespecial 1, 3) := by decide +kernel
theorem pd_0 : parseMethodDescriptor "()V" = some ⟨[], none⟩ := by decide +kernel
theorem d_prog_85_method_1_4 : decode prog_85_method_1_code 4 = .ok (.aload_n 1, 1) := by decide +kernel
theorem d_prog_85_method_1_5 : decode prog_85_method_1_code 5 = .ok (.invokestatic 7, 3) := by decide +kernel
theorem pd_1 : parseMethodDescriptor "(Ljava/util/Collection;)Ljava/util/Set;" = some ⟨[(.object "java/util/Collection")], some (.object "java/util/Set")⟩ := by decide +kernel
theorem d_prog_85_method_1_8 : decode prog_85_method_1_code 8 = .ok (.astore_n 1, 1) := by decide +kernel
theorem d_prog_85_method_1_9 : decode prog_85_method_1_code 9 = .ok (.dload_n 2, 1) := by decide +kernel
theorem d_prog_85_method_1_10 : decode prog_85_method_1_code 10 = .ok (.dconst 0, 1) := by decide +kernel
theorem d_prog_85_method_1_11 : decode prog_85_method_1_code 11 = .ok (.dcmp .l, 1) := by decide +kernel
theorem d_prog_85_method_1_12 : decode prog_85_method_1_code 12 = .ok (.ifCond .lt 11, 3) := by decide +kernel
theorem d_prog_85_method_1_15 : decode prog_85_method_1_code 15 = .ok (.dload_n 2, 1) := by decide +kernel
theorem d_prog_85_method_1_16 : decode prog_85_method_1_code 16 = .ok (.ldc2_w 15, 3) := by decide +kernel
theorem d_prog_85_method_1_19 : decode prog_85_method_1_code 19 = .ok (.dcmp .g, 1) := by decide +kernel
theorem d_prog_85_method_1_20 : decode prog_85_method_1_code 20 = .ok (.ifCond .lt 17, 3) := by decide +kernel
theorem d_prog_85_method_1_37 : decode prog_85_method_1_code 37 = .ok (.dload 4, 2) := by decide +kernel
theorem d_prog_85_method_1_39 : decode prog_85_method_1_code 39 = .ok (.dconst 0, 1) := by decide +kernel
theorem d_prog_85_method_1_40 : decode prog_85_method_1_code 40 = .ok (.dcmp .l, 1) := by decide +kernel
theorem d_prog_85_method_1_41 : decode prog_85_method_1_code 41 = .ok (.ifCond .lt 10, 3) := by decide +kernel
theorem d_prog_85_method_1_44 : decode prog_85_method_1_code 44 = .ok (.dload 4, 2) := by decide +kernel
theorem d_prog_85_method_1_46 : decode prog_85_method_1_code 46 = .ok (.dconst 1, 1) := by decide +kernel
theorem d_prog_85_method_1_47 : decode prog_85_method_1_code 47 = .ok (.dcmp .g, 1) := by decide +kernel
theorem d_prog_85_method_1_48 : decode prog_85_method_1_code 48 = .ok (.ifCond .le 18, 3) := by decide +kernel
theorem d_prog_85_method_1_66 : decode prog_85_method_1_code 66 = .ok (.aload_n 0, 1) := by decide +kernel
theorem d_prog_85_method_1_67 : decode prog_85_method_1_code 67 = .ok (.aload_n 1, 1) := by decide +kernel
theorem d_prog_85_method_1_68 : decode prog_85_method_1_code 68 = .ok (.putfield 27, 3) := by decide +kernel
theorem d_prog_85_method_1_71 : decode prog_85_method_1_code 71 = .ok (.aload_n 0, 1) := by decide +kernel
theorem d_prog_85_method_1_72 : decode prog_85_method_1_code 72 = .ok (.dload_n 2, 1) := by decide +kernel
theorem d_prog_85_method_1_73 : decode prog_85_method_1_code 73 = .ok (.putfield 33, 3) := by decide +kernel
theorem d_prog_85_method_1_76 : decode prog_85_method_1_code 76 = .ok (.aload_n 0, 1) := by decide +kernel
theorem d_prog_85_method_1_77 : decode prog_85_method_1_code 77 = .ok (.dload 4, 2) := by decide +kernel
theorem d_prog_85_method_1_79 : decode prog_85_method_1_code 79 = .ok (.putfield 37, 3) := by decide +kernel
theorem d_prog_85_method_1_82 : decode prog_85_method_1_code 82 = .ok (.return_, 1) := by decide +kernel
theorem ef_1 (m : MethodId) (x0 : Addr) (x1 : Addr) (x2 : UInt64) (x3 : UInt64) : entryFrame m #[(.ref x0), (.ref x1), (.double x2), (.double x3)] 6 = mkF m 0 #[.val (.ref x0), .val (.ref x1), .val (.double x2), .second, .val (.double x3), .second] [] := by first | (simp [entryFrame, mkF, argsToLocals, Value.category]; done) | rfl
def Q_init (Z : State) (o : Addr) (sn : Addr) (xw : UInt64) (xb : UInt64) (h0 : Heap) (n0 : Nat) (v : Option Value) (h : Heap) (L : List Loc) : Prop := v = none ∧ Fr n0 L ∧ Keep h0 h [o] ∧ Fld Z h o "com/example/libelem/libelem/rank/ContextField" "weight" "D" (.double xw) ∧ Fld Z h o "com/example/libelem/libelem/rank/ContextField" "b" "D" (.double xb)
set_option maxRecDepth 65536 in
set_option maxHeartbeats 40000000 in
theorem rm_init (l : Launch) (Z : State) (a0 : Array Value) (hw : ∀ d ∈ tables_1, d.before a0 Z = true) (ws : List Jvm.Cond) (o : Addr) (sn : Addr) (xw : UInt64) (xb : UInt64) (h0 : Heap) (n0 : Nat) (Z0 : n0 ≤ h0.size) (E_o : Exa Z h0 o "com/example/libelem/libelem/rank/ContextField") (E_sn : Exa Z h0 sn "java/util/ImmutableCollections$SetN") (F_o_names : Fld Z h0 o "com/example/libelem/libelem/rank/ContextField" "names" "Ljava/util/Set;" .null) (F_o_weight : Fld Z h0 o "com/example/libelem/libelem/rank/ContextField" "weight" "D" (.double (0 : UInt64))) (F_o_b : Fld Z h0 o "com/example/libelem/libelem/rank/ContextField" "b" "D" (.double (0 : UInt64))) (g_o : n0 ≤ o) (i1 : ¬ ((cmpValue (FP.dcmp xw (0 : UInt64)) .l) < (0 : Int32))) (i2 : (cmpValue (FP.dcmp xw (9218868437227405312 : UInt64)) .g) < (0 : Int32)) (i3 : ¬ ((cmpValue (FP.dcmp xb (0 : UInt64)) .l) < (0 : Int32))) (i4 : ¬ ((0 : Int32) < (cmpValue (FP.dcmp xb (4607182418800017408 : UInt64)) .g))) :
    MetFree l (⟨"com/example/libelem/libelem/rank/ContextField", "<init>", "(Ljava/util/Set;DD)V"⟩ : MethodName) (head1 (Jvm.Cond.code (⟨"com/example/libelem/libelem/rank/ContextField", "<init>", "(Ljava/util/Set;DD)V"⟩ : MethodName) prog_85_method_1_code 6 none :: ws) ({ frames := 2, cells := 0, slots := 0, locals := 24 } : Room)) (fun aA U => aA = #[(.ref o), (.ref sn), (.double xw), (.double xb)] ∧ Z.Warmed39 U.vm ∧ U.heap = h0) (fun _ _ _ _ _ => True) (fun _ U oO U' => ∃ vV LL, oO = .returned vV ∧ Q_init Z o sn xw xb h0 n0 vV U'.heap LL ∧ FrameEnd U oO U' LL ({ frames := 2, cells := 0, slots := 0, locals := 24 } : Room).cells ({ frames := 2, cells := 0, slots := 0, locals := 24 } : Room).slots) := by
  refine MetFree.of_bodySF (plainFor_of_name pn_1) hisR ?_
  intro p e s m args below meth c s₁ Bd hml0 hP hK
  obtain ⟨rfl, hZ, hh⟩ := hP
  have hx := Bd.exec
  have hby := Bd.bytes
  have hml : c.maxLocals = 6 := hml0
  have hown : s.vm.findClass "com/example/libelem/libelem/rank/ContextField" = some m.cls := findClass_of_methodNamed Bd.named
  have hnm := (name_of_methodNamed Bd.named Bd.method).1
  have X0 : Stand p l e ({ frames := 2, cells := 0, slots := 0, locals := 24 } : Room) s m #[(.ref o), (.ref sn), (.double xw), (.double xb)] below meth c s₁ [] 0 0 := Stand.of_body Bd
  have e0 : s₁.heap = h0 := by rw [← hh, Bd.state]; rfl
  have N0 := Fr.nil n0
  have hret := Bd.returns
  have hlk : meth.locks = false := Bd.notSynchronized
  refine own_start (ef_1 m o sn xw xb) ?_
  show own_Go p e below s (Q_init Z o sn xw xb h0 n0) ({ frames := 2, cells := 0, slots := 0, locals := 24 } : Room).cells ({ frames := 2, cells := 0, slots := 0, locals := 24 } : Room).slots (s₁.setTop (mkF m 0 #[.val (.ref o), .val (.ref sn), .val (.double xw), .second, .val (.double xb), .second] []))
  refine g_aload_n X0 hx 1 (hb hby d_prog_85_method_1_0) rfl rfl rfl ?_
  refine own_callI X0 hx hZ hown rfl (hw _ (List.mem_of_getElem? (i := 19) rfl)) (hw _ (List.mem_of_getElem? (i := 20) rfl)) (by decide) (rm_rec l Z a0 hw [] o h0 n0 Z0 ) (hw _ (List.mem_of_getElem? (i := 23) rfl)) (hw _ (List.mem_of_getElem? (i := 22) rfl)) e0 0 (by decide) (by decide) (by decide) (by decide) o [] [] rfl pd_0 rfl 4 rfl (by rw [hml]; rfl) rfl (hb hby d_prog_85_method_1_1) rfl fun T5 v5 L5 X5 hQ5 => ?_
  obtain ⟨rfl, Nq5, e5⟩ := hQ5
  have N5 := Fr.app N0 Nq5
  show own_Go p e below s _ _ _ (T5.setTop (mkF m 4 _ []))
  refine g_aload_n X5 hx 5 (hb hby d_prog_85_method_1_4) rfl rfl rfl ?_
  refine own_callS X5 hx hZ hown (hw _ (List.mem_of_getElem? (i := 27) rfl)) (hw _ (List.mem_of_getElem? (i := 28) rfl)) (by decide) (rm_copyOf l Z a0 hw [] sn h0 n0 Z0 E_sn) (hw _ (List.mem_of_getElem? (i := 30) rfl)) (hw _ (List.mem_of_getElem? (i := 29) rfl)) e5 0 (by decide) (by decide) (by decide) (by decide) [(.ref sn)] [] rfl pd_1 rfl 8 rfl (by rw [hml]; rfl) rfl (hb hby d_prog_85_method_1_5) rfl fun T6 v6 L6 X6 hQ6 => ?_
  obtain ⟨rfl, Nq6, e6⟩ := hQ6
  have N6 := Fr.app N5 Nq6
  show own_Go p e below s _ _ _ (T6.setTop (mkF m 8 _ [(.ref sn)]))
  refine g_astore_n X6 hx 9 (hb hby d_prog_85_method_1_8) rfl (l' := #[.val (.ref o), .val (.ref sn), .val (.double xw), .second, .val (.double xb), .second]) rfl rfl ?_
  refine g_dload_n X6 hx 10 (hb hby d_prog_85_method_1_9) rfl rfl ?_
  refine g_dconst0 X6 hx 11 (hb hby d_prog_85_method_1_10) (v := (0 : UInt64)) (by decide +kernel) rfl ?_
  refine g_dcmp X6 hx 12 (hb hby d_prog_85_method_1_11) rfl ?_
  refine g_ifNo X6 hx 15 (hb hby d_prog_85_method_1_12) (own_i0_lt_f i1) rfl ?_
  refine g_dload_n X6 hx 16 (hb hby d_prog_85_method_1_15) rfl rfl ?_
  refine g_ldc2_wD X6 hx hown 19 (z := (9218868437227405312 : UInt64)) (mvT hZ (hw _ (List.mem_of_getElem? (i := 35) rfl))) (hb hby d_prog_85_method_1_16) rfl ?_
  refine g_dcmp X6 hx 20 (hb hby d_prog_85_method_1_19) rfl ?_
  refine g_ifYes X6 hx 37 (hb hby d_prog_85_method_1_20) (own_i0_lt_t i2) (by decide) (by decide) ?_
  refine g_dload X6 hx 39 (hb hby d_prog_85_method_1_37) rfl rfl ?_
  refine g_dconst0 X6 hx 40 (hb hby d_prog_85_method_1_39) (v := (0 : UInt64)) (by decide +kernel) rfl ?_
  refine g_dcmp X6 hx 41 (hb hby d_prog_85_method_1_40) rfl ?_
  refine g_ifNo X6 hx 44 (hb hby d_prog_85_method_1_41) (own_i0_lt_f i3) rfl ?_
  refine g_dload X6 hx 46 (hb hby d_prog_85_method_1_44) rfl rfl ?_
  refine g_dconst1 X6 hx 47 (hb hby d_prog_85_method_1_46) (v := (4607182418800017408 : UInt64)) (by decide +kernel) rfl ?_
  refine g_dcmp X6 hx 48 (hb hby d_prog_85_method_1_47) rfl ?_
  refine g_ifYes X6 hx 66 (hb hby d_prog_85_method_1_48) (own_i0_le_t i4) (by decide) (by decide) ?_
  refine g_aload_n X6 hx 67 (hb hby d_prog_85_method_1_66) rfl rfl rfl ?_
  refine g_aload_n X6 hx 68 (hb hby d_prog_85_method_1_67) rfl rfl rfl ?_
  refine own_putF X6 hx hZ hown (host := "") (Or.inl (hw _ (List.mem_of_getElem? (i := 14) rfl))) Via.refl e6 F_o_names E_o (Or.inr ⟨(hw _ (List.mem_of_getElem? (i := 15) rfl)), rfl, hnm⟩) (hw _ (List.mem_of_getElem? (i := 5) rfl)) (ty := (.object "java/util/Set")) (by decide) rfl rfl 71 (hb hby d_prog_85_method_1_68) rfl fun T11 h11 X11 e11 W11 => ?_
  have f11 : Fld Z h11 o "com/example/libelem/libelem/rank/ContextField" "names" "Ljava/util/Set;" (.ref sn) := Fld.same W11 F_o_names
  have N11 := Fr.snoc X11 N6 g_o
  have z12 : n0 ≤ h11.size := (Nat.le_trans Z0 (Keep.of_wr W11).1)
  have K13 : Keep h0 h11 [o] := (Keep.refl h0 [o]).wr W11 (Or.inl (List.mem_of_getElem? (i := 0) rfl))
  refine g_aload_n X11 hx 72 (hb hby d_prog_85_method_1_71) rfl rfl rfl ?_
  refine g_dload_n X11 hx 73 (hb hby d_prog_85_method_1_72) rfl rfl ?_
  have f14 : Exa Z h11 o "com/example/libelem/libelem/rank/ContextField" := (Exa.wr W11 E_o)
  have f15 : Fld Z h11 o "com/example/libelem/libelem/rank/ContextField" "weight" "D" (.double (0 : UInt64)) := (Fld.other W11 F_o_weight (Or.inr (slot_ne (Or.inr (hw _ (List.mem_of_getElem? (i := 37) rfl))) (Or.inr (hw _ (List.mem_of_getElem? (i := 15) rfl))) (by decide) (t := .double) (t' := (.object "java/util/Set")) (by decide) (by decide))))
  refine own_putF X11 hx hZ hown (host := "") (Or.inl (hw _ (List.mem_of_getElem? (i := 36) rfl))) Via.refl e11 f15 f14 (Or.inr ⟨(hw _ (List.mem_of_getElem? (i := 37) rfl)), rfl, hnm⟩) (hw _ (List.mem_of_getElem? (i := 5) rfl)) (ty := .double) (by decide) rfl rfl 76 (hb hby d_prog_85_method_1_73) rfl fun T16 h16 X16 e16 W16 => ?_
  have f16 : Fld Z h16 o "com/example/libelem/libelem/rank/ContextField" "weight" "D" (.double xw) := Fld.same W16 f15
  have N16 := Fr.snoc X16 N11 g_o
  have z17 : n0 ≤ h16.size := (Nat.le_trans z12 (Keep.of_wr W16).1)
  have K18 : Keep h0 h16 [o] := K13.wr W16 (Or.inl (List.mem_of_getElem? (i := 0) rfl))
  refine g_aload_n X16 hx 77 (hb hby d_prog_85_method_1_76) rfl rfl rfl ?_
  refine g_dload X16 hx 79 (hb hby d_prog_85_method_1_77) rfl rfl ?_
  have f19 : Exa Z h16 o "com/example/libelem/libelem/rank/ContextField" := (Exa.wr W16 f14)
  have f20 : Fld Z h16 o "com/example/libelem/libelem/rank/ContextField" "b" "D" (.double (0 : UInt64)) := (Fld.other W16 (Fld.other W11 F_o_b (Or.inr (slot_ne (Or.inr (hw _ (List.mem_of_getElem? (i := 39) rfl))) (Or.inr (hw _ (List.mem_of_getElem? (i := 15) rfl))) (by decide) (t := .double) (t' := (.object "java/util/Set")) (by decide) (by decide)))) (Or.inr (slot_ne (Or.inr (hw _ (List.mem_of_getElem? (i := 39) rfl))) (Or.inr (hw _ (List.mem_of_getElem? (i := 37) rfl))) (by decide) (t := .double) (t' := .double) (by decide) (by decide))))
  refine own_putF X16 hx hZ hown (host := "") (Or.inl (hw _ (List.mem_of_getElem? (i := 38) rfl))) Via.refl e16 f20 f19 (Or.inr ⟨(hw _ (List.mem_of_getElem? (i := 39) rfl)), rfl, hnm⟩) (hw _ (List.mem_of_getElem? (i := 5) rfl)) (ty := .double) (by decide) rfl rfl 82 (hb hby d_prog_85_method_1_79) rfl fun T21 h21 X21 e21 W21 => ?_
  have f21 : Fld Z h21 o "com/example/libelem/libelem/rank/ContextField" "b" "D" (.double xb) := Fld.same W21 f20
  have N21 := Fr.snoc X21 N16 g_o
  have z22 : n0 ≤ h21.size := (Nat.le_trans z17 (Keep.of_wr W21).1)
  have K23 : Keep h0 h21 [o] := K18.wr W21 (Or.inl (List.mem_of_getElem? (i := 0) rfl))
  have f24 : Fld Z h21 o "com/example/libelem/libelem/rank/ContextField" "weight" "D" (.double xw) := (Fld.other W21 f16 (Or.inr (slot_ne (Or.inr (hw _ (List.mem_of_getElem? (i := 37) rfl))) (Or.inr (hw _ (List.mem_of_getElem? (i := 39) rfl))) (by decide) (t := .double) (t' := .double) (by decide) (by decide))))
  refine own_retV X21 hx hlk hret (hb hby d_prog_85_method_1_82) ?_ (by decide) (by decide)
  rw [e21]
  exact ⟨rfl, N21, K23, f24, f21⟩
theorem d_prog_85_method_3_0 : decode prog_85_method_3_code 0 = .ok (.dconst 0, 1) := by decide +kernel
theorem d_prog_85_method_3_1 : decode prog_85_method_3_code 1 = .ok (.dstore 7, 2) := by decide +kernel
theorem d_prog_85_method_3_3 : decode prog_85_method_3_code 3 = .ok (.lload_n 1, 1) := by decide +kernel
theorem d_prog_85_method_3_4 : decode prog_85_method_3_code 4 = .ok (.lconst 0, 1) := by decide +kernel
theorem d_prog_85_method_3_5 : decode prog_85_method_3_code 5 = .ok (.lcmp, 1) := by decide +kernel
theorem d_prog_85_method_3_6 : decode prog_85_method_3_code 6 = .ok (.ifCond .le 37, 3) := by decide +kernel
theorem d_prog_85_method_3_43 : decode prog_85_method_3_code 43 = .ok (.dload 7, 2) := by decide +kernel
theorem d_prog_85_method_3_45 : decode prog_85_method_3_code 45 = .ok (.dreturn, 1) := by decide +kernel
theorem ef_2 (m : MethodId) (x0 : Addr) (x1 : Int64) (x2 : Int64) (x3 : UInt64) : entryFrame m #[(.ref x0), (.long x1), (.long x2), (.double x3)] 9 = mkF m 0 #[.val (.ref x0), .val (.long x1), .second, .val (.long x2), .second, .val (.double x3), .second, .unset, .unset] [] := by first | (simp [entryFrame, mkF, argsToLocals, Value.category]; done) | rfl
def Q_wA (Z : State) (o : Addr) (tf : Int64) (ln : Int64) (avd : UInt64) (h0 : Heap) (n0 : Nat) (v : Option Value) (h : Heap) (L : List Loc) : Prop := v = some (.double (0 : UInt64)) ∧ Fr n0 L ∧ h = h0
set_option maxRecDepth 65536 in
set_option maxHeartbeats 40000000 in
theorem rm_wA (l : Launch) (Z : State) (a0 : Array Value) (hw : ∀ d ∈ tables_1, d.before a0 Z = true) (ws : List Jvm.Cond) (o : Addr) (tf : Int64) (ln : Int64) (avd : UInt64) (h0 : Heap) (n0 : Nat) (Z0 : n0 ≤ h0.size) (ct : ¬ ((0 : Int64) < tf)) :
    MetFree l (⟨"com/example/libelem/libelem/rank/ContextField", "weighted", "(JJD)D"⟩ : MethodName) (head1 (Jvm.Cond.code (⟨"com/example/libelem/libelem/rank/ContextField", "weighted", "(JJD)D"⟩ : MethodName) prog_85_method_3_code 9 (some .double) :: ws) ({ frames := 0, cells := 0, slots := 0, locals := 0 } : Room)) (fun aA U => aA = #[(.ref o), (.long tf), (.long ln), (.double avd)] ∧ Z.Warmed39 U.vm ∧ U.heap = h0) (fun _ _ _ _ _ => True) (fun _ U oO U' => ∃ vV LL, oO = .returned vV ∧ Q_wA Z o tf ln avd h0 n0 vV U'.heap LL ∧ FrameEnd U oO U' LL ({ frames := 0, cells := 0, slots := 0, locals := 0 } : Room).cells ({ frames := 0, cells := 0, slots := 0, locals := 0 } : Room).slots) := by
  refine MetFree.of_bodySF (plainFor_of_name pn_1) hisR ?_
  intro p e s m args below meth c s₁ Bd hml0 hP hK
  obtain ⟨rfl, hZ, hh⟩ := hP
  have hx := Bd.exec
  have hby := Bd.bytes
  have hml : c.maxLocals = 9 := hml0
  have hown : s.vm.findClass "com/example/libelem/libelem/rank/ContextField" = some m.cls := findClass_of_methodNamed Bd.named
  have hnm := (name_of_methodNamed Bd.named Bd.method).1
  have X0 : Stand p l e ({ frames := 0, cells := 0, slots := 0, locals := 0 } : Room) s m #[(.ref o), (.long tf), (.long ln), (.double avd)] below meth c s₁ [] 0 0 := Stand.of_body Bd
  have e0 : s₁.heap = h0 := by rw [← hh, Bd.state]; rfl
  have N0 := Fr.nil n0
  have hret := Bd.returns
  have hlk : meth.locks = false := Bd.notSynchronized
  refine own_start (ef_2 m o tf ln avd) ?_
  show own_Go p e below s (Q_wA Z o tf ln avd h0 n0) ({ frames := 0, cells := 0, slots := 0, locals := 0 } : Room).cells ({ frames := 0, cells := 0, slots := 0, locals := 0 } : Room).slots (s₁.setTop (mkF m 0 #[.val (.ref o), .val (.long tf), .second, .val (.long ln), .second, .val (.double avd), .second, .unset, .unset] []))
  refine g_dconst0 X0 hx 1 (hb hby d_prog_85_method_3_0) (v := (0 : UInt64)) (by decide +kernel) rfl ?_
  refine g_dstore X0 hx 3 (hb hby d_prog_85_method_3_1) (l' := #[.val (.ref o), .val (.long tf), .second, .val (.long ln), .second, .val (.double avd), .second, .val (.double (0 : UInt64)), .second]) rfl rfl ?_
  refine g_lload_n X0 hx 4 (hb hby d_prog_85_method_3_3) rfl rfl ?_
  refine g_lconst X0 hx 5 (hb hby d_prog_85_method_3_4) (0 : Int64) rfl rfl ?_
  refine g_lcmp X0 hx 6 (hb hby d_prog_85_method_3_5) rfl ?_
  refine g_ifYes X0 hx 43 (hb hby d_prog_85_method_3_6) (own_ll_le_t ct) (by decide) (by decide) ?_
  refine g_dload X0 hx 45 (hb hby d_prog_85_method_3_43) rfl rfl ?_
  refine own_retD X0 hx hlk hret (hb hby d_prog_85_method_3_45) ?_ (by decide) (by decide)
  rw [e0]
  exact ⟨rfl, N0, rfl⟩
theorem d_prog_85_method_3_9 : decode prog_85_method_3_code 9 = .ok (.dload 5, 2) := by decide +kernel
theorem d_prog_85_method_3_11 : decode prog_85_method_3_code 11 = .ok (.dconst 0, 1) := by decide +kernel
theorem d_prog_85_method_3_12 : decode prog_85_method_3_code 12 = .ok (.dcmp .l, 1) := by decide +kernel
theorem d_prog_85_method_3_13 : decode prog_85_method_3_code 13 = .ok (.ifCond .le 30, 3) := by decide +kernel
def Q_wB (Z : State) (o : Addr) (tf : Int64) (ln : Int64) (avd : UInt64) (h0 : Heap) (n0 : Nat) (v : Option Value) (h : Heap) (L : List Loc) : Prop := v = some (.double (0 : UInt64)) ∧ Fr n0 L ∧ h = h0
set_option maxRecDepth 65536 in
set_option maxHeartbeats 40000000 in
theorem rm_wB (l : Launch) (Z : State) (a0 : Array Value) (hw : ∀ d ∈ tables_1, d.before a0 Z = true) (ws : List Jvm.Cond) (o : Addr) (tf : Int64) (ln : Int64) (avd : UInt64) (h0 : Heap) (n0 : Nat) (Z0 : n0 ≤ h0.size) (ct : (0 : Int64) < tf) (ca : ¬ ((0 : Int32) < (cmpValue (FP.dcmp avd (0 : UInt64)) .l))) :
    MetFree l (⟨"com/example/libelem/libelem/rank/ContextField", "weighted", "(JJD)D"⟩ : MethodName) (head1 (Jvm.Cond.code (⟨"com/example/libelem/libelem/rank/ContextField", "weighted", "(JJD)D"⟩ : MethodName) prog_85_method_3_code 9 (some .double) :: ws) ({ frames := 0, cells := 0, slots := 0, locals := 0 } : Room)) (fun aA U => aA = #[(.ref o), (.long tf), (.long ln), (.double avd)] ∧ Z.Warmed39 U.vm ∧ U.heap = h0) (fun _ _ _ _ _ => True) (fun _ U oO U' => ∃ vV LL, oO = .returned vV ∧ Q_wB Z o tf ln avd h0 n0 vV U'.heap LL ∧ FrameEnd U oO U' LL ({ frames := 0, cells := 0, slots := 0, locals := 0 } : Room).cells ({ frames := 0, cells := 0, slots := 0, locals := 0 } : Room).slots) := by
  refine MetFree.of_bodySF (plainFor_of_name pn_1) hisR ?_
  intro p e s m args below meth c s₁ Bd hml0 hP hK
  obtain ⟨rfl, hZ, hh⟩ := hP
  have hx := Bd.exec
  have hby := Bd.bytes
  have hml : c.maxLocals = 9 := hml0
  have hown : s.vm.findClass "com/example/libelem/libelem/rank/ContextField" = some m.cls := findClass_of_methodNamed Bd.named
  have hnm := (name_of_methodNamed Bd.named Bd.method).1
  have X0 : Stand p l e ({ frames := 0, cells := 0, slots := 0, locals := 0 } : Room) s m #[(.ref o), (.long tf), (.long ln), (.double avd)] below meth c s₁ [] 0 0 := Stand.of_body Bd
  have e0 : s₁.heap = h0 := by rw [← hh, Bd.state]; rfl
  have N0 := Fr.nil n0
  have hret := Bd.returns
  have hlk : meth.locks = false := Bd.notSynchronized
  refine own_start (ef_2 m o tf ln avd) ?_
  show own_Go p e below s (Q_wB Z o tf ln avd h0 n0) ({ frames := 0, cells := 0, slots := 0, locals := 0 } : Room).cells ({ frames := 0, cells := 0, slots := 0, locals := 0 } : Room).slots (s₁.setTop (mkF m 0 #[.val (.ref o), .val (.long tf), .second, .val (.long ln), .second, .val (.double avd), .second, .unset, .unset] []))
  refine g_dconst0 X0 hx 1 (hb hby d_prog_85_method_3_0) (v := (0 : UInt64)) (by decide +kernel) rfl ?_
  refine g_dstore X0 hx 3 (hb hby d_prog_85_method_3_1) (l' := #[.val (.ref o), .val (.long tf), .second, .val (.long ln), .second, .val (.double avd), .second, .val (.double (0 : UInt64)), .second]) rfl rfl ?_
  refine g_lload_n X0 hx 4 (hb hby d_prog_85_method_3_3) rfl rfl ?_
  refine g_lconst X0 hx 5 (hb hby d_prog_85_method_3_4) (0 : Int64) rfl rfl ?_
  refine g_lcmp X0 hx 6 (hb hby d_prog_85_method_3_5) rfl ?_
  refine g_ifNo X0 hx 9 (hb hby d_prog_85_method_3_6) (own_ll_le_f ct) rfl ?_
  refine g_dload X0 hx 11 (hb hby d_prog_85_method_3_9) rfl rfl ?_
  refine g_dconst0 X0 hx 12 (hb hby d_prog_85_method_3_11) (v := (0 : UInt64)) (by decide +kernel) rfl ?_
  refine g_dcmp X0 hx 13 (hb hby d_prog_85_method_3_12) rfl ?_
  refine g_ifYes X0 hx 43 (hb hby d_prog_85_method_3_13) (own_i0_le_t ca) (by decide) (by decide) ?_
  refine g_dload X0 hx 45 (hb hby d_prog_85_method_3_43) rfl rfl ?_
  refine own_retD X0 hx hlk hret (hb hby d_prog_85_method_3_45) ?_ (by decide) (by decide)
  rw [e0]
  exact ⟨rfl, N0, rfl⟩
theorem d_prog_85_method_3_16 : decode prog_85_method_3_code 16 = .ok (.aload_n 0, 1) := by decide +kernel
theorem d_prog_85_method_3_17 : decode prog_85_method_3_code 17 = .ok (.getfield 33, 3) := by decide +kernel
theorem d_prog_85_method_3_20 : decode prog_85_method_3_code 20 = .ok (.lload_n 1, 1) := by decide +kernel
theorem d_prog_85_method_3_21 : decode prog_85_method_3_code 21 = .ok (.l2d, 1) := by decide +kernel
theorem d_prog_85_method_3_22 : decode prog_85_method_3_code 22 = .ok (.dconst 1, 1) := by decide +kernel
theorem d_prog_85_method_3_23 : decode prog_85_method_3_code 23 = .ok (.aload_n 0, 1) := by decide +kernel
theorem d_prog_85_method_3_24 : decode prog_85_method_3_code 24 = .ok (.getfield 37, 3) := by decide +kernel
theorem d_prog_85_method_3_27 : decode prog_85_method_3_code 27 = .ok (.dsub, 1) := by decide +kernel
theorem d_prog_85_method_3_28 : decode prog_85_method_3_code 28 = .ok (.aload_n 0, 1) := by decide +kernel
theorem d_prog_85_method_3_29 : decode prog_85_method_3_code 29 = .ok (.getfield 37, 3) := by decide +kernel
theorem d_prog_85_method_3_32 : decode prog_85_method_3_code 32 = .ok (.lload_n 3, 1) := by decide +kernel
theorem d_prog_85_method_3_33 : decode prog_85_method_3_code 33 = .ok (.l2d, 1) := by decide +kernel
theorem d_prog_85_method_3_34 : decode prog_85_method_3_code 34 = .ok (.dmul, 1) := by decide +kernel
theorem d_prog_85_method_3_35 : decode prog_85_method_3_code 35 = .ok (.dload 5, 2) := by decide +kernel
theorem d_prog_85_method_3_37 : decode prog_85_method_3_code 37 = .ok (.ddiv, 1) := by decide +kernel
theorem d_prog_85_method_3_38 : decode prog_85_method_3_code 38 = .ok (.dadd, 1) := by decide +kernel
theorem d_prog_85_method_3_39 : decode prog_85_method_3_code 39 = .ok (.ddiv, 1) := by decide +kernel
theorem d_prog_85_method_3_40 : decode prog_85_method_3_code 40 = .ok (.dmul, 1) := by decide +kernel
theorem d_prog_85_method_3_41 : decode prog_85_method_3_code 41 = .ok (.dstore 7, 2) := by decide +kernel
def Q_wC (Z : State) (o : Addr) (tf : Int64) (ln : Int64) (avd : UInt64) (xw : UInt64) (xb : UInt64) (h0 : Heap) (n0 : Nat) (v : Option Value) (h : Heap) (L : List Loc) : Prop := v = some (.double (FP.dmul xw (FP.ddiv (FP.l2d tf) (FP.dadd (FP.dsub (4607182418800017408 : UInt64) xb) (FP.ddiv (FP.dmul xb (FP.l2d ln)) avd))))) ∧ Fr n0 L ∧ h = h0
set_option maxRecDepth 65536 in
set_option maxHeartbeats 40000000 in
theorem rm_wC (l : Launch) (Z : State) (a0 : Array Value) (hw : ∀ d ∈ tables_1, d.before a0 Z = true) (ws : List Jvm.Cond) (o : Addr) (tf : Int64) (ln : Int64) (avd : UInt64) (xw : UInt64) (xb : UInt64) (h0 : Heap) (n0 : Nat) (Z0 : n0 ≤ h0.size) (F_o_weight : Fld Z h0 o "com/example/libelem/libelem/rank/ContextField" "weight" "D" (.double xw)) (F_o_b : Fld Z h0 o "com/example/libelem/libelem/rank/ContextField" "b" "D" (.double xb)) (ct : (0 : Int64) < tf) (ca : (0 : Int32) < (cmpValue (FP.dcmp avd (0 : UInt64)) .l)) (n1 : Jvm.Free.Fl.NoNaN64 (FP.dsub (4607182418800017408 : UInt64) xb)) (n2 : Jvm.Free.Fl.NoNaN64 (FP.dmul xb (FP.l2d ln))) (n3 : Jvm.Free.Fl.NoNaN64 (FP.ddiv (FP.dmul xb (FP.l2d ln)) avd)) (n4 : Jvm.Free.Fl.NoNaN64 (FP.dadd (FP.dsub (4607182418800017408 : UInt64) xb) (FP.ddiv (FP.dmul xb (FP.l2d ln)) avd))) (n5 : Jvm.Free.Fl.NoNaN64 (FP.ddiv (FP.l2d tf) (FP.dadd (FP.dsub (4607182418800017408 : UInt64) xb) (FP.ddiv (FP.dmul xb (FP.l2d ln)) avd)))) (n6 : Jvm.Free.Fl.NoNaN64 (FP.dmul xw (FP.ddiv (FP.l2d tf) (FP.dadd (FP.dsub (4607182418800017408 : UInt64) xb) (FP.ddiv (FP.dmul xb (FP.l2d ln)) avd))))) :
    MetFree l (⟨"com/example/libelem/libelem/rank/ContextField", "weighted", "(JJD)D"⟩ : MethodName) (head1 (Jvm.Cond.code (⟨"com/example/libelem/libelem/rank/ContextField", "weighted", "(JJD)D"⟩ : MethodName) prog_85_method_3_code 9 (some .double) :: ws) ({ frames := 0, cells := 0, slots := 0, locals := 0 } : Room)) (fun aA U => aA = #[(.ref o), (.long tf), (.long ln), (.double avd)] ∧ Z.Warmed39 U.vm ∧ U.heap = h0) (fun _ _ _ _ _ => True) (fun _ U oO U' => ∃ vV LL, oO = .returned vV ∧ Q_wC Z o tf ln avd xw xb h0 n0 vV U'.heap LL ∧ FrameEnd U oO U' LL ({ frames := 0, cells := 0, slots := 0, locals := 0 } : Room).cells ({ frames := 0, cells := 0, slots := 0, locals := 0 } : Room).slots) := by
  refine MetFree.of_bodySF (plainFor_of_name pn_1) hisR ?_
  intro p e s m args below meth c s₁ Bd hml0 hP hK
  obtain ⟨rfl, hZ, hh⟩ := hP
  have hx := Bd.exec
  have hby := Bd.bytes
  have hml : c.maxLocals = 9 := hml0
  have hown : s.vm.findClass "com/example/libelem/libelem/rank/ContextField" = some m.cls := findClass_of_methodNamed Bd.named
  have hnm := (name_of_methodNamed Bd.named Bd.method).1
  have X0 : Stand p l e ({ frames := 0, cells := 0, slots := 0, locals := 0 } : Room) s m #[(.ref o), (.long tf), (.long ln), (.double avd)] below meth c s₁ [] 0 0 := Stand.of_body Bd
  have e0 : s₁.heap = h0 := by rw [← hh, Bd.state]; rfl
  have N0 := Fr.nil n0
  have hret := Bd.returns
  have hlk : meth.locks = false := Bd.notSynchronized
  refine own_start (ef_2 m o tf ln avd) ?_
  show own_Go p e below s (Q_wC Z o tf ln avd xw xb h0 n0) ({ frames := 0, cells := 0, slots := 0, locals := 0 } : Room).cells ({ frames := 0, cells := 0, slots := 0, locals := 0 } : Room).slots (s₁.setTop (mkF m 0 #[.val (.ref o), .val (.long tf), .second, .val (.long ln), .second, .val (.double avd), .second, .unset, .unset] []))
  refine g_dconst0 X0 hx 1 (hb hby d_prog_85_method_3_0) (v := (0 : UInt64)) (by decide +kernel) rfl ?_
  refine g_dstore X0 hx 3 (hb hby d_prog_85_method_3_1) (l' := #[.val (.ref o), .val (.long tf), .second, .val (.long ln), .second, .val (.double avd), .second, .val (.double (0 : UInt64)), .second]) rfl rfl ?_
  refine g_lload_n X0 hx 4 (hb hby d_prog_85_method_3_3) rfl rfl ?_
  refine g_lconst X0 hx 5 (hb hby d_prog_85_method_3_4) (0 : Int64) rfl rfl ?_
  refine g_lcmp X0 hx 6 (hb hby d_prog_85_method_3_5) rfl ?_
  refine g_ifNo X0 hx 9 (hb hby d_prog_85_method_3_6) (own_ll_le_f ct) rfl ?_
  refine g_dload X0 hx 11 (hb hby d_prog_85_method_3_9) rfl rfl ?_
  refine g_dconst0 X0 hx 12 (hb hby d_prog_85_method_3_11) (v := (0 : UInt64)) (by decide +kernel) rfl ?_
  refine g_dcmp X0 hx 13 (hb hby d_prog_85_method_3_12) rfl ?_
  refine g_ifNo X0 hx 16 (hb hby d_prog_85_method_3_13) (own_i0_le_f ca) rfl ?_
  refine g_aload_n X0 hx 17 (hb hby d_prog_85_method_3_16) rfl rfl rfl ?_
  refine own_getF X0 hx hZ hown (host := "") (Or.inl (hw _ (List.mem_of_getElem? (i := 36) rfl))) Via.refl e0 F_o_weight 20 (hb hby d_prog_85_method_3_17) rfl fun T30 X30 e30 => ?_
  refine g_lload_n X30 hx 21 (hb hby d_prog_85_method_3_20) rfl rfl ?_
  refine g_l2d X30 hx 22 (hb hby d_prog_85_method_3_21) rfl ?_
  refine g_dconst1 X30 hx 23 (hb hby d_prog_85_method_3_22) (v := (4607182418800017408 : UInt64)) (by decide +kernel) rfl ?_
  refine g_aload_n X30 hx 24 (hb hby d_prog_85_method_3_23) rfl rfl rfl ?_
  refine own_getF X30 hx hZ hown (host := "") (Or.inl (hw _ (List.mem_of_getElem? (i := 38) rfl))) Via.refl e30 F_o_b 27 (hb hby d_prog_85_method_3_24) rfl fun T31 X31 e31 => ?_
  refine g_dsub X31 hx 28 (hb hby d_prog_85_method_3_27) n1 rfl ?_
  refine g_aload_n X31 hx 29 (hb hby d_prog_85_method_3_28) rfl rfl rfl ?_
  refine own_getF X31 hx hZ hown (host := "") (Or.inl (hw _ (List.mem_of_getElem? (i := 38) rfl))) Via.refl e31 F_o_b 32 (hb hby d_prog_85_method_3_29) rfl fun T32 X32 e32 => ?_
  refine g_lload_n X32 hx 33 (hb hby d_prog_85_method_3_32) rfl rfl ?_
  refine g_l2d X32 hx 34 (hb hby d_prog_85_method_3_33) rfl ?_
  refine g_dmul X32 hx 35 (hb hby d_prog_85_method_3_34) n2 rfl ?_
  refine g_dload X32 hx 37 (hb hby d_prog_85_method_3_35) rfl rfl ?_
  refine g_ddiv X32 hx 38 (hb hby d_prog_85_method_3_37) n3 rfl ?_
  refine g_dadd X32 hx 39 (hb hby d_prog_85_method_3_38) n4 rfl ?_
  refine g_ddiv X32 hx 40 (hb hby d_prog_85_method_3_39) n5 rfl ?_
  refine g_dmul X32 hx 41 (hb hby d_prog_85_method_3_40) n6 rfl ?_
  refine g_dstore X32 hx 43 (hb hby d_prog_85_method_3_41) (l' := #[.val (.ref o), .val (.long tf), .second, .val (.long ln), .second, .val (.double avd), .second, .val (.double (FP.dmul xw (FP.ddiv (FP.l2d tf) (FP.dadd (FP.dsub (4607182418800017408 : UInt64) xb) (FP.ddiv (FP.dmul xb (FP.l2d ln)) avd))))), .second]) rfl rfl ?_
  refine g_dload X32 hx 45 (hb hby d_prog_85_method_3_43) rfl rfl ?_
  refine own_retD X32 hx hlk hret (hb hby d_prog_85_method_3_45) ?_ (by decide) (by decide)
  rw [e32]
  exact ⟨rfl, N0, rfl⟩
theorem pd_2 : parseMethodDescriptor "()Ljava/util/Set;" = some ⟨[], some (.object "java/util/Set")⟩ := by decide +kernel
theorem pd_3 : parseMethodDescriptor "(Ljava/util/Set;DD)V" = some ⟨[(.object "java/util/Set"), .double, .double], none⟩ := by decide +kernel
theorem pd_4 : parseMethodDescriptor "(JJD)D" = some ⟨[.long, .long, .double], some .double⟩ := by decide +kernel
theorem ef_3 (m : MethodId) (x0 : Int64) (x1 : Int64) (x2 : Int32) (x3 : Int32) (x4 : Int32) : entryFrame m #[(.long x0), (.long x1), (.int x2), (.int x3), (.int x4)] maxLocals = mkF m 0 #[.val (.long x0), .second, .val (.long x1), .second, .val (.int x2), .val (.int x3), .val (.int x4), .unset, .unset, .unset, .unset, .unset, .unset, .unset, .unset, .unset, .unset, .unset, .unset, .unset, .unset, .unset, .unset, .unset, .unset, .unset] [] := by first | (simp [entryFrame, mkF, argsToLocals, Value.category, maxLocals]; done) | rfl
theorem pn_3 : plainName "com/example/libelem/libelem/rank/ContextFieldWeightedPinLaw" = true := by first | (simp [plainName, overriddenIn]; done) | decide +kernel
def Q_law (Z : State) (p0 p1 : Int64) (p2 p3 p4 : Int32) (cn sn : Addr) (h0 : Heap) (n0 : Nat) (v : Option Value) (h : Heap) (L : List Loc) : Prop := v = some (.int 1) ∧ Fr n0 L
set_option maxRecDepth 65536 in
set_option maxHeartbeats 40000000 in
theorem rm_law (l : Launch) (Z : State) (a0 : Array Value) (hw : ∀ d ∈ tables_1, d.before a0 Z = true) (ws : List Jvm.Cond) (p0 p1 : Int64) (p2 p3 p4 : Int32) (cn sn : Addr) (h0 : Heap) (n0 : Nat) (Z0 : n0 ≤ h0.size) (S_cn : Sta Z h0 "com/example/libelem/libelem/rank/ContextField" "NONE" "Lcom/example/libelem/libelem/rank/ContextField;" (.ref cn)) (E_cn : Exa Z h0 cn "com/example/libelem/libelem/rank/ContextField") (E_sn : Exa Z h0 sn "java/util/ImmutableCollections$SetN") (F_cn : Fld Z h0 cn "com/example/libelem/libelem/rank/ContextField" "names" "Ljava/util/Set;" (.ref sn)) :
    MetFree l x (head1 (Jvm.Cond.code x code maxLocals ret :: ws) room_1) (fun aA U => aA = #[(.long p0), (.long p1), (.int p2), (.int p3), (.int p4)] ∧ Z.Warmed39 U.vm ∧ U.heap = h0) (fun _ _ _ _ _ => True) (fun _ U oO U' => ∃ vV LL, oO = .returned vV ∧ Q_law Z p0 p1 p2 p3 p4 cn sn h0 n0 vV U'.heap LL ∧ FrameEnd U oO U' LL room_1.cells room_1.slots) := by
  refine MetFree.of_bodySF (plainFor_of_name pn_3) hisR ?_
  intro p e s m args below meth c s₁ Bd hml0 hP hK
  obtain ⟨rfl, hZ, hh⟩ := hP
  have hx := Bd.exec
  have hby := Bd.bytes
  have hml : c.maxLocals = 26 := hml0
  have hown : s.vm.findClass "com/example/libelem/libelem/rank/ContextFieldWeightedPinLaw" = some m.cls := findClass_of_methodNamed Bd.named
  have hnm := (name_of_methodNamed Bd.named Bd.method).1
  have X0 : Stand p l e room_1 s m #[(.long p0), (.long p1), (.int p2), (.int p3), (.int p4)] below meth c s₁ [] 0 0 := Stand.of_body Bd
  have e0 : s₁.heap = h0 := by rw [← hh, Bd.state]; rfl
  have N0 := Fr.nil n0
  have hret := Bd.returns
  have hlk : meth.locks = false := Bd.notSynchronized
  refine own_start (ef_3 m p0 p1 p2 p3 p4) ?_
  show own_Go p e below s (Q_law Z p0 p1 p2 p3 p4 cn sn h0 n0) room_1.cells room_1.slots (s₁.setTop (mkF m 0 #[.val (.long p0), .second, .val (.long p1), .second, .val (.int p2), .val (.int p3), .val (.int p4), .unset, .unset, .unset, .unset, .unset, .unset, .unset, .unset, .unset, .unset, .unset, .unset, .unset, .unset, .unset, .unset, .unset, .unset, .unset] []))
  refine g_iload X0 hx 2 (hb hby at_0) rfl rfl ?_
  refine g_ldc X0 hx hown 4 (z := (2147483647 : Int32)) (mvT hZ (hw _ (List.mem_of_getElem? (i := 0) rfl))) (hb hby at_2) rfl ?_
  refine g_iand X0 hx 5 (hb hby at_4) rfl ?_
  refine g_iconst X0 hx 6 (hb hby at_5) (5 : Int32) rfl rfl ?_
  refine g_irem X0 hx 7 (hb hby at_6) rfl (by decide) ?_
  obtain ⟨kk, q_kk⟩ : ∃ z, z = ((p2 &&& (2147483647 : Int32)) % (5 : Int32)) := ⟨_, rfl⟩
  have h_kk := own_kk p2 q_kk
  rw [← q_kk]
  refine g_istore X0 hx 9 (hb hby at_7) (l' := #[.val (.long p0), .second, .val (.long p1), .second, .val (.int p2), .val (.int p3), .val (.int p4), .val (.int kk), .unset, .unset, .unset, .unset, .unset, .unset, .unset, .unset, .unset, .unset, .unset, .unset, .unset, .unset, .unset, .unset, .unset, .unset]) rfl rfl ?_
  refine g_iload X0 hx 11 (hb hby at_9) rfl rfl ?_
  refine g_i2d X0 hx 12 (hb hby at_11) rfl ?_
  refine g_ldc2_wD X0 hx hown 15 (z := (4616189618054758400 : UInt64)) (mvT hZ (hw _ (List.mem_of_getElem? (i := 1) rfl))) (hb hby at_12) rfl ?_
  refine g_ddiv X0 hx 16 (hb hby at_15) (own_q4 kk).no rfl ?_
  refine g_dstore X0 hx 18 (hb hby at_16) (l' := #[.val (.long p0), .second, .val (.long p1), .second, .val (.int p2), .val (.int p3), .val (.int p4), .val (.int kk), .val (.double (FP.ddiv (FP.i2d kk) (4616189618054758400 : UInt64))), .second, .unset, .unset, .unset, .unset, .unset, .unset, .unset, .unset, .unset, .unset, .unset, .unset, .unset, .unset, .unset, .unset]) rfl rfl ?_
  refine g_iload X0 hx 20 (hb hby at_18) rfl rfl ?_
  refine g_sipush X0 hx 23 (hb hby at_20) (1023 : Int32) rfl rfl ?_
  refine g_iand X0 hx 24 (hb hby at_23) rfl ?_
  obtain ⟨wv, q_wv⟩ : ∃ z, z = (p4 &&& (1023 : Int32)) := ⟨_, rfl⟩
  have h_wv := own_wv p4 q_wv
  rw [← q_wv]
  refine g_i2d X0 hx 25 (hb hby at_24) rfl ?_
  refine g_ldc2_wD X0 hx hown 28 (z := (4620693217682128896 : UInt64)) (mvT hZ (hw _ (List.mem_of_getElem? (i := 2) rfl))) (hb hby at_25) rfl ?_
  refine g_ddiv X0 hx 29 (hb hby at_28) (own_q8 wv).no rfl ?_
  refine g_dstore X0 hx 31 (hb hby at_29) (l' := #[.val (.long p0), .second, .val (.long p1), .second, .val (.int p2), .val (.int p3), .val (.int p4), .val (.int kk), .val (.double (FP.ddiv (FP.i2d kk) (4616189618054758400 : UInt64))), .second, .val (.double (FP.ddiv (FP.i2d wv) (4620693217682128896 : UInt64))), .second, .unset, .unset, .unset, .unset, .unset, .unset, .unset, .unset, .unset, .unset, .unset, .unset, .unset, .unset]) rfl rfl ?_
  refine g_lload_n X0 hx 32 (hb hby at_31) rfl rfl ?_
  refine g_ldc2_w X0 hx hown 35 (z := (1099511627775 : Int64)) (mvT hZ (hw _ (List.mem_of_getElem? (i := 3) rfl))) (hb hby at_32) rfl ?_
  refine g_land X0 hx 36 (hb hby at_35) rfl ?_
  obtain ⟨lv, q_lv⟩ : ∃ z, z = (p1 &&& (1099511627775 : Int64)) := ⟨_, rfl⟩
  have h_lv := own_lv p1 q_lv
  rw [← q_lv]
  refine g_lstore X0 hx 38 (hb hby at_36) (l' := #[.val (.long p0), .second, .val (.long p1), .second, .val (.int p2), .val (.int p3), .val (.int p4), .val (.int kk), .val (.double (FP.ddiv (FP.i2d kk) (4616189618054758400 : UInt64))), .second, .val (.double (FP.ddiv (FP.i2d wv) (4620693217682128896 : UInt64))), .second, .val (.long lv), .second, .unset, .unset, .unset, .unset, .unset, .unset, .unset, .unset, .unset, .unset, .unset, .unset]) rfl rfl ?_
  refine g_iload X0 hx 40 (hb hby at_38) rfl rfl ?_
  refine g_iconst X0 hx 41 (hb hby at_40) (4 : Int32) rfl rfl ?_
  by_cases c33 : kk = (4 : Int32)
  · refine g_icmpNo X0 hx 44 (hb hby at_41) (own_ii_ne_f c33) rfl ?_
    refine g_lload X0 hx 46 (hb hby at_44) rfl rfl ?_
    refine g_lconst X0 hx 47 (hb hby at_46) (0 : Int64) rfl rfl ?_
    refine g_lcmp X0 hx 48 (hb hby at_47) rfl ?_
    by_cases c34 : lv = (0 : Int64)
    · refine g_ifNo X0 hx 51 (hb hby at_48) (own_ll_ne_f c34) rfl ?_
      refine g_lconst X0 hx 52 (hb hby at_51) (1 : Int64) rfl rfl ?_
      refine g_lstore X0 hx 54 (hb hby at_52) (l' := #[.val (.long p0), .second, .val (.long p1), .second, .val (.int p2), .val (.int p3), .val (.int p4), .val (.int kk), .val (.double (FP.ddiv (FP.i2d kk) (4616189618054758400 : UInt64))), .second, .val (.double (FP.ddiv (FP.i2d wv) (4620693217682128896 : UInt64))), .second, .val (.long (1 : Int64)), .second, .unset, .unset, .unset, .unset, .unset, .unset, .unset, .unset, .unset, .unset, .unset, .unset]) rfl rfl ?_
      have h_ln := own_lnB kk
      refine g_iload X0 hx 56 (hb hby at_54) rfl rfl ?_
      refine g_bipush X0 hx 58 (hb hby at_56) (7 : Int32) rfl rfl ?_
      refine g_iand X0 hx 59 (hb hby at_58) rfl ?_
      obtain ⟨sv, q_sv⟩ : ∃ z, z = (p3 &&& (7 : Int32)) := ⟨_, rfl⟩
      have h_sv := own_7 p3 q_sv
      rw [← q_sv]
      refine g_istore X0 hx 61 (hb hby at_59) (l' := #[.val (.long p0), .second, .val (.long p1), .second, .val (.int p2), .val (.int p3), .val (.int p4), .val (.int kk), .val (.double (FP.ddiv (FP.i2d kk) (4616189618054758400 : UInt64))), .second, .val (.double (FP.ddiv (FP.i2d wv) (4620693217682128896 : UInt64))), .second, .val (.long (1 : Int64)), .second, .val (.int sv), .unset, .unset, .unset, .unset, .unset, .unset, .unset, .unset, .unset, .unset, .unset]) rfl rfl ?_
      refine g_lconst X0 hx 62 (hb hby at_61) (1 : Int64) rfl rfl ?_
      refine g_lstore X0 hx 64 (hb hby at_62) (l' := #[.val (.long p0), .second, .val (.long p1), .second, .val (.int p2), .val (.int p3), .val (.int p4), .val (.int kk), .val (.double (FP.ddiv (FP.i2d kk) (4616189618054758400 : UInt64))), .second, .val (.double (FP.ddiv (FP.i2d wv) (4620693217682128896 : UInt64))), .second, .val (.long (1 : Int64)), .second, .val (.int sv), .val (.long (1 : Int64)), .second, .unset, .unset, .unset, .unset, .unset, .unset, .unset, .unset, .unset]) rfl rfl ?_
      refine g_iload X0 hx 66 (hb hby at_64) rfl rfl ?_
      by_cases c35 : sv = (0 : Int32)
      · refine g_ifNo X0 hx 69 (hb hby at_66) (own_i0_ne_f c35) rfl ?_
        refine g_dconst0 X0 hx 70 (hb hby at_69) (v := (0 : UInt64)) (by decide +kernel) rfl ?_
        refine g_dstore X0 hx 72 (hb hby at_70) (l' := #[.val (.long p0), .second, .val (.long p1), .second, .val (.int p2), .val (.int p3), .val (.int p4), .val (.int kk), .val (.double (FP.ddiv (FP.i2d kk) (4616189618054758400 : UInt64))), .second, .val (.double (FP.ddiv (FP.i2d wv) (4620693217682128896 : UInt64))), .second, .val (.long (1 : Int64)), .second, .val (.int sv), .val (.long (1 : Int64)), .second, .val (.double (0 : UInt64)), .second, .unset, .unset, .unset, .unset, .unset, .unset, .unset]) rfl rfl ?_
        refine g_goto X0 hx 106 (hb hby at_72) (by decide) (by decide) ?_
        refine own_newO X0 hx hZ hown (hw _ (List.mem_of_getElem? (i := 4) rfl)) (hw _ (List.mem_of_getElem? (i := 5) rfl)) (hw _ (List.mem_of_getElem? (i := 6) rfl)) e0 109 (hb hby at_106) rfl (by decide) (by decide) fun T36 h36 b36 X36 e36 g36 E36 A36 D36 => ?_
        have ne37 : cn ≠ b36 := Nat.ne_of_lt (Nat.lt_of_lt_of_le E_cn.lt (Nat.le_of_eq g36.symm))
        have ne38 : sn ≠ b36 := Nat.ne_of_lt (Nat.lt_of_lt_of_le E_sn.lt (Nat.le_of_eq g36.symm))
        have g_b36 : n0 ≤ b36 := Nat.le_trans Z0 (Nat.le_of_eq g36.symm)
        have sz_b36 : h0.size ≤ b36 := Nat.le_trans (Keep.refl h0 []).1 (Nat.le_of_eq g36.symm)
        have K39 : Keep h0 h36 [] := (Keep.refl h0 []).ext E36
        have z40 : n0 ≤ h36.size := (Nat.le_trans Z0 E36.1)
        have f41 : Fld Z h36 b36 "com/example/libelem/libelem/rank/ContextField" "names" "Ljava/util/Set;" .null := D36 (Or.inr (hw _ (List.mem_of_getElem? (i := 15) rfl))) (ty := (.object "java/util/Set")) (by decide)
        have f42 : Fld Z h36 b36 "com/example/libelem/libelem/rank/ContextField" "weight" "D" (.double (0 : UInt64)) := D36 (Or.inr (hw _ (List.mem_of_getElem? (i := 37) rfl))) (ty := .double) (by decide)
        have f43 : Fld Z h36 b36 "com/example/libelem/libelem/rank/ContextField" "b" "D" (.double (0 : UInt64)) := D36 (Or.inr (hw _ (List.mem_of_getElem? (i := 39) rfl))) (ty := .double) (by decide)
        refine g_dup X36 hx 110 (hb hby at_109) rfl rfl ?_
        have f44 : Sta Z h36 "com/example/libelem/libelem/rank/ContextField" "NONE" "Lcom/example/libelem/libelem/rank/ContextField;" (.ref cn) := (own_Sta_keep K39 S_cn all0)
        refine own_getS X36 hx hZ hown (host := "") (Or.inl (hw _ (List.mem_of_getElem? (i := 7) rfl))) Via.refl e36 f44 113 (hb hby at_110) rfl fun T45 X45 e45 => ?_
        have f47 : Fld Z h36 cn "com/example/libelem/libelem/rank/ContextField" "names" "Ljava/util/Set;" (.ref sn) := (F_cn.keep K39 nin0)
        have f48 : Exa Z h36 cn "com/example/libelem/libelem/rank/ContextField" := (E_cn.keep K39)
        refine own_callV X45 hx hZ hown (hw _ (List.mem_of_getElem? (i := 9) rfl)) (hw _ (List.mem_of_getElem? (i := 10) rfl)) (own_nf hZ (hw _ (List.mem_of_getElem? (i := 12) rfl))) (hw _ (List.mem_of_getElem? (i := 12) rfl)) (hw _ (List.mem_of_getElem? (i := 11) rfl)) (by decide) (rm_names l Z a0 hw [] cn sn h36 n0 z40 f47) (hw _ (List.mem_of_getElem? (i := 13) rfl)) (hw _ (List.mem_of_getElem? (i := 6) rfl)) e45 2 (by decide) (by decide) (by decide) (by decide) f48 [] [(.ref b36), (.ref b36)] rfl pd_2 rfl 116 rfl (by rw [hml]; rfl) rfl (hb hby at_113) rfl fun T46 v46 L46 X46 hQ46 => ?_
        obtain ⟨rfl, Nq46, e46⟩ := hQ46
        have N46 := Fr.app N0 Nq46
        show own_Go p e below s _ _ _ (T46.setTop (mkF m 116 _ [(.ref sn), (.ref b36), (.ref b36)]))
        refine g_dload X46 hx 118 (hb hby at_116) rfl rfl ?_
        refine g_dload X46 hx 120 (hb hby at_118) rfl rfl ?_
        have f50 : Exa Z h36 sn "java/util/ImmutableCollections$SetN" := (E_sn.keep K39)
        refine own_callI X46 hx hZ hown rfl (hw _ (List.mem_of_getElem? (i := 16) rfl)) (hw _ (List.mem_of_getElem? (i := 17) rfl)) (by decide) (rm_init l Z a0 hw [] b36 sn (FP.ddiv (FP.i2d wv) (4620693217682128896 : UInt64)) (FP.ddiv (FP.i2d kk) (4616189618054758400 : UInt64)) h36 n0 z40 A36 f50 f41 f42 f43 g_b36 (own_ge (own_q8 wv) h_wv.1) (own_inf (own_q8 wv)) (own_ge (own_q4 kk) h_kk.1) (own_le1 (own_q4 kk) h_kk.2)) (hw _ (List.mem_of_getElem? (i := 18) rfl)) (hw _ (List.mem_of_getElem? (i := 6) rfl)) e46 1 (by decide) (by decide) (by decide) (by decide) b36 [(.ref sn), (.double (FP.ddiv (FP.i2d wv) (4620693217682128896 : UInt64))), (.double (FP.ddiv (FP.i2d kk) (4616189618054758400 : UInt64)))] [(.ref b36)] rfl pd_3 rfl 123 rfl (by rw [hml]; rfl) rfl (hb hby at_120) rfl fun T49 v49 L49 X49 hQ49 => ?_
        obtain ⟨rfl, Nq49, Kq49, f49_0, f49_1⟩ := hQ49
        have N49 := Fr.app N46 Nq49
        have K51 : Keep h0 T49.heap [] := K39.trans Kq49 (allS (Or.inr sz_b36) all0)
        have z52 : n0 ≤ T49.heap.size := (Nat.le_trans z40 Kq49.1)
        show own_Go p e below s _ _ _ (T49.setTop (mkF m 123 _ [(.ref b36)]))
        refine g_astore X49 hx 125 (hb hby at_123) rfl (l' := #[.val (.long p0), .second, .val (.long p1), .second, .val (.int p2), .val (.int p3), .val (.int p4), .val (.int kk), .val (.double (FP.ddiv (FP.i2d kk) (4616189618054758400 : UInt64))), .second, .val (.double (FP.ddiv (FP.i2d wv) (4620693217682128896 : UInt64))), .second, .val (.long (1 : Int64)), .second, .val (.int sv), .val (.long (1 : Int64)), .second, .val (.double (0 : UInt64)), .second, .val (.ref b36), .unset, .unset, .unset, .unset, .unset, .unset]) rfl rfl ?_
        refine g_aload X49 hx 127 (hb hby at_125) rfl rfl rfl ?_
        refine g_lload_n X49 hx 128 (hb hby at_127) rfl rfl ?_
        refine g_lload X49 hx 130 (hb hby at_128) rfl rfl ?_
        refine g_dload X49 hx 132 (hb hby at_130) rfl rfl ?_
        by_cases c53 : (0 : Int64) < p0
        · have f55 : Exa Z T49.heap b36 "com/example/libelem/libelem/rank/ContextField" := (A36.keep Kq49)
          refine own_callV X49 hx hZ hown (hw _ (List.mem_of_getElem? (i := 40) rfl)) (hw _ (List.mem_of_getElem? (i := 41) rfl)) (own_nf hZ (hw _ (List.mem_of_getElem? (i := 43) rfl))) (hw _ (List.mem_of_getElem? (i := 43) rfl)) (hw _ (List.mem_of_getElem? (i := 42) rfl)) (by decide) (rm_wB l Z a0 hw [] b36 p0 (1 : Int64) (0 : UInt64) T49.heap n0 z52 c53 (by decide +kernel)) (hw _ (List.mem_of_getElem? (i := 44) rfl)) (hw _ (List.mem_of_getElem? (i := 6) rfl)) rfl 0 (by decide) (by decide) (by decide) (by decide) f55 [(.long p0), (.long (1 : Int64)), (.double (0 : UInt64))] [] rfl pd_4 rfl 135 rfl (by rw [hml]; rfl) rfl (hb hby at_132) rfl fun T54 v54 L54 X54 hQ54 => ?_
          obtain ⟨rfl, Nq54, e54⟩ := hQ54
          have N54 := Fr.app N49 Nq54
          show own_Go p e below s _ _ _ (T54.setTop (mkF m 135 _ [(.double (0 : UInt64))]))
          refine g_dstore X54 hx 137 (hb hby at_135) (l' := #[.val (.long p0), .second, .val (.long p1), .second, .val (.int p2), .val (.int p3), .val (.int p4), .val (.int kk), .val (.double (FP.ddiv (FP.i2d kk) (4616189618054758400 : UInt64))), .second, .val (.double (FP.ddiv (FP.i2d wv) (4620693217682128896 : UInt64))), .second, .val (.long (1 : Int64)), .second, .val (.int sv), .val (.long (1 : Int64)), .second, .val (.double (0 : UInt64)), .second, .val (.ref b36), .val (.double (0 : UInt64)), .second, .unset, .unset, .unset, .unset]) rfl rfl ?_
          refine g_lload_n X54 hx 138 (hb hby at_137) rfl rfl ?_
          refine g_lconst X54 hx 139 (hb hby at_138) (0 : Int64) rfl rfl ?_
          refine g_lcmp X54 hx 140 (hb hby at_139) rfl ?_
          refine g_ifNo X54 hx 143 (hb hby at_140) (own_ll_le_f c53) rfl ?_
          refine g_iload X54 hx 145 (hb hby at_143) rfl rfl ?_
          refine g_iconst X54 hx 146 (hb hby at_145) (2 : Int32) rfl rfl ?_
          have c57 : sv < (2 : Int32) := by rw [c35]; decide
          refine g_icmpNo X54 hx 149 (hb hby at_146) (own_ii_ge_f c57) rfl ?_
          refine g_dconst0 X54 hx 150 (hb hby at_149) (v := (0 : UInt64)) (by decide +kernel) rfl ?_
          refine g_dstore X54 hx 152 (hb hby at_150) (l' := #[.val (.long p0), .second, .val (.long p1), .second, .val (.int p2), .val (.int p3), .val (.int p4), .val (.int kk), .val (.double (FP.ddiv (FP.i2d kk) (4616189618054758400 : UInt64))), .second, .val (.double (FP.ddiv (FP.i2d wv) (4620693217682128896 : UInt64))), .second, .val (.long (1 : Int64)), .second, .val (.int sv), .val (.long (1 : Int64)), .second, .val (.double (0 : UInt64)), .second, .val (.ref b36), .val (.double (0 : UInt64)), .second, .val (.double (0 : UInt64)), .second, .unset, .unset]) rfl rfl ?_
          refine g_goto X54 hx 195 (hb hby at_152) (by decide) (by decide) ?_
          refine g_dload X54 hx 197 (hb hby at_195) rfl rfl ?_
          refine g_dload X54 hx 199 (hb hby at_197) rfl rfl ?_
          refine g_dcmp X54 hx 200 (hb hby at_199) rfl ?_
          have c58 : (cmpValue (FP.dcmp (0 : UInt64) (0 : UInt64)) .l) = (0 : Int32) := by decide +kernel
          refine g_ifNo X54 hx 203 (hb hby at_200) (own_i0_ne_f c58) rfl ?_
          refine g_iconst X54 hx 204 (hb hby at_203) (1 : Int32) rfl rfl ?_
          refine g_goto X54 hx 208 (hb hby at_204) (by decide) (by decide) ?_
          refine own_retN X54 hx hlk (t := .boolean) hret (by simp) (hb hby at_208) ?_ (by decide) (by decide)
          rw [e54]
          exact ⟨rfl, N54⟩
        · have f60 : Exa Z T49.heap b36 "com/example/libelem/libelem/rank/ContextField" := (A36.keep Kq49)
          refine own_callV X49 hx hZ hown (hw _ (List.mem_of_getElem? (i := 40) rfl)) (hw _ (List.mem_of_getElem? (i := 41) rfl)) (own_nf hZ (hw _ (List.mem_of_getElem? (i := 43) rfl))) (hw _ (List.mem_of_getElem? (i := 43) rfl)) (hw _ (List.mem_of_getElem? (i := 42) rfl)) (by decide) (rm_wA l Z a0 hw [] b36 p0 (1 : Int64) (0 : UInt64) T49.heap n0 z52 c53) (hw _ (List.mem_of_getElem? (i := 44) rfl)) (hw _ (List.mem_of_getElem? (i := 6) rfl)) rfl 0 (by decide) (by decide) (by decide) (by decide) f60 [(.long p0), (.long (1 : Int64)), (.double (0 : UInt64))] [] rfl pd_4 rfl 135 rfl (by rw [hml]; rfl) rfl (hb hby at_132) rfl fun T59 v59 L59 X59 hQ59 => ?_
          obtain ⟨rfl, Nq59, e59⟩ := hQ59
          have N59 := Fr.app N49 Nq59
          show own_Go p e below s _ _ _ (T59.setTop (mkF m 135 _ [(.double (0 : UInt64))]))
          refine g_dstore X59 hx 137 (hb hby at_135) (l' := #[.val (.long p0), .second, .val (.long p1), .second, .val (.int p2), .val (.int p3), .val (.int p4), .val (.int kk), .val (.double (FP.ddiv (FP.i2d kk) (4616189618054758400 : UInt64))), .second, .val (.double (FP.ddiv (FP.i2d wv) (4620693217682128896 : UInt64))), .second, .val (.long (1 : Int64)), .second, .val (.int sv), .val (.long (1 : Int64)), .second, .val (.double (0 : UInt64)), .second, .val (.ref b36), .val (.double (0 : UInt64)), .second, .unset, .unset, .unset, .unset]) rfl rfl ?_
          refine g_lload_n X59 hx 138 (hb hby at_137) rfl rfl ?_
          refine g_lconst X59 hx 139 (hb hby at_138) (0 : Int64) rfl rfl ?_
          refine g_lcmp X59 hx 140 (hb hby at_139) rfl ?_
          refine g_ifYes X59 hx 149 (hb hby at_140) (own_ll_le_t c53) (by decide) (by decide) ?_
          refine g_dconst0 X59 hx 150 (hb hby at_149) (v := (0 : UInt64)) (by decide +kernel) rfl ?_
          refine g_dstore X59 hx 152 (hb hby at_150) (l' := #[.val (.long p0), .second, .val (.long p1), .second, .val (.int p2), .val (.int p3), .val (.int p4), .val (.int kk), .val (.double (FP.ddiv (FP.i2d kk) (4616189618054758400 : UInt64))), .second, .val (.double (FP.ddiv (FP.i2d wv) (4620693217682128896 : UInt64))), .second, .val (.long (1 : Int64)), .second, .val (.int sv), .val (.long (1 : Int64)), .second, .val (.double (0 : UInt64)), .second, .val (.ref b36), .val (.double (0 : UInt64)), .second, .val (.double (0 : UInt64)), .second, .unset, .unset]) rfl rfl ?_
          refine g_goto X59 hx 195 (hb hby at_152) (by decide) (by decide) ?_
          refine g_dload X59 hx 197 (hb hby at_195) rfl rfl ?_
          refine g_dload X59 hx 199 (hb hby at_197) rfl rfl ?_
          refine g_dcmp X59 hx 200 (hb hby at_199) rfl ?_
          have c62 : (cmpValue (FP.dcmp (0 : UInt64) (0 : UInt64)) .l) = (0 : Int32) := by decide +kernel
          refine g_ifNo X59 hx 203 (hb hby at_200) (own_i0_ne_f c62) rfl ?_
          refine g_iconst X59 hx 204 (hb hby at_203) (1 : Int32) rfl rfl ?_
          refine g_goto X59 hx 208 (hb hby at_204) (by decide) (by decide) ?_
          refine own_retN X59 hx hlk (t := .boolean) hret (by simp) (hb hby at_208) ?_ (by decide) (by decide)
          rw [e59]
          exact ⟨rfl, N59⟩
      · refine g_ifYes X0 hx 75 (hb hby at_66) (own_i0_ne_t c35) (by decide) (by decide) ?_
        refine g_iload X0 hx 77 (hb hby at_75) rfl rfl ?_
        refine g_iconst X0 hx 78 (hb hby at_77) (1 : Int32) rfl rfl ?_
        by_cases c63 : sv = (1 : Int32)
        · refine g_icmpNo X0 hx 81 (hb hby at_78) (own_ii_ne_f c63) rfl ?_
          refine g_ldc2_wD X0 hx hown 84 (z := (13835058055282163712 : UInt64)) (mvT hZ (hw _ (List.mem_of_getElem? (i := 46) rfl))) (hb hby at_81) rfl ?_
          refine g_dstore X0 hx 86 (hb hby at_84) (l' := #[.val (.long p0), .second, .val (.long p1), .second, .val (.int p2), .val (.int p3), .val (.int p4), .val (.int kk), .val (.double (FP.ddiv (FP.i2d kk) (4616189618054758400 : UInt64))), .second, .val (.double (FP.ddiv (FP.i2d wv) (4620693217682128896 : UInt64))), .second, .val (.long (1 : Int64)), .second, .val (.int sv), .val (.long (1 : Int64)), .second, .val (.double (13835058055282163712 : UInt64)), .second, .unset, .unset, .unset, .unset, .unset, .unset, .unset]) rfl rfl ?_
          refine g_goto X0 hx 106 (hb hby at_86) (by decide) (by decide) ?_
          refine own_newO X0 hx hZ hown (hw _ (List.mem_of_getElem? (i := 4) rfl)) (hw _ (List.mem_of_getElem? (i := 5) rfl)) (hw _ (List.mem_of_getElem? (i := 6) rfl)) e0 109 (hb hby at_106) rfl (by decide) (by decide) fun T64 h64 b64 X64 e64 g64 E64 A64 D64 => ?_
          have ne65 : cn ≠ b64 := Nat.ne_of_lt (Nat.lt_of_lt_of_le E_cn.lt (Nat.le_of_eq g64.symm))
          have ne66 : sn ≠ b64 := Nat.ne_of_lt (Nat.lt_of_lt_of_le E_sn.lt (Nat.le_of_eq g64.symm))
          have g_b64 : n0 ≤ b64 := Nat.le_trans Z0 (Nat.le_of_eq g64.symm)
          have sz_b64 : h0.size ≤ b64 := Nat.le_trans (Keep.refl h0 []).1 (Nat.le_of_eq g64.symm)
          have K67 : Keep h0 h64 [] := (Keep.refl h0 []).ext E64
          have z68 : n0 ≤ h64.size := (Nat.le_trans Z0 E64.1)
          have f69 : Fld Z h64 b64 "com/example/libelem/libelem/rank/ContextField" "names" "Ljava/util/Set;" .null := D64 (Or.inr (hw _ (List.mem_of_getElem? (i := 15) rfl))) (ty := (.object "java/util/Set")) (by decide)
          have f70 : Fld Z h64 b64 "com/example/libelem/libelem/rank/ContextField" "weight" "D" (.double (0 : UInt64)) := D64 (Or.inr (hw _ (List.mem_of_getElem? (i := 37) rfl))) (ty := .double) (by decide)
          have f71 : Fld Z h64 b64 "com/example/libelem/libelem/rank/ContextField" "b" "D" (.double (0 : UInt64)) := D64 (Or.inr (hw _ (List.mem_of_getElem? (i := 39) rfl))) (ty := .double) (by decide)
          refine g_dup X64 hx 110 (hb hby at_109) rfl rfl ?_
          have f72 : Sta Z h64 "com/example/libelem/libelem/rank/ContextField" "NONE" "Lcom/example/libelem/libelem/rank/ContextField;" (.ref cn) := (own_Sta_keep K67 S_cn all0)
          refine own_getS X64 hx hZ hown (host := "") (Or.inl (hw _ (List.mem_of_getElem? (i := 7) rfl))) Via.refl e64 f72 113 (hb hby at_110) rfl fun T73 X73 e73 => ?_
          have f75 : Fld Z h64 cn "com/example/libelem/libelem/rank/ContextField" "names" "Ljava/util/Set;" (.ref sn) := (F_cn.keep K67 nin0)
          have f76 : Exa Z h64 cn "com/example/libelem/libelem/rank/ContextField" := (E_cn.keep K67)
          refine own_callV X73 hx hZ hown (hw _ (List.mem_of_getElem? (i := 9) rfl)) (hw _ (List.mem_of_getElem? (i := 10) rfl)) (own_nf hZ (hw _ (List.mem_of_getElem? (i := 12) rfl))) (hw _ (List.mem_of_getElem? (i := 12) rfl)) (hw _ (List.mem_of_getElem? (i := 11) rfl)) (by decide) (rm_names l Z a0 hw [] cn sn h64 n0 z68 f75) (hw _ (List.mem_of_getElem? (i := 13) rfl)) (hw _ (List.mem_of_getElem? (i := 6) rfl)) e73 2 (by decide) (by decide) (by decide) (by decide) f76 [] [(.ref b64), (.ref b64)] rfl pd_2 rfl 116 rfl (by rw [hml]; rfl) rfl (hb hby at_113) rfl fun T74 v74 L74 X74 hQ74 => ?_
          obtain ⟨rfl, Nq74, e74⟩ := hQ74
          have N74 := Fr.app N0 Nq74
          show own_Go p e below s _ _ _ (T74.setTop (mkF m 116 _ [(.ref sn), (.ref b64), (.ref b64)]))
          refine g_dload X74 hx 118 (hb hby at_116) rfl rfl ?_
          refine g_dload X74 hx 120 (hb hby at_118) rfl rfl ?_
          have f78 : Exa Z h64 sn "java/util/ImmutableCollections$SetN" := (E_sn.keep K67)
          refine own_callI X74 hx hZ hown rfl (hw _ (List.mem_of_getElem? (i := 16) rfl)) (hw _ (List.mem_of_getElem? (i := 17) rfl)) (by decide) (rm_init l Z a0 hw [] b64 sn (FP.ddiv (FP.i2d wv) (4620693217682128896 : UInt64)) (FP.ddiv (FP.i2d kk) (4616189618054758400 : UInt64)) h64 n0 z68 A64 f78 f69 f70 f71 g_b64 (own_ge (own_q8 wv) h_wv.1) (own_inf (own_q8 wv)) (own_ge (own_q4 kk) h_kk.1) (own_le1 (own_q4 kk) h_kk.2)) (hw _ (List.mem_of_getElem? (i := 18) rfl)) (hw _ (List.mem_of_getElem? (i := 6) rfl)) e74 1 (by decide) (by decide) (by decide) (by decide) b64 [(.ref sn), (.double (FP.ddiv (FP.i2d wv) (4620693217682128896 : UInt64))), (.double (FP.ddiv (FP.i2d kk) (4616189618054758400 : UInt64)))] [(.ref b64)] rfl pd_3 rfl 123 rfl (by rw [hml]; rfl) rfl (hb hby at_120) rfl fun T77 v77 L77 X77 hQ77 => ?_
          obtain ⟨rfl, Nq77, Kq77, f77_0, f77_1⟩ := hQ77
          have N77 := Fr.app N74 Nq77
          have K79 : Keep h0 T77.heap [] := K67.trans Kq77 (allS (Or.inr sz_b64) all0)
          have z80 : n0 ≤ T77.heap.size := (Nat.le_trans z68 Kq77.1)
          show own_Go p e below s _ _ _ (T77.setTop (mkF m 123 _ [(.ref b64)]))
          refine g_astore X77 hx 125 (hb hby at_123) rfl (l' := #[.val (.long p0), .second, .val (.long p1), .second, .val (.int p2), .val (.int p3), .val (.int p4), .val (.int kk), .val (.double (FP.ddiv (FP.i2d kk) (4616189618054758400 : UInt64))), .second, .val (.double (FP.ddiv (FP.i2d wv) (4620693217682128896 : UInt64))), .second, .val (.long (1 : Int64)), .second, .val (.int sv), .val (.long (1 : Int64)), .second, .val (.double (13835058055282163712 : UInt64)), .second, .val (.ref b64), .unset, .unset, .unset, .unset, .unset, .unset]) rfl rfl ?_
          refine g_aload X77 hx 127 (hb hby at_125) rfl rfl rfl ?_
          refine g_lload_n X77 hx 128 (hb hby at_127) rfl rfl ?_
          refine g_lload X77 hx 130 (hb hby at_128) rfl rfl ?_
          refine g_dload X77 hx 132 (hb hby at_130) rfl rfl ?_
          by_cases c81 : (0 : Int64) < p0
          · have f83 : Exa Z T77.heap b64 "com/example/libelem/libelem/rank/ContextField" := (A64.keep Kq77)
            refine own_callV X77 hx hZ hown (hw _ (List.mem_of_getElem? (i := 40) rfl)) (hw _ (List.mem_of_getElem? (i := 41) rfl)) (own_nf hZ (hw _ (List.mem_of_getElem? (i := 43) rfl))) (hw _ (List.mem_of_getElem? (i := 43) rfl)) (hw _ (List.mem_of_getElem? (i := 42) rfl)) (by decide) (rm_wB l Z a0 hw [] b64 p0 (1 : Int64) (13835058055282163712 : UInt64) T77.heap n0 z80 c81 (by decide +kernel)) (hw _ (List.mem_of_getElem? (i := 44) rfl)) (hw _ (List.mem_of_getElem? (i := 6) rfl)) rfl 0 (by decide) (by decide) (by decide) (by decide) f83 [(.long p0), (.long (1 : Int64)), (.double (13835058055282163712 : UInt64))] [] rfl pd_4 rfl 135 rfl (by rw [hml]; rfl) rfl (hb hby at_132) rfl fun T82 v82 L82 X82 hQ82 => ?_
            obtain ⟨rfl, Nq82, e82⟩ := hQ82
            have N82 := Fr.app N77 Nq82
            show own_Go p e below s _ _ _ (T82.setTop (mkF m 135 _ [(.double (0 : UInt64))]))
            refine g_dstore X82 hx 137 (hb hby at_135) (l' := #[.val (.long p0), .second, .val (.long p1), .second, .val (.int p2), .val (.int p3), .val (.int p4), .val (.int kk), .val (.double (FP.ddiv (FP.i2d kk) (4616189618054758400 : UInt64))), .second, .val (.double (FP.ddiv (FP.i2d wv) (4620693217682128896 : UInt64))), .second, .val (.long (1 : Int64)), .second, .val (.int sv), .val (.long (1 : Int64)), .second, .val (.double (13835058055282163712 : UInt64)), .second, .val (.ref b64), .val (.double (0 : UInt64)), .second, .unset, .unset, .unset, .unset]) rfl rfl ?_
            refine g_lload_n X82 hx 138 (hb hby at_137) rfl rfl ?_
            refine g_lconst X82 hx 139 (hb hby at_138) (0 : Int64) rfl rfl ?_
            refine g_lcmp X82 hx 140 (hb hby at_139) rfl ?_
            refine g_ifNo X82 hx 143 (hb hby at_140) (own_ll_le_f c81) rfl ?_
            refine g_iload X82 hx 145 (hb hby at_143) rfl rfl ?_
            refine g_iconst X82 hx 146 (hb hby at_145) (2 : Int32) rfl rfl ?_
            have c85 : sv < (2 : Int32) := by rw [c63]; decide
            refine g_icmpNo X82 hx 149 (hb hby at_146) (own_ii_ge_f c85) rfl ?_
            refine g_dconst0 X82 hx 150 (hb hby at_149) (v := (0 : UInt64)) (by decide +kernel) rfl ?_
            refine g_dstore X82 hx 152 (hb hby at_150) (l' := #[.val (.long p0), .second, .val (.long p1), .second, .val (.int p2), .val (.int p3), .val (.int p4), .val (.int kk), .val (.double (FP.ddiv (FP.i2d kk) (4616189618054758400 : UInt64))), .second, .val (.double (FP.ddiv (FP.i2d wv) (4620693217682128896 : UInt64))), .second, .val (.long (1 : Int64)), .second, .val (.int sv), .val (.long (1 : Int64)), .second, .val (.double (13835058055282163712 : UInt64)), .second, .val (.ref b64), .val (.double (0 : UInt64)), .second, .val (.double (0 : UInt64)), .second, .unset, .unset]) rfl rfl ?_
            refine g_goto X82 hx 195 (hb hby at_152) (by decide) (by decide) ?_
            refine g_dload X82 hx 197 (hb hby at_195) rfl rfl ?_
            refine g_dload X82 hx 199 (hb hby at_197) rfl rfl ?_
            refine g_dcmp X82 hx 200 (hb hby at_199) rfl ?_
            have c86 : (cmpValue (FP.dcmp (0 : UInt64) (0 : UInt64)) .l) = (0 : Int32) := by decide +kernel
            refine g_ifNo X82 hx 203 (hb hby at_200) (own_i0_ne_f c86) rfl ?_
            refine g_iconst X82 hx 204 (hb hby at_203) (1 : Int32) rfl rfl ?_
            refine g_goto X82 hx 208 (hb hby at_204) (by decide) (by decide) ?_
            refine own_retN X82 hx hlk (t := .boolean) hret (by simp) (hb hby at_208) ?_ (by decide) (by decide)
            rw [e82]
            exact ⟨rfl, N82⟩
          · have f88 : Exa Z T77.heap b64 "com/example/libelem/libelem/rank/ContextField" := (A64.keep Kq77)
            refine own_callV X77 hx hZ hown (hw _ (List.mem_of_getElem? (i := 40) rfl)) (hw _ (List.mem_of_getElem? (i := 41) rfl)) (own_nf hZ (hw _ (List.mem_of_getElem? (i := 43) rfl))) (hw _ (List.mem_of_getElem? (i := 43) rfl)) (hw _ (List.mem_of_getElem? (i := 42) rfl)) (by decide) (rm_wA l Z a0 hw [] b64 p0 (1 : Int64) (13835058055282163712 : UInt64) T77.heap n0 z80 c81) (hw _ (List.mem_of_getElem? (i := 44) rfl)) (hw _ (List.mem_of_getElem? (i := 6) rfl)) rfl 0 (by decide) (by decide) (by decide) (by decide) f88 [(.long p0), (.long (1 : Int64)), (.double (13835058055282163712 : UInt64))] [] rfl pd_4 rfl 135 rfl (by rw [hml]; rfl) rfl (hb hby at_132) rfl fun T87 v87 L87 X87 hQ87 => ?_
            obtain ⟨rfl, Nq87, e87⟩ := hQ87
            have N87 := Fr.app N77 Nq87
            show own_Go p e below s _ _ _ (T87.setTop (mkF m 135 _ [(.double (0 : UInt64))]))
            refine g_dstore X87 hx 137 (hb hby at_135) (l' := #[.val (.long p0), .second, .val (.long p1), .second, .val (.int p2), .val (.int p3), .val (.int p4), .val (.int kk), .val (.double (FP.ddiv (FP.i2d kk) (4616189618054758400 : UInt64))), .second, .val (.double (FP.ddiv (FP.i2d wv) (4620693217682128896 : UInt64))), .second, .val (.long (1 : Int64)), .second, .val (.int sv), .val (.long (1 : Int64)), .second, .val (.double (13835058055282163712 : UInt64)), .second, .val (.ref b64), .val (.double (0 : UInt64)), .second, .unset, .unset, .unset, .unset]) rfl rfl ?_
            refine g_lload_n X87 hx 138 (hb hby at_137) rfl rfl ?_
            refine g_lconst X87 hx 139 (hb hby at_138) (0 : Int64) rfl rfl ?_
            refine g_lcmp X87 hx 140 (hb hby at_139) rfl ?_
            refine g_ifYes X87 hx 149 (hb hby at_140) (own_ll_le_t c81) (by decide) (by decide) ?_
            refine g_dconst0 X87 hx 150 (hb hby at_149) (v := (0 : UInt64)) (by decide +kernel) rfl ?_
            refine g_dstore X87 hx 152 (hb hby at_150) (l' := #[.val (.long p0), .second, .val (.long p1), .second, .val (.int p2), .val (.int p3), .val (.int p4), .val (.int kk), .val (.double (FP.ddiv (FP.i2d kk) (4616189618054758400 : UInt64))), .second, .val (.double (FP.ddiv (FP.i2d wv) (4620693217682128896 : UInt64))), .second, .val (.long (1 : Int64)), .second, .val (.int sv), .val (.long (1 : Int64)), .second, .val (.double (13835058055282163712 : UInt64)), .second, .val (.ref b64), .val (.double (0 : UInt64)), .second, .val (.double (0 : UInt64)), .second, .unset, .unset]) rfl rfl ?_
            refine g_goto X87 hx 195 (hb hby at_152) (by decide) (by decide) ?_
            refine g_dload X87 hx 197 (hb hby at_195) rfl rfl ?_
            refine g_dload X87 hx 199 (hb hby at_197) rfl rfl ?_
            refine g_dcmp X87 hx 200 (hb hby at_199) rfl ?_
            have c90 : (cmpValue (FP.dcmp (0 : UInt64) (0 : UInt64)) .l) = (0 : Int32) := by decide +kernel
            refine g_ifNo X87 hx 203 (hb hby at_200) (own_i0_ne_f c90) rfl ?_
            refine g_iconst X87 hx 204 (hb hby at_203) (1 : Int32) rfl rfl ?_
            refine g_goto X87 hx 208 (hb hby at_204) (by decide) (by decide) ?_
            refine own_retN X87 hx hlk (t := .boolean) hret (by simp) (hb hby at_208) ?_ (by decide) (by decide)
            rw [e87]
            exact ⟨rfl, N87⟩
        · refine g_icmpYes X0 hx 89 (hb hby at_78) (own_ii_ne_t c63) (by decide) (by decide) ?_
          refine g_lconst X0 hx 90 (hb hby at_89) (1 : Int64) rfl rfl ?_
          refine g_iload X0 hx 92 (hb hby at_90) rfl rfl ?_
          refine g_iconst X0 hx 93 (hb hby at_92) (2 : Int32) rfl rfl ?_
          refine g_isub X0 hx 94 (hb hby at_93) rfl ?_
          refine g_lshl X0 hx 95 (hb hby at_94) rfl ?_
          obtain ⟨ss, q_ss⟩ : ∃ z, z = ((1 : Int64) <<< ((sv - (2 : Int32)) &&& 0x3f).toInt64) := ⟨_, rfl⟩
          have h_s2 := own_sv2 h_sv c35 c63
          obtain ⟨ee, h_ee, h_ss⟩ := own_ss h_sv h_s2 q_ss
          have h_av := own_avd h_ee h_ss
          rw [← q_ss]
          refine g_lstore X0 hx 97 (hb hby at_95) (l' := #[.val (.long p0), .second, .val (.long p1), .second, .val (.int p2), .val (.int p3), .val (.int p4), .val (.int kk), .val (.double (FP.ddiv (FP.i2d kk) (4616189618054758400 : UInt64))), .second, .val (.double (FP.ddiv (FP.i2d wv) (4620693217682128896 : UInt64))), .second, .val (.long (1 : Int64)), .second, .val (.int sv), .val (.long ss), .second, .unset, .unset, .unset, .unset, .unset, .unset, .unset, .unset, .unset]) rfl rfl ?_
          refine g_lload X0 hx 99 (hb hby at_97) rfl rfl ?_
          refine g_l2d X0 hx 100 (hb hby at_99) rfl ?_
          refine g_ldc2_wD X0 hx hown 103 (z := (4616189618054758400 : UInt64)) (mvT hZ (hw _ (List.mem_of_getElem? (i := 1) rfl))) (hb hby at_100) rfl ?_
          refine g_ddiv X0 hx 104 (hb hby at_103) h_av.no rfl ?_
          refine g_dstore X0 hx 106 (hb hby at_104) (l' := #[.val (.long p0), .second, .val (.long p1), .second, .val (.int p2), .val (.int p3), .val (.int p4), .val (.int kk), .val (.double (FP.ddiv (FP.i2d kk) (4616189618054758400 : UInt64))), .second, .val (.double (FP.ddiv (FP.i2d wv) (4620693217682128896 : UInt64))), .second, .val (.long (1 : Int64)), .second, .val (.int sv), .val (.long ss), .second, .val (.double (FP.ddiv (FP.l2d ss) (4616189618054758400 : UInt64))), .second, .unset, .unset, .unset, .unset, .unset, .unset, .unset]) rfl rfl ?_
          refine own_newO X0 hx hZ hown (hw _ (List.mem_of_getElem? (i := 4) rfl)) (hw _ (List.mem_of_getElem? (i := 5) rfl)) (hw _ (List.mem_of_getElem? (i := 6) rfl)) e0 109 (hb hby at_106) rfl (by decide) (by decide) fun T91 h91 b91 X91 e91 g91 E91 A91 D91 => ?_
          have ne92 : cn ≠ b91 := Nat.ne_of_lt (Nat.lt_of_lt_of_le E_cn.lt (Nat.le_of_eq g91.symm))
          have ne93 : sn ≠ b91 := Nat.ne_of_lt (Nat.lt_of_lt_of_le E_sn.lt (Nat.le_of_eq g91.symm))
          have g_b91 : n0 ≤ b91 := Nat.le_trans Z0 (Nat.le_of_eq g91.symm)
          have sz_b91 : h0.size ≤ b91 := Nat.le_trans (Keep.refl h0 []).1 (Nat.le_of_eq g91.symm)
          have K94 : Keep h0 h91 [] := (Keep.refl h0 []).ext E91
          have z95 : n0 ≤ h91.size := (Nat.le_trans Z0 E91.1)
          have f96 : Fld Z h91 b91 "com/example/libelem/libelem/rank/ContextField" "names" "Ljava/util/Set;" .null := D91 (Or.inr (hw _ (List.mem_of_getElem? (i := 15) rfl))) (ty := (.object "java/util/Set")) (by decide)
          have f97 : Fld Z h91 b91 "com/example/libelem/libelem/rank/ContextField" "weight" "D" (.double (0 : UInt64)) := D91 (Or.inr (hw _ (List.mem_of_getElem? (i := 37) rfl))) (ty := .double) (by decide)
          have f98 : Fld Z h91 b91 "com/example/libelem/libelem/rank/ContextField" "b" "D" (.double (0 : UInt64)) := D91 (Or.inr (hw _ (List.mem_of_getElem? (i := 39) rfl))) (ty := .double) (by decide)
          refine g_dup X91 hx 110 (hb hby at_109) rfl rfl ?_
          have f99 : Sta Z h91 "com/example/libelem/libelem/rank/ContextField" "NONE" "Lcom/example/libelem/libelem/rank/ContextField;" (.ref cn) := (own_Sta_keep K94 S_cn all0)
          refine own_getS X91 hx hZ hown (host := "") (Or.inl (hw _ (List.mem_of_getElem? (i := 7) rfl))) Via.refl e91 f99 113 (hb hby at_110) rfl fun T100 X100 e100 => ?_
          have f102 : Fld Z h91 cn "com/example/libelem/libelem/rank/ContextField" "names" "Ljava/util/Set;" (.ref sn) := (F_cn.keep K94 nin0)
          have f103 : Exa Z h91 cn "com/example/libelem/libelem/rank/ContextField" := (E_cn.keep K94)
          refine own_callV X100 hx hZ hown (hw _ (List.mem_of_getElem? (i := 9) rfl)) (hw _ (List.mem_of_getElem? (i := 10) rfl)) (own_nf hZ (hw _ (List.mem_of_getElem? (i := 12) rfl))) (hw _ (List.mem_of_getElem? (i := 12) rfl)) (hw _ (List.mem_of_getElem? (i := 11) rfl)) (by decide) (rm_names l Z a0 hw [] cn sn h91 n0 z95 f102) (hw _ (List.mem_of_getElem? (i := 13) rfl)) (hw _ (List.mem_of_getElem? (i := 6) rfl)) e100 2 (by decide) (by decide) (by decide) (by decide) f103 [] [(.ref b91), (.ref b91)] rfl pd_2 rfl 116 rfl (by rw [hml]; rfl) rfl (hb hby at_113) rfl fun T101 v101 L101 X101 hQ101 => ?_
          obtain ⟨rfl, Nq101, e101⟩ := hQ101
          have N101 := Fr.app N0 Nq101
          show own_Go p e below s _ _ _ (T101.setTop (mkF m 116 _ [(.ref sn), (.ref b91), (.ref b91)]))
          refine g_dload X101 hx 118 (hb hby at_116) rfl rfl ?_
          refine g_dload X101 hx 120 (hb hby at_118) rfl rfl ?_
          have f105 : Exa Z h91 sn "java/util/ImmutableCollections$SetN" := (E_sn.keep K94)
          refine own_callI X101 hx hZ hown rfl (hw _ (List.mem_of_getElem? (i := 16) rfl)) (hw _ (List.mem_of_getElem? (i := 17) rfl)) (by decide) (rm_init l Z a0 hw [] b91 sn (FP.ddiv (FP.i2d wv) (4620693217682128896 : UInt64)) (FP.ddiv (FP.i2d kk) (4616189618054758400 : UInt64)) h91 n0 z95 A91 f105 f96 f97 f98 g_b91 (own_ge (own_q8 wv) h_wv.1) (own_inf (own_q8 wv)) (own_ge (own_q4 kk) h_kk.1) (own_le1 (own_q4 kk) h_kk.2)) (hw _ (List.mem_of_getElem? (i := 18) rfl)) (hw _ (List.mem_of_getElem? (i := 6) rfl)) e101 1 (by decide) (by decide) (by decide) (by decide) b91 [(.ref sn), (.double (FP.ddiv (FP.i2d wv) (4620693217682128896 : UInt64))), (.double (FP.ddiv (FP.i2d kk) (4616189618054758400 : UInt64)))] [(.ref b91)] rfl pd_3 rfl 123 rfl (by rw [hml]; rfl) rfl (hb hby at_120) rfl fun T104 v104 L104 X104 hQ104 => ?_
          obtain ⟨rfl, Nq104, Kq104, f104_0, f104_1⟩ := hQ104
          have N104 := Fr.app N101 Nq104
          have K106 : Keep h0 T104.heap [] := K94.trans Kq104 (allS (Or.inr sz_b91) all0)
          have z107 : n0 ≤ T104.heap.size := (Nat.le_trans z95 Kq104.1)
          show own_Go p e below s _ _ _ (T104.setTop (mkF m 123 _ [(.ref b91)]))
          refine g_astore X104 hx 125 (hb hby at_123) rfl (l' := #[.val (.long p0), .second, .val (.long p1), .second, .val (.int p2), .val (.int p3), .val (.int p4), .val (.int kk), .val (.double (FP.ddiv (FP.i2d kk) (4616189618054758400 : UInt64))), .second, .val (.double (FP.ddiv (FP.i2d wv) (4620693217682128896 : UInt64))), .second, .val (.long (1 : Int64)), .second, .val (.int sv), .val (.long ss), .second, .val (.double (FP.ddiv (FP.l2d ss) (4616189618054758400 : UInt64))), .second, .val (.ref b91), .unset, .unset, .unset, .unset, .unset, .unset]) rfl rfl ?_
          refine g_aload X104 hx 127 (hb hby at_125) rfl rfl rfl ?_
          refine g_lload_n X104 hx 128 (hb hby at_127) rfl rfl ?_
          refine g_lload X104 hx 130 (hb hby at_128) rfl rfl ?_
          refine g_dload X104 hx 132 (hb hby at_130) rfl rfl ?_
          by_cases c108 : (0 : Int64) < p0
          · obtain ⟨y1, y2, y3, y4, y5, y6, z1, z2, z3, hcmp⟩ := own_cf h_kk h_ln.1 h_ln.2 h_ee h_av (own_tf c108) (own_q8 wv) (own_nv h_kk h_ln.1 h_ee h_ss) (own_s4 h_ee h_ss)
            have f110 : Exa Z T104.heap b91 "com/example/libelem/libelem/rank/ContextField" := (A91.keep Kq104)
            refine own_callV X104 hx hZ hown (hw _ (List.mem_of_getElem? (i := 40) rfl)) (hw _ (List.mem_of_getElem? (i := 41) rfl)) (own_nf hZ (hw _ (List.mem_of_getElem? (i := 43) rfl))) (hw _ (List.mem_of_getElem? (i := 43) rfl)) (hw _ (List.mem_of_getElem? (i := 42) rfl)) (by decide) (rm_wC l Z a0 hw [] b91 p0 (1 : Int64) (FP.ddiv (FP.l2d ss) (4616189618054758400 : UInt64)) (FP.ddiv (FP.i2d wv) (4620693217682128896 : UInt64)) (FP.ddiv (FP.i2d kk) (4616189618054758400 : UInt64)) T104.heap n0 z107 f104_0 f104_1 c108 (own_pos h_av (Int.natCast_pos.mpr (Nat.two_pow_pos ee))) y1 y2 y3 y4 y5 y6) (hw _ (List.mem_of_getElem? (i := 44) rfl)) (hw _ (List.mem_of_getElem? (i := 6) rfl)) rfl 0 (by decide) (by decide) (by decide) (by decide) f110 [(.long p0), (.long (1 : Int64)), (.double (FP.ddiv (FP.l2d ss) (4616189618054758400 : UInt64)))] [] rfl pd_4 rfl 135 rfl (by rw [hml]; rfl) rfl (hb hby at_132) rfl fun T109 v109 L109 X109 hQ109 => ?_
            obtain ⟨rfl, Nq109, e109⟩ := hQ109
            have N109 := Fr.app N104 Nq109
            show own_Go p e below s _ _ _ (T109.setTop (mkF m 135 _ [(.double (FP.dmul (FP.ddiv (FP.i2d wv) (4620693217682128896 : UInt64)) (FP.ddiv (FP.l2d p0) (FP.dadd (FP.dsub (4607182418800017408 : UInt64) (FP.ddiv (FP.i2d kk) (4616189618054758400 : UInt64))) (FP.ddiv (FP.dmul (FP.ddiv (FP.i2d kk) (4616189618054758400 : UInt64)) (FP.l2d (1 : Int64))) (FP.ddiv (FP.l2d ss) (4616189618054758400 : UInt64)))))))]))
            refine g_dstore X109 hx 137 (hb hby at_135) (l' := #[.val (.long p0), .second, .val (.long p1), .second, .val (.int p2), .val (.int p3), .val (.int p4), .val (.int kk), .val (.double (FP.ddiv (FP.i2d kk) (4616189618054758400 : UInt64))), .second, .val (.double (FP.ddiv (FP.i2d wv) (4620693217682128896 : UInt64))), .second, .val (.long (1 : Int64)), .second, .val (.int sv), .val (.long ss), .second, .val (.double (FP.ddiv (FP.l2d ss) (4616189618054758400 : UInt64))), .second, .val (.ref b91), .val (.double (FP.dmul (FP.ddiv (FP.i2d wv) (4620693217682128896 : UInt64)) (FP.ddiv (FP.l2d p0) (FP.dadd (FP.dsub (4607182418800017408 : UInt64) (FP.ddiv (FP.i2d kk) (4616189618054758400 : UInt64))) (FP.ddiv (FP.dmul (FP.ddiv (FP.i2d kk) (4616189618054758400 : UInt64)) (FP.l2d (1 : Int64))) (FP.ddiv (FP.l2d ss) (4616189618054758400 : UInt64))))))), .second, .unset, .unset, .unset, .unset]) rfl rfl ?_
            refine g_lload_n X109 hx 138 (hb hby at_137) rfl rfl ?_
            refine g_lconst X109 hx 139 (hb hby at_138) (0 : Int64) rfl rfl ?_
            refine g_lcmp X109 hx 140 (hb hby at_139) rfl ?_
            refine g_ifNo X109 hx 143 (hb hby at_140) (own_ll_le_f c108) rfl ?_
            refine g_iload X109 hx 145 (hb hby at_143) rfl rfl ?_
            refine g_iconst X109 hx 146 (hb hby at_145) (2 : Int32) rfl rfl ?_
            have c112 : ¬ (sv < (2 : Int32)) := own_sv3 h_s2
            refine g_icmpYes X109 hx 155 (hb hby at_146) (own_ii_ge_t c112) (by decide) (by decide) ?_
            refine g_lload X109 hx 157 (hb hby at_155) rfl rfl ?_
            refine g_iconst X109 hx 158 (hb hby at_157) (4 : Int32) rfl rfl ?_
            refine g_iload X109 hx 160 (hb hby at_158) rfl rfl ?_
            refine g_isub X109 hx 161 (hb hby at_160) rfl ?_
            refine g_i2l X109 hx 162 (hb hby at_161) rfl ?_
            refine g_lmul X109 hx 163 (hb hby at_162) rfl ?_
            refine g_ldc2_w X109 hx hown 166 (z := (4 : Int64)) (mvT hZ (hw _ (List.mem_of_getElem? (i := 45) rfl))) (hb hby at_163) rfl ?_
            refine g_iload X109 hx 168 (hb hby at_166) rfl rfl ?_
            refine g_i2l X109 hx 169 (hb hby at_168) rfl ?_
            refine g_lmul X109 hx 170 (hb hby at_169) rfl ?_
            refine g_lload X109 hx 172 (hb hby at_170) rfl rfl ?_
            refine g_lmul X109 hx 173 (hb hby at_172) rfl ?_
            refine g_ladd X109 hx 174 (hb hby at_173) rfl ?_
            refine g_lstore X109 hx 176 (hb hby at_174) (l' := #[.val (.long p0), .second, .val (.long p1), .second, .val (.int p2), .val (.int p3), .val (.int p4), .val (.int kk), .val (.double (FP.ddiv (FP.i2d kk) (4616189618054758400 : UInt64))), .second, .val (.double (FP.ddiv (FP.i2d wv) (4620693217682128896 : UInt64))), .second, .val (.long (1 : Int64)), .second, .val (.int sv), .val (.long ss), .second, .val (.double (FP.ddiv (FP.l2d ss) (4616189618054758400 : UInt64))), .second, .val (.ref b91), .val (.double (FP.dmul (FP.ddiv (FP.i2d wv) (4620693217682128896 : UInt64)) (FP.ddiv (FP.l2d p0) (FP.dadd (FP.dsub (4607182418800017408 : UInt64) (FP.ddiv (FP.i2d kk) (4616189618054758400 : UInt64))) (FP.ddiv (FP.dmul (FP.ddiv (FP.i2d kk) (4616189618054758400 : UInt64)) (FP.l2d (1 : Int64))) (FP.ddiv (FP.l2d ss) (4616189618054758400 : UInt64))))))), .second, .unset, .unset, .val (.long ((ss * (((4 : Int32) - kk).toInt64)) + (((4 : Int64) * (kk.toInt64)) * (1 : Int64)))), .second]) rfl rfl ?_
            refine g_dload X109 hx 178 (hb hby at_176) rfl rfl ?_
            refine g_lload_n X109 hx 179 (hb hby at_178) rfl rfl ?_
            refine g_l2d X109 hx 180 (hb hby at_179) rfl ?_
            refine g_ldc2_w X109 hx hown 183 (z := (4 : Int64)) (mvT hZ (hw _ (List.mem_of_getElem? (i := 45) rfl))) (hb hby at_180) rfl ?_
            refine g_lload X109 hx 185 (hb hby at_183) rfl rfl ?_
            refine g_lmul X109 hx 186 (hb hby at_185) rfl ?_
            refine g_l2d X109 hx 187 (hb hby at_186) rfl ?_
            refine g_dmul X109 hx 188 (hb hby at_187) z1 rfl ?_
            refine g_lload X109 hx 190 (hb hby at_188) rfl rfl ?_
            refine g_l2d X109 hx 191 (hb hby at_190) rfl ?_
            refine g_ddiv X109 hx 192 (hb hby at_191) z2 rfl ?_
            refine g_dmul X109 hx 193 (hb hby at_192) z3 rfl ?_
            refine g_dstore X109 hx 195 (hb hby at_193) (l' := #[.val (.long p0), .second, .val (.long p1), .second, .val (.int p2), .val (.int p3), .val (.int p4), .val (.int kk), .val (.double (FP.ddiv (FP.i2d kk) (4616189618054758400 : UInt64))), .second, .val (.double (FP.ddiv (FP.i2d wv) (4620693217682128896 : UInt64))), .second, .val (.long (1 : Int64)), .second, .val (.int sv), .val (.long ss), .second, .val (.double (FP.ddiv (FP.l2d ss) (4616189618054758400 : UInt64))), .second, .val (.ref b91), .val (.double (FP.dmul (FP.ddiv (FP.i2d wv) (4620693217682128896 : UInt64)) (FP.ddiv (FP.l2d p0) (FP.dadd (FP.dsub (4607182418800017408 : UInt64) (FP.ddiv (FP.i2d kk) (4616189618054758400 : UInt64))) (FP.ddiv (FP.dmul (FP.ddiv (FP.i2d kk) (4616189618054758400 : UInt64)) (FP.l2d (1 : Int64))) (FP.ddiv (FP.l2d ss) (4616189618054758400 : UInt64))))))), .second, .val (.double (FP.dmul (FP.ddiv (FP.i2d wv) (4620693217682128896 : UInt64)) (FP.ddiv (FP.dmul (FP.l2d p0) (FP.l2d ((4 : Int64) * ss))) (FP.l2d ((ss * (((4 : Int32) - kk).toInt64)) + (((4 : Int64) * (kk.toInt64)) * (1 : Int64))))))), .second, .val (.long ((ss * (((4 : Int32) - kk).toInt64)) + (((4 : Int64) * (kk.toInt64)) * (1 : Int64)))), .second]) rfl rfl ?_
            refine g_dload X109 hx 197 (hb hby at_195) rfl rfl ?_
            refine g_dload X109 hx 199 (hb hby at_197) rfl rfl ?_
            refine g_dcmp X109 hx 200 (hb hby at_199) rfl ?_
            have c113 : (cmpValue (FP.dcmp (FP.dmul (FP.ddiv (FP.i2d wv) (4620693217682128896 : UInt64)) (FP.ddiv (FP.l2d p0) (FP.dadd (FP.dsub (4607182418800017408 : UInt64) (FP.ddiv (FP.i2d kk) (4616189618054758400 : UInt64))) (FP.ddiv (FP.dmul (FP.ddiv (FP.i2d kk) (4616189618054758400 : UInt64)) (FP.l2d (1 : Int64))) (FP.ddiv (FP.l2d ss) (4616189618054758400 : UInt64)))))) (FP.dmul (FP.ddiv (FP.i2d wv) (4620693217682128896 : UInt64)) (FP.ddiv (FP.dmul (FP.l2d p0) (FP.l2d ((4 : Int64) * ss))) (FP.l2d ((ss * (((4 : Int32) - kk).toInt64)) + (((4 : Int64) * (kk.toInt64)) * (1 : Int64))))))) .l) = (0 : Int32) := by rw [hcmp]; rfl
            refine g_ifNo X109 hx 203 (hb hby at_200) (own_i0_ne_f c113) rfl ?_
            refine g_iconst X109 hx 204 (hb hby at_203) (1 : Int32) rfl rfl ?_
            refine g_goto X109 hx 208 (hb hby at_204) (by decide) (by decide) ?_
            refine own_retN X109 hx hlk (t := .boolean) hret (by simp) (hb hby at_208) ?_ (by decide) (by decide)
            rw [e109]
            exact ⟨rfl, N109⟩
          · have f115 : Exa Z T104.heap b91 "com/example/libelem/libelem/rank/ContextField" := (A91.keep Kq104)
            refine own_callV X104 hx hZ hown (hw _ (List.mem_of_getElem? (i := 40) rfl)) (hw _ (List.mem_of_getElem? (i := 41) rfl)) (own_nf hZ (hw _ (List.mem_of_getElem? (i := 43) rfl))) (hw _ (List.mem_of_getElem? (i := 43) rfl)) (hw _ (List.mem_of_getElem? (i := 42) rfl)) (by decide) (rm_wA l Z a0 hw [] b91 p0 (1 : Int64) (FP.ddiv (FP.l2d ss) (4616189618054758400 : UInt64)) T104.heap n0 z107 c108) (hw _ (List.mem_of_getElem? (i := 44) rfl)) (hw _ (List.mem_of_getElem? (i := 6) rfl)) rfl 0 (by decide) (by decide) (by decide) (by decide) f115 [(.long p0), (.long (1 : Int64)), (.double (FP.ddiv (FP.l2d ss) (4616189618054758400 : UInt64)))] [] rfl pd_4 rfl 135 rfl (by rw [hml]; rfl) rfl (hb hby at_132) rfl fun T114 v114 L114 X114 hQ114 => ?_
            obtain ⟨rfl, Nq114, e114⟩ := hQ114
            have N114 := Fr.app N104 Nq114
            show own_Go p e below s _ _ _ (T114.setTop (mkF m 135 _ [(.double (0 : UInt64))]))
            refine g_dstore X114 hx 137 (hb hby at_135) (l' := #[.val (.long p0), .second, .val (.long p1), .second, .val (.int p2), .val (.int p3), .val (.int p4), .val (.int kk), .val (.double (FP.ddiv (FP.i2d kk) (4616189618054758400 : UInt64))), .second, .val (.double (FP.ddiv (FP.i2d wv) (4620693217682128896 : UInt64))), .second, .val (.long (1 : Int64)), .second, .val (.int sv), .val (.long ss), .second, .val (.double (FP.ddiv (FP.l2d ss) (4616189618054758400 : UInt64))), .second, .val (.ref b91), .val (.double (0 : UInt64)), .second, .unset, .unset, .unset, .unset]) rfl rfl ?_
            refine g_lload_n X114 hx 138 (hb hby at_137) rfl rfl ?_
            refine g_lconst X114 hx 139 (hb hby at_138) (0 : Int64) rfl rfl ?_
            refine g_lcmp X114 hx 140 (hb hby at_139) rfl ?_
            refine g_ifYes X114 hx 149 (hb hby at_140) (own_ll_le_t c108) (by decide) (by decide) ?_
            refine g_dconst0 X114 hx 150 (hb hby at_149) (v := (0 : UInt64)) (by decide +kernel) rfl ?_
            refine g_dstore X114 hx 152 (hb hby at_150) (l' := #[.val (.long p0), .second, .val (.long p1), .second, .val (.int p2), .val (.int p3), .val (.int p4), .val (.int kk), .val (.double (FP.ddiv (FP.i2d kk) (4616189618054758400 : UInt64))), .second, .val (.double (FP.ddiv (FP.i2d wv) (4620693217682128896 : UInt64))), .second, .val (.long (1 : Int64)), .second, .val (.int sv), .val (.long ss), .second, .val (.double (FP.ddiv (FP.l2d ss) (4616189618054758400 : UInt64))), .second, .val (.ref b91), .val (.double (0 : UInt64)), .second, .val (.double (0 : UInt64)), .second, .unset, .unset]) rfl rfl ?_
            refine g_goto X114 hx 195 (hb hby at_152) (by decide) (by decide) ?_
            refine g_dload X114 hx 197 (hb hby at_195) rfl rfl ?_
            refine g_dload X114 hx 199 (hb hby at_197) rfl rfl ?_
            refine g_dcmp X114 hx 200 (hb hby at_199) rfl ?_
            have c117 : (cmpValue (FP.dcmp (0 : UInt64) (0 : UInt64)) .l) = (0 : Int32) := by decide +kernel
            refine g_ifNo X114 hx 203 (hb hby at_200) (own_i0_ne_f c117) rfl ?_
            refine g_iconst X114 hx 204 (hb hby at_203) (1 : Int32) rfl rfl ?_
            refine g_goto X114 hx 208 (hb hby at_204) (by decide) (by decide) ?_
            refine own_retN X114 hx hlk (t := .boolean) hret (by simp) (hb hby at_208) ?_ (by decide) (by decide)
            rw [e114]
            exact ⟨rfl, N114⟩
    · refine g_ifYes X0 hx 54 (hb hby at_48) (own_ll_ne_t c34) (by decide) (by decide) ?_
      have h_ln := own_lnC (kk := kk) h_lv c34
      refine g_iload X0 hx 56 (hb hby at_54) rfl rfl ?_
      refine g_bipush X0 hx 58 (hb hby at_56) (7 : Int32) rfl rfl ?_
      refine g_iand X0 hx 59 (hb hby at_58) rfl ?_
      obtain ⟨sv, q_sv⟩ : ∃ z, z = (p3 &&& (7 : Int32)) := ⟨_, rfl⟩
      have h_sv := own_7 p3 q_sv
      rw [← q_sv]
      refine g_istore X0 hx 61 (hb hby at_59) (l' := #[.val (.long p0), .second, .val (.long p1), .second, .val (.int p2), .val (.int p3), .val (.int p4), .val (.int kk), .val (.double (FP.ddiv (FP.i2d kk) (4616189618054758400 : UInt64))), .second, .val (.double (FP.ddiv (FP.i2d wv) (4620693217682128896 : UInt64))), .second, .val (.long lv), .second, .val (.int sv), .unset, .unset, .unset, .unset, .unset, .unset, .unset, .unset, .unset, .unset, .unset]) rfl rfl ?_
      refine g_lconst X0 hx 62 (hb hby at_61) (1 : Int64) rfl rfl ?_
      refine g_lstore X0 hx 64 (hb hby at_62) (l' := #[.val (.long p0), .second, .val (.long p1), .second, .val (.int p2), .val (.int p3), .val (.int p4), .val (.int kk), .val (.double (FP.ddiv (FP.i2d kk) (4616189618054758400 : UInt64))), .second, .val (.double (FP.ddiv (FP.i2d wv) (4620693217682128896 : UInt64))), .second, .val (.long lv), .second, .val (.int sv), .val (.long (1 : Int64)), .second, .unset, .unset, .unset, .unset, .unset, .unset, .unset, .unset, .unset]) rfl rfl ?_
      refine g_iload X0 hx 66 (hb hby at_64) rfl rfl ?_
      by_cases c118 : sv = (0 : Int32)
      · refine g_ifNo X0 hx 69 (hb hby at_66) (own_i0_ne_f c118) rfl ?_
        refine g_dconst0 X0 hx 70 (hb hby at_69) (v := (0 : UInt64)) (by decide +kernel) rfl ?_
        refine g_dstore X0 hx 72 (hb hby at_70) (l' := #[.val (.long p0), .second, .val (.long p1), .second, .val (.int p2), .val (.int p3), .val (.int p4), .val (.int kk), .val (.double (FP.ddiv (FP.i2d kk) (4616189618054758400 : UInt64))), .second, .val (.double (FP.ddiv (FP.i2d wv) (4620693217682128896 : UInt64))), .second, .val (.long lv), .second, .val (.int sv), .val (.long (1 : Int64)), .second, .val (.double (0 : UInt64)), .second, .unset, .unset, .unset, .unset, .unset, .unset, .unset]) rfl rfl ?_
        refine g_goto X0 hx 106 (hb hby at_72) (by decide) (by decide) ?_
        refine own_newO X0 hx hZ hown (hw _ (List.mem_of_getElem? (i := 4) rfl)) (hw _ (List.mem_of_getElem? (i := 5) rfl)) (hw _ (List.mem_of_getElem? (i := 6) rfl)) e0 109 (hb hby at_106) rfl (by decide) (by decide) fun T119 h119 b119 X119 e119 g119 E119 A119 D119 => ?_
        have ne120 : cn ≠ b119 := Nat.ne_of_lt (Nat.lt_of_lt_of_le E_cn.lt (Nat.le_of_eq g119.symm))
        have ne121 : sn ≠ b119 := Nat.ne_of_lt (Nat.lt_of_lt_of_le E_sn.lt (Nat.le_of_eq g119.symm))
        have g_b119 : n0 ≤ b119 := Nat.le_trans Z0 (Nat.le_of_eq g119.symm)
        have sz_b119 : h0.size ≤ b119 := Nat.le_trans (Keep.refl h0 []).1 (Nat.le_of_eq g119.symm)
        have K122 : Keep h0 h119 [] := (Keep.refl h0 []).ext E119
        have z123 : n0 ≤ h119.size := (Nat.le_trans Z0 E119.1)
        have f124 : Fld Z h119 b119 "com/example/libelem/libelem/rank/ContextField" "names" "Ljava/util/Set;" .null := D119 (Or.inr (hw _ (List.mem_of_getElem? (i := 15) rfl))) (ty := (.object "java/util/Set")) (by decide)
        have f125 : Fld Z h119 b119 "com/example/libelem/libelem/rank/ContextField" "weight" "D" (.double (0 : UInt64)) := D119 (Or.inr (hw _ (List.mem_of_getElem? (i := 37) rfl))) (ty := .double) (by decide)
        have f126 : Fld Z h119 b119 "com/example/libelem/libelem/rank/ContextField" "b" "D" (.double (0 : UInt64)) := D119 (Or.inr (hw _ (List.mem_of_getElem? (i := 39) rfl))) (ty := .double) (by decide)
        refine g_dup X119 hx 110 (hb hby at_109) rfl rfl ?_
        have f127 : Sta Z h119 "com/example/libelem/libelem/rank/ContextField" "NONE" "Lcom/example/libelem/libelem/rank/ContextField;" (.ref cn) := (own_Sta_keep K122 S_cn all0)
        refine own_getS X119 hx hZ hown (host := "") (Or.inl (hw _ (List.mem_of_getElem? (i := 7) rfl))) Via.refl e119 f127 113 (hb hby at_110) rfl fun T128 X128 e128 => ?_
        have f130 : Fld Z h119 cn "com/example/libelem/libelem/rank/ContextField" "names" "Ljava/util/Set;" (.ref sn) := (F_cn.keep K122 nin0)
        have f131 : Exa Z h119 cn "com/example/libelem/libelem/rank/ContextField" := (E_cn.keep K122)
        refine own_callV X128 hx hZ hown (hw _ (List.mem_of_getElem? (i := 9) rfl)) (hw _ (List.mem_of_getElem? (i := 10) rfl)) (own_nf hZ (hw _ (List.mem_of_getElem? (i := 12) rfl))) (hw _ (List.mem_of_getElem? (i := 12) rfl)) (hw _ (List.mem_of_getElem? (i := 11) rfl)) (by decide) (rm_names l Z a0 hw [] cn sn h119 n0 z123 f130) (hw _ (List.mem_of_getElem? (i := 13) rfl)) (hw _ (List.mem_of_getElem? (i := 6) rfl)) e128 2 (by decide) (by decide) (by decide) (by decide) f131 [] [(.ref b119), (.ref b119)] rfl pd_2 rfl 116 rfl (by rw [hml]; rfl) rfl (hb hby at_113) rfl fun T129 v129 L129 X129 hQ129 => ?_
        obtain ⟨rfl, Nq129, e129⟩ := hQ129
        have N129 := Fr.app N0 Nq129
        show own_Go p e below s _ _ _ (T129.setTop (mkF m 116 _ [(.ref sn), (.ref b119), (.ref b119)]))
        refine g_dload X129 hx 118 (hb hby at_116) rfl rfl ?_
        refine g_dload X129 hx 120 (hb hby at_118) rfl rfl ?_
        have f133 : Exa Z h119 sn "java/util/ImmutableCollections$SetN" := (E_sn.keep K122)
        refine own_callI X129 hx hZ hown rfl (hw _ (List.mem_of_getElem? (i := 16) rfl)) (hw _ (List.mem_of_getElem? (i := 17) rfl)) (by decide) (rm_init l Z a0 hw [] b119 sn (FP.ddiv (FP.i2d wv) (4620693217682128896 : UInt64)) (FP.ddiv (FP.i2d kk) (4616189618054758400 : UInt64)) h119 n0 z123 A119 f133 f124 f125 f126 g_b119 (own_ge (own_q8 wv) h_wv.1) (own_inf (own_q8 wv)) (own_ge (own_q4 kk) h_kk.1) (own_le1 (own_q4 kk) h_kk.2)) (hw _ (List.mem_of_getElem? (i := 18) rfl)) (hw _ (List.mem_of_getElem? (i := 6) rfl)) e129 1 (by decide) (by decide) (by decide) (by decide) b119 [(.ref sn), (.double (FP.ddiv (FP.i2d wv) (4620693217682128896 : UInt64))), (.double (FP.ddiv (FP.i2d kk) (4616189618054758400 : UInt64)))] [(.ref b119)] rfl pd_3 rfl 123 rfl (by rw [hml]; rfl) rfl (hb hby at_120) rfl fun T132 v132 L132 X132 hQ132 => ?_
        obtain ⟨rfl, Nq132, Kq132, f132_0, f132_1⟩ := hQ132
        have N132 := Fr.app N129 Nq132
        have K134 : Keep h0 T132.heap [] := K122.trans Kq132 (allS (Or.inr sz_b119) all0)
        have z135 : n0 ≤ T132.heap.size := (Nat.le_trans z123 Kq132.1)
        show own_Go p e below s _ _ _ (T132.setTop (mkF m 123 _ [(.ref b119)]))
        refine g_astore X132 hx 125 (hb hby at_123) rfl (l' := #[.val (.long p0), .second, .val (.long p1), .second, .val (.int p2), .val (.int p3), .val (.int p4), .val (.int kk), .val (.double (FP.ddiv (FP.i2d kk) (4616189618054758400 : UInt64))), .second, .val (.double (FP.ddiv (FP.i2d wv) (4620693217682128896 : UInt64))), .second, .val (.long lv), .second, .val (.int sv), .val (.long (1 : Int64)), .second, .val (.double (0 : UInt64)), .second, .val (.ref b119), .unset, .unset, .unset, .unset, .unset, .unset]) rfl rfl ?_
        refine g_aload X132 hx 127 (hb hby at_125) rfl rfl rfl ?_
        refine g_lload_n X132 hx 128 (hb hby at_127) rfl rfl ?_
        refine g_lload X132 hx 130 (hb hby at_128) rfl rfl ?_
        refine g_dload X132 hx 132 (hb hby at_130) rfl rfl ?_
        by_cases c136 : (0 : Int64) < p0
        · have f138 : Exa Z T132.heap b119 "com/example/libelem/libelem/rank/ContextField" := (A119.keep Kq132)
          refine own_callV X132 hx hZ hown (hw _ (List.mem_of_getElem? (i := 40) rfl)) (hw _ (List.mem_of_getElem? (i := 41) rfl)) (own_nf hZ (hw _ (List.mem_of_getElem? (i := 43) rfl))) (hw _ (List.mem_of_getElem? (i := 43) rfl)) (hw _ (List.mem_of_getElem? (i := 42) rfl)) (by decide) (rm_wB l Z a0 hw [] b119 p0 lv (0 : UInt64) T132.heap n0 z135 c136 (by decide +kernel)) (hw _ (List.mem_of_getElem? (i := 44) rfl)) (hw _ (List.mem_of_getElem? (i := 6) rfl)) rfl 0 (by decide) (by decide) (by decide) (by decide) f138 [(.long p0), (.long lv), (.double (0 : UInt64))] [] rfl pd_4 rfl 135 rfl (by rw [hml]; rfl) rfl (hb hby at_132) rfl fun T137 v137 L137 X137 hQ137 => ?_
          obtain ⟨rfl, Nq137, e137⟩ := hQ137
          have N137 := Fr.app N132 Nq137
          show own_Go p e below s _ _ _ (T137.setTop (mkF m 135 _ [(.double (0 : UInt64))]))
          refine g_dstore X137 hx 137 (hb hby at_135) (l' := #[.val (.long p0), .second, .val (.long p1), .second, .val (.int p2), .val (.int p3), .val (.int p4), .val (.int kk), .val (.double (FP.ddiv (FP.i2d kk) (4616189618054758400 : UInt64))), .second, .val (.double (FP.ddiv (FP.i2d wv) (4620693217682128896 : UInt64))), .second, .val (.long lv), .second, .val (.int sv), .val (.long (1 : Int64)), .second, .val (.double (0 : UInt64)), .second, .val (.ref b119), .val (.double (0 : UInt64)), .second, .unset, .unset, .unset, .unset]) rfl rfl ?_
          refine g_lload_n X137 hx 138 (hb hby at_137) rfl rfl ?_
          refine g_lconst X137 hx 139 (hb hby at_138) (0 : Int64) rfl rfl ?_
          refine g_lcmp X137 hx 140 (hb hby at_139) rfl ?_
          refine g_ifNo X137 hx 143 (hb hby at_140) (own_ll_le_f c136) rfl ?_
          refine g_iload X137 hx 145 (hb hby at_143) rfl rfl ?_
          refine g_iconst X137 hx 146 (hb hby at_145) (2 : Int32) rfl rfl ?_
          have c140 : sv < (2 : Int32) := by rw [c118]; decide
          refine g_icmpNo X137 hx 149 (hb hby at_146) (own_ii_ge_f c140) rfl ?_
          refine g_dconst0 X137 hx 150 (hb hby at_149) (v := (0 : UInt64)) (by decide +kernel) rfl ?_
          refine g_dstore X137 hx 152 (hb hby at_150) (l' := #[.val (.long p0), .second, .val (.long p1), .second, .val (.int p2), .val (.int p3), .val (.int p4), .val (.int kk), .val (.double (FP.ddiv (FP.i2d kk) (4616189618054758400 : UInt64))), .second, .val (.double (FP.ddiv (FP.i2d wv) (4620693217682128896 : UInt64))), .second, .val (.long lv), .second, .val (.int sv), .val (.long (1 : Int64)), .second, .val (.double (0 : UInt64)), .second, .val (.ref b119), .val (.double (0 : UInt64)), .second, .val (.double (0 : UInt64)), .second, .unset, .unset]) rfl rfl ?_
          refine g_goto X137 hx 195 (hb hby at_152) (by decide) (by decide) ?_
          refine g_dload X137 hx 197 (hb hby at_195) rfl rfl ?_
          refine g_dload X137 hx 199 (hb hby at_197) rfl rfl ?_
          refine g_dcmp X137 hx 200 (hb hby at_199) rfl ?_
          have c141 : (cmpValue (FP.dcmp (0 : UInt64) (0 : UInt64)) .l) = (0 : Int32) := by decide +kernel
          refine g_ifNo X137 hx 203 (hb hby at_200) (own_i0_ne_f c141) rfl ?_
          refine g_iconst X137 hx 204 (hb hby at_203) (1 : Int32) rfl rfl ?_
          refine g_goto X137 hx 208 (hb hby at_204) (by decide) (by decide) ?_
          refine own_retN X137 hx hlk (t := .boolean) hret (by simp) (hb hby at_208) ?_ (by decide) (by decide)
          rw [e137]
          exact ⟨rfl, N137⟩
        · have f143 : Exa Z T132.heap b119 "com/example/libelem/libelem/rank/ContextField" := (A119.keep Kq132)
          refine own_callV X132 hx hZ hown (hw _ (List.mem_of_getElem? (i := 40) rfl)) (hw _ (List.mem_of_getElem? (i := 41) rfl)) (own_nf hZ (hw _ (List.mem_of_getElem? (i := 43) rfl))) (hw _ (List.mem_of_getElem? (i := 43) rfl)) (hw _ (List.mem_of_getElem? (i := 42) rfl)) (by decide) (rm_wA l Z a0 hw [] b119 p0 lv (0 : UInt64) T132.heap n0 z135 c136) (hw _ (List.mem_of_getElem? (i := 44) rfl)) (hw _ (List.mem_of_getElem? (i := 6) rfl)) rfl 0 (by decide) (by decide) (by decide) (by decide) f143 [(.long p0), (.long lv), (.double (0 : UInt64))] [] rfl pd_4 rfl 135 rfl (by rw [hml]; rfl) rfl (hb hby at_132) rfl fun T142 v142 L142 X142 hQ142 => ?_
          obtain ⟨rfl, Nq142, e142⟩ := hQ142
          have N142 := Fr.app N132 Nq142
          show own_Go p e below s _ _ _ (T142.setTop (mkF m 135 _ [(.double (0 : UInt64))]))
          refine g_dstore X142 hx 137 (hb hby at_135) (l' := #[.val (.long p0), .second, .val (.long p1), .second, .val (.int p2), .val (.int p3), .val (.int p4), .val (.int kk), .val (.double (FP.ddiv (FP.i2d kk) (4616189618054758400 : UInt64))), .second, .val (.double (FP.ddiv (FP.i2d wv) (4620693217682128896 : UInt64))), .second, .val (.long lv), .second, .val (.int sv), .val (.long (1 : Int64)), .second, .val (.double (0 : UInt64)), .second, .val (.ref b119), .val (.double (0 : UInt64)), .second, .unset, .unset, .unset, .unset]) rfl rfl ?_
          refine g_lload_n X142 hx 138 (hb hby at_137) rfl rfl ?_
          refine g_lconst X142 hx 139 (hb hby at_138) (0 : Int64) rfl rfl ?_
          refine g_lcmp X142 hx 140 (hb hby at_139) rfl ?_
          refine g_ifYes X142 hx 149 (hb hby at_140) (own_ll_le_t c136) (by decide) (by decide) ?_
          refine g_dconst0 X142 hx 150 (hb hby at_149) (v := (0 : UInt64)) (by decide +kernel) rfl ?_
          refine g_dstore X142 hx 152 (hb hby at_150) (l' := #[.val (.long p0), .second, .val (.long p1), .second, .val (.int p2), .val (.int p3), .val (.int p4), .val (.int kk), .val (.double (FP.ddiv (FP.i2d kk) (4616189618054758400 : UInt64))), .second, .val (.double (FP.ddiv (FP.i2d wv) (4620693217682128896 : UInt64))), .second, .val (.long lv), .second, .val (.int sv), .val (.long (1 : Int64)), .second, .val (.double (0 : UInt64)), .second, .val (.ref b119), .val (.double (0 : UInt64)), .second, .val (.double (0 : UInt64)), .second, .unset, .unset]) rfl rfl ?_
          refine g_goto X142 hx 195 (hb hby at_152) (by decide) (by decide) ?_
          refine g_dload X142 hx 197 (hb hby at_195) rfl rfl ?_
          refine g_dload X142 hx 199 (hb hby at_197) rfl rfl ?_
          refine g_dcmp X142 hx 200 (hb hby at_199) rfl ?_
          have c145 : (cmpValue (FP.dcmp (0 : UInt64) (0 : UInt64)) .l) = (0 : Int32) := by decide +kernel
          refine g_ifNo X142 hx 203 (hb hby at_200) (own_i0_ne_f c145) rfl ?_
          refine g_iconst X142 hx 204 (hb hby at_203) (1 : Int32) rfl rfl ?_
          refine g_goto X142 hx 208 (hb hby at_204) (by decide) (by decide) ?_
          refine own_retN X142 hx hlk (t := .boolean) hret (by simp) (hb hby at_208) ?_ (by decide) (by decide)
          rw [e142]
          exact ⟨rfl, N142⟩
      · refine g_ifYes X0 hx 75 (hb hby at_66) (own_i0_ne_t c118) (by decide) (by decide) ?_
        refine g_iload X0 hx 77 (hb hby at_75) rfl rfl ?_
        refine g_iconst X0 hx 78 (hb hby at_77) (1 : Int32) rfl rfl ?_
        by_cases c146 : sv = (1 : Int32)
        · refine g_icmpNo X0 hx 81 (hb hby at_78) (own_ii_ne_f c146) rfl ?_
          refine g_ldc2_wD X0 hx hown 84 (z := (13835058055282163712 : UInt64)) (mvT hZ (hw _ (List.mem_of_getElem? (i := 46) rfl))) (hb hby at_81) rfl ?_
          refine g_dstore X0 hx 86 (hb hby at_84) (l' := #[.val (.long p0), .second, .val (.long p1), .second, .val (.int p2), .val (.int p3), .val (.int p4), .val (.int kk), .val (.double (FP.ddiv (FP.i2d kk) (4616189618054758400 : UInt64))), .second, .val (.double (FP.ddiv (FP.i2d wv) (4620693217682128896 : UInt64))), .second, .val (.long lv), .second, .val (.int sv), .val (.long (1 : Int64)), .second, .val (.double (13835058055282163712 : UInt64)), .second, .unset, .unset, .unset, .unset, .unset, .unset, .unset]) rfl rfl ?_
          refine g_goto X0 hx 106 (hb hby at_86) (by decide) (by decide) ?_
          refine own_newO X0 hx hZ hown (hw _ (List.mem_of_getElem? (i := 4) rfl)) (hw _ (List.mem_of_getElem? (i := 5) rfl)) (hw _ (List.mem_of_getElem? (i := 6) rfl)) e0 109 (hb hby at_106) rfl (by decide) (by decide) fun T147 h147 b147 X147 e147 g147 E147 A147 D147 => ?_
          have ne148 : cn ≠ b147 := Nat.ne_of_lt (Nat.lt_of_lt_of_le E_cn.lt (Nat.le_of_eq g147.symm))
          have ne149 : sn ≠ b147 := Nat.ne_of_lt (Nat.lt_of_lt_of_le E_sn.lt (Nat.le_of_eq g147.symm))
          have g_b147 : n0 ≤ b147 := Nat.le_trans Z0 (Nat.le_of_eq g147.symm)
          have sz_b147 : h0.size ≤ b147 := Nat.le_trans (Keep.refl h0 []).1 (Nat.le_of_eq g147.symm)
          have K150 : Keep h0 h147 [] := (Keep.refl h0 []).ext E147
          have z151 : n0 ≤ h147.size := (Nat.le_trans Z0 E147.1)
          have f152 : Fld Z h147 b147 "com/example/libelem/libelem/rank/ContextField" "names" "Ljava/util/Set;" .null := D147 (Or.inr (hw _ (List.mem_of_getElem? (i := 15) rfl))) (ty := (.object "java/util/Set")) (by decide)
          have f153 : Fld Z h147 b147 "com/example/libelem/libelem/rank/ContextField" "weight" "D" (.double (0 : UInt64)) := D147 (Or.inr (hw _ (List.mem_of_getElem? (i := 37) rfl))) (ty := .double) (by decide)
          have f154 : Fld Z h147 b147 "com/example/libelem/libelem/rank/ContextField" "b" "D" (.double (0 : UInt64)) := D147 (Or.inr (hw _ (List.mem_of_getElem? (i := 39) rfl))) (ty := .double) (by decide)
          refine g_dup X147 hx 110 (hb hby at_109) rfl rfl ?_
          have f155 : Sta Z h147 "com/example/libelem/libelem/rank/ContextField" "NONE" "Lcom/example/libelem/libelem/rank/ContextField;" (.ref cn) := (own_Sta_keep K150 S_cn all0)
          refine own_getS X147 hx hZ hown (host := "") (Or.inl (hw _ (List.mem_of_getElem? (i := 7) rfl))) Via.refl e147 f155 113 (hb hby at_110) rfl fun T156 X156 e156 => ?_
          have f158 : Fld Z h147 cn "com/example/libelem/libelem/rank/ContextField" "names" "Ljava/util/Set;" (.ref sn) := (F_cn.keep K150 nin0)
          have f159 : Exa Z h147 cn "com/example/libelem/libelem/rank/ContextField" := (E_cn.keep K150)
          refine own_callV X156 hx hZ hown (hw _ (List.mem_of_getElem? (i := 9) rfl)) (hw _ (List.mem_of_getElem? (i := 10) rfl)) (own_nf hZ (hw _ (List.mem_of_getElem? (i := 12) rfl))) (hw _ (List.mem_of_getElem? (i := 12) rfl)) (hw _ (List.mem_of_getElem? (i := 11) rfl)) (by decide) (rm_names l Z a0 hw [] cn sn h147 n0 z151 f158) (hw _ (List.mem_of_getElem? (i := 13) rfl)) (hw _ (List.mem_of_getElem? (i := 6) rfl)) e156 2 (by decide) (by decide) (by decide) (by decide) f159 [] [(.ref b147), (.ref b147)] rfl pd_2 rfl 116 rfl (by rw [hml]; rfl) rfl (hb hby at_113) rfl fun T157 v157 L157 X157 hQ157 => ?_
          obtain ⟨rfl, Nq157, e157⟩ := hQ157
          have N157 := Fr.app N0 Nq157
          show own_Go p e below s _ _ _ (T157.setTop (mkF m 116 _ [(.ref sn), (.ref b147), (.ref b147)]))
          refine g_dload X157 hx 118 (hb hby at_116) rfl rfl ?_
          refine g_dload X157 hx 120 (hb hby at_118) rfl rfl ?_
          have f161 : Exa Z h147 sn "java/util/ImmutableCollections$SetN" := (E_sn.keep K150)
          refine own_callI X157 hx hZ hown rfl (hw _ (List.mem_of_getElem? (i := 16) rfl)) (hw _ (List.mem_of_getElem? (i := 17) rfl)) (by decide) (rm_init l Z a0 hw [] b147 sn (FP.ddiv (FP.i2d wv) (4620693217682128896 : UInt64)) (FP.ddiv (FP.i2d kk) (4616189618054758400 : UInt64)) h147 n0 z151 A147 f161 f152 f153 f154 g_b147 (own_ge (own_q8 wv) h_wv.1) (own_inf (own_q8 wv)) (own_ge (own_q4 kk) h_kk.1) (own_le1 (own_q4 kk) h_kk.2)) (hw _ (List.mem_of_getElem? (i := 18) rfl)) (hw _ (List.mem_of_getElem? (i := 6) rfl)) e157 1 (by decide) (by decide) (by decide) (by decide) b147 [(.ref sn), (.double (FP.ddiv (FP.i2d wv) (4620693217682128896 : UInt64))), (.double (FP.ddiv (FP.i2d kk) (4616189618054758400 : UInt64)))] [(.ref b147)] rfl pd_3 rfl 123 rfl (by rw [hml]; rfl) rfl (hb hby at_120) rfl fun T160 v160 L160 X160 hQ160 => ?_
          obtain ⟨rfl, Nq160, Kq160, f160_0, f160_1⟩ := hQ160
          have N160 := Fr.app N157 Nq160
          have K162 : Keep h0 T160.heap [] := K150.trans Kq160 (allS (Or.inr sz_b147) all0)
          have z163 : n0 ≤ T160.heap.size := (Nat.le_trans z151 Kq160.1)
          show own_Go p e below s _ _ _ (T160.setTop (mkF m 123 _ [(.ref b147)]))
          refine g_astore X160 hx 125 (hb hby at_123) rfl (l' := #[.val (.long p0), .second, .val (.long p1), .second, .val (.int p2), .val (.int p3), .val (.int p4), .val (.int kk), .val (.double (FP.ddiv (FP.i2d kk) (4616189618054758400 : UInt64))), .second, .val (.double (FP.ddiv (FP.i2d wv) (4620693217682128896 : UInt64))), .second, .val (.long lv), .second, .val (.int sv), .val (.long (1 : Int64)), .second, .val (.double (13835058055282163712 : UInt64)), .second, .val (.ref b147), .unset, .unset, .unset, .unset, .unset, .unset]) rfl rfl ?_
          refine g_aload X160 hx 127 (hb hby at_125) rfl rfl rfl ?_
          refine g_lload_n X160 hx 128 (hb hby at_127) rfl rfl ?_
          refine g_lload X160 hx 130 (hb hby at_128) rfl rfl ?_
          refine g_dload X160 hx 132 (hb hby at_130) rfl rfl ?_
          by_cases c164 : (0 : Int64) < p0
          · have f166 : Exa Z T160.heap b147 "com/example/libelem/libelem/rank/ContextField" := (A147.keep Kq160)
            refine own_callV X160 hx hZ hown (hw _ (List.mem_of_getElem? (i := 40) rfl)) (hw _ (List.mem_of_getElem? (i := 41) rfl)) (own_nf hZ (hw _ (List.mem_of_getElem? (i := 43) rfl))) (hw _ (List.mem_of_getElem? (i := 43) rfl)) (hw _ (List.mem_of_getElem? (i := 42) rfl)) (by decide) (rm_wB l Z a0 hw [] b147 p0 lv (13835058055282163712 : UInt64) T160.heap n0 z163 c164 (by decide +kernel)) (hw _ (List.mem_of_getElem? (i := 44) rfl)) (hw _ (List.mem_of_getElem? (i := 6) rfl)) rfl 0 (by decide) (by decide) (by decide) (by decide) f166 [(.long p0), (.long lv), (.double (13835058055282163712 : UInt64))] [] rfl pd_4 rfl 135 rfl (by rw [hml]; rfl) rfl (hb hby at_132) rfl fun T165 v165 L165 X165 hQ165 => ?_
            obtain ⟨rfl, Nq165, e165⟩ := hQ165
            have N165 := Fr.app N160 Nq165
            show own_Go p e below s _ _ _ (T165.setTop (mkF m 135 _ [(.double (0 : UInt64))]))
            refine g_dstore X165 hx 137 (hb hby at_135) (l' := #[.val (.long p0), .second, .val (.long p1), .second, .val (.int p2), .val (.int p3), .val (.int p4), .val (.int kk), .val (.double (FP.ddiv (FP.i2d kk) (4616189618054758400 : UInt64))), .second, .val (.double (FP.ddiv (FP.i2d wv) (4620693217682128896 : UInt64))), .second, .val (.long lv), .second, .val (.int sv), .val (.long (1 : Int64)), .second, .val (.double (13835058055282163712 : UInt64)), .second, .val (.ref b147), .val (.double (0 : UInt64)), .second, .unset, .unset, .unset, .unset]) rfl rfl ?_
            refine g_lload_n X165 hx 138 (hb hby at_137) rfl rfl ?_
            refine g_lconst X165 hx 139 (hb hby at_138) (0 : Int64) rfl rfl ?_
            refine g_lcmp X165 hx 140 (hb hby at_139) rfl ?_
            refine g_ifNo X165 hx 143 (hb hby at_140) (own_ll_le_f c164) rfl ?_
            refine g_iload X165 hx 145 (hb hby at_143) rfl rfl ?_
            refine g_iconst X165 hx 146 (hb hby at_145) (2 : Int32) rfl rfl ?_
            have c168 : sv < (2 : Int32) := by rw [c146]; decide
            refine g_icmpNo X165 hx 149 (hb hby at_146) (own_ii_ge_f c168) rfl ?_
            refine g_dconst0 X165 hx 150 (hb hby at_149) (v := (0 : UInt64)) (by decide +kernel) rfl ?_
            refine g_dstore X165 hx 152 (hb hby at_150) (l' := #[.val (.long p0), .second, .val (.long p1), .second, .val (.int p2), .val (.int p3), .val (.int p4), .val (.int kk), .val (.double (FP.ddiv (FP.i2d kk) (4616189618054758400 : UInt64))), .second, .val (.double (FP.ddiv (FP.i2d wv) (4620693217682128896 : UInt64))), .second, .val (.long lv), .second, .val (.int sv), .val (.long (1 : Int64)), .second, .val (.double (13835058055282163712 : UInt64)), .second, .val (.ref b147), .val (.double (0 : UInt64)), .second, .val (.double (0 : UInt64)), .second, .unset, .unset]) rfl rfl ?_
            refine g_goto X165 hx 195 (hb hby at_152) (by decide) (by decide) ?_
            refine g_dload X165 hx 197 (hb hby at_195) rfl rfl ?_
            refine g_dload X165 hx 199 (hb hby at_197) rfl rfl ?_
            refine g_dcmp X165 hx 200 (hb hby at_199) rfl ?_
            have c169 : (cmpValue (FP.dcmp (0 : UInt64) (0 : UInt64)) .l) = (0 : Int32) := by decide +kernel
            refine g_ifNo X165 hx 203 (hb hby at_200) (own_i0_ne_f c169) rfl ?_
            refine g_iconst X165 hx 204 (hb hby at_203) (1 : Int32) rfl rfl ?_
            refine g_goto X165 hx 208 (hb hby at_204) (by decide) (by decide) ?_
            refine own_retN X165 hx hlk (t := .boolean) hret (by simp) (hb hby at_208) ?_ (by decide) (by decide)
            rw [e165]
            exact ⟨rfl, N165⟩
          · have f171 : Exa Z T160.heap b147 "com/example/libelem/libelem/rank/ContextField" := (A147.keep Kq160)
            refine own_callV X160 hx hZ hown (hw _ (List.mem_of_getElem? (i := 40) rfl)) (hw _ (List.mem_of_getElem? (i := 41) rfl)) (own_nf hZ (hw _ (List.mem_of_getElem? (i := 43) rfl))) (hw _ (List.mem_of_getElem? (i := 43) rfl)) (hw _ (List.mem_of_getElem? (i := 42) rfl)) (by decide) (rm_wA l Z a0 hw [] b147 p0 lv (13835058055282163712 : UInt64) T160.heap n0 z163 c164) (hw _ (List.mem_of_getElem? (i := 44) rfl)) (hw _ (List.mem_of_getElem? (i := 6) rfl)) rfl 0 (by decide) (by decide) (by decide) (by decide) f171 [(.long p0), (.long lv), (.double (13835058055282163712 : UInt64))] [] rfl pd_4 rfl 135 rfl (by rw [hml]; rfl) rfl (hb hby at_132) rfl fun T170 v170 L170 X170 hQ170 => ?_
            obtain ⟨rfl, Nq170, e170⟩ := hQ170
            have N170 := Fr.app N160 Nq170
            show own_Go p e below s _ _ _ (T170.setTop (mkF m 135 _ [(.double (0 : UInt64))]))
            refine g_dstore X170 hx 137 (hb hby at_135) (l' := #[.val (.long p0), .second, .val (.long p1), .second, .val (.int p2), .val (.int p3), .val (.int p4), .val (.int kk), .val (.double (FP.ddiv (FP.i2d kk) (4616189618054758400 : UInt64))), .second, .val (.double (FP.ddiv (FP.i2d wv) (4620693217682128896 : UInt64))), .second, .val (.long lv), .second, .val (.int sv), .val (.long (1 : Int64)), .second, .val (.double (13835058055282163712 : UInt64)), .second, .val (.ref b147), .val (.double (0 : UInt64)), .second, .unset, .unset, .unset, .unset]) rfl rfl ?_
            refine g_lload_n X170 hx 138 (hb hby at_137) rfl rfl ?_
            refine g_lconst X170 hx 139 (hb hby at_138) (0 : Int64) rfl rfl ?_
            refine g_lcmp X170 hx 140 (hb hby at_139) rfl ?_
            refine g_ifYes X170 hx 149 (hb hby at_140) (own_ll_le_t c164) (by decide) (by decide) ?_
            refine g_dconst0 X170 hx 150 (hb hby at_149) (v := (0 : UInt64)) (by decide +kernel) rfl ?_
            refine g_dstore X170 hx 152 (hb hby at_150) (l' := #[.val (.long p0), .second, .val (.long p1), .second, .val (.int p2), .val (.int p3), .val (.int p4), .val (.int kk), .val (.double (FP.ddiv (FP.i2d kk) (4616189618054758400 : UInt64))), .second, .val (.double (FP.ddiv (FP.i2d wv) (4620693217682128896 : UInt64))), .second, .val (.long lv), .second, .val (.int sv), .val (.long (1 : Int64)), .second, .val (.double (13835058055282163712 : UInt64)), .second, .val (.ref b147), .val (.double (0 : UInt64)), .second, .val (.double (0 : UInt64)), .second, .unset, .unset]) rfl rfl ?_
            refine g_goto X170 hx 195 (hb hby at_152) (by decide) (by decide) ?_
            refine g_dload X170 hx 197 (hb hby at_195) rfl rfl ?_
            refine g_dload X170 hx 199 (hb hby at_197) rfl rfl ?_
            refine g_dcmp X170 hx 200 (hb hby at_199) rfl ?_
            have c173 : (cmpValue (FP.dcmp (0 : UInt64) (0 : UInt64)) .l) = (0 : Int32) := by decide +kernel
            refine g_ifNo X170 hx 203 (hb hby at_200) (own_i0_ne_f c173) rfl ?_
            refine g_iconst X170 hx 204 (hb hby at_203) (1 : Int32) rfl rfl ?_
            refine g_goto X170 hx 208 (hb hby at_204) (by decide) (by decide) ?_
            refine own_retN X170 hx hlk (t := .boolean) hret (by simp) (hb hby at_208) ?_ (by decide) (by decide)
            rw [e170]
            exact ⟨rfl, N170⟩
        · refine g_icmpYes X0 hx 89 (hb hby at_78) (own_ii_ne_t c146) (by decide) (by decide) ?_
          refine g_lconst X0 hx 90 (hb hby at_89) (1 : Int64) rfl rfl ?_
          refine g_iload X0 hx 92 (hb hby at_90) rfl rfl ?_
          refine g_iconst X0 hx 93 (hb hby at_92) (2 : Int32) rfl rfl ?_
          refine g_isub X0 hx 94 (hb hby at_93) rfl ?_
          refine g_lshl X0 hx 95 (hb hby at_94) rfl ?_
          obtain ⟨ss, q_ss⟩ : ∃ z, z = ((1 : Int64) <<< ((sv - (2 : Int32)) &&& 0x3f).toInt64) := ⟨_, rfl⟩
          have h_s2 := own_sv2 h_sv c118 c146
          obtain ⟨ee, h_ee, h_ss⟩ := own_ss h_sv h_s2 q_ss
          have h_av := own_avd h_ee h_ss
          rw [← q_ss]
          refine g_lstore X0 hx 97 (hb hby at_95) (l' := #[.val (.long p0), .second, .val (.long p1), .second, .val (.int p2), .val (.int p3), .val (.int p4), .val (.int kk), .val (.double (FP.ddiv (FP.i2d kk) (4616189618054758400 : UInt64))), .second, .val (.double (FP.ddiv (FP.i2d wv) (4620693217682128896 : UInt64))), .second, .val (.long lv), .second, .val (.int sv), .val (.long ss), .second, .unset, .unset, .unset, .unset, .unset, .unset, .unset, .unset, .unset]) rfl rfl ?_
          refine g_lload X0 hx 99 (hb hby at_97) rfl rfl ?_
          refine g_l2d X0 hx 100 (hb hby at_99) rfl ?_
          refine g_ldc2_wD X0 hx hown 103 (z := (4616189618054758400 : UInt64)) (mvT hZ (hw _ (List.mem_of_getElem? (i := 1) rfl))) (hb hby at_100) rfl ?_
          refine g_ddiv X0 hx 104 (hb hby at_103) h_av.no rfl ?_
          refine g_dstore X0 hx 106 (hb hby at_104) (l' := #[.val (.long p0), .second, .val (.long p1), .second, .val (.int p2), .val (.int p3), .val (.int p4), .val (.int kk), .val (.double (FP.ddiv (FP.i2d kk) (4616189618054758400 : UInt64))), .second, .val (.double (FP.ddiv (FP.i2d wv) (4620693217682128896 : UInt64))), .second, .val (.long lv), .second, .val (.int sv), .val (.long ss), .second, .val (.double (FP.ddiv (FP.l2d ss) (4616189618054758400 : UInt64))), .second, .unset, .unset, .unset, .unset, .unset, .unset, .unset]) rfl rfl ?_
          refine own_newO X0 hx hZ hown (hw _ (List.mem_of_getElem? (i := 4) rfl)) (hw _ (List.mem_of_getElem? (i := 5) rfl)) (hw _ (List.mem_of_getElem? (i := 6) rfl)) e0 109 (hb hby at_106) rfl (by decide) (by decide) fun T174 h174 b174 X174 e174 g174 E174 A174 D174 => ?_
          have ne175 : cn ≠ b174 := Nat.ne_of_lt (Nat.lt_of_lt_of_le E_cn.lt (Nat.le_of_eq g174.symm))
          have ne176 : sn ≠ b174 := Nat.ne_of_lt (Nat.lt_of_lt_of_le E_sn.lt (Nat.le_of_eq g174.symm))
          have g_b174 : n0 ≤ b174 := Nat.le_trans Z0 (Nat.le_of_eq g174.symm)
          have sz_b174 : h0.size ≤ b174 := Nat.le_trans (Keep.refl h0 []).1 (Nat.le_of_eq g174.symm)
          have K177 : Keep h0 h174 [] := (Keep.refl h0 []).ext E174
          have z178 : n0 ≤ h174.size := (Nat.le_trans Z0 E174.1)
          have f179 : Fld Z h174 b174 "com/example/libelem/libelem/rank/ContextField" "names" "Ljava/util/Set;" .null := D174 (Or.inr (hw _ (List.mem_of_getElem? (i := 15) rfl))) (ty := (.object "java/util/Set")) (by decide)
          have f180 : Fld Z h174 b174 "com/example/libelem/libelem/rank/ContextField" "weight" "D" (.double (0 : UInt64)) := D174 (Or.inr (hw _ (List.mem_of_getElem? (i := 37) rfl))) (ty := .double) (by decide)
          have f181 : Fld Z h174 b174 "com/example/libelem/libelem/rank/ContextField" "b" "D" (.double (0 : UInt64)) := D174 (Or.inr (hw _ (List.mem_of_getElem? (i := 39) rfl))) (ty := .double) (by decide)
          refine g_dup X174 hx 110 (hb hby at_109) rfl rfl ?_
          have f182 : Sta Z h174 "com/example/libelem/libelem/rank/ContextField" "NONE" "Lcom/example/libelem/libelem/rank/ContextField;" (.ref cn) := (own_Sta_keep K177 S_cn all0)
          refine own_getS X174 hx hZ hown (host := "") (Or.inl (hw _ (List.mem_of_getElem? (i := 7) rfl))) Via.refl e174 f182 113 (hb hby at_110) rfl fun T183 X183 e183 => ?_
          have f185 : Fld Z h174 cn "com/example/libelem/libelem/rank/ContextField" "names" "Ljava/util/Set;" (.ref sn) := (F_cn.keep K177 nin0)
          have f186 : Exa Z h174 cn "com/example/libelem/libelem/rank/ContextField" := (E_cn.keep K177)
          refine own_callV X183 hx hZ hown (hw _ (List.mem_of_getElem? (i := 9) rfl)) (hw _ (List.mem_of_getElem? (i := 10) rfl)) (own_nf hZ (hw _ (List.mem_of_getElem? (i := 12) rfl))) (hw _ (List.mem_of_getElem? (i := 12) rfl)) (hw _ (List.mem_of_getElem? (i := 11) rfl)) (by decide) (rm_names l Z a0 hw [] cn sn h174 n0 z178 f185) (hw _ (List.mem_of_getElem? (i := 13) rfl)) (hw _ (List.mem_of_getElem? (i := 6) rfl)) e183 2 (by decide) (by decide) (by decide) (by decide) f186 [] [(.ref b174), (.ref b174)] rfl pd_2 rfl 116 rfl (by rw [hml]; rfl) rfl (hb hby at_113) rfl fun T184 v184 L184 X184 hQ184 => ?_
          obtain ⟨rfl, Nq184, e184⟩ := hQ184
          have N184 := Fr.app N0 Nq184
          show own_Go p e below s _ _ _ (T184.setTop (mkF m 116 _ [(.ref sn), (.ref b174), (.ref b174)]))
          refine g_dload X184 hx 118 (hb hby at_116) rfl rfl ?_
          refine g_dload X184 hx 120 (hb hby at_118) rfl rfl ?_
          have f188 : Exa Z h174 sn "java/util/ImmutableCollections$SetN" := (E_sn.keep K177)
          refine own_callI X184 hx hZ hown rfl (hw _ (List.mem_of_getElem? (i := 16) rfl)) (hw _ (List.mem_of_getElem? (i := 17) rfl)) (by decide) (rm_init l Z a0 hw [] b174 sn (FP.ddiv (FP.i2d wv) (4620693217682128896 : UInt64)) (FP.ddiv (FP.i2d kk) (4616189618054758400 : UInt64)) h174 n0 z178 A174 f188 f179 f180 f181 g_b174 (own_ge (own_q8 wv) h_wv.1) (own_inf (own_q8 wv)) (own_ge (own_q4 kk) h_kk.1) (own_le1 (own_q4 kk) h_kk.2)) (hw _ (List.mem_of_getElem? (i := 18) rfl)) (hw _ (List.mem_of_getElem? (i := 6) rfl)) e184 1 (by decide) (by decide) (by decide) (by decide) b174 [(.ref sn), (.double (FP.ddiv (FP.i2d wv) (4620693217682128896 : UInt64))), (.double (FP.ddiv (FP.i2d kk) (4616189618054758400 : UInt64)))] [(.ref b174)] rfl pd_3 rfl 123 rfl (by rw [hml]; rfl) rfl (hb hby at_120) rfl fun T187 v187 L187 X187 hQ187 => ?_
          obtain ⟨rfl, Nq187, Kq187, f187_0, f187_1⟩ := hQ187
          have N187 := Fr.app N184 Nq187
          have K189 : Keep h0 T187.heap [] := K177.trans Kq187 (allS (Or.inr sz_b174) all0)
          have z190 : n0 ≤ T187.heap.size := (Nat.le_trans z178 Kq187.1)
          show own_Go p e below s _ _ _ (T187.setTop (mkF m 123 _ [(.ref b174)]))
          refine g_astore X187 hx 125 (hb hby at_123) rfl (l' := #[.val (.long p0), .second, .val (.long p1), .second, .val (.int p2), .val (.int p3), .val (.int p4), .val (.int kk), .val (.double (FP.ddiv (FP.i2d kk) (4616189618054758400 : UInt64))), .second, .val (.double (FP.ddiv (FP.i2d wv) (4620693217682128896 : UInt64))), .second, .val (.long lv), .second, .val (.int sv), .val (.long ss), .second, .val (.double (FP.ddiv (FP.l2d ss) (4616189618054758400 : UInt64))), .second, .val (.ref b174), .unset, .unset, .unset, .unset, .unset, .unset]) rfl rfl ?_
          refine g_aload X187 hx 127 (hb hby at_125) rfl rfl rfl ?_
          refine g_lload_n X187 hx 128 (hb hby at_127) rfl rfl ?_
          refine g_lload X187 hx 130 (hb hby at_128) rfl rfl ?_
          refine g_dload X187 hx 132 (hb hby at_130) rfl rfl ?_
          by_cases c191 : (0 : Int64) < p0
          · obtain ⟨y1, y2, y3, y4, y5, y6, z1, z2, z3, hcmp⟩ := own_cf h_kk h_ln.1 h_ln.2 h_ee h_av (own_tf c191) (own_q8 wv) (own_nv h_kk h_ln.1 h_ee h_ss) (own_s4 h_ee h_ss)
            have f193 : Exa Z T187.heap b174 "com/example/libelem/libelem/rank/ContextField" := (A174.keep Kq187)
            refine own_callV X187 hx hZ hown (hw _ (List.mem_of_getElem? (i := 40) rfl)) (hw _ (List.mem_of_getElem? (i := 41) rfl)) (own_nf hZ (hw _ (List.mem_of_getElem? (i := 43) rfl))) (hw _ (List.mem_of_getElem? (i := 43) rfl)) (hw _ (List.mem_of_getElem? (i := 42) rfl)) (by decide) (rm_wC l Z a0 hw [] b174 p0 lv (FP.ddiv (FP.l2d ss) (4616189618054758400 : UInt64)) (FP.ddiv (FP.i2d wv) (4620693217682128896 : UInt64)) (FP.ddiv (FP.i2d kk) (4616189618054758400 : UInt64)) T187.heap n0 z190 f187_0 f187_1 c191 (own_pos h_av (Int.natCast_pos.mpr (Nat.two_pow_pos ee))) y1 y2 y3 y4 y5 y6) (hw _ (List.mem_of_getElem? (i := 44) rfl)) (hw _ (List.mem_of_getElem? (i := 6) rfl)) rfl 0 (by decide) (by decide) (by decide) (by decide) f193 [(.long p0), (.long lv), (.double (FP.ddiv (FP.l2d ss) (4616189618054758400 : UInt64)))] [] rfl pd_4 rfl 135 rfl (by rw [hml]; rfl) rfl (hb hby at_132) rfl fun T192 v192 L192 X192 hQ192 => ?_
            obtain ⟨rfl, Nq192, e192⟩ := hQ192
            have N192 := Fr.app N187 Nq192
            show own_Go p e below s _ _ _ (T192.setTop (mkF m 135 _ [(.double (FP.dmul (FP.ddiv (FP.i2d wv) (4620693217682128896 : UInt64)) (FP.ddiv (FP.l2d p0) (FP.dadd (FP.dsub (4607182418800017408 : UInt64) (FP.ddiv (FP.i2d kk) (4616189618054758400 : UInt64))) (FP.ddiv (FP.dmul (FP.ddiv (FP.i2d kk) (4616189618054758400 : UInt64)) (FP.l2d lv)) (FP.ddiv (FP.l2d ss) (4616189618054758400 : UInt64)))))))]))
            refine g_dstore X192 hx 137 (hb hby at_135) (l' := #[.val (.long p0), .second, .val (.long p1), .second, .val (.int p2), .val (.int p3), .val (.int p4), .val (.int kk), .val (.double (FP.ddiv (FP.i2d kk) (4616189618054758400 : UInt64))), .second, .val (.double (FP.ddiv (FP.i2d wv) (4620693217682128896 : UInt64))), .second, .val (.long lv), .second, .val (.int sv), .val (.long ss), .second, .val (.double (FP.ddiv (FP.l2d ss) (4616189618054758400 : UInt64))), .second, .val (.ref b174), .val (.double (FP.dmul (FP.ddiv (FP.i2d wv) (4620693217682128896 : UInt64)) (FP.ddiv (FP.l2d p0) (FP.dadd (FP.dsub (4607182418800017408 : UInt64) (FP.ddiv (FP.i2d kk) (4616189618054758400 : UInt64))) (FP.ddiv (FP.dmul (FP.ddiv (FP.i2d kk) (4616189618054758400 : UInt64)) (FP.l2d lv)) (FP.ddiv (FP.l2d ss) (4616189618054758400 : UInt64))))))), .second, .unset, .unset, .unset, .unset]) rfl rfl ?_
            refine g_lload_n X192 hx 138 (hb hby at_137) rfl rfl ?_
            refine g_lconst X192 hx 139 (hb hby at_138) (0 : Int64) rfl rfl ?_
            refine g_lcmp X192 hx 140 (hb hby at_139) rfl ?_
            refine g_ifNo X192 hx 143 (hb hby at_140) (own_ll_le_f c191) rfl ?_
            refine g_iload X192 hx 145 (hb hby at_143) rfl rfl ?_
            refine g_iconst X192 hx 146 (hb hby at_145) (2 : Int32) rfl rfl ?_
            have c195 : ¬ (sv < (2 : Int32)) := own_sv3 h_s2
            refine g_icmpYes X192 hx 155 (hb hby at_146) (own_ii_ge_t c195) (by decide) (by decide) ?_
            refine g_lload X192 hx 157 (hb hby at_155) rfl rfl ?_
            refine g_iconst X192 hx 158 (hb hby at_157) (4 : Int32) rfl rfl ?_
            refine g_iload X192 hx 160 (hb hby at_158) rfl rfl ?_
            refine g_isub X192 hx 161 (hb hby at_160) rfl ?_
            refine g_i2l X192 hx 162 (hb hby at_161) rfl ?_
            refine g_lmul X192 hx 163 (hb hby at_162) rfl ?_
            refine g_ldc2_w X192 hx hown 166 (z := (4 : Int64)) (mvT hZ (hw _ (List.mem_of_getElem? (i := 45) rfl))) (hb hby at_163) rfl ?_
            refine g_iload X192 hx 168 (hb hby at_166) rfl rfl ?_
            refine g_i2l X192 hx 169 (hb hby at_168) rfl ?_
            refine g_lmul X192 hx 170 (hb hby at_169) rfl ?_
            refine g_lload X192 hx 172 (hb hby at_170) rfl rfl ?_
            refine g_lmul X192 hx 173 (hb hby at_172) rfl ?_
            refine g_ladd X192 hx 174 (hb hby at_173) rfl ?_
            refine g_lstore X192 hx 176 (hb hby at_174) (l' := #[.val (.long p0), .second, .val (.long p1), .second, .val (.int p2), .val (.int p3), .val (.int p4), .val (.int kk), .val (.double (FP.ddiv (FP.i2d kk) (4616189618054758400 : UInt64))), .second, .val (.double (FP.ddiv (FP.i2d wv) (4620693217682128896 : UInt64))), .second, .val (.long lv), .second, .val (.int sv), .val (.long ss), .second, .val (.double (FP.ddiv (FP.l2d ss) (4616189618054758400 : UInt64))), .second, .val (.ref b174), .val (.double (FP.dmul (FP.ddiv (FP.i2d wv) (4620693217682128896 : UInt64)) (FP.ddiv (FP.l2d p0) (FP.dadd (FP.dsub (4607182418800017408 : UInt64) (FP.ddiv (FP.i2d kk) (4616189618054758400 : UInt64))) (FP.ddiv (FP.dmul (FP.ddiv (FP.i2d kk) (4616189618054758400 : UInt64)) (FP.l2d lv)) (FP.ddiv (FP.l2d ss) (4616189618054758400 : UInt64))))))), .second, .unset, .unset, .val (.long ((ss * (((4 : Int32) - kk).toInt64)) + (((4 : Int64) * (kk.toInt64)) * lv))), .second]) rfl rfl ?_
            refine g_dload X192 hx 178 (hb hby at_176) rfl rfl ?_
            refine g_lload_n X192 hx 179 (hb hby at_178) rfl rfl ?_
            refine g_l2d X192 hx 180 (hb hby at_179) rfl ?_
            refine g_ldc2_w X192 hx hown 183 (z := (4 : Int64)) (mvT hZ (hw _ (List.mem_of_getElem? (i := 45) rfl))) (hb hby at_180) rfl ?_
            refine g_lload X192 hx 185 (hb hby at_183) rfl rfl ?_
            refine g_lmul X192 hx 186 (hb hby at_185) rfl ?_
            refine g_l2d X192 hx 187 (hb hby at_186) rfl ?_
            refine g_dmul X192 hx 188 (hb hby at_187) z1 rfl ?_
            refine g_lload X192 hx 190 (hb hby at_188) rfl rfl ?_
            refine g_l2d X192 hx 191 (hb hby at_190) rfl ?_
            refine g_ddiv X192 hx 192 (hb hby at_191) z2 rfl ?_
            refine g_dmul X192 hx 193 (hb hby at_192) z3 rfl ?_
            refine g_dstore X192 hx 195 (hb hby at_193) (l' := #[.val (.long p0), .second, .val (.long p1), .second, .val (.int p2), .val (.int p3), .val (.int p4), .val (.int kk), .val (.double (FP.ddiv (FP.i2d kk) (4616189618054758400 : UInt64))), .second, .val (.double (FP.ddiv (FP.i2d wv) (4620693217682128896 : UInt64))), .second, .val (.long lv), .second, .val (.int sv), .val (.long ss), .second, .val (.double (FP.ddiv (FP.l2d ss) (4616189618054758400 : UInt64))), .second, .val (.ref b174), .val (.double (FP.dmul (FP.ddiv (FP.i2d wv) (4620693217682128896 : UInt64)) (FP.ddiv (FP.l2d p0) (FP.dadd (FP.dsub (4607182418800017408 : UInt64) (FP.ddiv (FP.i2d kk) (4616189618054758400 : UInt64))) (FP.ddiv (FP.dmul (FP.ddiv (FP.i2d kk) (4616189618054758400 : UInt64)) (FP.l2d lv)) (FP.ddiv (FP.l2d ss) (4616189618054758400 : UInt64))))))), .second, .val (.double (FP.dmul (FP.ddiv (FP.i2d wv) (4620693217682128896 : UInt64)) (FP.ddiv (FP.dmul (FP.l2d p0) (FP.l2d ((4 : Int64) * ss))) (FP.l2d ((ss * (((4 : Int32) - kk).toInt64)) + (((4 : Int64) * (kk.toInt64)) * lv)))))), .second, .val (.long ((ss * (((4 : Int32) - kk).toInt64)) + (((4 : Int64) * (kk.toInt64)) * lv))), .second]) rfl rfl ?_
            refine g_dload X192 hx 197 (hb hby at_195) rfl rfl ?_
            refine g_dload X192 hx 199 (hb hby at_197) rfl rfl ?_
            refine g_dcmp X192 hx 200 (hb hby at_199) rfl ?_
            have c196 : (cmpValue (FP.dcmp (FP.dmul (FP.ddiv (FP.i2d wv) (4620693217682128896 : UInt64)) (FP.ddiv (FP.l2d p0) (FP.dadd (FP.dsub (4607182418800017408 : UInt64) (FP.ddiv (FP.i2d kk) (4616189618054758400 : UInt64))) (FP.ddiv (FP.dmul (FP.ddiv (FP.i2d kk) (4616189618054758400 : UInt64)) (FP.l2d lv)) (FP.ddiv (FP.l2d ss) (4616189618054758400 : UInt64)))))) (FP.dmul (FP.ddiv (FP.i2d wv) (4620693217682128896 : UInt64)) (FP.ddiv (FP.dmul (FP.l2d p0) (FP.l2d ((4 : Int64) * ss))) (FP.l2d ((ss * (((4 : Int32) - kk).toInt64)) + (((4 : Int64) * (kk.toInt64)) * lv)))))) .l) = (0 : Int32) := by rw [hcmp]; rfl
            refine g_ifNo X192 hx 203 (hb hby at_200) (own_i0_ne_f c196) rfl ?_
            refine g_iconst X192 hx 204 (hb hby at_203) (1 : Int32) rfl rfl ?_
            refine g_goto X192 hx 208 (hb hby at_204) (by decide) (by decide) ?_
            refine own_retN X192 hx hlk (t := .boolean) hret (by simp) (hb hby at_208) ?_ (by decide) (by decide)
            rw [e192]
            exact ⟨rfl, N192⟩
          · have f198 : Exa Z T187.heap b174 "com/example/libelem/libelem/rank/ContextField" := (A174.keep Kq187)
            refine own_callV X187 hx hZ hown (hw _ (List.mem_of_getElem? (i := 40) rfl)) (hw _ (List.mem_of_getElem? (i := 41) rfl)) (own_nf hZ (hw _ (List.mem_of_getElem? (i := 43) rfl))) (hw _ (List.mem_of_getElem? (i := 43) rfl)) (hw _ (List.mem_of_getElem? (i := 42) rfl)) (by decide) (rm_wA l Z a0 hw [] b174 p0 lv (FP.ddiv (FP.l2d ss) (4616189618054758400 : UInt64)) T187.heap n0 z190 c191) (hw _ (List.mem_of_getElem? (i := 44) rfl)) (hw _ (List.mem_of_getElem? (i := 6) rfl)) rfl 0 (by decide) (by decide) (by decide) (by decide) f198 [(.long p0), (.long lv), (.double (FP.ddiv (FP.l2d ss) (4616189618054758400 : UInt64)))] [] rfl pd_4 rfl 135 rfl (by rw [hml]; rfl) rfl (hb hby at_132) rfl fun T197 v197 L197 X197 hQ197 => ?_
            obtain ⟨rfl, Nq197, e197⟩ := hQ197
            have N197 := Fr.app N187 Nq197
            show own_Go p e below s _ _ _ (T197.setTop (mkF m 135 _ [(.double (0 : UInt64))]))
            refine g_dstore X197 hx 137 (hb hby at_135) (l' := #[.val (.long p0), .second, .val (.long p1), .second, .val (.int p2), .val (.int p3), .val (.int p4), .val (.int kk), .val (.double (FP.ddiv (FP.i2d kk) (4616189618054758400 : UInt64))), .second, .val (.double (FP.ddiv (FP.i2d wv) (4620693217682128896 : UInt64))), .second, .val (.long lv), .second, .val (.int sv), .val (.long ss), .second, .val (.double (FP.ddiv (FP.l2d ss) (4616189618054758400 : UInt64))), .second, .val (.ref b174), .val (.double (0 : UInt64)), .second, .unset, .unset, .unset, .unset]) rfl rfl ?_
            refine g_lload_n X197 hx 138 (hb hby at_137) rfl rfl ?_
            refine g_lconst X197 hx 139 (hb hby at_138) (0 : Int64) rfl rfl ?_
            refine g_lcmp X197 hx 140 (hb hby at_139) rfl ?_
            refine g_ifYes X197 hx 149 (hb hby at_140) (own_ll_le_t c191) (by decide) (by decide) ?_
            refine g_dconst0 X197 hx 150 (hb hby at_149) (v := (0 : UInt64)) (by decide +kernel) rfl ?_
            refine g_dstore X197 hx 152 (hb hby at_150) (l' := #[.val (.long p0), .second, .val (.long p1), .second, .val (.int p2), .val (.int p3), .val (.int p4), .val (.int kk), .val (.double (FP.ddiv (FP.i2d kk) (4616189618054758400 : UInt64))), .second, .val (.double (FP.ddiv (FP.i2d wv) (4620693217682128896 : UInt64))), .second, .val (.long lv), .second, .val (.int sv), .val (.long ss), .second, .val (.double (FP.ddiv (FP.l2d ss) (4616189618054758400 : UInt64))), .second, .val (.ref b174), .val (.double (0 : UInt64)), .second, .val (.double (0 : UInt64)), .second, .unset, .unset]) rfl rfl ?_
            refine g_goto X197 hx 195 (hb hby at_152) (by decide) (by decide) ?_
            refine g_dload X197 hx 197 (hb hby at_195) rfl rfl ?_
            refine g_dload X197 hx 199 (hb hby at_197) rfl rfl ?_
            refine g_dcmp X197 hx 200 (hb hby at_199) rfl ?_
            have c200 : (cmpValue (FP.dcmp (0 : UInt64) (0 : UInt64)) .l) = (0 : Int32) := by decide +kernel
            refine g_ifNo X197 hx 203 (hb hby at_200) (own_i0_ne_f c200) rfl ?_
            refine g_iconst X197 hx 204 (hb hby at_203) (1 : Int32) rfl rfl ?_
            refine g_goto X197 hx 208 (hb hby at_204) (by decide) (by decide) ?_
            refine own_retN X197 hx hlk (t := .boolean) hret (by simp) (hb hby at_208) ?_ (by decide) (by decide)
            rw [e197]
            exact ⟨rfl, N197⟩
  · refine g_icmpYes X0 hx 54 (hb hby at_41) (own_ii_ne_t c33) (by decide) (by decide) ?_
    have h_ln := own_lnA h_lv c33
    refine g_iload X0 hx 56 (hb hby at_54) rfl rfl ?_
    refine g_bipush X0 hx 58 (hb hby at_56) (7 : Int32) rfl rfl ?_
    refine g_iand X0 hx 59 (hb hby at_58) rfl ?_
    obtain ⟨sv, q_sv⟩ : ∃ z, z = (p3 &&& (7 : Int32)) := ⟨_, rfl⟩
    have h_sv := own_7 p3 q_sv
    rw [← q_sv]
    refine g_istore X0 hx 61 (hb hby at_59) (l' := #[.val (.long p0), .second, .val (.long p1), .second, .val (.int p2), .val (.int p3), .val (.int p4), .val (.int kk), .val (.double (FP.ddiv (FP.i2d kk) (4616189618054758400 : UInt64))), .second, .val (.double (FP.ddiv (FP.i2d wv) (4620693217682128896 : UInt64))), .second, .val (.long lv), .second, .val (.int sv), .unset, .unset, .unset, .unset, .unset, .unset, .unset, .unset, .unset, .unset, .unset]) rfl rfl ?_
    refine g_lconst X0 hx 62 (hb hby at_61) (1 : Int64) rfl rfl ?_
    refine g_lstore X0 hx 64 (hb hby at_62) (l' := #[.val (.long p0), .second, .val (.long p1), .second, .val (.int p2), .val (.int p3), .val (.int p4), .val (.int kk), .val (.double (FP.ddiv (FP.i2d kk) (4616189618054758400 : UInt64))), .second, .val (.double (FP.ddiv (FP.i2d wv) (4620693217682128896 : UInt64))), .second, .val (.long lv), .second, .val (.int sv), .val (.long (1 : Int64)), .second, .unset, .unset, .unset, .unset, .unset, .unset, .unset, .unset, .unset]) rfl rfl ?_
    refine g_iload X0 hx 66 (hb hby at_64) rfl rfl ?_
    by_cases c201 : sv = (0 : Int32)
    · refine g_ifNo X0 hx 69 (hb hby at_66) (own_i0_ne_f c201) rfl ?_
      refine g_dconst0 X0 hx 70 (hb hby at_69) (v := (0 : UInt64)) (by decide +kernel) rfl ?_
      refine g_dstore X0 hx 72 (hb hby at_70) (l' := #[.val (.long p0), .second, .val (.long p1), .second, .val (.int p2), .val (.int p3), .val (.int p4), .val (.int kk), .val (.double (FP.ddiv (FP.i2d kk) (4616189618054758400 : UInt64))), .second, .val (.double (FP.ddiv (FP.i2d wv) (4620693217682128896 : UInt64))), .second, .val (.long lv), .second, .val (.int sv), .val (.long (1 : Int64)), .second, .val (.double (0 : UInt64)), .second, .unset, .unset, .unset, .unset, .unset, .unset, .unset]) rfl rfl ?_
      refine g_goto X0 hx 106 (hb hby at_72) (by decide) (by decide) ?_
      refine own_newO X0 hx hZ hown (hw _ (List.mem_of_getElem? (i := 4) rfl)) (hw _ (List.mem_of_getElem? (i := 5) rfl)) (hw _ (List.mem_of_getElem? (i := 6) rfl)) e0 109 (hb hby at_106) rfl (by decide) (by decide) fun T202 h202 b202 X202 e202 g202 E202 A202 D202 => ?_
      have ne203 : cn ≠ b202 := Nat.ne_of_lt (Nat.lt_of_lt_of_le E_cn.lt (Nat.le_of_eq g202.symm))
      have ne204 : sn ≠ b202 := Nat.ne_of_lt (Nat.lt_of_lt_of_le E_sn.lt (Nat.le_of_eq g202.symm))
      have g_b202 : n0 ≤ b202 := Nat.le_trans Z0 (Nat.le_of_eq g202.symm)
      have sz_b202 : h0.size ≤ b202 := Nat.le_trans (Keep.refl h0 []).1 (Nat.le_of_eq g202.symm)
      have K205 : Keep h0 h202 [] := (Keep.refl h0 []).ext E202
      have z206 : n0 ≤ h202.size := (Nat.le_trans Z0 E202.1)
      have f207 : Fld Z h202 b202 "com/example/libelem/libelem/rank/ContextField" "names" "Ljava/util/Set;" .null := D202 (Or.inr (hw _ (List.mem_of_getElem? (i := 15) rfl))) (ty := (.object "java/util/Set")) (by decide)
      have f208 : Fld Z h202 b202 "com/example/libelem/libelem/rank/ContextField" "weight" "D" (.double (0 : UInt64)) := D202 (Or.inr (hw _ (List.mem_of_getElem? (i := 37) rfl))) (ty := .double) (by decide)
      have f209 : Fld Z h202 b202 "com/example/libelem/libelem/rank/ContextField" "b" "D" (.double (0 : UInt64)) := D202 (Or.inr (hw _ (List.mem_of_getElem? (i := 39) rfl))) (ty := .double) (by decide)
      refine g_dup X202 hx 110 (hb hby at_109) rfl rfl ?_
      have f210 : Sta Z h202 "com/example/libelem/libelem/rank/ContextField" "NONE" "Lcom/example/libelem/libelem/rank/ContextField;" (.ref cn) := (own_Sta_keep K205 S_cn all0)
      refine own_getS X202 hx hZ hown (host := "") (Or.inl (hw _ (List.mem_of_getElem? (i := 7) rfl))) Via.refl e202 f210 113 (hb hby at_110) rfl fun T211 X211 e211 => ?_
      have f213 : Fld Z h202 cn "com/example/libelem/libelem/rank/ContextField" "names" "Ljava/util/Set;" (.ref sn) := (F_cn.keep K205 nin0)
      have f214 : Exa Z h202 cn "com/example/libelem/libelem/rank/ContextField" := (E_cn.keep K205)
      refine own_callV X211 hx hZ hown (hw _ (List.mem_of_getElem? (i := 9) rfl)) (hw _ (List.mem_of_getElem? (i := 10) rfl)) (own_nf hZ (hw _ (List.mem_of_getElem? (i := 12) rfl))) (hw _ (List.mem_of_getElem? (i := 12) rfl)) (hw _ (List.mem_of_getElem? (i := 11) rfl)) (by decide) (rm_names l Z a0 hw [] cn sn h202 n0 z206 f213) (hw _ (List.mem_of_getElem? (i := 13) rfl)) (hw _ (List.mem_of_getElem? (i := 6) rfl)) e211 2 (by decide) (by decide) (by decide) (by decide) f214 [] [(.ref b202), (.ref b202)] rfl pd_2 rfl 116 rfl (by rw [hml]; rfl) rfl (hb hby at_113) rfl fun T212 v212 L212 X212 hQ212 => ?_
      obtain ⟨rfl, Nq212, e212⟩ := hQ212
      have N212 := Fr.app N0 Nq212
      show own_Go p e below s _ _ _ (T212.setTop (mkF m 116 _ [(.ref sn), (.ref b202), (.ref b202)]))
      refine g_dload X212 hx 118 (hb hby at_116) rfl rfl ?_
      refine g_dload X212 hx 120 (hb hby at_118) rfl rfl ?_
      have f216 : Exa Z h202 sn "java/util/ImmutableCollections$SetN" := (E_sn.keep K205)
      refine own_callI X212 hx hZ hown rfl (hw _ (List.mem_of_getElem? (i := 16) rfl)) (hw _ (List.mem_of_getElem? (i := 17) rfl)) (by decide) (rm_init l Z a0 hw [] b202 sn (FP.ddiv (FP.i2d wv) (4620693217682128896 : UInt64)) (FP.ddiv (FP.i2d kk) (4616189618054758400 : UInt64)) h202 n0 z206 A202 f216 f207 f208 f209 g_b202 (own_ge (own_q8 wv) h_wv.1) (own_inf (own_q8 wv)) (own_ge (own_q4 kk) h_kk.1) (own_le1 (own_q4 kk) h_kk.2)) (hw _ (List.mem_of_getElem? (i := 18) rfl)) (hw _ (List.mem_of_getElem? (i := 6) rfl)) e212 1 (by decide) (by decide) (by decide) (by decide) b202 [(.ref sn), (.double (FP.ddiv (FP.i2d wv) (4620693217682128896 : UInt64))), (.double (FP.ddiv (FP.i2d kk) (4616189618054758400 : UInt64)))] [(.ref b202)] rfl pd_3 rfl 123 rfl (by rw [hml]; rfl) rfl (hb hby at_120) rfl fun T215 v215 L215 X215 hQ215 => ?_
      obtain ⟨rfl, Nq215, Kq215, f215_0, f215_1⟩ := hQ215
      have N215 := Fr.app N212 Nq215
      have K217 : Keep h0 T215.heap [] := K205.trans Kq215 (allS (Or.inr sz_b202) all0)
      have z218 : n0 ≤ T215.heap.size := (Nat.le_trans z206 Kq215.1)
      show own_Go p e below s _ _ _ (T215.setTop (mkF m 123 _ [(.ref b202)]))
      refine g_astore X215 hx 125 (hb hby at_123) rfl (l' := #[.val (.long p0), .second, .val (.long p1), .second, .val (.int p2), .val (.int p3), .val (.int p4), .val (.int kk), .val (.double (FP.ddiv (FP.i2d kk) (4616189618054758400 : UInt64))), .second, .val (.double (FP.ddiv (FP.i2d wv) (4620693217682128896 : UInt64))), .second, .val (.long lv), .second, .val (.int sv), .val (.long (1 : Int64)), .second, .val (.double (0 : UInt64)), .second, .val (.ref b202), .unset, .unset, .unset, .unset, .unset, .unset]) rfl rfl ?_
      refine g_aload X215 hx 127 (hb hby at_125) rfl rfl rfl ?_
      refine g_lload_n X215 hx 128 (hb hby at_127) rfl rfl ?_
      refine g_lload X215 hx 130 (hb hby at_128) rfl rfl ?_
      refine g_dload X215 hx 132 (hb hby at_130) rfl rfl ?_
      by_cases c219 : (0 : Int64) < p0
      · have f221 : Exa Z T215.heap b202 "com/example/libelem/libelem/rank/ContextField" := (A202.keep Kq215)
        refine own_callV X215 hx hZ hown (hw _ (List.mem_of_getElem? (i := 40) rfl)) (hw _ (List.mem_of_getElem? (i := 41) rfl)) (own_nf hZ (hw _ (List.mem_of_getElem? (i := 43) rfl))) (hw _ (List.mem_of_getElem? (i := 43) rfl)) (hw _ (List.mem_of_getElem? (i := 42) rfl)) (by decide) (rm_wB l Z a0 hw [] b202 p0 lv (0 : UInt64) T215.heap n0 z218 c219 (by decide +kernel)) (hw _ (List.mem_of_getElem? (i := 44) rfl)) (hw _ (List.mem_of_getElem? (i := 6) rfl)) rfl 0 (by decide) (by decide) (by decide) (by decide) f221 [(.long p0), (.long lv), (.double (0 : UInt64))] [] rfl pd_4 rfl 135 rfl (by rw [hml]; rfl) rfl (hb hby at_132) rfl fun T220 v220 L220 X220 hQ220 => ?_
        obtain ⟨rfl, Nq220, e220⟩ := hQ220
        have N220 := Fr.app N215 Nq220
        show own_Go p e below s _ _ _ (T220.setTop (mkF m 135 _ [(.double (0 : UInt64))]))
        refine g_dstore X220 hx 137 (hb hby at_135) (l' := #[.val (.long p0), .second, .val (.long p1), .second, .val (.int p2), .val (.int p3), .val (.int p4), .val (.int kk), .val (.double (FP.ddiv (FP.i2d kk) (4616189618054758400 : UInt64))), .second, .val (.double (FP.ddiv (FP.i2d wv) (4620693217682128896 : UInt64))), .second, .val (.long lv), .second, .val (.int sv), .val (.long (1 : Int64)), .second, .val (.double (0 : UInt64)), .second, .val (.ref b202), .val (.double (0 : UInt64)), .second, .unset, .unset, .unset, .unset]) rfl rfl ?_
        refine g_lload_n X220 hx 138 (hb hby at_137) rfl rfl ?_
        refine g_lconst X220 hx 139 (hb hby at_138) (0 : Int64) rfl rfl ?_
        refine g_lcmp X220 hx 140 (hb hby at_139) rfl ?_
        refine g_ifNo X220 hx 143 (hb hby at_140) (own_ll_le_f c219) rfl ?_
        refine g_iload X220 hx 145 (hb hby at_143) rfl rfl ?_
        refine g_iconst X220 hx 146 (hb hby at_145) (2 : Int32) rfl rfl ?_
        have c223 : sv < (2 : Int32) := by rw [c201]; decide
        refine g_icmpNo X220 hx 149 (hb hby at_146) (own_ii_ge_f c223) rfl ?_
        refine g_dconst0 X220 hx 150 (hb hby at_149) (v := (0 : UInt64)) (by decide +kernel) rfl ?_
        refine g_dstore X220 hx 152 (hb hby at_150) (l' := #[.val (.long p0), .second, .val (.long p1), .second, .val (.int p2), .val (.int p3), .val (.int p4), .val (.int kk), .val (.double (FP.ddiv (FP.i2d kk) (4616189618054758400 : UInt64))), .second, .val (.double (FP.ddiv (FP.i2d wv) (4620693217682128896 : UInt64))), .second, .val (.long lv), .second, .val (.int sv), .val (.long (1 : Int64)), .second, .val (.double (0 : UInt64)), .second, .val (.ref b202), .val (.double (0 : UInt64)), .second, .val (.double (0 : UInt64)), .second, .unset, .unset]) rfl rfl ?_
        refine g_goto X220 hx 195 (hb hby at_152) (by decide) (by decide) ?_
        refine g_dload X220 hx 197 (hb hby at_195) rfl rfl ?_
        refine g_dload X220 hx 199 (hb hby at_197) rfl rfl ?_
        refine g_dcmp X220 hx 200 (hb hby at_199) rfl ?_
        have c224 : (cmpValue (FP.dcmp (0 : UInt64) (0 : UInt64)) .l) = (0 : Int32) := by decide +kernel
        refine g_ifNo X220 hx 203 (hb hby at_200) (own_i0_ne_f c224) rfl ?_
        refine g_iconst X220 hx 204 (hb hby at_203) (1 : Int32) rfl rfl ?_
        refine g_goto X220 hx 208 (hb hby at_204) (by decide) (by decide) ?_
        refine own_retN X220 hx hlk (t := .boolean) hret (by simp) (hb hby at_208) ?_ (by decide) (by decide)
        rw [e220]
        exact ⟨rfl, N220⟩
      · have f226 : Exa Z T215.heap b202 "com/example/libelem/libelem/rank/ContextField" := (A202.keep Kq215)
        refine own_callV X215 hx hZ hown (hw _ (List.mem_of_getElem? (i := 40) rfl)) (hw _ (List.mem_of_getElem? (i := 41) rfl)) (own_nf hZ (hw _ (List.mem_of_getElem? (i := 43) rfl))) (hw _ (List.mem_of_getElem? (i := 43) rfl)) (hw _ (List.mem_of_getElem? (i := 42) rfl)) (by decide) (rm_wA l Z a0 hw [] b202 p0 lv (0 : UInt64) T215.heap n0 z218 c219) (hw _ (List.mem_of_getElem? (i := 44) rfl)) (hw _ (List.mem_of_getElem? (i := 6) rfl)) rfl 0 (by decide) (by decide) (by decide) (by decide) f226 [(.long p0), (.long lv), (.double (0 : UInt64))] [] rfl pd_4 rfl 135 rfl (by rw [hml]; rfl) rfl (hb hby at_132) rfl fun T225 v225 L225 X225 hQ225 => ?_
        obtain ⟨rfl, Nq225, e225⟩ := hQ225
        have N225 := Fr.app N215 Nq225
        show own_Go p e below s _ _ _ (T225.setTop (mkF m 135 _ [(.double (0 : UInt64))]))
        refine g_dstore X225 hx 137 (hb hby at_135) (l' := #[.val (.long p0), .second, .val (.long p1), .second, .val (.int p2), .val (.int p3), .val (.int p4), .val (.int kk), .val (.double (FP.ddiv (FP.i2d kk) (4616189618054758400 : UInt64))), .second, .val (.double (FP.ddiv (FP.i2d wv) (4620693217682128896 : UInt64))), .second, .val (.long lv), .second, .val (.int sv), .val (.long (1 : Int64)), .second, .val (.double (0 : UInt64)), .second, .val (.ref b202), .val (.double (0 : UInt64)), .second, .unset, .unset, .unset, .unset]) rfl rfl ?_
        refine g_lload_n X225 hx 138 (hb hby at_137) rfl rfl ?_
        refine g_lconst X225 hx 139 (hb hby at_138) (0 : Int64) rfl rfl ?_
        refine g_lcmp X225 hx 140 (hb hby at_139) rfl ?_
        refine g_ifYes X225 hx 149 (hb hby at_140) (own_ll_le_t c219) (by decide) (by decide) ?_
        refine g_dconst0 X225 hx 150 (hb hby at_149) (v := (0 : UInt64)) (by decide +kernel) rfl ?_
        refine g_dstore X225 hx 152 (hb hby at_150) (l' := #[.val (.long p0), .second, .val (.long p1), .second, .val (.int p2), .val (.int p3), .val (.int p4), .val (.int kk), .val (.double (FP.ddiv (FP.i2d kk) (4616189618054758400 : UInt64))), .second, .val (.double (FP.ddiv (FP.i2d wv) (4620693217682128896 : UInt64))), .second, .val (.long lv), .second, .val (.int sv), .val (.long (1 : Int64)), .second, .val (.double (0 : UInt64)), .second, .val (.ref b202), .val (.double (0 : UInt64)), .second, .val (.double (0 : UInt64)), .second, .unset, .unset]) rfl rfl ?_
        refine g_goto X225 hx 195 (hb hby at_152) (by decide) (by decide) ?_
        refine g_dload X225 hx 197 (hb hby at_195) rfl rfl ?_
        refine g_dload X225 hx 199 (hb hby at_197) rfl rfl ?_
        refine g_dcmp X225 hx 200 (hb hby at_199) rfl ?_
        have c228 : (cmpValue (FP.dcmp (0 : UInt64) (0 : UInt64)) .l) = (0 : Int32) := by decide +kernel
        refine g_ifNo X225 hx 203 (hb hby at_200) (own_i0_ne_f c228) rfl ?_
        refine g_iconst X225 hx 204 (hb hby at_203) (1 : Int32) rfl rfl ?_
        refine g_goto X225 hx 208 (hb hby at_204) (by decide) (by decide) ?_
        refine own_retN X225 hx hlk (t := .boolean) hret (by simp) (hb hby at_208) ?_ (by decide) (by decide)
        rw [e225]
        exact ⟨rfl, N225⟩
    · refine g_ifYes X0 hx 75 (hb hby at_66) (own_i0_ne_t c201) (by decide) (by decide) ?_
      refine g_iload X0 hx 77 (hb hby at_75) rfl rfl ?_
      refine g_iconst X0 hx 78 (hb hby at_77) (1 : Int32) rfl rfl ?_
      by_cases c229 : sv = (1 : Int32)
      · refine g_icmpNo X0 hx 81 (hb hby at_78) (own_ii_ne_f c229) rfl ?_
        refine g_ldc2_wD X0 hx hown 84 (z := (13835058055282163712 : UInt64)) (mvT hZ (hw _ (List.mem_of_getElem? (i := 46) rfl))) (hb hby at_81) rfl ?_
        refine g_dstore X0 hx 86 (hb hby at_84) (l' := #[.val (.long p0), .second, .val (.long p1), .second, .val (.int p2), .val (.int p3), .val (.int p4), .val (.int kk), .val (.double (FP.ddiv (FP.i2d kk) (4616189618054758400 : UInt64))), .second, .val (.double (FP.ddiv (FP.i2d wv) (4620693217682128896 : UInt64))), .second, .val (.long lv), .second, .val (.int sv), .val (.long (1 : Int64)), .second, .val (.double (13835058055282163712 : UInt64)), .second, .unset, .unset, .unset, .unset, .unset, .unset, .unset]) rfl rfl ?_
        refine g_goto X0 hx 106 (hb hby at_86) (by decide) (by decide) ?_
        refine own_newO X0 hx hZ hown (hw _ (List.mem_of_getElem? (i := 4) rfl)) (hw _ (List.mem_of_getElem? (i := 5) rfl)) (hw _ (List.mem_of_getElem? (i := 6) rfl)) e0 109 (hb hby at_106) rfl (by decide) (by decide) fun T230 h230 b230 X230 e230 g230 E230 A230 D230 => ?_
        have ne231 : cn ≠ b230 := Nat.ne_of_lt (Nat.lt_of_lt_of_le E_cn.lt (Nat.le_of_eq g230.symm))
        have ne232 : sn ≠ b230 := Nat.ne_of_lt (Nat.lt_of_lt_of_le E_sn.lt (Nat.le_of_eq g230.symm))
        have g_b230 : n0 ≤ b230 := Nat.le_trans Z0 (Nat.le_of_eq g230.symm)
        have sz_b230 : h0.size ≤ b230 := Nat.le_trans (Keep.refl h0 []).1 (Nat.le_of_eq g230.symm)
        have K233 : Keep h0 h230 [] := (Keep.refl h0 []).ext E230
        have z234 : n0 ≤ h230.size := (Nat.le_trans Z0 E230.1)
        have f235 : Fld Z h230 b230 "com/example/libelem/libelem/rank/ContextField" "names" "Ljava/util/Set;" .null := D230 (Or.inr (hw _ (List.mem_of_getElem? (i := 15) rfl))) (ty := (.object "java/util/Set")) (by decide)
        have f236 : Fld Z h230 b230 "com/example/libelem/libelem/rank/ContextField" "weight" "D" (.double (0 : UInt64)) := D230 (Or.inr (hw _ (List.mem_of_getElem? (i := 37) rfl))) (ty := .double) (by decide)
        have f237 : Fld Z h230 b230 "com/example/libelem/libelem/rank/ContextField" "b" "D" (.double (0 : UInt64)) := D230 (Or.inr (hw _ (List.mem_of_getElem? (i := 39) rfl))) (ty := .double) (by decide)
        refine g_dup X230 hx 110 (hb hby at_109) rfl rfl ?_
        have f238 : Sta Z h230 "com/example/libelem/libelem/rank/ContextField" "NONE" "Lcom/example/libelem/libelem/rank/ContextField;" (.ref cn) := (own_Sta_keep K233 S_cn all0)
        refine own_getS X230 hx hZ hown (host := "") (Or.inl (hw _ (List.mem_of_getElem? (i := 7) rfl))) Via.refl e230 f238 113 (hb hby at_110) rfl fun T239 X239 e239 => ?_
        have f241 : Fld Z h230 cn "com/example/libelem/libelem/rank/ContextField" "names" "Ljava/util/Set;" (.ref sn) := (F_cn.keep K233 nin0)
        have f242 : Exa Z h230 cn "com/example/libelem/libelem/rank/ContextField" := (E_cn.keep K233)
        refine own_callV X239 hx hZ hown (hw _ (List.mem_of_getElem? (i := 9) rfl)) (hw _ (List.mem_of_getElem? (i := 10) rfl)) (own_nf hZ (hw _ (List.mem_of_getElem? (i := 12) rfl))) (hw _ (List.mem_of_getElem? (i := 12) rfl)) (hw _ (List.mem_of_getElem? (i := 11) rfl)) (by decide) (rm_names l Z a0 hw [] cn sn h230 n0 z234 f241) (hw _ (List.mem_of_getElem? (i := 13) rfl)) (hw _ (List.mem_of_getElem? (i := 6) rfl)) e239 2 (by decide) (by decide) (by decide) (by decide) f242 [] [(.ref b230), (.ref b230)] rfl pd_2 rfl 116 rfl (by rw [hml]; rfl) rfl (hb hby at_113) rfl fun T240 v240 L240 X240 hQ240 => ?_
        obtain ⟨rfl, Nq240, e240⟩ := hQ240
        have N240 := Fr.app N0 Nq240
        show own_Go p e below s _ _ _ (T240.setTop (mkF m 116 _ [(.ref sn), (.ref b230), (.ref b230)]))
        refine g_dload X240 hx 118 (hb hby at_116) rfl rfl ?_
        refine g_dload X240 hx 120 (hb hby at_118) rfl rfl ?_
        have f244 : Exa Z h230 sn "java/util/ImmutableCollections$SetN" := (E_sn.keep K233)
        refine own_callI X240 hx hZ hown rfl (hw _ (List.mem_of_getElem? (i := 16) rfl)) (hw _ (List.mem_of_getElem? (i := 17) rfl)) (by decide) (rm_init l Z a0 hw [] b230 sn (FP.ddiv (FP.i2d wv) (4620693217682128896 : UInt64)) (FP.ddiv (FP.i2d kk) (4616189618054758400 : UInt64)) h230 n0 z234 A230 f244 f235 f236 f237 g_b230 (own_ge (own_q8 wv) h_wv.1) (own_inf (own_q8 wv)) (own_ge (own_q4 kk) h_kk.1) (own_le1 (own_q4 kk) h_kk.2)) (hw _ (List.mem_of_getElem? (i := 18) rfl)) (hw _ (List.mem_of_getElem? (i := 6) rfl)) e240 1 (by decide) (by decide) (by decide) (by decide) b230 [(.ref sn), (.double (FP.ddiv (FP.i2d wv) (4620693217682128896 : UInt64))), (.double (FP.ddiv (FP.i2d kk) (4616189618054758400 : UInt64)))] [(.ref b230)] rfl pd_3 rfl 123 rfl (by rw [hml]; rfl) rfl (hb hby at_120) rfl fun T243 v243 L243 X243 hQ243 => ?_
        obtain ⟨rfl, Nq243, Kq243, f243_0, f243_1⟩ := hQ243
        have N243 := Fr.app N240 Nq243
        have K245 : Keep h0 T243.heap [] := K233.trans Kq243 (allS (Or.inr sz_b230) all0)
        have z246 : n0 ≤ T243.heap.size := (Nat.le_trans z234 Kq243.1)
        show own_Go p e below s _ _ _ (T243.setTop (mkF m 123 _ [(.ref b230)]))
        refine g_astore X243 hx 125 (hb hby at_123) rfl (l' := #[.val (.long p0), .second, .val (.long p1), .second, .val (.int p2), .val (.int p3), .val (.int p4), .val (.int kk), .val (.double (FP.ddiv (FP.i2d kk) (4616189618054758400 : UInt64))), .second, .val (.double (FP.ddiv (FP.i2d wv) (4620693217682128896 : UInt64))), .second, .val (.long lv), .second, .val (.int sv), .val (.long (1 : Int64)), .second, .val (.double (13835058055282163712 : UInt64)), .second, .val (.ref b230), .unset, .unset, .unset, .unset, .unset, .unset]) rfl rfl ?_
        refine g_aload X243 hx 127 (hb hby at_125) rfl rfl rfl ?_
        refine g_lload_n X243 hx 128 (hb hby at_127) rfl rfl ?_
        refine g_lload X243 hx 130 (hb hby at_128) rfl rfl ?_
        refine g_dload X243 hx 132 (hb hby at_130) rfl rfl ?_
        by_cases c247 : (0 : Int64) < p0
        · have f249 : Exa Z T243.heap b230 "com/example/libelem/libelem/rank/ContextField" := (A230.keep Kq243)
          refine own_callV X243 hx hZ hown (hw _ (List.mem_of_getElem? (i := 40) rfl)) (hw _ (List.mem_of_getElem? (i := 41) rfl)) (own_nf hZ (hw _ (List.mem_of_getElem? (i := 43) rfl))) (hw _ (List.mem_of_getElem? (i := 43) rfl)) (hw _ (List.mem_of_getElem? (i := 42) rfl)) (by decide) (rm_wB l Z a0 hw [] b230 p0 lv (13835058055282163712 : UInt64) T243.heap n0 z246 c247 (by decide +kernel)) (hw _ (List.mem_of_getElem? (i := 44) rfl)) (hw _ (List.mem_of_getElem? (i := 6) rfl)) rfl 0 (by decide) (by decide) (by decide) (by decide) f249 [(.long p0), (.long lv), (.double (13835058055282163712 : UInt64))] [] rfl pd_4 rfl 135 rfl (by rw [hml]; rfl) rfl (hb hby at_132) rfl fun T248 v248 L248 X248 hQ248 => ?_
          obtain ⟨rfl, Nq248, e248⟩ := hQ248
          have N248 := Fr.app N243 Nq248
          show own_Go p e below s _ _ _ (T248.setTop (mkF m 135 _ [(.double (0 : UInt64))]))
          refine g_dstore X248 hx 137 (hb hby at_135) (l' := #[.val (.long p0), .second, .val (.long p1), .second, .val (.int p2), .val (.int p3), .val (.int p4), .val (.int kk), .val (.double (FP.ddiv (FP.i2d kk) (4616189618054758400 : UInt64))), .second, .val (.double (FP.ddiv (FP.i2d wv) (4620693217682128896 : UInt64))), .second, .val (.long lv), .second, .val (.int sv), .val (.long (1 : Int64)), .second, .val (.double (13835058055282163712 : UInt64)), .second, .val (.ref b230), .val (.double (0 : UInt64)), .second, .unset, .unset, .unset, .unset]) rfl rfl ?_
          refine g_lload_n X248 hx 138 (hb hby at_137) rfl rfl ?_
          refine g_lconst X248 hx 139 (hb hby at_138) (0 : Int64) rfl rfl ?_
          refine g_lcmp X248 hx 140 (hb hby at_139) rfl ?_
          refine g_ifNo X248 hx 143 (hb hby at_140) (own_ll_le_f c247) rfl ?_
          refine g_iload X248 hx 145 (hb hby at_143) rfl rfl ?_
          refine g_iconst X248 hx 146 (hb hby at_145) (2 : Int32) rfl rfl ?_
          have c251 : sv < (2 : Int32) := by rw [c229]; decide
          refine g_icmpNo X248 hx 149 (hb hby at_146) (own_ii_ge_f c251) rfl ?_
          refine g_dconst0 X248 hx 150 (hb hby at_149) (v := (0 : UInt64)) (by decide +kernel) rfl ?_
          refine g_dstore X248 hx 152 (hb hby at_150) (l' := #[.val (.long p0), .second, .val (.long p1), .second, .val (.int p2), .val (.int p3), .val (.int p4), .val (.int kk), .val (.double (FP.ddiv (FP.i2d kk) (4616189618054758400 : UInt64))), .second, .val (.double (FP.ddiv (FP.i2d wv) (4620693217682128896 : UInt64))), .second, .val (.long lv), .second, .val (.int sv), .val (.long (1 : Int64)), .second, .val (.double (13835058055282163712 : UInt64)), .second, .val (.ref b230), .val (.double (0 : UInt64)), .second, .val (.double (0 : UInt64)), .second, .unset, .unset]) rfl rfl ?_
          refine g_goto X248 hx 195 (hb hby at_152) (by decide) (by decide) ?_
          refine g_dload X248 hx 197 (hb hby at_195) rfl rfl ?_
          refine g_dload X248 hx 199 (hb hby at_197) rfl rfl ?_
          refine g_dcmp X248 hx 200 (hb hby at_199) rfl ?_
          have c252 : (cmpValue (FP.dcmp (0 : UInt64) (0 : UInt64)) .l) = (0 : Int32) := by decide +kernel
          refine g_ifNo X248 hx 203 (hb hby at_200) (own_i0_ne_f c252) rfl ?_
          refine g_iconst X248 hx 204 (hb hby at_203) (1 : Int32) rfl rfl ?_
          refine g_goto X248 hx 208 (hb hby at_204) (by decide) (by decide) ?_
          refine own_retN X248 hx hlk (t := .boolean) hret (by simp) (hb hby at_208) ?_ (by decide) (by decide)
          rw [e248]
          exact ⟨rfl, N248⟩
        · have f254 : Exa Z T243.heap b230 "com/example/libelem/libelem/rank/ContextField" := (A230.keep Kq243)
          refine own_callV X243 hx hZ hown (hw _ (List.mem_of_getElem? (i := 40) rfl)) (hw _ (List.mem_of_getElem? (i := 41) rfl)) (own_nf hZ (hw _ (List.mem_of_getElem? (i := 43) rfl))) (hw _ (List.mem_of_getElem? (i := 43) rfl)) (hw _ (List.mem_of_getElem? (i := 42) rfl)) (by decide) (rm_wA l Z a0 hw [] b230 p0 lv (13835058055282163712 : UInt64) T243.heap n0 z246 c247) (hw _ (List.mem_of_getElem? (i := 44) rfl)) (hw _ (List.mem_of_getElem? (i := 6) rfl)) rfl 0 (by decide) (by decide) (by decide) (by decide) f254 [(.long p0), (.long lv), (.double (13835058055282163712 : UInt64))] [] rfl pd_4 rfl 135 rfl (by rw [hml]; rfl) rfl (hb hby at_132) rfl fun T253 v253 L253 X253 hQ253 => ?_
          obtain ⟨rfl, Nq253, e253⟩ := hQ253
          have N253 := Fr.app N243 Nq253
          show own_Go p e below s _ _ _ (T253.setTop (mkF m 135 _ [(.double (0 : UInt64))]))
          refine g_dstore X253 hx 137 (hb hby at_135) (l' := #[.val (.long p0), .second, .val (.long p1), .second, .val (.int p2), .val (.int p3), .val (.int p4), .val (.int kk), .val (.double (FP.ddiv (FP.i2d kk) (4616189618054758400 : UInt64))), .second, .val (.double (FP.ddiv (FP.i2d wv) (4620693217682128896 : UInt64))), .second, .val (.long lv), .second, .val (.int sv), .val (.long (1 : Int64)), .second, .val (.double (13835058055282163712 : UInt64)), .second, .val (.ref b230), .val (.double (0 : UInt64)), .second, .unset, .unset, .unset, .unset]) rfl rfl ?_
          refine g_lload_n X253 hx 138 (hb hby at_137) rfl rfl ?_
          refine g_lconst X253 hx 139 (hb hby at_138) (0 : Int64) rfl rfl ?_
          refine g_lcmp X253 hx 140 (hb hby at_139) rfl ?_
          refine g_ifYes X253 hx 149 (hb hby at_140) (own_ll_le_t c247) (by decide) (by decide) ?_
          refine g_dconst0 X253 hx 150 (hb hby at_149) (v := (0 : UInt64)) (by decide +kernel) rfl ?_
          refine g_dstore X253 hx 152 (hb hby at_150) (l' := #[.val (.long p0), .second, .val (.long p1), .second, .val (.int p2), .val (.int p3), .val (.int p4), .val (.int kk), .val (.double (FP.ddiv (FP.i2d kk) (4616189618054758400 : UInt64))), .second, .val (.double (FP.ddiv (FP.i2d wv) (4620693217682128896 : UInt64))), .second, .val (.long lv), .second, .val (.int sv), .val (.long (1 : Int64)), .second, .val (.double (13835058055282163712 : UInt64)), .second, .val (.ref b230), .val (.double (0 : UInt64)), .second, .val (.double (0 : UInt64)), .second, .unset, .unset]) rfl rfl ?_
          refine g_goto X253 hx 195 (hb hby at_152) (by decide) (by decide) ?_
          refine g_dload X253 hx 197 (hb hby at_195) rfl rfl ?_
          refine g_dload X253 hx 199 (hb hby at_197) rfl rfl ?_
          refine g_dcmp X253 hx 200 (hb hby at_199) rfl ?_
          have c256 : (cmpValue (FP.dcmp (0 : UInt64) (0 : UInt64)) .l) = (0 : Int32) := by decide +kernel
          refine g_ifNo X253 hx 203 (hb hby at_200) (own_i0_ne_f c256) rfl ?_
          refine g_iconst X253 hx 204 (hb hby at_203) (1 : Int32) rfl rfl ?_
          refine g_goto X253 hx 208 (hb hby at_204) (by decide) (by decide) ?_
          refine own_retN X253 hx hlk (t := .boolean) hret (by simp) (hb hby at_208) ?_ (by decide) (by decide)
          rw [e253]
          exact ⟨rfl, N253⟩
      · refine g_icmpYes X0 hx 89 (hb hby at_78) (own_ii_ne_t c229) (by decide) (by decide) ?_
        refine g_lconst X0 hx 90 (hb hby at_89) (1 : Int64) rfl rfl ?_
        refine g_iload X0 hx 92 (hb hby at_90) rfl rfl ?_
        refine g_iconst X0 hx 93 (hb hby at_92) (2 : Int32) rfl rfl ?_
        refine g_isub X0 hx 94 (hb hby at_93) rfl ?_
        refine g_lshl X0 hx 95 (hb hby at_94) rfl ?_
        obtain ⟨ss, q_ss⟩ : ∃ z, z = ((1 : Int64) <<< ((sv - (2 : Int32)) &&& 0x3f).toInt64) := ⟨_, rfl⟩
        have h_s2 := own_sv2 h_sv c201 c229
        obtain ⟨ee, h_ee, h_ss⟩ := own_ss h_sv h_s2 q_ss
        have h_av := own_avd h_ee h_ss
        rw [← q_ss]
        refine g_lstore X0 hx 97 (hb hby at_95) (l' := #[.val (.long p0), .second, .val (.long p1), .second, .val (.int p2), .val (.int p3), .val (.int p4), .val (.int kk), .val (.double (FP.ddiv (FP.i2d kk) (4616189618054758400 : UInt64))), .second, .val (.double (FP.ddiv (FP.i2d wv) (4620693217682128896 : UInt64))), .second, .val (.long lv), .second, .val (.int sv), .val (.long ss), .second, .unset, .unset, .unset, .unset, .unset, .unset, .unset, .unset, .unset]) rfl rfl ?_
        refine g_lload X0 hx 99 (hb hby at_97) rfl rfl ?_
        refine g_l2d X0 hx 100 (hb hby at_99) rfl ?_
        refine g_ldc2_wD X0 hx hown 103 (z := (4616189618054758400 : UInt64)) (mvT hZ (hw _ (List.mem_of_getElem? (i := 1) rfl))) (hb hby at_100) rfl ?_
        refine g_ddiv X0 hx 104 (hb hby at_103) h_av.no rfl ?_
        refine g_dstore X0 hx 106 (hb hby at_104) (l' := #[.val (.long p0), .second, .val (.long p1), .second, .val (.int p2), .val (.int p3), .val (.int p4), .val (.int kk), .val (.double (FP.ddiv (FP.i2d kk) (4616189618054758400 : UInt64))), .second, .val (.double (FP.ddiv (FP.i2d wv) (4620693217682128896 : UInt64))), .second, .val (.long lv), .second, .val (.int sv), .val (.long ss), .second, .val (.double (FP.ddiv (FP.l2d ss) (4616189618054758400 : UInt64))), .second, .unset, .unset, .unset, .unset, .unset, .unset, .unset]) rfl rfl ?_
        refine own_newO X0 hx hZ hown (hw _ (List.mem_of_getElem? (i := 4) rfl)) (hw _ (List.mem_of_getElem? (i := 5) rfl)) (hw _ (List.mem_of_getElem? (i := 6) rfl)) e0 109 (hb hby at_106) rfl (by decide) (by decide) fun T257 h257 b257 X257 e257 g257 E257 A257 D257 => ?_
        have ne258 : cn ≠ b257 := Nat.ne_of_lt (Nat.lt_of_lt_of_le E_cn.lt (Nat.le_of_eq g257.symm))
        have ne259 : sn ≠ b257 := Nat.ne_of_lt (Nat.lt_of_lt_of_le E_sn.lt (Nat.le_of_eq g257.symm))
        have g_b257 : n0 ≤ b257 := Nat.le_trans Z0 (Nat.le_of_eq g257.symm)
        have sz_b257 : h0.size ≤ b257 := Nat.le_trans (Keep.refl h0 []).1 (Nat.le_of_eq g257.symm)
        have K260 : Keep h0 h257 [] := (Keep.refl h0 []).ext E257
        have z261 : n0 ≤ h257.size := (Nat.le_trans Z0 E257.1)
        have f262 : Fld Z h257 b257 "com/example/libelem/libelem/rank/ContextField" "names" "Ljava/util/Set;" .null := D257 (Or.inr (hw _ (List.mem_of_getElem? (i := 15) rfl))) (ty := (.object "java/util/Set")) (by decide)
        have f263 : Fld Z h257 b257 "com/example/libelem/libelem/rank/ContextField" "weight" "D" (.double (0 : UInt64)) := D257 (Or.inr (hw _ (List.mem_of_getElem? (i := 37) rfl))) (ty := .double) (by decide)
        have f264 : Fld Z h257 b257 "com/example/libelem/libelem/rank/ContextField" "b" "D" (.double (0 : UInt64)) := D257 (Or.inr (hw _ (List.mem_of_getElem? (i := 39) rfl))) (ty := .double) (by decide)
        refine g_dup X257 hx 110 (hb hby at_109) rfl rfl ?_
        have f265 : Sta Z h257 "com/example/libelem/libelem/rank/ContextField" "NONE" "Lcom/example/libelem/libelem/rank/ContextField;" (.ref cn) := (own_Sta_keep K260 S_cn all0)
        refine own_getS X257 hx hZ hown (host := "") (Or.inl (hw _ (List.mem_of_getElem? (i := 7) rfl))) Via.refl e257 f265 113 (hb hby at_110) rfl fun T266 X266 e266 => ?_
        have f268 : Fld Z h257 cn "com/example/libelem/libelem/rank/ContextField" "names" "Ljava/util/Set;" (.ref sn) := (F_cn.keep K260 nin0)
        have f269 : Exa Z h257 cn "com/example/libelem/libelem/rank/ContextField" := (E_cn.keep K260)
        refine own_callV X266 hx hZ hown (hw _ (List.mem_of_getElem? (i := 9) rfl)) (hw _ (List.mem_of_getElem? (i := 10) rfl)) (own_nf hZ (hw _ (List.mem_of_getElem? (i := 12) rfl))) (hw _ (List.mem_of_getElem? (i := 12) rfl)) (hw _ (List.mem_of_getElem? (i := 11) rfl)) (by decide) (rm_names l Z a0 hw [] cn sn h257 n0 z261 f268) (hw _ (List.mem_of_getElem? (i := 13) rfl)) (hw _ (List.mem_of_getElem? (i := 6) rfl)) e266 2 (by decide) (by decide) (by decide) (by decide) f269 [] [(.ref b257), (.ref b257)] rfl pd_2 rfl 116 rfl (by rw [hml]; rfl) rfl (hb hby at_113) rfl fun T267 v267 L267 X267 hQ267 => ?_
        obtain ⟨rfl, Nq267, e267⟩ := hQ267
        have N267 := Fr.app N0 Nq267
        show own_Go p e below s _ _ _ (T267.setTop (mkF m 116 _ [(.ref sn), (.ref b257), (.ref b257)]))
        refine g_dload X267 hx 118 (hb hby at_116) rfl rfl ?_
        refine g_dload X267 hx 120 (hb hby at_118) rfl rfl ?_
        have f271 : Exa Z h257 sn "java/util/ImmutableCollections$SetN" := (E_sn.keep K260)
        refine own_callI X267 hx hZ hown rfl (hw _ (List.mem_of_getElem? (i := 16) rfl)) (hw _ (List.mem_of_getElem? (i := 17) rfl)) (by decide) (rm_init l Z a0 hw [] b257 sn (FP.ddiv (FP.i2d wv) (4620693217682128896 : UInt64)) (FP.ddiv (FP.i2d kk) (4616189618054758400 : UInt64)) h257 n0 z261 A257 f271 f262 f263 f264 g_b257 (own_ge (own_q8 wv) h_wv.1) (own_inf (own_q8 wv)) (own_ge (own_q4 kk) h_kk.1) (own_le1 (own_q4 kk) h_kk.2)) (hw _ (List.mem_of_getElem? (i := 18) rfl)) (hw _ (List.mem_of_getElem? (i := 6) rfl)) e267 1 (by decide) (by decide) (by decide) (by decide) b257 [(.ref sn), (.double (FP.ddiv (FP.i2d wv) (4620693217682128896 : UInt64))), (.double (FP.ddiv (FP.i2d kk) (4616189618054758400 : UInt64)))] [(.ref b257)] rfl pd_3 rfl 123 rfl (by rw [hml]; rfl) rfl (hb hby at_120) rfl fun T270 v270 L270 X270 hQ270 => ?_
        obtain ⟨rfl, Nq270, Kq270, f270_0, f270_1⟩ := hQ270
        have N270 := Fr.app N267 Nq270
        have K272 : Keep h0 T270.heap [] := K260.trans Kq270 (allS (Or.inr sz_b257) all0)
        have z273 : n0 ≤ T270.heap.size := (Nat.le_trans z261 Kq270.1)
        show own_Go p e below s _ _ _ (T270.setTop (mkF m 123 _ [(.ref b257)]))
        refine g_astore X270 hx 125 (hb hby at_123) rfl (l' := #[.val (.long p0), .second, .val (.long p1), .second, .val (.int p2), .val (.int p3), .val (.int p4), .val (.int kk), .val (.double (FP.ddiv (FP.i2d kk) (4616189618054758400 : UInt64))), .second, .val (.double (FP.ddiv (FP.i2d wv) (4620693217682128896 : UInt64))), .second, .val (.long lv), .second, .val (.int sv), .val (.long ss), .second, .val (.double (FP.ddiv (FP.l2d ss) (4616189618054758400 : UInt64))), .second, .val (.ref b257), .unset, .unset, .unset, .unset, .unset, .unset]) rfl rfl ?_
        refine g_aload X270 hx 127 (hb hby at_125) rfl rfl rfl ?_
        refine g_lload_n X270 hx 128 (hb hby at_127) rfl rfl ?_
        refine g_lload X270 hx 130 (hb hby at_128) rfl rfl ?_
        refine g_dload X270 hx 132 (hb hby at_130) rfl rfl ?_
        by_cases c274 : (0 : Int64) < p0
        · obtain ⟨y1, y2, y3, y4, y5, y6, z1, z2, z3, hcmp⟩ := own_cf h_kk h_ln.1 h_ln.2 h_ee h_av (own_tf c274) (own_q8 wv) (own_nv h_kk h_ln.1 h_ee h_ss) (own_s4 h_ee h_ss)
          have f276 : Exa Z T270.heap b257 "com/example/libelem/libelem/rank/ContextField" := (A257.keep Kq270)
          refine own_callV X270 hx hZ hown (hw _ (List.mem_of_getElem? (i := 40) rfl)) (hw _ (List.mem_of_getElem? (i := 41) rfl)) (own_nf hZ (hw _ (List.mem_of_getElem? (i := 43) rfl))) (hw _ (List.mem_of_getElem? (i := 43) rfl)) (hw _ (List.mem_of_getElem? (i := 42) rfl)) (by decide) (rm_wC l Z a0 hw [] b257 p0 lv (FP.ddiv (FP.l2d ss) (4616189618054758400 : UInt64)) (FP.ddiv (FP.i2d wv) (4620693217682128896 : UInt64)) (FP.ddiv (FP.i2d kk) (4616189618054758400 : UInt64)) T270.heap n0 z273 f270_0 f270_1 c274 (own_pos h_av (Int.natCast_pos.mpr (Nat.two_pow_pos ee))) y1 y2 y3 y4 y5 y6) (hw _ (List.mem_of_getElem? (i := 44) rfl)) (hw _ (List.mem_of_getElem? (i := 6) rfl)) rfl 0 (by decide) (by decide) (by decide) (by decide) f276 [(.long p0), (.long lv), (.double (FP.ddiv (FP.l2d ss) (4616189618054758400 : UInt64)))] [] rfl pd_4 rfl 135 rfl (by rw [hml]; rfl) rfl (hb hby at_132) rfl fun T275 v275 L275 X275 hQ275 => ?_
          obtain ⟨rfl, Nq275, e275⟩ := hQ275
          have N275 := Fr.app N270 Nq275
          show own_Go p e below s _ _ _ (T275.setTop (mkF m 135 _ [(.double (FP.dmul (FP.ddiv (FP.i2d wv) (4620693217682128896 : UInt64)) (FP.ddiv (FP.l2d p0) (FP.dadd (FP.dsub (4607182418800017408 : UInt64) (FP.ddiv (FP.i2d kk) (4616189618054758400 : UInt64))) (FP.ddiv (FP.dmul (FP.ddiv (FP.i2d kk) (4616189618054758400 : UInt64)) (FP.l2d lv)) (FP.ddiv (FP.l2d ss) (4616189618054758400 : UInt64)))))))]))
          refine g_dstore X275 hx 137 (hb hby at_135) (l' := #[.val (.long p0), .second, .val (.long p1), .second, .val (.int p2), .val (.int p3), .val (.int p4), .val (.int kk), .val (.double (FP.ddiv (FP.i2d kk) (4616189618054758400 : UInt64))), .second, .val (.double (FP.ddiv (FP.i2d wv) (4620693217682128896 : UInt64))), .second, .val (.long lv), .second, .val (.int sv), .val (.long ss), .second, .val (.double (FP.ddiv (FP.l2d ss) (4616189618054758400 : UInt64))), .second, .val (.ref b257), .val (.double (FP.dmul (FP.ddiv (FP.i2d wv) (4620693217682128896 : UInt64)) (FP.ddiv (FP.l2d p0) (FP.dadd (FP.dsub (4607182418800017408 : UInt64) (FP.ddiv (FP.i2d kk) (4616189618054758400 : UInt64))) (FP.ddiv (FP.dmul (FP.ddiv (FP.i2d kk) (4616189618054758400 : UInt64)) (FP.l2d lv)) (FP.ddiv (FP.l2d ss) (4616189618054758400 : UInt64))))))), .second, .unset, .unset, .unset, .unset]) rfl rfl ?_
          refine g_lload_n X275 hx 138 (hb hby at_137) rfl rfl ?_
          refine g_lconst X275 hx 139 (hb hby at_138) (0 : Int64) rfl rfl ?_
          refine g_lcmp X275 hx 140 (hb hby at_139) rfl ?_
          refine g_ifNo X275 hx 143 (hb hby at_140) (own_ll_le_f c274) rfl ?_
          refine g_iload X275 hx 145 (hb hby at_143) rfl rfl ?_
          refine g_iconst X275 hx 146 (hb hby at_145) (2 : Int32) rfl rfl ?_
          have c278 : ¬ (sv < (2 : Int32)) := own_sv3 h_s2
          refine g_icmpYes X275 hx 155 (hb hby at_146) (own_ii_ge_t c278) (by decide) (by decide) ?_
          refine g_lload X275 hx 157 (hb hby at_155) rfl rfl ?_
          refine g_iconst X275 hx 158 (hb hby at_157) (4 : Int32) rfl rfl ?_
          refine g_iload X275 hx 160 (hb hby at_158) rfl rfl ?_
          refine g_isub X275 hx 161 (hb hby at_160) rfl ?_
          refine g_i2l X275 hx 162 (hb hby at_161) rfl ?_
          refine g_lmul X275 hx 163 (hb hby at_162) rfl ?_
          refine g_ldc2_w X275 hx hown 166 (z := (4 : Int64)) (mvT hZ (hw _ (List.mem_of_getElem? (i := 45) rfl))) (hb hby at_163) rfl ?_
          refine g_iload X275 hx 168 (hb hby at_166) rfl rfl ?_
          refine g_i2l X275 hx 169 (hb hby at_168) rfl ?_
          refine g_lmul X275 hx 170 (hb hby at_169) rfl ?_
          refine g_lload X275 hx 172 (hb hby at_170) rfl rfl ?_
          refine g_lmul X275 hx 173 (hb hby at_172) rfl ?_
          refine g_ladd X275 hx 174 (hb hby at_173) rfl ?_
          refine g_lstore X275 hx 176 (hb hby at_174) (l' := #[.val (.long p0), .second, .val (.long p1), .second, .val (.int p2), .val (.int p3), .val (.int p4), .val (.int kk), .val (.double (FP.ddiv (FP.i2d kk) (4616189618054758400 : UInt64))), .second, .val (.double (FP.ddiv (FP.i2d wv) (4620693217682128896 : UInt64))), .second, .val (.long lv), .second, .val (.int sv), .val (.long ss), .second, .val (.double (FP.ddiv (FP.l2d ss) (4616189618054758400 : UInt64))), .second, .val (.ref b257), .val (.double (FP.dmul (FP.ddiv (FP.i2d wv) (4620693217682128896 : UInt64)) (FP.ddiv (FP.l2d p0) (FP.dadd (FP.dsub (4607182418800017408 : UInt64) (FP.ddiv (FP.i2d kk) (4616189618054758400 : UInt64))) (FP.ddiv (FP.dmul (FP.ddiv (FP.i2d kk) (4616189618054758400 : UInt64)) (FP.l2d lv)) (FP.ddiv (FP.l2d ss) (4616189618054758400 : UInt64))))))), .second, .unset, .unset, .val (.long ((ss * (((4 : Int32) - kk).toInt64)) + (((4 : Int64) * (kk.toInt64)) * lv))), .second]) rfl rfl ?_
          refine g_dload X275 hx 178 (hb hby at_176) rfl rfl ?_
          refine g_lload_n X275 hx 179 (hb hby at_178) rfl rfl ?_
          refine g_l2d X275 hx 180 (hb hby at_179) rfl ?_
          refine g_ldc2_w X275 hx hown 183 (z := (4 : Int64)) (mvT hZ (hw _ (List.mem_of_getElem? (i := 45) rfl))) (hb hby at_180) rfl ?_
          refine g_lload X275 hx 185 (hb hby at_183) rfl rfl ?_
          refine g_lmul X275 hx 186 (hb hby at_185) rfl ?_
          refine g_l2d X275 hx 187 (hb hby at_186) rfl ?_
          refine g_dmul X275 hx 188 (hb hby at_187) z1 rfl ?_
          refine g_lload X275 hx 190 (hb hby at_188) rfl rfl ?_
          refine g_l2d X275 hx 191 (hb hby at_190) rfl ?_
          refine g_ddiv X275 hx 192 (hb hby at_191) z2 rfl ?_
          refine g_dmul X275 hx 193 (hb hby at_192) z3 rfl ?_
          refine g_dstore X275 hx 195 (hb hby at_193) (l' := #[.val (.long p0), .second, .val (.long p1), .second, .val (.int p2), .val (.int p3), .val (.int p4), .val (.int kk), .val (.double (FP.ddiv (FP.i2d kk) (4616189618054758400 : UInt64))), .second, .val (.double (FP.ddiv (FP.i2d wv) (4620693217682128896 : UInt64))), .second, .val (.long lv), .second, .val (.int sv), .val (.long ss), .second, .val (.double (FP.ddiv (FP.l2d ss) (4616189618054758400 : UInt64))), .second, .val (.ref b257), .val (.double (FP.dmul (FP.ddiv (FP.i2d wv) (4620693217682128896 : UInt64)) (FP.ddiv (FP.l2d p0) (FP.dadd (FP.dsub (4607182418800017408 : UInt64) (FP.ddiv (FP.i2d kk) (4616189618054758400 : UInt64))) (FP.ddiv (FP.dmul (FP.ddiv (FP.i2d kk) (4616189618054758400 : UInt64)) (FP.l2d lv)) (FP.ddiv (FP.l2d ss) (4616189618054758400 : UInt64))))))), .second, .val (.double (FP.dmul (FP.ddiv (FP.i2d wv) (4620693217682128896 : UInt64)) (FP.ddiv (FP.dmul (FP.l2d p0) (FP.l2d ((4 : Int64) * ss))) (FP.l2d ((ss * (((4 : Int32) - kk).toInt64)) + (((4 : Int64) * (kk.toInt64)) * lv)))))), .second, .val (.long ((ss * (((4 : Int32) - kk).toInt64)) + (((4 : Int64) * (kk.toInt64)) * lv))), .second]) rfl rfl ?_
          refine g_dload X275 hx 197 (hb hby at_195) rfl rfl ?_
          refine g_dload X275 hx 199 (hb hby at_197) rfl rfl ?_
          refine g_dcmp X275 hx 200 (hb hby at_199) rfl ?_
          have c279 : (cmpValue (FP.dcmp (FP.dmul (FP.ddiv (FP.i2d wv) (4620693217682128896 : UInt64)) (FP.ddiv (FP.l2d p0) (FP.dadd (FP.dsub (4607182418800017408 : UInt64) (FP.ddiv (FP.i2d kk) (4616189618054758400 : UInt64))) (FP.ddiv (FP.dmul (FP.ddiv (FP.i2d kk) (4616189618054758400 : UInt64)) (FP.l2d lv)) (FP.ddiv (FP.l2d ss) (4616189618054758400 : UInt64)))))) (FP.dmul (FP.ddiv (FP.i2d wv) (4620693217682128896 : UInt64)) (FP.ddiv (FP.dmul (FP.l2d p0) (FP.l2d ((4 : Int64) * ss))) (FP.l2d ((ss * (((4 : Int32) - kk).toInt64)) + (((4 : Int64) * (kk.toInt64)) * lv)))))) .l) = (0 : Int32) := by rw [hcmp]; rfl
          refine g_ifNo X275 hx 203 (hb hby at_200) (own_i0_ne_f c279) rfl ?_
          refine g_iconst X275 hx 204 (hb hby at_203) (1 : Int32) rfl rfl ?_
          refine g_goto X275 hx 208 (hb hby at_204) (by decide) (by decide) ?_
          refine own_retN X275 hx hlk (t := .boolean) hret (by simp) (hb hby at_208) ?_ (by decide) (by decide)
          rw [e275]
          exact ⟨rfl, N275⟩
        · have f281 : Exa Z T270.heap b257 "com/example/libelem/libelem/rank/ContextField" := (A257.keep Kq270)
          refine own_callV X270 hx hZ hown (hw _ (List.mem_of_getElem? (i := 40) rfl)) (hw _ (List.mem_of_getElem? (i := 41) rfl)) (own_nf hZ (hw _ (List.mem_of_getElem? (i := 43) rfl))) (hw _ (List.mem_of_getElem? (i := 43) rfl)) (hw _ (List.mem_of_getElem? (i := 42) rfl)) (by decide) (rm_wA l Z a0 hw [] b257 p0 lv (FP.ddiv (FP.l2d ss) (4616189618054758400 : UInt64)) T270.heap n0 z273 c274) (hw _ (List.mem_of_getElem? (i := 44) rfl)) (hw _ (List.mem_of_getElem? (i := 6) rfl)) rfl 0 (by decide) (by decide) (by decide) (by decide) f281 [(.long p0), (.long lv), (.double (FP.ddiv (FP.l2d ss) (4616189618054758400 : UInt64)))] [] rfl pd_4 rfl 135 rfl (by rw [hml]; rfl) rfl (hb hby at_132) rfl fun T280 v280 L280 X280 hQ280 => ?_
          obtain ⟨rfl, Nq280, e280⟩ := hQ280
          have N280 := Fr.app N270 Nq280
          show own_Go p e below s _ _ _ (T280.setTop (mkF m 135 _ [(.double (0 : UInt64))]))
          refine g_dstore X280 hx 137 (hb hby at_135) (l' := #[.val (.long p0), .second, .val (.long p1), .second, .val (.int p2), .val (.int p3), .val (.int p4), .val (.int kk), .val (.double (FP.ddiv (FP.i2d kk) (4616189618054758400 : UInt64))), .second, .val (.double (FP.ddiv (FP.i2d wv) (4620693217682128896 : UInt64))), .second, .val (.long lv), .second, .val (.int sv), .val (.long ss), .second, .val (.double (FP.ddiv (FP.l2d ss) (4616189618054758400 : UInt64))), .second, .val (.ref b257), .val (.double (0 : UInt64)), .second, .unset, .unset, .unset, .unset]) rfl rfl ?_
          refine g_lload_n X280 hx 138 (hb hby at_137) rfl rfl ?_
          refine g_lconst X280 hx 139 (hb hby at_138) (0 : Int64) rfl rfl ?_
          refine g_lcmp X280 hx 140 (hb hby at_139) rfl ?_
          refine g_ifYes X280 hx 149 (hb hby at_140) (own_ll_le_t c274) (by decide) (by decide) ?_
          refine g_dconst0 X280 hx 150 (hb hby at_149) (v := (0 : UInt64)) (by decide +kernel) rfl ?_
          refine g_dstore X280 hx 152 (hb hby at_150) (l' := #[.val (.long p0), .second, .val (.long p1), .second, .val (.int p2), .val (.int p3), .val (.int p4), .val (.int kk), .val (.double (FP.ddiv (FP.i2d kk) (4616189618054758400 : UInt64))), .second, .val (.double (FP.ddiv (FP.i2d wv) (4620693217682128896 : UInt64))), .second, .val (.long lv), .second, .val (.int sv), .val (.long ss), .second, .val (.double (FP.ddiv (FP.l2d ss) (4616189618054758400 : UInt64))), .second, .val (.ref b257), .val (.double (0 : UInt64)), .second, .val (.double (0 : UInt64)), .second, .unset, .unset]) rfl rfl ?_
          refine g_goto X280 hx 195 (hb hby at_152) (by decide) (by decide) ?_
          refine g_dload X280 hx 197 (hb hby at_195) rfl rfl ?_
          refine g_dload X280 hx 199 (hb hby at_197) rfl rfl ?_
          refine g_dcmp X280 hx 200 (hb hby at_199) rfl ?_
          have c283 : (cmpValue (FP.dcmp (0 : UInt64) (0 : UInt64)) .l) = (0 : Int32) := by decide +kernel
          refine g_ifNo X280 hx 203 (hb hby at_200) (own_i0_ne_f c283) rfl ?_
          refine g_iconst X280 hx 204 (hb hby at_203) (1 : Int32) rfl rfl ?_
          refine g_goto X280 hx 208 (hb hby at_204) (by decide) (by decide) ?_
          refine own_retN X280 hx hlk (t := .boolean) hret (by simp) (hb hby at_208) ?_ (by decide) (by decide)
          rw [e280]
          exact ⟨rfl, N280⟩
set_option maxRecDepth 65536 in
set_option maxHeartbeats 40000000 in
theorem comes_1 {Post : Tables → Env → Array Value → State → Outcome → State → Prop} (hpost : ∀ tb e args s v u, (limb_1_1.after args s (.returned v) u = true ∧ limb_1_2.after args s (.returned v) u = true ∧ True) → FrameEnd s (.returned v) u (Jvm.fieldLocs frame_1_writes args s ++ Jvm.arrayLocs frame_1_arrays args s ++ Jvm.staticLocs frame_1_statics s) 16 128 → Post tb e args s (.returned v) u) :
    ArmFor flags0 classFile x code maxLocals ret World_1 tables_1 room_1 Calls_1 rest_1 Pre_1 Post := by
  intro l hfl _ _ p e ha hc hk s m args below hf hA hF happ hP
  obtain ⟨hcalls, hrest, hpre⟩ := hP
  obtain ⟨-, -, -, hnamed, -, -, -, hat⟩ := (Spec.applies_iff hf).mp happ
  obtain ⟨hg, hn⟩ := and_e (Cond.before_iff.mp (show (Jvm.Cond.and given_1 narrow_1).before args s = true from hpre))
  obtain ⟨gc, q0⟩ := and_e hg
  obtain ⟨ga0, q1⟩ := and_e q0
  obtain ⟨ga1, q2⟩ := and_e q1
  obtain ⟨ga2, q3⟩ := and_e q2
  obtain ⟨ga3, q4⟩ := and_e q3
  have ga4 := q4
  obtain ⟨w0, w1, w2, w3, w4, rfl⟩ : ∃ w0 w1 w2 w3 w4 : Value, args = #[w0, w1, w2, w3, w4] := by
    have hs : args.size = 5 := by simpa [Cond.value, given_1] using gc
    obtain ⟨L⟩ := args
    match L, hs with
    | [w0, w1, w2, w3, w4], _ => exact ⟨w0, w1, w2, w3, w4, rfl⟩
  have hw := fun d (hd : d ∈ tables_1) => atoms_spec (ws := Jvm.Cond.code x code maxLocals ret :: tables_1) hat d (List.mem_cons_of_mem _ hd)
  have hfit : Fit s := fun {y c} hc i hi => by
    obtain ⟨ha, rfl⟩ := Array.getElem?_eq_some_iff.mp hc
    have q := List.all_eq_true.mp ((Array.all_eq_true_iff_forall_mem.mp hF) _ (Array.getElem_mem ha)) i (List.mem_range.mpr hi)
    simpa [Array.getElem?_eq_getElem hi] using q
  obtain ⟨i0, ei0⟩ := isL_v ga0
  obtain rfl : w0 = (.long i0) := Option.some.inj ei0
  obtain ⟨i1, ei1⟩ := isL_v ga1
  obtain rfl : w1 = (.long i1) := Option.some.inj ei1
  obtain ⟨i2, ei2⟩ := is_v ga2
  obtain rfl : w2 = (.int i2) := Option.some.inj ei2
  obtain ⟨i3, ei3⟩ := is_v ga3
  obtain rfl : w3 = (.int i3) := Option.some.inj ei3
  obtain ⟨i4, ei4⟩ := is_v ga4
  obtain rfl : w4 = (.int i4) := Option.some.inj ei4
  obtain ⟨nn0, nr0⟩ := and_e hn
  have nn1 := nr0
  obtain ⟨cn, v_cn⟩ := exa_v nn0
  obtain ⟨sn, v_sn⟩ := exa_v nn1
  obtain ⟨n, o, h1, h2, h3, _, L, rfl, ⟨rfl, N⟩, hq⟩ := rm_law l s _ hw tables_1 i0 i1 i2 i3 i4 cn sn s.heap s.heap.size (Nat.le_refl _) (Sta.start v_cn (Or.inr ⟨(hw _ (List.mem_of_getElem? (i := 6) rfl)), (hw _ (List.mem_of_getElem? (i := 8) rfl))⟩)) (Exa.start v_cn nn0) (Exa.start v_sn nn1) (own_fld_ref v_cn v_sn) p e ha hc hk s m _ below hf ((Spec.applies_iff_loose hf).mp happ).1 ⟨rfl, State.Warmed39.refl s, rfl⟩ trivial
  refine ⟨n, _, h1, h2, h3, hpost _ _ _ _ _ _ ⟨Cond.after_iff.mpr rfl, Cond.after_iff.mpr (eq_i res_at (Term.int_eval (1)) rfl), trivial⟩ ⟨hq.1, hq.2.1, (hq.2.2.sift fun y hy => Or.inr (N y hy)).mono (by decide) (by decide)⟩⟩
theorem main_1_1 : Claimed_1_1 := comes_1 fun _ _ _ _ _ _ h hF => ⟨h.1, hF⟩
theorem main_1_2 : Claimed_1_2 := comes_1 fun _ _ _ _ _ _ h hF => ⟨h.2.1, hF⟩
end Jvm.Pilot.@@N@@
namespace Jvm.Pilot.@@N@@
open Jvm Jvm.ClassFile Sem Op Lib Jvm.Free Jvm.Stand Jvm.Pilot.@@N@@.Jvm.D
/-! MADE BY PROGRAM (witnessworld.py) out of the Statement's table words and the real class files: 17 classes; the members and pool entries that the words name. The judged class is class 1, her method 1. -/
namespace start1
open Jvm.ClassFile
def u (s : String) : CpInfo := .utf8 (stringToUtf16 s)
/-- a pool by its gaps: so many unusable entries, then the entry; so many at the end -/
def gap : Nat → List CpInfo → List CpInfo
  | 0, r => r
  | n + 1, r => .unusable :: gap n r
def poolList (es : List (Nat × CpInfo)) (last : Nat) : List CpInfo := es.foldr (fun e r => gap e.1 (e.2 :: r)) (gap last [])
def pool (es : List (Nat × CpInfo)) (last : Nat) : Array CpInfo := ⟨poolList es last⟩
def fileOf (pool : Array CpInfo) (this : Nat) (attrs : Array Attribute := #[]) (ms : Array MethodInfo := #[]) (fl : Nat := 33) (sup : Nat := 0) (ifs : Array Nat := #[]) (fds : Array FieldInfo := #[]) : ClassFile where
  minorVersion := 0
  majorVersion := 65
  constantPool := pool
  accessFlags := fl
  thisClass := this
  superClass := sup
  interfaces := ifs
  fields := fds
  methods := ms
  attributes := attrs
def plain (name : String) (sup : Option ClassId) : Class where
  name := name
  kind := .ordinary
  loader := none
  accessFlags := 33
  super := sup
  interfaces := #[]
  cf := none
  fields := #[]
  methods := #[]
  instanceTypes := #[]
  staticTypes := #[]
  resolved := #[]
  callSites := []
  init := .initialized
  statics := none
  mirror := none

def pool0 : Array CpInfo := pool [(5, u "<init>"), (0, u "()V"), (1, .class_ 10), (1, u "java/lang/Object")] 113

def k0c0 : Code := { maxStack := 0, maxLocals := 1, code := object_method_1_code, exceptionTable := #[], attributes := #[] }
def k0m0 : Method := { name := "<init>", desc := "()V", sig := { parameters := [], returnType := none }, accessFlags := 1, code := some k0c0 }
/-- java/lang/Object -/
def k0 : Class := { plain "java/lang/Object" none with
  accessFlags := 33
  interfaces := #[]
  cf := some (fileOf pool0 8 #[] #[{ accessFlags := 1, nameIndex := 5, descriptorIndex := 6, attributes := #[] }] 33 0 #[] #[])
  fields := #[]
  methods := #[k0m0]
  instanceTypes := #[]
  staticTypes := #[]
  resolved := Array.replicate 124 none
  statics := none }

def pool1 : Array CpInfo := pool [(2, .class_ 4), (1, u "java/lang/Object"), (0, u "<init>"), (0, u "()V"), (0, .integer 2147483647), (0, .double 4616189618054758400), (1, .double 4620693217682128896), (1, .long 1099511627775), (1, .double 13835058055282163712), (1, .class_ 17), (0, u "com/example/libelem/libelem/rank/ContextField"), (0, .fieldref 16 19), (0, .nameAndType 20 21), (0, u "NONE"), (0, u "Lcom/example/libelem/libelem/rank/ContextField;"), (0, .methodref 16 23), (0, .nameAndType 24 25), (0, u "names"), (0, u "()Ljava/util/Set;"), (0, .methodref 16 27), (0, .nameAndType 5 28), (0, u "(Ljava/util/Set;DD)V"), (0, .methodref 16 30), (0, .nameAndType 31 32), (0, u "weighted"), (0, u "(JJD)D"), (0, .long 4), (1, .class_ 36), (0, u "com/example/libelem/libelem/rank/ContextFieldWeightedPinLaw"), (2, u "law"), (0, u "(JJIII)Z")] 3

def k1m0 : Method := { name := "<init>", desc := "()V", sig := { parameters := [], returnType := none }, accessFlags := 1, code := none }
def k1c1 : Code := { maxStack := 8, maxLocals := 26, code := code, exceptionTable := #[], attributes := #[] }
def k1m1 : Method := { name := "law", desc := "(JJIII)Z", sig := { parameters := [.long, .long, .int, .int, .int], returnType := some .boolean }, accessFlags := 9, code := some k1c1 }
/-- com/example/libelem/libelem/rank/ContextFieldWeightedPinLaw -/
def k1 : Class := { plain "com/example/libelem/libelem/rank/ContextFieldWeightedPinLaw" (some 0) with
  accessFlags := 49
  interfaces := #[]
  cf := some (fileOf pool1 35 #[] #[{ accessFlags := 1, nameIndex := 5, descriptorIndex := 6, attributes := #[] }, { accessFlags := 9, nameIndex := 39, descriptorIndex := 40, attributes := #[] }] 49 2 #[] #[])
  fields := #[]
  methods := #[k1m0, k1m1]
  instanceTypes := #[]
  staticTypes := #[]
  resolved := Array.replicate 44 none
  statics := none }

def pool2 : Array CpInfo := pool [(1, .methodref 2 3), (0, .class_ 4), (0, .nameAndType 5 6), (0, u "java/lang/Object"), (0, u "<init>"), (0, u "()V"), (0, .class_ 8), (0, u "java/lang/Record")] 13

def k2c0 : Code := { maxStack := 1, maxLocals := 1, code := jdk_30_method_1_code, exceptionTable := #[], attributes := #[] }
def k2m0 : Method := { name := "<init>", desc := "()V", sig := { parameters := [], returnType := none }, accessFlags := 4, code := some k2c0 }
/-- java/lang/Record -/
def k2 : Class := { plain "java/lang/Record" (some 0) with
  accessFlags := 1057
  interfaces := #[]
  cf := some (fileOf pool2 7 #[] #[{ accessFlags := 4, nameIndex := 5, descriptorIndex := 6, attributes := #[] }] 1057 2 #[] #[])
  fields := #[]
  methods := #[k2m0]
  instanceTypes := #[]
  staticTypes := #[]
  resolved := Array.replicate 22 none
  statics := none }

def pool3 : Array CpInfo := pool [(1, .methodref 2 3), (0, .class_ 4), (0, .nameAndType 5 6), (0, u "java/lang/Record"), (0, u "<init>"), (0, u "()V"), (0, .interfaceMethodref 8 9), (0, .class_ 10), (0, .nameAndType 11 12), (0, u "java/util/Set"), (0, u "copyOf"), (0, u "(Ljava/util/Collection;)Ljava/util/Set;"), (2, .double 9218868437227405312), (11, .fieldref 28 29), (0, .class_ 30), (0, .nameAndType 31 32), (0, u "com/example/libelem/libelem/rank/ContextField"), (0, u "names"), (0, u "Ljava/util/Set;"), (0, .fieldref 28 34), (0, .nameAndType 35 36), (0, u "weight"), (0, u "D"), (0, .fieldref 28 38), (0, .nameAndType 39 36), (0, u "b"), (19, u "()Ljava/util/Set;"), (4, u "(Ljava/util/Set;DD)V"), (2, u "NONE"), (0, u "Lcom/example/libelem/libelem/rank/ContextField;"), (8, u "weighted"), (0, u "(JJD)D")] 38

def k3c0 : Code := { maxStack := 4, maxLocals := 6, code := prog_85_method_1_code, exceptionTable := #[], attributes := #[] }
def k3m0 : Method := { name := "<init>", desc := "(Ljava/util/Set;DD)V", sig := { parameters := [(.object "java/util/Set"), .double, .double], returnType := none }, accessFlags := 1, code := some k3c0 }
def k3c1 : Code := { maxStack := 10, maxLocals := 9, code := prog_85_method_3_code, exceptionTable := #[], attributes := #[] }
def k3m1 : Method := { name := "weighted", desc := "(JJD)D", sig := { parameters := [.long, .long, .double], returnType := some .double }, accessFlags := 1, code := some k3c1 }
def k3c2 : Code := { maxStack := 1, maxLocals := 1, code := prog_85_method_7_code, exceptionTable := #[], attributes := #[] }
def k3m2 : Method := { name := "names", desc := "()Ljava/util/Set;", sig := { parameters := [], returnType := some (.object "java/util/Set") }, accessFlags := 1, code := some k3c2 }
/-- com/example/libelem/libelem/rank/ContextField -/
def k3 : Class := { plain "com/example/libelem/libelem/rank/ContextField" (some 2) with
  accessFlags := 49
  interfaces := #[]
  cf := some (fileOf pool3 28 #[] #[{ accessFlags := 1, nameIndex := 5, descriptorIndex := 64, attributes := #[] }, { accessFlags := 1, nameIndex := 77, descriptorIndex := 78, attributes := #[] }, { accessFlags := 1, nameIndex := 31, descriptorIndex := 59, attributes := #[] }] 49 2 #[] #[{ accessFlags := 18, nameIndex := 31, descriptorIndex := 32, attributes := #[] }, { accessFlags := 18, nameIndex := 35, descriptorIndex := 36, attributes := #[] }, { accessFlags := 18, nameIndex := 39, descriptorIndex := 36, attributes := #[] }, { accessFlags := 25, nameIndex := 67, descriptorIndex := 68, attributes := #[] }])
  fields := #[{ name := "names", type := (.object "java/util/Set"), accessFlags := 18, slot := 0, constantValue := 0 }, { name := "weight", type := .double, accessFlags := 18, slot := 1, constantValue := 0 }, { name := "b", type := .double, accessFlags := 18, slot := 2, constantValue := 0 }, { name := "NONE", type := (.object "com/example/libelem/libelem/rank/ContextField"), accessFlags := 25, slot := 0, constantValue := 0 }]
  methods := #[k3m0, k3m1, k3m2]
  instanceTypes := #[(.object "java/util/Set"), .double, .double]
  staticTypes := #[(.object "com/example/libelem/libelem/rank/ContextField")]
  resolved := Array.replicate 117 none
  statics := some 0 }

def pool4 : Array CpInfo := pool [(8, .class_ 10), (1, u "java/lang/Iterable"), (24, .class_ 36), (0, u "java/lang/Object")] 25

/-- java/lang/Iterable -/
def k4 : Class := { plain "java/lang/Iterable" (some 0) with
  accessFlags := 1537
  interfaces := #[]
  cf := some (fileOf pool4 8 #[] #[] 1537 35 #[] #[])
  fields := #[]
  methods := #[]
  instanceTypes := #[]
  staticTypes := #[]
  resolved := Array.replicate 62 none
  statics := none }

def pool5 : Array CpInfo := pool [(10, .class_ 12), (1, u "java/util/Collection"), (47, .class_ 61), (0, u "java/lang/Object"), (0, .class_ 63), (0, u "java/lang/Iterable")] 51

/-- java/util/Collection -/
def k5 : Class := { plain "java/util/Collection" (some 0) with
  accessFlags := 1537
  interfaces := #[4]
  cf := some (fileOf pool5 10 #[] #[] 1537 60 #[62] #[])
  fields := #[]
  methods := #[]
  instanceTypes := #[]
  staticTypes := #[]
  resolved := Array.replicate 115 none
  statics := none }

def pool6 : Array CpInfo := pool [(26, .class_ 27), (0, u "java/lang/Object"), (3, .class_ 32), (0, u "java/util/ImmutableCollections$AbstractImmutableSet"), (0, .class_ 34), (0, u "java/util/Set"), (1, .class_ 38), (1, u "java/util/Collection"), (92, u "copyOf"), (0, u "(Ljava/util/Collection;)Ljava/util/Set;")] 11

def k6c0 : Code := { maxStack := 3, maxLocals := 1, code := jdk_96_method_29_code, exceptionTable := #[], attributes := #[] }
def k6m0 : Method := { name := "copyOf", desc := "(Ljava/util/Collection;)Ljava/util/Set;", sig := { parameters := [(.object "java/util/Collection")], returnType := some (.object "java/util/Set") }, accessFlags := 9, code := some k6c0 }
/-- java/util/Set -/
def k6 : Class := { plain "java/util/Set" (some 0) with
  accessFlags := 1537
  interfaces := #[5]
  cf := some (fileOf pool6 33 #[] #[{ accessFlags := 9, nameIndex := 131, descriptorIndex := 132, attributes := #[] }] 1537 26 #[36] #[])
  fields := #[]
  methods := #[k6m0]
  instanceTypes := #[]
  staticTypes := #[]
  resolved := Array.replicate 144 none
  statics := none }

def pool7 : Array CpInfo := pool [(2, .class_ 4), (1, u "java/lang/Object"), (0, u "<init>"), (0, u "()V"), (1, .class_ 10), (1, u "java/util/AbstractCollection"), (66, .class_ 78), (0, u "java/util/Collection")] 81

def k7m0 : Method := { name := "<init>", desc := "()V", sig := { parameters := [], returnType := none }, accessFlags := 4, code := none }
/-- java/util/AbstractCollection -/
def k7 : Class := { plain "java/util/AbstractCollection" (some 0) with
  accessFlags := 1057
  interfaces := #[5]
  cf := some (fileOf pool7 8 #[] #[{ accessFlags := 4, nameIndex := 5, descriptorIndex := 6, attributes := #[] }] 1057 2 #[77] #[])
  fields := #[]
  methods := #[k7m0]
  instanceTypes := #[]
  staticTypes := #[]
  resolved := Array.replicate 160 none
  statics := none }

def pool8 : Array CpInfo := pool [(2, .class_ 4), (1, u "java/util/AbstractCollection"), (0, u "<init>"), (0, u "()V"), (1, .class_ 10), (1, u "java/util/ImmutableCollections"), (2, .class_ 14), (0, u "java/util/ImmutableCollections$AbstractImmutableCollection")] 41

def k8m0 : Method := { name := "<init>", desc := "()V", sig := { parameters := [], returnType := none }, accessFlags := 0, code := none }
/-- java/util/ImmutableCollections$AbstractImmutableCollection -/
def k8 : Class := { plain "java/util/ImmutableCollections$AbstractImmutableCollection" (some 7) with
  accessFlags := 1056
  interfaces := #[]
  cf := some (fileOf pool8 13 #[.nestHost 8] #[{ accessFlags := 0, nameIndex := 5, descriptorIndex := 6, attributes := #[] }] 1056 2 #[] #[])
  fields := #[]
  methods := #[k8m0]
  instanceTypes := #[]
  staticTypes := #[]
  resolved := Array.replicate 56 none
  statics := none }

def pool9 : Array CpInfo := pool [(2, .class_ 4), (1, u "java/util/ImmutableCollections$AbstractImmutableCollection"), (0, u "<init>"), (0, u "()V"), (0, .class_ 8), (0, u "java/util/Set"), (7, .class_ 17), (0, u "java/util/ImmutableCollections$AbstractImmutableSet"), (43, .class_ 62), (0, u "java/util/ImmutableCollections")] 3

def k9m0 : Method := { name := "<init>", desc := "()V", sig := { parameters := [], returnType := none }, accessFlags := 0, code := none }
/-- java/util/ImmutableCollections$AbstractImmutableSet -/
def k9 : Class := { plain "java/util/ImmutableCollections$AbstractImmutableSet" (some 8) with
  accessFlags := 1056
  interfaces := #[6]
  cf := some (fileOf pool9 16 #[.nestHost 61] #[{ accessFlags := 0, nameIndex := 5, descriptorIndex := 6, attributes := #[] }] 1056 2 #[7] #[])
  fields := #[]
  methods := #[k9m0]
  instanceTypes := #[]
  staticTypes := #[]
  resolved := Array.replicate 66 none
  statics := none }

def pool10 : Array CpInfo := pool [(1, .class_ 2), (0, u "java/io/Serializable"), (0, .class_ 4), (0, u "java/lang/Object")] 2

/-- java/io/Serializable -/
def k10 : Class := { plain "java/io/Serializable" (some 0) with
  accessFlags := 1537
  interfaces := #[]
  cf := some (fileOf pool10 1 #[] #[] 1537 3 #[] #[])
  fields := #[]
  methods := #[]
  instanceTypes := #[]
  staticTypes := #[]
  resolved := Array.replicate 7 none
  statics := none }

def pool11 : Array CpInfo := pool [(1, .class_ 2), (0, u "java/util/ImmutableCollections"), (1, .class_ 6), (1, u "java/util/ImmutableCollections$AbstractImmutableSet"), (3, .class_ 12), (1, u "java/util/ImmutableCollections$SetN"), (0, u "size"), (0, u "I"), (4, u "elements"), (0, u "[Ljava/lang/Object;"), (86, .class_ 108), (0, u "java/io/Serializable")] 59

/-- java/util/ImmutableCollections$SetN -/
def k11 : Class := { plain "java/util/ImmutableCollections$SetN" (some 9) with
  accessFlags := 48
  interfaces := #[10]
  cf := some (fileOf pool11 10 #[.nestHost 1] #[] 48 4 #[107] #[{ accessFlags := 16, nameIndex := 19, descriptorIndex := 20, attributes := #[] }, { accessFlags := 16, nameIndex := 13, descriptorIndex := 14, attributes := #[] }])
  fields := #[{ name := "elements", type := (.array (.object "java/lang/Object")), accessFlags := 16, slot := 0, constantValue := 0 }, { name := "size", type := .int, accessFlags := 16, slot := 1, constantValue := 0 }]
  methods := #[]
  instanceTypes := #[(.array (.object "java/lang/Object")), .int]
  staticTypes := #[]
  resolved := Array.replicate 168 none
  statics := none }

def pool12 : Array CpInfo := pool [(1, u "java/lang/Cloneable"), (0, .class_ 1), (0, u "java/lang/Object"), (0, .class_ 3)] 3

/-- java/lang/Cloneable -/
def k12 : Class := { plain "java/lang/Cloneable" (some 0) with
  accessFlags := 1537
  interfaces := #[]
  cf := some (fileOf pool12 2 #[] #[] 1537 4 #[] #[])
  fields := #[]
  methods := #[]
  instanceTypes := #[]
  staticTypes := #[]
  resolved := Array.replicate 8 none
  statics := none }

/-- the primitive byte -/
def k13 : Class := { plain "byte" none with kind := .primitive 'B', accessFlags := 0x411 }
/-- [B -/
def k14 : Class := { plain "[B" (some 0) with kind := .array 13 .byte, interfaces := #[12, 10], accessFlags := 1041 }

/-- the primitive int -/
def k15 : Class := { plain "int" none with kind := .primitive 'I', accessFlags := 0x411 }
/-- [I -/
def k16 : Class := { plain "[I" (some 0) with kind := .array 15 .int, interfaces := #[12, 10], accessFlags := 1041 }

def heap : Heap := #[{ cls := 3, slots := #[.ref 1], vm := .statics 3 },
  { cls := 3, slots := #[.ref 2, .double 0, .double 0], vm := .none },
  { cls := 11, slots := #[.null, .int 0], vm := .none }]
def classes : Array Class := #[k0, k1, k2, k3, k4, k5, k6, k7, k8, k9, k10, k11, k12, k13, k14, k15, k16]
def interned : List (Array UInt16 × Addr) := []
def slotsUsed : Nat := 6
def theMethod : MethodId := ⟨1, 1⟩
def args0 : Array Value := #[.long 5, .long 7, .int 3, .int 4, .int 9]
def aboutOver (below : List Frame) : State where
  vm := { classes := classes, interned := interned.toArray }
  heap := heap
  slotsUsed := slotsUsed
  threads := #[{ frames := .invoking theMethod args0 :: below }]
def below0 : List Frame := [.native { method := ⟨0, 0⟩, args := #[] }]
def about1 : State := aboutOver below0
def p0 : Program := .bare "" "" ""
def e0 : Env := launch0.env 0 0 0
theorem w_frames : about1.frames = Frame.invoking theMethod args0 :: below0 := rfl
set_option maxRecDepth 65536 in
theorem w_args : argsFit about1.vm theMethod args0 = true := by decide +kernel
set_option maxRecDepth 65536 in
theorem w_heap : heapFits about1 = true := by decide +kernel
set_option maxRecDepth 65536 in
theorem w_runnable : about1.curStatus? = some .runnable := by decide +kernel
set_option maxRecDepth 65536 in
theorem w_alone : about1.alone = true := by decide +kernel
set_option maxRecDepth 65536 in
theorem w_named : about1.methodNamed? x = some theMethod := by decide +kernel
set_option maxRecDepth 65536 in
theorem w_hears : about1.hears theMethod below0 = true := by decide +kernel
set_option maxRecDepth 65536 in
theorem w_ripe : about1.ripe theMethod args0 below0 = true := by decide +kernel
theorem w_running : about1.status = .running := rfl
set_option maxRecDepth 65536 in
theorem w_room : about1.hasRoom e0.platform room_1 = true :=
  launch0.hasRoom_least _ room_1 (by decide +kernel) (by decide +kernel) (by decide +kernel) (by decide +kernel) (by decide +kernel) (by decide +kernel)
theorem allAtoms_all (ts : List Jvm.Cond) (a : Array Jvm.Value) (st : Jvm.State) : (allAtoms ts).before a st = ts.all (fun c => c.before a st) := by
  induction ts with
  | nil => rfl
  | cons c t ih =>
    show (Jvm.Cond.and c (allAtoms t)).before a st = _
    rw [Jvm.Cond.before_and, ih, List.all_cons]
def words1 : List Jvm.Cond := Jvm.Cond.code x code maxLocals ret :: tables_1
/-- a 'code' word, met by the world's own term for the bytes: nothing is compared byte by byte -/
theorem code_word {y : MethodName} {bytes : ByteArray} {mx : Nat} {rt : Option FieldType} {a : Array Value} {s : State} {m : MethodId} {meth : Method} {c : Code} (h1 : s.methodNamed? y = some m) (h2 : s.vm.method? m = some meth) (h3 : meth.code = some c) (h4 : c.code = bytes)
    (h5 : (c.maxLocals == mx && c.exceptionTable.isEmpty && decide (c.maxStack ≤ mostOperands) && decide (meth.sig.returnType = rt) && !meth.locks && decide (parseMethodDescriptor y.desc = some meth.sig)) = true) : (Jvm.Cond.code y bytes mx rt).before a s = true := by
  simp only [Bool.and_eq_true, beq_iff_eq, Bool.not_eq_true', decide_eq_true_eq] at h5
  obtain ⟨⟨⟨⟨⟨g1, g2⟩, g3⟩, g4⟩, g5⟩, g6⟩ := h5
  simp [Cond.before, Cond.holds, Cond.value, h1, h2, h3, h4, g1, g2, g3, g4, g5, g6]
def isCode : Jvm.Cond → Bool
  | .code _ _ _ _ => true
  | _ => false
theorem all_split {L : List Jvm.Cond} {P : Jvm.Cond → Bool} (h1 : L.all (fun c => isCode c || P c) = true) (h2 : ∀ c ∈ L.filter isCode, P c = true) : L.all P = true := by
  refine List.all_eq_true.mpr fun c hc => ?_
  have h := List.all_eq_true.mp h1 c hc
  rcases Bool.eq_false_or_eq_true (isCode c) with hi | hi
  · exact h2 c (List.mem_filter.mpr ⟨hc, hi⟩)
  · simpa [hi] using h
set_option maxRecDepth 65536 in
theorem w_c0 : (Jvm.Cond.code x code maxLocals ret).before args0 about1 = true := code_word (m := ⟨1, 1⟩) (meth := k1m1) (c := k1c1) (by decide +kernel) rfl rfl rfl (by decide +kernel)
set_option maxRecDepth 65536 in
theorem w_c1 : (Jvm.Cond.code ({ cls := "com/example/libelem/libelem/rank/ContextField", name := "names", desc := "()Ljava/util/Set;" } : Jvm.MethodName) prog_85_method_7_code (1 : Nat) (Option.some (Jvm.ClassFile.FieldType.object "java/util/Set"))).before args0 about1 = true := code_word (m := ⟨3, 2⟩) (meth := k3m2) (c := k3c2) (by decide +kernel) rfl rfl rfl (by decide +kernel)
set_option maxRecDepth 65536 in
theorem w_c2 : (Jvm.Cond.code ({ cls := "com/example/libelem/libelem/rank/ContextField", name := "<init>", desc := "(Ljava/util/Set;DD)V" } : Jvm.MethodName) prog_85_method_1_code (6 : Nat) (Option.none : Option Jvm.ClassFile.FieldType)).before args0 about1 = true := code_word (m := ⟨3, 0⟩) (meth := k3m0) (c := k3c0) (by decide +kernel) rfl rfl rfl (by decide +kernel)
set_option maxRecDepth 65536 in
theorem w_c3 : (Jvm.Cond.code ({ cls := "java/lang/Record", name := "<init>", desc := "()V" } : Jvm.MethodName) jdk_30_method_1_code (1 : Nat) (Option.none : Option Jvm.ClassFile.FieldType)).before args0 about1 = true := code_word (m := ⟨2, 0⟩) (meth := k2m0) (c := k2c0) (by decide +kernel) rfl rfl rfl (by decide +kernel)
set_option maxRecDepth 65536 in
theorem w_c4 : (Jvm.Cond.code ({ cls := "java/lang/Object", name := "<init>", desc := "()V" } : Jvm.MethodName) object_method_1_code (1 : Nat) (Option.none : Option Jvm.ClassFile.FieldType)).before args0 about1 = true := code_word (m := ⟨0, 0⟩) (meth := k0m0) (c := k0c0) (by decide +kernel) rfl rfl rfl (by decide +kernel)
set_option maxRecDepth 65536 in
theorem w_c5 : (Jvm.Cond.code ({ cls := "java/util/Set", name := "copyOf", desc := "(Ljava/util/Collection;)Ljava/util/Set;" } : Jvm.MethodName) jdk_96_method_29_code (1 : Nat) (Option.some (Jvm.ClassFile.FieldType.object "java/util/Set"))).before args0 about1 = true := code_word (m := ⟨6, 0⟩) (meth := k6m0) (c := k6c0) (by decide +kernel) rfl rfl rfl (by decide +kernel)
set_option maxRecDepth 65536 in
theorem w_c6 : (Jvm.Cond.code ({ cls := "com/example/libelem/libelem/rank/ContextField", name := "weighted", desc := "(JJD)D" } : Jvm.MethodName) prog_85_method_3_code (9 : Nat) (Option.some Jvm.ClassFile.FieldType.double)).before args0 about1 = true := code_word (m := ⟨3, 1⟩) (meth := k3m1) (c := k3c1) (by decide +kernel) rfl rfl rfl (by decide +kernel)
def codes1 : List Jvm.Cond := [Jvm.Cond.code x code maxLocals ret, Jvm.Cond.code ({ cls := "com/example/libelem/libelem/rank/ContextField", name := "names", desc := "()Ljava/util/Set;" } : Jvm.MethodName) prog_85_method_7_code (1 : Nat) (Option.some (Jvm.ClassFile.FieldType.object "java/util/Set")), Jvm.Cond.code ({ cls := "com/example/libelem/libelem/rank/ContextField", name := "<init>", desc := "(Ljava/util/Set;DD)V" } : Jvm.MethodName) prog_85_method_1_code (6 : Nat) (Option.none : Option Jvm.ClassFile.FieldType), Jvm.Cond.code ({ cls := "java/lang/Record", name := "<init>", desc := "()V" } : Jvm.MethodName) jdk_30_method_1_code (1 : Nat) (Option.none : Option Jvm.ClassFile.FieldType), Jvm.Cond.code ({ cls := "java/lang/Object", name := "<init>", desc := "()V" } : Jvm.MethodName) object_method_1_code (1 : Nat) (Option.none : Option Jvm.ClassFile.FieldType), Jvm.Cond.code ({ cls := "java/util/Set", name := "copyOf", desc := "(Ljava/util/Collection;)Ljava/util/Set;" } : Jvm.MethodName) jdk_96_method_29_code (1 : Nat) (Option.some (Jvm.ClassFile.FieldType.object "java/util/Set")), Jvm.Cond.code ({ cls := "com/example/libelem/libelem/rank/ContextField", name := "weighted", desc := "(JJD)D" } : Jvm.MethodName) prog_85_method_3_code (9 : Nat) (Option.some Jvm.ClassFile.FieldType.double)]
set_option maxRecDepth 65536 in
theorem codes_eq : words1.filter isCode = codes1 := rfl
theorem w_codes : ∀ c ∈ words1.filter isCode, c.before args0 about1 = true := by
  rw [codes_eq]
  intro c hc
  simp only [codes1, List.mem_cons, List.not_mem_nil, or_false] at hc
  rcases hc with rfl | rfl | rfl | rfl | rfl | rfl | rfl
  · exact w_c0
  · exact w_c1
  · exact w_c2
  · exact w_c3
  · exact w_c4
  · exact w_c5
  · exact w_c6
set_option maxRecDepth 65536 in
theorem w_t1 : (words1.take 24).all (fun c => isCode c || c.before args0 about1) = true := by decide +kernel
set_option maxRecDepth 65536 in
theorem w_t2 : (words1.drop 24).all (fun c => isCode c || c.before args0 about1) = true := by decide +kernel
theorem w_tables : (allAtoms (Jvm.Cond.code x code maxLocals ret :: tables_1)).before args0 about1 = true := by
  rw [allAtoms_all]
  show words1.all (fun c => c.before args0 about1) = true
  refine all_split ?_ w_codes
  rw [← List.take_append_drop 24 words1, List.all_append, w_t1, w_t2]
  rfl
set_option maxRecDepth 65536 in
theorem w_case : (Jvm.Cond.and given_1 narrow_1).before args0 about1 = true := by decide +kernel
theorem w_applies : (headSpec (Jvm.Cond.code x code maxLocals ret :: tables_1) room_1).applies x e0.platform about1 = true :=
  (Spec.applies_iff w_frames).mpr ⟨w_running, w_runnable, w_alone, w_named, w_hears, w_ripe, w_room, w_tables⟩
theorem atStart : AtStart classFile x code maxLocals ret World_1 tables_1 room_1 Calls_1 rest_1 Pre_1 launch0 p0 e0 about1 theMethod args0 below0 :=
  ⟨lists_1, trivial, launch0.admits_env _ _ _, launch0.least_env, fairChoices_fair.cas, fairChoices_fair.clock, w_frames, w_args, w_heap, w_applies, trivial, trivial, w_case⟩
end start1
theorem witness_1 : WitnessClaimed_1 := ⟨start1.p0, start1.e0, start1.about1, start1.theMethod, start1.args0, start1.below0, start1.atStart⟩
end Jvm.Pilot.@@N@@
