import JvmDerived
import JvmDerived.Pilot.@@N@@Statement
import JvmDerived.Pilot.@@N@@Code
set_option linter.unusedVariables false
set_option linter.unusedSimpArgs false
namespace Jvm.Pilot.@@N@@
open Jvm Jvm.ClassFile Sem Op Lib Jvm.Free Jvm.Stand Jvm.LawKit Jvm.RoadKit Bundle Jvm.Pilot.@@N@@.Jvm.D
section Own
variable {p : Program} {l : Launch} {e : Env} {R : Room} {s : State} {m : MethodId} {args : Array Value} {below : List Frame} {meth : Method} {c : Code} {T : State} {locs : List Loc} {cells slots : Nat}
/-- from S0 the run ends as Q says, within the frame of k cells and n slots -/
def own_Go (p : Program) (e : Env) (below : List Frame) (s : State) (Q : Option Value → Heap → List Loc → Prop) (k n : Nat) (S0 : State) : Prop :=
  ∃ U o, Steps p.tables e below S0 U ∧ U.status = .running ∧ Ended U below o ∧ ∃ v L, o = .returned v ∧ Q v U.heap L ∧ FrameEnd s o U L k n
variable {Q : Option Value → Heap → List Loc → Prop} {K N : Nat} {S0 S1 : State}
theorem own_step (h : ∀ t, Steps p.tables e below S1 t → Steps p.tables e below S0 t) (G : own_Go p e below s Q K N S1) : own_Go p e below s Q K N S0 := by
  obtain ⟨U, o, h1, r⟩ := G
  exact ⟨U, o, h _ h1, r⟩
theorem own_start {g g' : JFrame} (q : g = g') (G : own_Go p e below s Q K N (T.setTop g')) : own_Go p e below s Q K N (T.setTop g) := q ▸ G
theorem own_end (X : Stand p l e R s m args below meth c T locs cells slots) {v : Option Value} (hv : meth.sig.returnType = none → v = none) (hlk : meth.locks = false) (hq : Q v T.heap locs) (hk : cells ≤ K) (hn : slots ≤ N)
    (go : ∀ fs, (∀ (f : JFrame) (acts : List Action), f.method = m → f.locked = none → f.entered = [] → (doReturn e (T.setTop f) acts v).1 = T.setFrames fs) → Steps p.tables e below S0 (T.setFrames fs)) : own_Go p e below s Q K N S0 := by
  obtain ⟨fs, hr, hrun, hended, hW, hsame⟩ := X.leave (v := v) hv hlk
  exact ⟨_, _, go fs hr, hrun, hended, _, _, rfl, hq, ⟨_, rfl⟩, hW, hsame.mono hk hn⟩
theorem own_retN (X : Stand p l e R s m args below meth c T locs cells slots) (hx : p.tables.exec = Jvm.exec) (hlk : meth.locks = false) {pc : Nat} {Ls : Array Slot} {z : Int32} {t : FieldType} {rest : List Value} (hret : meth.sig.returnType = some t) (ht : t = .boolean ∨ t = .byte ∨ t = .char ∨ t = .short)
    (hd : decode c.code pc = .ok (.ireturn, 1)) (hq : Q (some (.int (nar t z))) T.heap locs) (hk : cells ≤ K) (hn : slots ≤ N) : own_Go p e below s Q K N (T.setTop (mkF m pc Ls (.int z :: rest))) :=
  own_end X (fun h => by rw [hret] at h; cases h) hlk hq hk hn fun fs hr => retN X hx hret ht hd hr
theorem own_retI (X : Stand p l e R s m args below meth c T locs cells slots) (hx : p.tables.exec = Jvm.exec) (hlk : meth.locks = false) {pc : Nat} {Ls : Array Slot} {z : Int32} {rest : List Value} (hret : meth.sig.returnType = some .int)
    (hd : decode c.code pc = .ok (.ireturn, 1)) (hq : Q (some (.int z)) T.heap locs) (hk : cells ≤ K) (hn : slots ≤ N) : own_Go p e below s Q K N (T.setTop (mkF m pc Ls (.int z :: rest))) :=
  own_end X (fun h => by rw [hret] at h; cases h) hlk hq hk hn fun fs hr => retOut X hx hret rfl (Or.inl ⟨rfl, Or.inl rfl, _, rfl⟩) hd hr
theorem own_retJ (X : Stand p l e R s m args below meth c T locs cells slots) (hx : p.tables.exec = Jvm.exec) (hlk : meth.locks = false) {pc : Nat} {Ls : Array Slot} {z : Int64} {rest : List Value} (hret : meth.sig.returnType = some .long)
    (hd : decode c.code pc = .ok (.lreturn, 1)) (hq : Q (some (.long z)) T.heap locs) (hk : cells ≤ K) (hn : slots ≤ N) : own_Go p e below s Q K N (T.setTop (mkF m pc Ls (.long z :: rest))) :=
  own_end X (fun h => by rw [hret] at h; cases h) hlk hq hk hn fun fs hr => retOut X hx hret rfl (Or.inr (Or.inl ⟨rfl, rfl, _, rfl⟩)) hd hr
theorem own_retA (X : Stand p l e R s m args below meth c T locs cells slots) (hx : p.tables.exec = Jvm.exec) (hlk : meth.locks = false) {pc : Nat} {Ls : Array Slot} {w : Value} {t : FieldType} {rest : List Value} (hret : meth.sig.returnType = some t) (ht : t.isReference = true) (hw : w.isRef = true)
    (hd : decode c.code pc = .ok (.areturn, 1)) (hq : Q (some w) T.heap locs) (hk : cells ≤ K) (hn : slots ≤ N) : own_Go p e below s Q K N (T.setTop (mkF m pc Ls (w :: rest))) :=
  own_end X (fun h => by rw [hret] at h; cases h) hlk hq hk hn fun fs hr => retOut X hx hret (by cases t <;> first | (cases ht; done) | (cases w <;> rfl)) (Or.inr (Or.inr (Or.inr (Or.inr ⟨rfl, ht, hw⟩)))) hd hr
theorem own_retV (X : Stand p l e R s m args below meth c T locs cells slots) (hx : p.tables.exec = Jvm.exec) (hlk : meth.locks = false) {pc : Nat} {Ls : Array Slot} (hret : meth.sig.returnType = none)
    (hd : decode c.code pc = .ok (.return_, 1)) (hq : Q none T.heap locs) (hk : cells ≤ K) (hn : slots ≤ N) : own_Go p e below s Q K N (T.setTop (mkF m pc Ls [])) :=
  own_end X (fun _ => rfl) hlk hq hk hn fun fs hr => X.returnOut hx hret hd hr
theorem own_Sta_keep {Z : State} {h h' : Heap} {ws : List Addr} {C n d : String} {w : Value} (Kp : Keep h h' ws) (F : Sta Z h C n d w) (q : ∀ a ∈ ws, ∀ cell : Cell, h[a]? = some cell → cell.vm.isStatics = false) : Sta Z h' C n d w := by
  obtain ⟨cf, i, k, f, st, cell, h1, h2, h3, h4, h5, h6, h7⟩ := F
  exact ⟨cf, i, k, f, st, cell, h1, h2, h3, h4, Kp.2.1 _ _ h5 (fun hm => by rw [q _ hm _ h5] at h6; cases h6), h6, h7⟩
theorem g_iload_n (X : Stand p l e R s m args below meth c T locs cells slots) (hx : p.tables.exec = Jvm.exec) {pc : Nat} (pc' : Nat) {Ls : Array Slot} {k : Fin 4} {v : Int32} {st : List Value} (hd : decode c.code pc = .ok (.iload_n k, 1)) (hl : Ls[k.val]? = some (.val (.int v))) (hp : pc + 1 = pc') (G : own_Go p e below s Q K N (T.setTop (mkF m pc' Ls (.int v :: st)))) : own_Go p e below s Q K N (T.setTop (mkF m pc Ls (st))) := by
  subst hp; exact own_step (fun _ k => XS.iloadN X.here hx rfl hd hl k) G
theorem g_iload (X : Stand p l e R s m args below meth c T locs cells slots) (hx : p.tables.exec = Jvm.exec) {pc : Nat} (pc' : Nat) {Ls : Array Slot} {k : Nat} {v : Int32} {st : List Value} (hd : decode c.code pc = .ok (.iload k, 2)) (hl : Ls[k]? = some (.val (.int v))) (hp : pc + 2 = pc') (G : own_Go p e below s Q K N (T.setTop (mkF m pc' Ls (.int v :: st)))) : own_Go p e below s Q K N (T.setTop (mkF m pc Ls (st))) := by
  subst hp; exact own_step (fun _ k => XS.iload X.here hx rfl hd hl k) G
theorem g_istore_n (X : Stand p l e R s m args below meth c T locs cells slots) (hx : p.tables.exec = Jvm.exec) {pc : Nat} (pc' : Nat) {Ls : Array Slot} {k : Fin 4} {v : Int32} {st : List Value} {l' : Array Slot} (hd : decode c.code pc = .ok (.istore_n k, 1)) (hl : storeLocals Ls k.val (.int v) = some l') (hp : pc + 1 = pc') (G : own_Go p e below s Q K N (T.setTop (mkF m pc' l' (st)))) : own_Go p e below s Q K N (T.setTop (mkF m pc Ls (.int v :: st))) := by
  subst hp; exact own_step (fun _ k => XS.istoreN X.here hx rfl hd rfl hl k) G
theorem g_istore (X : Stand p l e R s m args below meth c T locs cells slots) (hx : p.tables.exec = Jvm.exec) {pc : Nat} (pc' : Nat) {Ls : Array Slot} {k : Nat} {v : Int32} {st : List Value} {l' : Array Slot} (hd : decode c.code pc = .ok (.istore k, 2)) (hl : storeLocals Ls k (.int v) = some l') (hp : pc + 2 = pc') (G : own_Go p e below s Q K N (T.setTop (mkF m pc' l' (st)))) : own_Go p e below s Q K N (T.setTop (mkF m pc Ls (.int v :: st))) := by
  subst hp; exact own_step (fun _ k => XS.istore X.here hx rfl hd rfl hl k) G
theorem g_lload_n (X : Stand p l e R s m args below meth c T locs cells slots) (hx : p.tables.exec = Jvm.exec) {pc : Nat} (pc' : Nat) {Ls : Array Slot} {k : Fin 4} {v : Int64} {st : List Value} (hd : decode c.code pc = .ok (.lload_n k, 1)) (hl : Ls[k.val]? = some (.val (.long v))) (hp : pc + 1 = pc') (G : own_Go p e below s Q K N (T.setTop (mkF m pc' Ls (.long v :: st)))) : own_Go p e below s Q K N (T.setTop (mkF m pc Ls (st))) := by
  subst hp; exact own_step (fun _ k => XS.lloadN X.here hx rfl hd hl k) G
theorem g_lload (X : Stand p l e R s m args below meth c T locs cells slots) (hx : p.tables.exec = Jvm.exec) {pc : Nat} (pc' : Nat) {Ls : Array Slot} {k : Nat} {v : Int64} {st : List Value} (hd : decode c.code pc = .ok (.lload k, 2)) (hl : Ls[k]? = some (.val (.long v))) (hp : pc + 2 = pc') (G : own_Go p e below s Q K N (T.setTop (mkF m pc' Ls (.long v :: st)))) : own_Go p e below s Q K N (T.setTop (mkF m pc Ls (st))) := by
  subst hp; exact own_step (fun _ k => XS.lload X.here hx rfl hd hl k) G
theorem g_lstore_n (X : Stand p l e R s m args below meth c T locs cells slots) (hx : p.tables.exec = Jvm.exec) {pc : Nat} (pc' : Nat) {Ls : Array Slot} {k : Fin 4} {v : Int64} {st : List Value} {l' : Array Slot} (hd : decode c.code pc = .ok (.lstore_n k, 1)) (hl : storeLocals Ls k.val (.long v) = some l') (hp : pc + 1 = pc') (G : own_Go p e below s Q K N (T.setTop (mkF m pc' l' (st)))) : own_Go p e below s Q K N (T.setTop (mkF m pc Ls (.long v :: st))) := by
  subst hp; exact own_step (fun _ k => XS.lstoreN X.here hx rfl hd rfl hl k) G
theorem g_lstore (X : Stand p l e R s m args below meth c T locs cells slots) (hx : p.tables.exec = Jvm.exec) {pc : Nat} (pc' : Nat) {Ls : Array Slot} {k : Nat} {v : Int64} {st : List Value} {l' : Array Slot} (hd : decode c.code pc = .ok (.lstore k, 2)) (hl : storeLocals Ls k (.long v) = some l') (hp : pc + 2 = pc') (G : own_Go p e below s Q K N (T.setTop (mkF m pc' l' (st)))) : own_Go p e below s Q K N (T.setTop (mkF m pc Ls (.long v :: st))) := by
  subst hp; exact own_step (fun _ k => XS.lstore X.here hx rfl hd rfl hl k) G
theorem g_aload_n (X : Stand p l e R s m args below meth c T locs cells slots) (hx : p.tables.exec = Jvm.exec) {pc : Nat} (pc' : Nat) {Ls : Array Slot} {k : Fin 4} {v : Value} {st : List Value} (hd : decode c.code pc = .ok (.aload_n k, 1)) (hl : Ls[k.val]? = some (.val v)) (hv : v.isRef = true) (hp : pc + 1 = pc') (G : own_Go p e below s Q K N (T.setTop (mkF m pc' Ls (v :: st)))) : own_Go p e below s Q K N (T.setTop (mkF m pc Ls (st))) := by
  subst hp; exact own_step (fun _ k => XS.aloadN X.here hx rfl hd hl hv k) G
theorem g_aload (X : Stand p l e R s m args below meth c T locs cells slots) (hx : p.tables.exec = Jvm.exec) {pc : Nat} (pc' : Nat) {Ls : Array Slot} {k : Nat} {v : Value} {st : List Value} (hd : decode c.code pc = .ok (.aload k, 2)) (hl : Ls[k]? = some (.val v)) (hv : v.isRef = true) (hp : pc + 2 = pc') (G : own_Go p e below s Q K N (T.setTop (mkF m pc' Ls (v :: st)))) : own_Go p e below s Q K N (T.setTop (mkF m pc Ls (st))) := by
  subst hp; exact own_step (fun _ k => XS.aload X.here hx rfl hd hl hv k) G
theorem g_astore_n (X : Stand p l e R s m args below meth c T locs cells slots) (hx : p.tables.exec = Jvm.exec) {pc : Nat} (pc' : Nat) {Ls : Array Slot} {k : Fin 4} {v : Value} {st : List Value} {l' : Array Slot} (hd : decode c.code pc = .ok (.astore_n k, 1)) (hv : v.isRef = true) (hl : storeLocals Ls k.val v = some l') (hp : pc + 1 = pc') (G : own_Go p e below s Q K N (T.setTop (mkF m pc' l' (st)))) : own_Go p e below s Q K N (T.setTop (mkF m pc Ls (v :: st))) := by
  subst hp; exact own_step (fun _ k => XS.astoreN X.here hx rfl hd rfl hv hl k) G
theorem g_astore (X : Stand p l e R s m args below meth c T locs cells slots) (hx : p.tables.exec = Jvm.exec) {pc : Nat} (pc' : Nat) {Ls : Array Slot} {k : Nat} {v : Value} {st : List Value} {l' : Array Slot} (hd : decode c.code pc = .ok (.astore k, 2)) (hv : v.isRef = true) (hl : storeLocals Ls k v = some l') (hp : pc + 2 = pc') (G : own_Go p e below s Q K N (T.setTop (mkF m pc' l' (st)))) : own_Go p e below s Q K N (T.setTop (mkF m pc Ls (v :: st))) := by
  subst hp; exact own_step (fun _ k => XS.astore X.here hx rfl hd rfl hv hl k) G
theorem g_iconst (X : Stand p l e R s m args below meth c T locs cells slots) (hx : p.tables.exec = Jvm.exec) {pc : Nat} (pc' : Nat) {Ls : Array Slot} {i : Int} {st : List Value} (hd : decode c.code pc = .ok (.iconst i, 1)) (z : Int32) (hz : Int32.ofInt i = z) (hp : pc + 1 = pc') (G : own_Go p e below s Q K N (T.setTop (mkF m pc' Ls (.int z :: st)))) : own_Go p e below s Q K N (T.setTop (mkF m pc Ls st)) := by
  subst hp hz; exact own_step (fun _ k => XS.iconst X.here hx rfl hd k) G
theorem g_bipush (X : Stand p l e R s m args below meth c T locs cells slots) (hx : p.tables.exec = Jvm.exec) {pc : Nat} (pc' : Nat) {Ls : Array Slot} {i : Int} {st : List Value} (hd : decode c.code pc = .ok (.bipush i, 2)) (z : Int32) (hz : (Int8.ofInt i).toInt32 = z) (hp : pc + 2 = pc') (G : own_Go p e below s Q K N (T.setTop (mkF m pc' Ls (.int z :: st)))) : own_Go p e below s Q K N (T.setTop (mkF m pc Ls st)) := by
  subst hp hz; exact own_step (fun _ k => XS.bipush X.here hx rfl hd k) G
theorem g_sipush (X : Stand p l e R s m args below meth c T locs cells slots) (hx : p.tables.exec = Jvm.exec) {pc : Nat} (pc' : Nat) {Ls : Array Slot} {i : Int} {st : List Value} (hd : decode c.code pc = .ok (.sipush i, 3)) (z : Int32) (hz : (Int16.ofInt i).toInt32 = z) (hp : pc + 3 = pc') (G : own_Go p e below s Q K N (T.setTop (mkF m pc' Ls (.int z :: st)))) : own_Go p e below s Q K N (T.setTop (mkF m pc Ls st)) := by
  subst hp hz; exact own_step (fun _ k => XS.sipush X.here hx rfl hd k) G
theorem g_lconst (X : Stand p l e R s m args below meth c T locs cells slots) (hx : p.tables.exec = Jvm.exec) {pc : Nat} (pc' : Nat) {Ls : Array Slot} {i : Fin 2} {st : List Value} (hd : decode c.code pc = .ok (.lconst i, 1)) (z : Int64) (hz : Int64.ofNat i.val = z) (hp : pc + 1 = pc') (G : own_Go p e below s Q K N (T.setTop (mkF m pc' Ls (.long z :: st)))) : own_Go p e below s Q K N (T.setTop (mkF m pc Ls st)) := by
  subst hp hz; exact own_step (fun _ k => XS.lconst X.here hx rfl hd k) G
theorem g_aconst_null (X : Stand p l e R s m args below meth c T locs cells slots) (hx : p.tables.exec = Jvm.exec) {pc : Nat} (pc' : Nat) {Ls : Array Slot} {st : List Value} (hd : decode c.code pc = .ok (.aconst_null, 1))  (hp : pc + 1 = pc') (G : own_Go p e below s Q K N (T.setTop (mkF m pc' Ls (.null :: st)))) : own_Go p e below s Q K N (T.setTop (mkF m pc Ls (st))) := by
  subst hp; exact own_step (fun _ k => XS.aconstNull X.here hx rfl hd k) G
theorem g_iadd (X : Stand p l e R s m args below meth c T locs cells slots) (hx : p.tables.exec = Jvm.exec) {pc : Nat} (pc' : Nat) {Ls : Array Slot} {x y : Int32} {st : List Value} (hd : decode c.code pc = .ok (.iadd, 1))  (hp : pc + 1 = pc') (G : own_Go p e below s Q K N (T.setTop (mkF m pc' Ls (.int (x + y) :: st)))) : own_Go p e below s Q K N (T.setTop (mkF m pc Ls (.int y :: .int x :: st))) := by
  subst hp; exact own_step (fun _ k => XS.iadd X.here hx rfl hd rfl k) G
theorem g_ladd (X : Stand p l e R s m args below meth c T locs cells slots) (hx : p.tables.exec = Jvm.exec) {pc : Nat} (pc' : Nat) {Ls : Array Slot} {x y : Int64} {st : List Value} (hd : decode c.code pc = .ok (.ladd, 1))  (hp : pc + 1 = pc') (G : own_Go p e below s Q K N (T.setTop (mkF m pc' Ls (.long (x + y) :: st)))) : own_Go p e below s Q K N (T.setTop (mkF m pc Ls (.long y :: .long x :: st))) := by
  subst hp; exact own_step (fun _ k => XS.ladd X.here hx rfl hd rfl k) G
theorem g_isub (X : Stand p l e R s m args below meth c T locs cells slots) (hx : p.tables.exec = Jvm.exec) {pc : Nat} (pc' : Nat) {Ls : Array Slot} {x y : Int32} {st : List Value} (hd : decode c.code pc = .ok (.isub, 1))  (hp : pc + 1 = pc') (G : own_Go p e below s Q K N (T.setTop (mkF m pc' Ls (.int (x - y) :: st)))) : own_Go p e below s Q K N (T.setTop (mkF m pc Ls (.int y :: .int x :: st))) := by
  subst hp; exact own_step (fun _ k => XS.isub X.here hx rfl hd rfl k) G
theorem g_lsub (X : Stand p l e R s m args below meth c T locs cells slots) (hx : p.tables.exec = Jvm.exec) {pc : Nat} (pc' : Nat) {Ls : Array Slot} {x y : Int64} {st : List Value} (hd : decode c.code pc = .ok (.lsub, 1))  (hp : pc + 1 = pc') (G : own_Go p e below s Q K N (T.setTop (mkF m pc' Ls (.long (x - y) :: st)))) : own_Go p e below s Q K N (T.setTop (mkF m pc Ls (.long y :: .long x :: st))) := by
  subst hp; exact own_step (fun _ k => XS.lsub X.here hx rfl hd rfl k) G
theorem g_imul (X : Stand p l e R s m args below meth c T locs cells slots) (hx : p.tables.exec = Jvm.exec) {pc : Nat} (pc' : Nat) {Ls : Array Slot} {x y : Int32} {st : List Value} (hd : decode c.code pc = .ok (.imul, 1))  (hp : pc + 1 = pc') (G : own_Go p e below s Q K N (T.setTop (mkF m pc' Ls (.int (x * y) :: st)))) : own_Go p e below s Q K N (T.setTop (mkF m pc Ls (.int y :: .int x :: st))) := by
  subst hp; exact own_step (fun _ k => XS.imul X.here hx rfl hd rfl k) G
theorem g_lmul (X : Stand p l e R s m args below meth c T locs cells slots) (hx : p.tables.exec = Jvm.exec) {pc : Nat} (pc' : Nat) {Ls : Array Slot} {x y : Int64} {st : List Value} (hd : decode c.code pc = .ok (.lmul, 1))  (hp : pc + 1 = pc') (G : own_Go p e below s Q K N (T.setTop (mkF m pc' Ls (.long (x * y) :: st)))) : own_Go p e below s Q K N (T.setTop (mkF m pc Ls (.long y :: .long x :: st))) := by
  subst hp; exact own_step (fun _ k => XS.lmul X.here hx rfl hd rfl k) G
theorem g_iand (X : Stand p l e R s m args below meth c T locs cells slots) (hx : p.tables.exec = Jvm.exec) {pc : Nat} (pc' : Nat) {Ls : Array Slot} {x y : Int32} {st : List Value} (hd : decode c.code pc = .ok (.iand, 1))  (hp : pc + 1 = pc') (G : own_Go p e below s Q K N (T.setTop (mkF m pc' Ls (.int (x &&& y) :: st)))) : own_Go p e below s Q K N (T.setTop (mkF m pc Ls (.int y :: .int x :: st))) := by
  subst hp; exact own_step (fun _ k => XS.iand X.here hx rfl hd rfl k) G
theorem g_land (X : Stand p l e R s m args below meth c T locs cells slots) (hx : p.tables.exec = Jvm.exec) {pc : Nat} (pc' : Nat) {Ls : Array Slot} {x y : Int64} {st : List Value} (hd : decode c.code pc = .ok (.land, 1))  (hp : pc + 1 = pc') (G : own_Go p e below s Q K N (T.setTop (mkF m pc' Ls (.long (x &&& y) :: st)))) : own_Go p e below s Q K N (T.setTop (mkF m pc Ls (.long y :: .long x :: st))) := by
  subst hp; exact own_step (fun _ k => XS.land X.here hx rfl hd rfl k) G
theorem g_ior (X : Stand p l e R s m args below meth c T locs cells slots) (hx : p.tables.exec = Jvm.exec) {pc : Nat} (pc' : Nat) {Ls : Array Slot} {x y : Int32} {st : List Value} (hd : decode c.code pc = .ok (.ior, 1))  (hp : pc + 1 = pc') (G : own_Go p e below s Q K N (T.setTop (mkF m pc' Ls (.int (x ||| y) :: st)))) : own_Go p e below s Q K N (T.setTop (mkF m pc Ls (.int y :: .int x :: st))) := by
  subst hp; exact own_step (fun _ k => XS.ior X.here hx rfl hd rfl k) G
theorem g_lor (X : Stand p l e R s m args below meth c T locs cells slots) (hx : p.tables.exec = Jvm.exec) {pc : Nat} (pc' : Nat) {Ls : Array Slot} {x y : Int64} {st : List Value} (hd : decode c.code pc = .ok (.lor, 1))  (hp : pc + 1 = pc') (G : own_Go p e below s Q K N (T.setTop (mkF m pc' Ls (.long (x ||| y) :: st)))) : own_Go p e below s Q K N (T.setTop (mkF m pc Ls (.long y :: .long x :: st))) := by
  subst hp; exact own_step (fun _ k => XS.lor X.here hx rfl hd rfl k) G
theorem g_ixor (X : Stand p l e R s m args below meth c T locs cells slots) (hx : p.tables.exec = Jvm.exec) {pc : Nat} (pc' : Nat) {Ls : Array Slot} {x y : Int32} {st : List Value} (hd : decode c.code pc = .ok (.ixor, 1))  (hp : pc + 1 = pc') (G : own_Go p e below s Q K N (T.setTop (mkF m pc' Ls (.int (x ^^^ y) :: st)))) : own_Go p e below s Q K N (T.setTop (mkF m pc Ls (.int y :: .int x :: st))) := by
  subst hp; exact own_step (fun _ k => XS.ixor X.here hx rfl hd rfl k) G
theorem g_lxor (X : Stand p l e R s m args below meth c T locs cells slots) (hx : p.tables.exec = Jvm.exec) {pc : Nat} (pc' : Nat) {Ls : Array Slot} {x y : Int64} {st : List Value} (hd : decode c.code pc = .ok (.lxor, 1))  (hp : pc + 1 = pc') (G : own_Go p e below s Q K N (T.setTop (mkF m pc' Ls (.long (x ^^^ y) :: st)))) : own_Go p e below s Q K N (T.setTop (mkF m pc Ls (.long y :: .long x :: st))) := by
  subst hp; exact own_step (fun _ k => XS.lxor X.here hx rfl hd rfl k) G
theorem g_ineg (X : Stand p l e R s m args below meth c T locs cells slots) (hx : p.tables.exec = Jvm.exec) {pc : Nat} (pc' : Nat) {Ls : Array Slot} {x : Int32} {st : List Value} (hd : decode c.code pc = .ok (.ineg, 1))  (hp : pc + 1 = pc') (G : own_Go p e below s Q K N (T.setTop (mkF m pc' Ls (.int (-x) :: st)))) : own_Go p e below s Q K N (T.setTop (mkF m pc Ls (.int x :: st))) := by
  subst hp; exact own_step (fun _ k => XS.ineg X.here hx rfl hd rfl k) G
theorem g_lneg (X : Stand p l e R s m args below meth c T locs cells slots) (hx : p.tables.exec = Jvm.exec) {pc : Nat} (pc' : Nat) {Ls : Array Slot} {x : Int64} {st : List Value} (hd : decode c.code pc = .ok (.lneg, 1))  (hp : pc + 1 = pc') (G : own_Go p e below s Q K N (T.setTop (mkF m pc' Ls (.long (-x) :: st)))) : own_Go p e below s Q K N (T.setTop (mkF m pc Ls (.long x :: st))) := by
  subst hp; exact own_step (fun _ k => XS.lneg X.here hx rfl hd rfl k) G
theorem g_i2l (X : Stand p l e R s m args below meth c T locs cells slots) (hx : p.tables.exec = Jvm.exec) {pc : Nat} (pc' : Nat) {Ls : Array Slot} {x : Int32} {st : List Value} (hd : decode c.code pc = .ok (.i2l, 1))  (hp : pc + 1 = pc') (G : own_Go p e below s Q K N (T.setTop (mkF m pc' Ls (.long (x.toInt64) :: st)))) : own_Go p e below s Q K N (T.setTop (mkF m pc Ls (.int x :: st))) := by
  subst hp; exact own_step (fun _ k => XS.i2l X.here hx rfl hd rfl k) G
theorem g_l2i (X : Stand p l e R s m args below meth c T locs cells slots) (hx : p.tables.exec = Jvm.exec) {pc : Nat} (pc' : Nat) {Ls : Array Slot} {x : Int64} {st : List Value} (hd : decode c.code pc = .ok (.l2i, 1))  (hp : pc + 1 = pc') (G : own_Go p e below s Q K N (T.setTop (mkF m pc' Ls (.int (x.toInt32) :: st)))) : own_Go p e below s Q K N (T.setTop (mkF m pc Ls (.long x :: st))) := by
  subst hp; exact own_step (fun _ k => XS.l2i X.here hx rfl hd rfl k) G
theorem g_i2b (X : Stand p l e R s m args below meth c T locs cells slots) (hx : p.tables.exec = Jvm.exec) {pc : Nat} (pc' : Nat) {Ls : Array Slot} {x : Int32} {st : List Value} (hd : decode c.code pc = .ok (.i2b, 1))  (hp : pc + 1 = pc') (G : own_Go p e below s Q K N (T.setTop (mkF m pc' Ls (.int (x.toInt8.toInt32) :: st)))) : own_Go p e below s Q K N (T.setTop (mkF m pc Ls (.int x :: st))) := by
  subst hp; exact own_step (fun _ k => XS.i2b X.here hx rfl hd rfl k) G
theorem g_i2s (X : Stand p l e R s m args below meth c T locs cells slots) (hx : p.tables.exec = Jvm.exec) {pc : Nat} (pc' : Nat) {Ls : Array Slot} {x : Int32} {st : List Value} (hd : decode c.code pc = .ok (.i2s, 1))  (hp : pc + 1 = pc') (G : own_Go p e below s Q K N (T.setTop (mkF m pc' Ls (.int (x.toInt16.toInt32) :: st)))) : own_Go p e below s Q K N (T.setTop (mkF m pc Ls (.int x :: st))) := by
  subst hp; exact own_step (fun _ k => XS.i2s X.here hx rfl hd rfl k) G
theorem g_i2c (X : Stand p l e R s m args below meth c T locs cells slots) (hx : p.tables.exec = Jvm.exec) {pc : Nat} (pc' : Nat) {Ls : Array Slot} {x : Int32} {st : List Value} (hd : decode c.code pc = .ok (.i2c, 1))  (hp : pc + 1 = pc') (G : own_Go p e below s Q K N (T.setTop (mkF m pc' Ls (.int (x.toUInt32.toUInt16.toUInt32.toInt32) :: st)))) : own_Go p e below s Q K N (T.setTop (mkF m pc Ls (.int x :: st))) := by
  subst hp; exact own_step (fun _ k => XS.i2c X.here hx rfl hd rfl k) G
theorem g_ishl (X : Stand p l e R s m args below meth c T locs cells slots) (hx : p.tables.exec = Jvm.exec) {pc : Nat} (pc' : Nat) {Ls : Array Slot} {x : Int32} {y : Int32} {st : List Value} (hd : decode c.code pc = .ok (.ishl, 1))  (hp : pc + 1 = pc') (G : own_Go p e below s Q K N (T.setTop (mkF m pc' Ls (.int (x <<< (y &&& 31)) :: st)))) : own_Go p e below s Q K N (T.setTop (mkF m pc Ls (.int y :: .int x :: st))) := by
  subst hp; exact own_step (fun _ k => XS.ishl X.here hx rfl hd rfl k) G
theorem g_ishr (X : Stand p l e R s m args below meth c T locs cells slots) (hx : p.tables.exec = Jvm.exec) {pc : Nat} (pc' : Nat) {Ls : Array Slot} {x : Int32} {y : Int32} {st : List Value} (hd : decode c.code pc = .ok (.ishr, 1))  (hp : pc + 1 = pc') (G : own_Go p e below s Q K N (T.setTop (mkF m pc' Ls (.int (x >>> (y &&& 31)) :: st)))) : own_Go p e below s Q K N (T.setTop (mkF m pc Ls (.int y :: .int x :: st))) := by
  subst hp; exact own_step (fun _ k => XS.ishr X.here hx rfl hd rfl k) G
theorem g_iushr (X : Stand p l e R s m args below meth c T locs cells slots) (hx : p.tables.exec = Jvm.exec) {pc : Nat} (pc' : Nat) {Ls : Array Slot} {x : Int32} {y : Int32} {st : List Value} (hd : decode c.code pc = .ok (.iushr, 1))  (hp : pc + 1 = pc') (G : own_Go p e below s Q K N (T.setTop (mkF m pc' Ls (.int ((x.toUInt32 >>> (y &&& 31).toUInt32).toInt32) :: st)))) : own_Go p e below s Q K N (T.setTop (mkF m pc Ls (.int y :: .int x :: st))) := by
  subst hp; exact own_step (fun _ k => XS.iushr X.here hx rfl hd rfl k) G
theorem g_lshl (X : Stand p l e R s m args below meth c T locs cells slots) (hx : p.tables.exec = Jvm.exec) {pc : Nat} (pc' : Nat) {Ls : Array Slot} {x : Int64} {y : Int32} {st : List Value} (hd : decode c.code pc = .ok (.lshl, 1))  (hp : pc + 1 = pc') (G : own_Go p e below s Q K N (T.setTop (mkF m pc' Ls (.long (x <<< (y &&& 0x3f).toInt64) :: st)))) : own_Go p e below s Q K N (T.setTop (mkF m pc Ls (.int y :: .long x :: st))) := by
  subst hp; exact own_step (fun _ k => XS.lshl X.here hx rfl hd rfl k) G
theorem g_lshr (X : Stand p l e R s m args below meth c T locs cells slots) (hx : p.tables.exec = Jvm.exec) {pc : Nat} (pc' : Nat) {Ls : Array Slot} {x : Int64} {y : Int32} {st : List Value} (hd : decode c.code pc = .ok (.lshr, 1))  (hp : pc + 1 = pc') (G : own_Go p e below s Q K N (T.setTop (mkF m pc' Ls (.long (x >>> (y &&& 0x3f).toInt64) :: st)))) : own_Go p e below s Q K N (T.setTop (mkF m pc Ls (.int y :: .long x :: st))) := by
  subst hp; exact own_step (fun _ k => XS.lshr X.here hx rfl hd rfl k) G
theorem g_lushr (X : Stand p l e R s m args below meth c T locs cells slots) (hx : p.tables.exec = Jvm.exec) {pc : Nat} (pc' : Nat) {Ls : Array Slot} {x : Int64} {y : Int32} {st : List Value} (hd : decode c.code pc = .ok (.lushr, 1))  (hp : pc + 1 = pc') (G : own_Go p e below s Q K N (T.setTop (mkF m pc' Ls (.long ((x.toUInt64 >>> (y &&& 0x3f).toInt64.toUInt64).toInt64) :: st)))) : own_Go p e below s Q K N (T.setTop (mkF m pc Ls (.int y :: .long x :: st))) := by
  subst hp; exact own_step (fun _ k => XS.lushr X.here hx rfl hd rfl k) G
theorem g_lcmp (X : Stand p l e R s m args below meth c T locs cells slots) (hx : p.tables.exec = Jvm.exec) {pc : Nat} (pc' : Nat) {Ls : Array Slot} {x y : Int64} {st : List Value} (hd : decode c.code pc = .ok (.lcmp, 1))  (hp : pc + 1 = pc') (G : own_Go p e below s Q K N (T.setTop (mkF m pc' Ls (.int (lcmpW x y) :: st)))) : own_Go p e below s Q K N (T.setTop (mkF m pc Ls (.long y :: .long x :: st))) := by
  subst hp; exact own_step (fun _ k => XS.lcmp X.here hx rfl hd rfl k) G
theorem g_idiv (X : Stand p l e R s m args below meth c T locs cells slots) (hx : p.tables.exec = Jvm.exec) {pc : Nat} (pc' : Nat) {Ls : Array Slot} {x y : Int32} {st : List Value} (hd : decode c.code pc = .ok (.idiv, 1)) (hp : pc + 1 = pc') (hy : y ≠ 0) (G : own_Go p e below s Q K N (T.setTop (mkF m pc' Ls (.int (x / y) :: st)))) : own_Go p e below s Q K N (T.setTop (mkF m pc Ls (.int y :: .int x :: st))) := by
  subst hp; exact own_step (fun _ k => XS.idiv X.here hx rfl hd rfl hy k) G
theorem g_ldiv (X : Stand p l e R s m args below meth c T locs cells slots) (hx : p.tables.exec = Jvm.exec) {pc : Nat} (pc' : Nat) {Ls : Array Slot} {x y : Int64} {st : List Value} (hd : decode c.code pc = .ok (.ldiv, 1)) (hp : pc + 1 = pc') (hy : y ≠ 0) (G : own_Go p e below s Q K N (T.setTop (mkF m pc' Ls (.long (x / y) :: st)))) : own_Go p e below s Q K N (T.setTop (mkF m pc Ls (.long y :: .long x :: st))) := by
  subst hp; exact own_step (fun _ k => XS.ldiv X.here hx rfl hd rfl hy k) G
theorem g_irem (X : Stand p l e R s m args below meth c T locs cells slots) (hx : p.tables.exec = Jvm.exec) {pc : Nat} (pc' : Nat) {Ls : Array Slot} {x y : Int32} {st : List Value} (hd : decode c.code pc = .ok (.irem, 1)) (hp : pc + 1 = pc') (hy : y ≠ 0) (G : own_Go p e below s Q K N (T.setTop (mkF m pc' Ls (.int (x % y) :: st)))) : own_Go p e below s Q K N (T.setTop (mkF m pc Ls (.int y :: .int x :: st))) := by
  subst hp; exact own_step (fun _ k => iremM X hx rfl hd rfl hy k) G
theorem g_lrem (X : Stand p l e R s m args below meth c T locs cells slots) (hx : p.tables.exec = Jvm.exec) {pc : Nat} (pc' : Nat) {Ls : Array Slot} {x y : Int64} {st : List Value} (hd : decode c.code pc = .ok (.lrem, 1)) (hp : pc + 1 = pc') (hy : y ≠ 0) (G : own_Go p e below s Q K N (T.setTop (mkF m pc' Ls (.long (x % y) :: st)))) : own_Go p e below s Q K N (T.setTop (mkF m pc Ls (.long y :: .long x :: st))) := by
  subst hp; rw [← lrem_mod] at G; exact own_step (fun _ k => XS.lrem X.here hx rfl hd rfl hy k) G
theorem g_iinc (X : Stand p l e R s m args below meth c T locs cells slots) (hx : p.tables.exec = Jvm.exec) {pc : Nat} (pc' : Nat) {Ls : Array Slot} {k : Nat} {cst : Int} {x z : Int32} {l' : Array Slot} {st : List Value} (hd : decode c.code pc = .ok (.iinc k cst, 3)) (hl : Ls[k]? = some (.val (.int x))) (hz : x + Int32.ofInt cst = z) (hl' : storeLocals Ls k (.int z) = some l') (hp : pc + 3 = pc') (G : own_Go p e below s Q K N (T.setTop (mkF m pc' l' st))) : own_Go p e below s Q K N (T.setTop (mkF m pc Ls st)) := by
  subst hp hz; exact own_step (fun _ k => XS.iinc X.here hx rfl hd hl hl' k) G
theorem g_dup (X : Stand p l e R s m args below meth c T locs cells slots) (hx : p.tables.exec = Jvm.exec) {pc : Nat} (pc' : Nat) {Ls : Array Slot} {x : Value} {st : List Value} (hd : decode c.code pc = .ok (.dup, 1)) (hc : x.category = 1) (hp : pc + 1 = pc') (G : own_Go p e below s Q K N (T.setTop (mkF m pc' Ls (x :: x :: st)))) : own_Go p e below s Q K N (T.setTop (mkF m pc Ls (x :: st))) := by
  subst hp; exact own_step (fun _ k => XS.dup X.here hx rfl hd rfl hc k) G
theorem g_pop (X : Stand p l e R s m args below meth c T locs cells slots) (hx : p.tables.exec = Jvm.exec) {pc : Nat} (pc' : Nat) {Ls : Array Slot} {x : Value} {st : List Value} (hd : decode c.code pc = .ok (.pop, 1)) (hc : x.category = 1) (hp : pc + 1 = pc') (G : own_Go p e below s Q K N (T.setTop (mkF m pc' Ls (st)))) : own_Go p e below s Q K N (T.setTop (mkF m pc Ls (x :: st))) := by
  subst hp; exact own_step (fun _ k => XS.pop X.here hx rfl hd rfl hc k) G
theorem g_dup_x1 (X : Stand p l e R s m args below meth c T locs cells slots) (hx : p.tables.exec = Jvm.exec) {pc : Nat} (pc' : Nat) {Ls : Array Slot} {x y : Value} {st : List Value} (hd : decode c.code pc = .ok (.dup_x1, 1)) (hc : x.category = 1) (hc' : y.category = 1) (hp : pc + 1 = pc') (G : own_Go p e below s Q K N (T.setTop (mkF m pc' Ls (x :: y :: x :: st)))) : own_Go p e below s Q K N (T.setTop (mkF m pc Ls (x :: y :: st))) := by
  subst hp; exact own_step (fun _ k => XS.dupX1 X.here hx rfl hd rfl hc hc' k) G
theorem g_dup2 (X : Stand p l e R s m args below meth c T locs cells slots) (hx : p.tables.exec = Jvm.exec) {pc : Nat} (pc' : Nat) {Ls : Array Slot} {x y : Value} {st : List Value} (hd : decode c.code pc = .ok (.dup2, 1)) (hc : x.category = 1) (hc' : y.category = 1) (hp : pc + 1 = pc') (G : own_Go p e below s Q K N (T.setTop (mkF m pc' Ls (x :: y :: x :: y :: st)))) : own_Go p e below s Q K N (T.setTop (mkF m pc Ls (x :: y :: st))) := by
  subst hp; exact own_step (fun _ k => XT.dup2 X.here hx rfl hd rfl hc hc' k) G
theorem g_dup2L (X : Stand p l e R s m args below meth c T locs cells slots) (hx : p.tables.exec = Jvm.exec) {pc : Nat} (pc' : Nat) {Ls : Array Slot} {x : Int64} {st : List Value} (hd : decode c.code pc = .ok (.dup2, 1))  (hp : pc + 1 = pc') (G : own_Go p e below s Q K N (T.setTop (mkF m pc' Ls (.long x :: .long x :: st)))) : own_Go p e below s Q K N (T.setTop (mkF m pc Ls (.long x :: st))) := by
  subst hp; exact own_step (fun _ k => XT.dup2L X.here hx rfl hd rfl k) G
theorem g_goto (X : Stand p l e R s m args below meth c T locs cells slots) (hx : p.tables.exec = Jvm.exec) {pc : Nat} (pc' : Nat) {Ls : Array Slot} {o : Int} {st : List Value} (hd : decode c.code pc = .ok (.goto o, 3)) (ho : 0 ≤ (pc : Int) + o) (hp : ((pc : Int) + o).toNat = pc') (G : own_Go p e below s Q K N (T.setTop (mkF m pc' Ls st))) : own_Go p e below s Q K N (T.setTop (mkF m pc Ls st)) :=
  own_step (fun _ k => XS.goto X.here hx rfl rfl hd ho hp k) G
theorem g_ifYes (X : Stand p l e R s m args below meth c T locs cells slots) (hx : p.tables.exec = Jvm.exec) {pc : Nat} (pc' : Nat) {Ls : Array Slot} {cd : ClassFile.Cond} {x : Int32} {o : Int} {st : List Value} (hd : decode c.code pc = .ok (.ifCond cd o, 3)) (hc : ifCond.holds cd x = true) (ho : 0 ≤ (pc : Int) + o) (hp : ((pc : Int) + o).toNat = pc') (G : own_Go p e below s Q K N (T.setTop (mkF m pc' Ls st))) : own_Go p e below s Q K N (T.setTop (mkF m pc Ls (.int x :: st))) :=
  own_step (fun _ k => XS.ifYes X.here hx rfl rfl hd rfl hc ho hp k) G
theorem g_ifNo (X : Stand p l e R s m args below meth c T locs cells slots) (hx : p.tables.exec = Jvm.exec) {pc : Nat} (pc' : Nat) {Ls : Array Slot} {cd : ClassFile.Cond} {x : Int32} {o : Int} {st : List Value} (hd : decode c.code pc = .ok (.ifCond cd o, 3)) (hc : ifCond.holds cd x = false) (hp : pc + 3 = pc') (G : own_Go p e below s Q K N (T.setTop (mkF m pc' Ls st))) : own_Go p e below s Q K N (T.setTop (mkF m pc Ls (.int x :: st))) := by
  subst hp; exact own_step (fun _ k => XS.ifNo X.here hx rfl hd rfl hc k) G
theorem g_icmpYes (X : Stand p l e R s m args below meth c T locs cells slots) (hx : p.tables.exec = Jvm.exec) {pc : Nat} (pc' : Nat) {Ls : Array Slot} {cd : ClassFile.Cond} {x y : Int32} {o : Int} {st : List Value} (hd : decode c.code pc = .ok (.if_icmp cd o, 3)) (hc : if_icmp.holds cd x y = true) (ho : 0 ≤ (pc : Int) + o) (hp : ((pc : Int) + o).toNat = pc') (G : own_Go p e below s Q K N (T.setTop (mkF m pc' Ls st))) : own_Go p e below s Q K N (T.setTop (mkF m pc Ls (.int y :: .int x :: st))) :=
  own_step (fun _ k => XS.icmpYes X.here hx rfl rfl hd rfl hc ho hp k) G
theorem g_icmpNo (X : Stand p l e R s m args below meth c T locs cells slots) (hx : p.tables.exec = Jvm.exec) {pc : Nat} (pc' : Nat) {Ls : Array Slot} {cd : ClassFile.Cond} {x y : Int32} {o : Int} {st : List Value} (hd : decode c.code pc = .ok (.if_icmp cd o, 3)) (hc : if_icmp.holds cd x y = false) (hp : pc + 3 = pc') (G : own_Go p e below s Q K N (T.setTop (mkF m pc' Ls st))) : own_Go p e below s Q K N (T.setTop (mkF m pc Ls (.int y :: .int x :: st))) := by
  subst hp; exact own_step (fun _ k => XS.icmpNo X.here hx rfl hd rfl hc k) G
theorem g_ifnullYes (X : Stand p l e R s m args below meth c T locs cells slots) (hx : p.tables.exec = Jvm.exec) {pc : Nat} (pc' : Nat) {Ls : Array Slot} {o : Int} {st : List Value} (hd : decode c.code pc = .ok (.ifnull o, 3)) (ho : 0 ≤ (pc : Int) + o) (hp : ((pc : Int) + o).toNat = pc') (G : own_Go p e below s Q K N (T.setTop (mkF m pc' Ls st))) : own_Go p e below s Q K N (T.setTop (mkF m pc Ls (.null :: st))) :=
  own_step (fun _ k => XS.ifnullYes X.here hx rfl rfl hd rfl ho hp k) G
theorem g_ifnullNo (X : Stand p l e R s m args below meth c T locs cells slots) (hx : p.tables.exec = Jvm.exec) {pc : Nat} (pc' : Nat) {Ls : Array Slot} {b : Addr} {o : Int} {st : List Value} (hd : decode c.code pc = .ok (.ifnull o, 3)) (hp : pc + 3 = pc') (G : own_Go p e below s Q K N (T.setTop (mkF m pc' Ls st))) : own_Go p e below s Q K N (T.setTop (mkF m pc Ls (.ref b :: st))) := by
  subst hp; exact own_step (fun _ k => XS.ifnullNo X.here hx rfl hd rfl k) G
theorem g_ifnonnullYes (X : Stand p l e R s m args below meth c T locs cells slots) (hx : p.tables.exec = Jvm.exec) {pc : Nat} (pc' : Nat) {Ls : Array Slot} {b : Addr} {o : Int} {st : List Value} (hd : decode c.code pc = .ok (.ifnonnull o, 3)) (ho : 0 ≤ (pc : Int) + o) (hp : ((pc : Int) + o).toNat = pc') (G : own_Go p e below s Q K N (T.setTop (mkF m pc' Ls st))) : own_Go p e below s Q K N (T.setTop (mkF m pc Ls (.ref b :: st))) :=
  own_step (fun _ k => XS.ifnonnullYes X.here hx rfl rfl hd rfl ho hp k) G
theorem g_ifnonnullNo (X : Stand p l e R s m args below meth c T locs cells slots) (hx : p.tables.exec = Jvm.exec) {pc : Nat} (pc' : Nat) {Ls : Array Slot} {o : Int} {st : List Value} (hd : decode c.code pc = .ok (.ifnonnull o, 3)) (hp : pc + 3 = pc') (G : own_Go p e below s Q K N (T.setTop (mkF m pc' Ls st))) : own_Go p e below s Q K N (T.setTop (mkF m pc Ls (.null :: st))) := by
  subst hp; exact own_step (fun _ k => XS.ifnonnullNo X.here hx rfl hd rfl k) G
theorem g_acmp (X : Stand p l e R s m args below meth c T locs cells slots) (hx : p.tables.exec = Jvm.exec) {pc : Nat} {Ls : Array Slot} {cd : ACond} {x y : Value} {o : Int} {st : List Value} {same : Bool} (pc' : Nat) (hd : decode c.code pc = .ok (.if_acmp cd o, 3)) (h1 : x.isRef = true) (h2 : y.isRef = true) (hq : decide (x = y) = same) (ho : 0 ≤ (pc : Int) + o) (hp : pc' = if acV cd same = true then ((pc : Int) + o).toNat else pc + 3) (G : own_Go p e below s Q K N (T.setTop (mkF m pc' Ls st))) : own_Go p e below s Q K N (T.setTop (mkF m pc Ls (y :: x :: st))) :=
  own_step (fun _ k => Jvm.RoadKit.acmp X hx rfl h1 h2 rfl hd rfl hq ho hp k) G
theorem g_ldc (X : Stand p l e R s m args below meth c T locs cells slots) (hx : p.tables.exec = Jvm.exec) {own : String} (hown : s.vm.findClass own = some m.cls) {pc : Nat} (pc' : Nat) {Ls : Array Slot} {i : Nat} {z : Int32} {st : List Value} (hw : (Jvm.Cond.constant own i z).before args s = true) (hd : decode c.code pc = .ok (.ldc i, 2)) (hp : pc + 2 = pc') (G : own_Go p e below s Q K N (T.setTop (mkF m pc' Ls (.int z :: st)))) : own_Go p e below s Q K N (T.setTop (mkF m pc Ls st)) := by
  subst hp; exact own_step (fun _ k => X.ldcInt hx hown hw (g := mkF m pc Ls st) rfl hd _ k) G
theorem g_ldc_w (X : Stand p l e R s m args below meth c T locs cells slots) (hx : p.tables.exec = Jvm.exec) {own : String} (hown : s.vm.findClass own = some m.cls) {pc : Nat} (pc' : Nat) {Ls : Array Slot} {i : Nat} {z : Int32} {st : List Value} (hw : (Jvm.Cond.constant own i z).before args s = true) (hd : decode c.code pc = .ok (.ldc_w i, 3)) (hp : pc + 3 = pc') (G : own_Go p e below s Q K N (T.setTop (mkF m pc' Ls (.int z :: st)))) : own_Go p e below s Q K N (T.setTop (mkF m pc Ls st)) := by
  subst hp; exact own_step (fun _ k => X.ldcwInt hx hown hw (g := mkF m pc Ls st) rfl hd _ k) G
theorem g_ldc2_w (X : Stand p l e R s m args below meth c T locs cells slots) (hx : p.tables.exec = Jvm.exec) {own : String} (hown : s.vm.findClass own = some m.cls) {pc : Nat} (pc' : Nat) {Ls : Array Slot} {i : Nat} {z : Int64} {st : List Value} (hw : (Jvm.Cond.constantLong own i z).before args s = true) (hd : decode c.code pc = .ok (.ldc2_w i, 3)) (hp : pc + 3 = pc') (G : own_Go p e below s Q K N (T.setTop (mkF m pc' Ls (.long z :: st)))) : own_Go p e below s Q K N (T.setTop (mkF m pc Ls st)) := by
  subst hp; exact own_step (fun _ k => X.ldc2Long hx hown hw (g := mkF m pc Ls st) rfl hd _ k) G
theorem g_tswIn (X : Stand p l e R s m args below meth c T locs cells slots) (hx : p.tables.exec = Jvm.exec) {pc : Nat} (pc' : Nat) {Ls : Array Slot} {dflt low high : Int} {offs : Array Int} {len : Nat} {o : Int} {i : Int32} {st : List Value} (hd : decode c.code pc = .ok (.tableswitch dflt low high offs, len)) (hin : ¬ (i.toInt < low ∨ i.toInt > high)) (hoff : offs[(i.toInt - low).toNat]? = some o) (ho : 0 ≤ (pc : Int) + o) (hp : ((pc : Int) + o).toNat = pc') (G : own_Go p e below s Q K N (T.setTop (mkF m pc' Ls st))) : own_Go p e below s Q K N (T.setTop (mkF m pc Ls (.int i :: st))) :=
  own_step (fun _ k => XS.tswIn X.here hx rfl rfl hd rfl hin hoff ho hp k) G
theorem g_tswOut (X : Stand p l e R s m args below meth c T locs cells slots) (hx : p.tables.exec = Jvm.exec) {pc : Nat} (pc' : Nat) {Ls : Array Slot} {dflt low high : Int} {offs : Array Int} {len : Nat} {i : Int32} {st : List Value} (hd : decode c.code pc = .ok (.tableswitch dflt low high offs, len)) (hout : i.toInt < low ∨ i.toInt > high) (ho : 0 ≤ (pc : Int) + dflt) (hp : ((pc : Int) + dflt).toNat = pc') (G : own_Go p e below s Q K N (T.setTop (mkF m pc' Ls st))) : own_Go p e below s Q K N (T.setTop (mkF m pc Ls (.int i :: st))) :=
  own_step (fun _ k => XS.tswOut X.here hx rfl rfl hd rfl hout ho hp k) G
theorem own_ii_eq_t {x y : Int32} (h : x = y) : if_icmp.holds .eq x y = true := XT.ii_eq_t h
theorem own_i0_eq_t {x : Int32} (h : x = 0) : ifCond.holds .eq x = true := XT.i0_eq_t h
theorem own_ll_eq_t {x y : Int64} (h : x = y) : ifCond.holds .eq (lcmpW x y) = true := XT.ll_eq_t h
theorem own_ii_eq_f {x y : Int32} (h : ¬ (x = y)) : if_icmp.holds .eq x y = false := XT.ii_eq_f h
theorem own_i0_eq_f {x : Int32} (h : ¬ (x = 0)) : ifCond.holds .eq x = false := XT.i0_eq_f h
theorem own_ll_eq_f {x y : Int64} (h : ¬ (x = y)) : ifCond.holds .eq (lcmpW x y) = false := XT.ll_eq_f h
theorem own_ii_ne_t {x y : Int32} (h : ¬ (x = y)) : if_icmp.holds .ne x y = true := XT.ii_ne_t h
theorem own_i0_ne_t {x : Int32} (h : ¬ (x = 0)) : ifCond.holds .ne x = true := XT.i0_ne_t h
theorem own_ll_ne_t {x y : Int64} (h : ¬ (x = y)) : ifCond.holds .ne (lcmpW x y) = true := XT.ll_ne_t h
theorem own_ii_ne_f {x y : Int32} (h : x = y) : if_icmp.holds .ne x y = false := XT.ii_ne_f h
theorem own_i0_ne_f {x : Int32} (h : x = 0) : ifCond.holds .ne x = false := XT.i0_ne_f h
theorem own_ll_ne_f {x y : Int64} (h : x = y) : ifCond.holds .ne (lcmpW x y) = false := XT.ll_ne_f h
theorem own_ii_lt_t {x y : Int32} (h : x < y) : if_icmp.holds .lt x y = true := XT.ii_lt_t h
theorem own_i0_lt_t {x : Int32} (h : x < 0) : ifCond.holds .lt x = true := XT.i0_lt_t h
theorem own_ll_lt_t {x y : Int64} (h : x < y) : ifCond.holds .lt (lcmpW x y) = true := XT.ll_lt_t h
theorem own_ii_lt_f {x y : Int32} (h : ¬ (x < y)) : if_icmp.holds .lt x y = false := XT.ii_lt_f h
theorem own_i0_lt_f {x : Int32} (h : ¬ (x < 0)) : ifCond.holds .lt x = false := XT.i0_lt_f h
theorem own_ll_lt_f {x y : Int64} (h : ¬ (x < y)) : ifCond.holds .lt (lcmpW x y) = false := XT.ll_lt_f h
theorem own_ii_ge_t {x y : Int32} (h : ¬ (x < y)) : if_icmp.holds .ge x y = true := XT.ii_ge_t h
theorem own_i0_ge_t {x : Int32} (h : ¬ (x < 0)) : ifCond.holds .ge x = true := XT.i0_ge_t h
theorem own_ll_ge_t {x y : Int64} (h : ¬ (x < y)) : ifCond.holds .ge (lcmpW x y) = true := XT.ll_ge_t h
theorem own_ii_ge_f {x y : Int32} (h : x < y) : if_icmp.holds .ge x y = false := XT.ii_ge_f h
theorem own_i0_ge_f {x : Int32} (h : x < 0) : ifCond.holds .ge x = false := XT.i0_ge_f h
theorem own_ll_ge_f {x y : Int64} (h : x < y) : ifCond.holds .ge (lcmpW x y) = false := XT.ll_ge_f h
theorem own_ii_gt_t {x y : Int32} (h : y < x) : if_icmp.holds .gt x y = true := XT.ii_gt_t h
theorem own_i0_gt_t {x : Int32} (h : 0 < x) : ifCond.holds .gt x = true := XT.i0_gt_t h
theorem own_ll_gt_t {x y : Int64} (h : y < x) : ifCond.holds .gt (lcmpW x y) = true := XT.ll_gt_t h
theorem own_ii_gt_f {x y : Int32} (h : ¬ (y < x)) : if_icmp.holds .gt x y = false := XT.ii_gt_f h
theorem own_i0_gt_f {x : Int32} (h : ¬ (0 < x)) : ifCond.holds .gt x = false := XT.i0_gt_f h
theorem own_ll_gt_f {x y : Int64} (h : ¬ (y < x)) : ifCond.holds .gt (lcmpW x y) = false := XT.ll_gt_f h
theorem own_ii_le_t {x y : Int32} (h : ¬ (y < x)) : if_icmp.holds .le x y = true := XT.ii_le_t h
theorem own_i0_le_t {x : Int32} (h : ¬ (0 < x)) : ifCond.holds .le x = true := XT.i0_le_t h
theorem own_ll_le_t {x y : Int64} (h : ¬ (y < x)) : ifCond.holds .le (lcmpW x y) = true := XT.ll_le_t h
theorem own_ii_le_f {x y : Int32} (h : y < x) : if_icmp.holds .le x y = false := XT.ii_le_f h
theorem own_i0_le_f {x : Int32} (h : 0 < x) : ifCond.holds .le x = false := XT.i0_le_f h
theorem own_ll_le_f {x y : Int64} (h : y < x) : ifCond.holds .le (lcmpW x y) = false := XT.ll_le_f h
theorem own_getF (X : Stand p l e R s m args below meth c T locs cells slots) (hx : p.tables.exec = Jvm.exec) {Z : State} {a0 : Array Value} {h : Heap} (hZ : Z.Warmed39 s.vm) {own : String} (hown : s.vm.findClass own = some m.cls) {R0 O n d host : String} {index : Nat} (w : (Jvm.Cond.fieldLink own index R0 n d).before a0 Z = true ∨ (Jvm.Cond.fieldLinkNest own index R0 n d host).before a0 Z = true) (via : Via Z R0 O n d) (eT : T.heap = h) {a : Addr} {v : Value} (F : Fld Z h a O n d v) {pc : Nat} (pc' : Nat) {Ls : Array Slot} {rest : List Value} (hd : decode c.code pc = .ok (.getfield index, 3)) (hp : pc + 3 = pc') (k : ∀ T', Stand p l e R s m args below meth c T' locs cells slots → T'.heap = h → own_Go p e below s Q K N (T'.setTop (mkF m pc' Ls (v :: rest)))) : own_Go p e below s Q K N (T.setTop (mkF m pc Ls (.ref a :: rest))) := by
  subst hp
  obtain ⟨T', X', e', st⟩ := getF X hx hZ hown w via eT F (g := mkF m pc Ls (.ref a :: rest)) rfl rfl hd
  exact own_step st (k T' X' e')
theorem own_getS (X : Stand p l e R s m args below meth c T locs cells slots) (hx : p.tables.exec = Jvm.exec) {Z : State} {a0 : Array Value} {h : Heap} (hZ : Z.Warmed39 s.vm) {own : String} (hown : s.vm.findClass own = some m.cls) {R0 O n d host : String} {index : Nat} (w : (Jvm.Cond.fieldLink own index R0 n d).before a0 Z = true ∨ (Jvm.Cond.fieldLinkNest own index R0 n d host).before a0 Z = true) (via : Via Z R0 O n d) (eT : T.heap = h) {v : Value} (F : Sta Z h O n d v) {pc : Nat} (pc' : Nat) {Ls : Array Slot} {rest : List Value} (hd : decode c.code pc = .ok (.getstatic index, 3)) (hp : pc + 3 = pc') (k : ∀ T', Stand p l e R s m args below meth c T' locs cells slots → T'.heap = h → own_Go p e below s Q K N (T'.setTop (mkF m pc' Ls (v :: rest)))) : own_Go p e below s Q K N (T.setTop (mkF m pc Ls rest)) := by
  subst hp
  obtain ⟨T', X', e', st⟩ := getS2 X hx hZ hown w via eT F (g := mkF m pc Ls rest) rfl hd
  exact own_step st (k T' X' e')
theorem own_putF (X : Stand p l e R s m args below meth c T locs cells slots) (hx : p.tables.exec = Jvm.exec) {Z : State} {a0 : Array Value} {h : Heap} (hZ : Z.Warmed39 s.vm) {own : String} (hown : s.vm.findClass own = some m.cls) {R0 O n d host : String} {index : Nat} (w : (Jvm.Cond.fieldLink own index R0 n d).before a0 Z = true ∨ (Jvm.Cond.fieldLinkNest own index R0 n d host).before a0 Z = true) (via : Via Z R0 O n d) (eT : T.heap = h) {a : Addr} {v old : Value} (F : Fld Z h a O n d old) {C : String} {kk : Nat} {ty : FieldType} (E : Exa Z h a C) (L : (Jvm.Cond.lays C O n d).before a0 Z = true ∨ ((Jvm.Cond.laysFinal C O n d).before a0 Z = true ∧ own = O ∧ meth.name = "<init>")) (wi : (Jvm.Cond.instantiable C kk).before a0 Z = true) (hty : parseFieldDescriptor d = some ty) (hn : narrow ty v = v) (hf : fits ty v = true) {pc : Nat} (pc' : Nat) {Ls : Array Slot} {rest : List Value} (hd : decode c.code pc = .ok (.putfield index, 3)) (hp : pc + 3 = pc') (k : ∀ T' h', Stand p l e R s m args below meth c T' (locs ++ [⟨a, Jvm.RoadKit.slotOf Z O n d⟩]) cells slots → T'.heap = h' → Wr h h' a (Jvm.RoadKit.slotOf Z O n d) v → own_Go p e below s Q K N (T'.setTop (mkF m pc' Ls rest))) : own_Go p e below s Q K N (T.setTop (mkF m pc Ls (v :: .ref a :: rest))) := by
  subst hp
  obtain ⟨T', h', X', e', W', st⟩ := putF X hx hZ hown w via eT F E L wi hty hn hf (g := mkF m pc Ls (v :: .ref a :: rest)) rfl rfl hd
  exact own_step st (k T' h' X' e' W')
theorem own_putFN (X : Stand p l e R s m args below meth c T locs cells slots) (hx : p.tables.exec = Jvm.exec) {Z : State} {a0 : Array Value} {h : Heap} (hZ : Z.Warmed39 s.vm) {own : String} (hown : s.vm.findClass own = some m.cls) {R0 O n d : String} {index : Nat} (w : (Jvm.Cond.fieldLink own index R0 n d).before a0 Z = true) (via : Via Z R0 O n d) (eT : T.heap = h) {a : Addr} {v old : Value} (v' : Value) (F : Fld Z h a O n d old) {C : String} {kk : Nat} {ty : FieldType} (E : Exa Z h a C) (L : (Jvm.Cond.lays C O n d).before a0 Z = true ∨ ((Jvm.Cond.laysFinal C O n d).before a0 Z = true ∧ own = O ∧ meth.name = "<init>")) (wi : (Jvm.Cond.instantiable C kk).before a0 Z = true) (hty : parseFieldDescriptor d = some ty) (hn : narrow ty v = v') (hf : fits ty v' = true) {pc : Nat} (pc' : Nat) {Ls : Array Slot} {rest : List Value} (hd : decode c.code pc = .ok (.putfield index, 3)) (hp : pc + 3 = pc') (k : ∀ T' h', Stand p l e R s m args below meth c T' (locs ++ [⟨a, Jvm.RoadKit.slotOf Z O n d⟩]) cells slots → T'.heap = h' → Wr h h' a (Jvm.RoadKit.slotOf Z O n d) v' → own_Go p e below s Q K N (T'.setTop (mkF m pc' Ls rest))) : own_Go p e below s Q K N (T.setTop (mkF m pc Ls (v :: .ref a :: rest))) := by
  subst hp
  obtain ⟨T', h', X', e', W', st⟩ := putFN X hx hZ hown w via eT F E L wi hty hn hf (g := mkF m pc Ls (v :: .ref a :: rest)) rfl rfl hd
  exact own_step st (k T' h' X' e' W')
theorem own_newO (X : Stand p l e R s m args below meth c T locs cells slots) (hx : p.tables.exec = Jvm.exec) {Z : State} {a0 : Array Value} {h : Heap} (hZ : Z.Warmed39 s.vm) {own : String} (hown : s.vm.findClass own = some m.cls) {C : String} {index n : Nat} (w : (Jvm.Cond.classLink own index C).before a0 Z = true) (wi : (Jvm.Cond.instantiable C n).before a0 Z = true) (wz : (Jvm.Cond.initialized C).before a0 Z = true) (eT : T.heap = h) {pc : Nat} (pc' : Nat) {Ls : Array Slot} {rest : List Value} (hd : decode c.code pc = .ok (.new index, 3)) (hp : pc + 3 = pc') (hc : cells + 1 ≤ R.cells) (hl : slots + n ≤ R.slots)
    (k : ∀ T' h' b, Stand p l e R s m args below meth c T' locs (cells + 1) (slots + n) → T'.heap = h' → b = h.size → Ext h h' → Exa Z h' b C → (∀ {O nm d : String} {ty : FieldType}, Laid Z a0 C O nm d → parseFieldDescriptor d = some ty → Fld Z h' b O nm d (defaultValue ty)) → own_Go p e below s Q K N (T'.setTop (mkF m pc' Ls (.ref b :: rest)))) : own_Go p e below s Q K N (T.setTop (mkF m pc Ls rest)) := by
  subst hp
  obtain ⟨T', h', X', e', E', A', D', -, st⟩ := newO X hx hZ hown w wi wz eT (g := mkF m pc Ls rest) rfl hd hc hl
  exact own_step st (k T' h' _ X' e' rfl E' A' D')
theorem own_newP (X : Stand p l e R s m args below meth c T locs cells slots) (hx : p.tables.exec = Jvm.exec) {Z : State} {a0 : Array Value} {h : Heap} (hZ : Z.Warmed39 s.vm) {aty : ArrayType} (w : (Jvm.Cond.arrayClass (newarray.typeOf aty)).before a0 Z = true) (eT : T.heap = h) {n : Int32} {pc : Nat} (pc' : Nat) {Ls : Array Slot} {rest : List Value} (hd : decode c.code pc = .ok (.newarray aty, 2)) (hp : pc + 2 = pc') (hn : ¬ n < 0) (cap : Nat) (hcap : n.toNatClampNeg ≤ cap) (hb : cap * 8 ≤ 536870912) (hc : cells + 1 ≤ R.cells) (hl : slots + cap ≤ R.slots)
    (k : ∀ T' h' cA b, Stand p l e R s m args below meth c T' locs (cells + 1) (slots + cap) → T'.heap = h' → b = h.size → Ext h h' → Arr Z h' b (newA cA (newarray.typeOf aty) n) (newarray.typeOf aty) → own_Go p e below s Q K N (T'.setTop (mkF m pc' Ls (.ref b :: rest)))) : own_Go p e below s Q K N (T.setTop (mkF m pc Ls (.int n :: rest))) := by
  subst hp
  obtain ⟨T', h', cA, X', e', E', A', st⟩ := newP X hx hZ w eT (g := mkF m pc Ls (.int n :: rest)) rfl hd rfl hn hcap hb hc hl
  exact own_step st (k T' h' cA _ X' e' rfl E' A')
theorem own_newR (X : Stand p l e R s m args below meth c T locs cells slots) (hx : p.tables.exec = Jvm.exec) {Z : State} {a0 : Array Value} {h : Heap} (hZ : Z.Warmed39 s.vm) {own : String} (hown : s.vm.findClass own = some m.cls) {C : String} {index : Nat} (w1 : (Jvm.Cond.classLink own index C).before a0 Z = true) (w2 : (Jvm.Cond.arrayOver (.object C)).before a0 Z = true) (eT : T.heap = h) {n : Int32} {pc : Nat} (pc' : Nat) {Ls : Array Slot} {rest : List Value} (hd : decode c.code pc = .ok (.anewarray index, 3)) (hp : pc + 3 = pc') (hn : ¬ n < 0) (cap : Nat) (hcap : n.toNatClampNeg ≤ cap) (hb : cap * 8 ≤ 536870912) (hc : cells + 1 ≤ R.cells) (hl : slots + cap ≤ R.slots)
    (k : ∀ T' h' cA b, Stand p l e R s m args below meth c T' locs (cells + 1) (slots + cap) → T'.heap = h' → b = h.size → Ext h h' → Arr Z h' b (newA cA (.object C) n) (.object C) → Ovr Z cA C → own_Go p e below s Q K N (T'.setTop (mkF m pc' Ls (.ref b :: rest)))) : own_Go p e below s Q K N (T.setTop (mkF m pc Ls (.int n :: rest))) := by
  subst hp
  obtain ⟨T', h', cA, X', e', E', A', O', st⟩ := newR X hx hZ hown w1 w2 eT (g := mkF m pc Ls (.int n :: rest)) rfl hd rfl hn hcap hb hc hl
  exact own_step st (k T' h' cA _ X' e' rfl E' A' O')
theorem own_stI (X : Stand p l e R s m args below meth c T locs cells slots) (hx : p.tables.exec = Jvm.exec) {Z : State} {h : Heap} (hZ : Z.Warmed39 s.vm) (eT : T.heap = h) {a : Addr} {cl : Cell} (A : Arr Z h a cl .int) {j : Int32} {x : Int32} (hj : ¬ (j < 0 ∨ cl.slots.size ≤ j.toNatClampNeg)) {pc : Nat} (pc' : Nat) {Ls : Array Slot} {rest : List Value} (hd : decode c.code pc = .ok (.iastore, 1)) (hp : pc + 1 = pc') (k : ∀ T' h', Stand p l e R s m args below meth c T' (locs ++ [⟨a, j.toNatClampNeg⟩]) cells slots → T'.heap = h' → Wr h h' a j.toNatClampNeg (.int x) → own_Go p e below s Q K N (T'.setTop (mkF m pc' Ls rest))) : own_Go p e below s Q K N (T.setTop (mkF m pc Ls (.int x :: .int j :: .ref a :: rest))) := by
  subst hp
  obtain ⟨T', h', X', e', W', st⟩ := stI X hx hZ eT A hj (g := mkF m pc Ls (.int x :: .int j :: .ref a :: rest)) rfl rfl hd
  exact own_step st (k T' h' X' e' W')
theorem own_stC (X : Stand p l e R s m args below meth c T locs cells slots) (hx : p.tables.exec = Jvm.exec) {Z : State} {h : Heap} (hZ : Z.Warmed39 s.vm) (eT : T.heap = h) {a : Addr} {cl : Cell} (A : Arr Z h a cl .char) {j : Int32} {x : Int32} (hj : ¬ (j < 0 ∨ cl.slots.size ≤ j.toNatClampNeg)) {pc : Nat} (pc' : Nat) {Ls : Array Slot} {rest : List Value} (hd : decode c.code pc = .ok (.castore, 1)) (hp : pc + 1 = pc') (k : ∀ T' h', Stand p l e R s m args below meth c T' (locs ++ [⟨a, j.toNatClampNeg⟩]) cells slots → T'.heap = h' → Wr h h' a j.toNatClampNeg (.int (nar .char x)) → own_Go p e below s Q K N (T'.setTop (mkF m pc' Ls rest))) : own_Go p e below s Q K N (T.setTop (mkF m pc Ls (.int x :: .int j :: .ref a :: rest))) := by
  subst hp
  obtain ⟨T', h', X', e', W', st⟩ := stC X hx hZ eT A hj (g := mkF m pc Ls (.int x :: .int j :: .ref a :: rest)) rfl rfl hd
  exact own_step st (k T' h' X' e' W')
theorem own_stZ (X : Stand p l e R s m args below meth c T locs cells slots) (hx : p.tables.exec = Jvm.exec) {Z : State} {h : Heap} (hZ : Z.Warmed39 s.vm) (eT : T.heap = h) {a : Addr} {cl : Cell} (A : Arr Z h a cl .boolean) {j : Int32} {x : Int32} (hj : ¬ (j < 0 ∨ cl.slots.size ≤ j.toNatClampNeg)) {pc : Nat} (pc' : Nat) {Ls : Array Slot} {rest : List Value} (hd : decode c.code pc = .ok (.bastore, 1)) (hp : pc + 1 = pc') (k : ∀ T' h', Stand p l e R s m args below meth c T' (locs ++ [⟨a, j.toNatClampNeg⟩]) cells slots → T'.heap = h' → Wr h h' a j.toNatClampNeg (.int (nar .boolean x)) → own_Go p e below s Q K N (T'.setTop (mkF m pc' Ls rest))) : own_Go p e below s Q K N (T.setTop (mkF m pc Ls (.int x :: .int j :: .ref a :: rest))) := by
  subst hp
  obtain ⟨T', h', X', e', W', st⟩ := stZ X hx hZ eT A hj (g := mkF m pc Ls (.int x :: .int j :: .ref a :: rest)) rfl rfl hd
  exact own_step st (k T' h' X' e' W')
theorem own_stB (X : Stand p l e R s m args below meth c T locs cells slots) (hx : p.tables.exec = Jvm.exec) {Z : State} {h : Heap} (hZ : Z.Warmed39 s.vm) (eT : T.heap = h) {a : Addr} {cl : Cell} (A : Arr Z h a cl .byte) {j : Int32} {x : Int32} (hj : ¬ (j < 0 ∨ cl.slots.size ≤ j.toNatClampNeg)) {pc : Nat} (pc' : Nat) {Ls : Array Slot} {rest : List Value} (hd : decode c.code pc = .ok (.bastore, 1)) (hp : pc + 1 = pc') (k : ∀ T' h', Stand p l e R s m args below meth c T' (locs ++ [⟨a, j.toNatClampNeg⟩]) cells slots → T'.heap = h' → Wr h h' a j.toNatClampNeg (.int (nar .byte x)) → own_Go p e below s Q K N (T'.setTop (mkF m pc' Ls rest))) : own_Go p e below s Q K N (T.setTop (mkF m pc Ls (.int x :: .int j :: .ref a :: rest))) := by
  subst hp
  obtain ⟨T', h', X', e', W', st⟩ := stB X hx hZ eT A hj (g := mkF m pc Ls (.int x :: .int j :: .ref a :: rest)) rfl rfl hd
  exact own_step st (k T' h' X' e' W')
theorem own_stS (X : Stand p l e R s m args below meth c T locs cells slots) (hx : p.tables.exec = Jvm.exec) {Z : State} {h : Heap} (hZ : Z.Warmed39 s.vm) (eT : T.heap = h) {a : Addr} {cl : Cell} (A : Arr Z h a cl .short) {j : Int32} {x : Int32} (hj : ¬ (j < 0 ∨ cl.slots.size ≤ j.toNatClampNeg)) {pc : Nat} (pc' : Nat) {Ls : Array Slot} {rest : List Value} (hd : decode c.code pc = .ok (.sastore, 1)) (hp : pc + 1 = pc') (k : ∀ T' h', Stand p l e R s m args below meth c T' (locs ++ [⟨a, j.toNatClampNeg⟩]) cells slots → T'.heap = h' → Wr h h' a j.toNatClampNeg (.int (nar .short x)) → own_Go p e below s Q K N (T'.setTop (mkF m pc' Ls rest))) : own_Go p e below s Q K N (T.setTop (mkF m pc Ls (.int x :: .int j :: .ref a :: rest))) := by
  subst hp
  obtain ⟨T', h', X', e', W', st⟩ := stS X hx hZ eT A hj (g := mkF m pc Ls (.int x :: .int j :: .ref a :: rest)) rfl rfl hd
  exact own_step st (k T' h' X' e' W')
theorem own_stJ (X : Stand p l e R s m args below meth c T locs cells slots) (hx : p.tables.exec = Jvm.exec) {Z : State} {h : Heap} (hZ : Z.Warmed39 s.vm) (eT : T.heap = h) {a : Addr} {cl : Cell} (A : Arr Z h a cl .long) {j : Int32} {x : Int64} (hj : ¬ (j < 0 ∨ cl.slots.size ≤ j.toNatClampNeg)) {pc : Nat} (pc' : Nat) {Ls : Array Slot} {rest : List Value} (hd : decode c.code pc = .ok (.lastore, 1)) (hp : pc + 1 = pc') (k : ∀ T' h', Stand p l e R s m args below meth c T' (locs ++ [⟨a, j.toNatClampNeg⟩]) cells slots → T'.heap = h' → Wr h h' a j.toNatClampNeg (.long x) → own_Go p e below s Q K N (T'.setTop (mkF m pc' Ls rest))) : own_Go p e below s Q K N (T.setTop (mkF m pc Ls (.long x :: .int j :: .ref a :: rest))) := by
  subst hp
  obtain ⟨T', h', X', e', W', st⟩ := stJ X hx hZ eT A hj (g := mkF m pc Ls (.long x :: .int j :: .ref a :: rest)) rfl rfl hd
  exact own_step st (k T' h' X' e' W')
theorem own_stR (X : Stand p l e R s m args below meth c T locs cells slots) (hx : p.tables.exec = Jvm.exec) {Z : State} {h : Heap} (hZ : Z.Warmed39 s.vm) (eT : T.heap = h) {a : Addr} {cl : Cell} {ty : FieldType} (A : Arr Z h a cl ty) {j : Int32} {v : Value} (hj : ¬ (j < 0 ∨ cl.slots.size ≤ j.toNatClampNeg)) (hty : ty.isReference = true) (F : Sto Z h a v) {pc : Nat} (pc' : Nat) {Ls : Array Slot} {rest : List Value} (hd : decode c.code pc = .ok (.aastore, 1)) (hp : pc + 1 = pc') (k : ∀ T' h', Stand p l e R s m args below meth c T' (locs ++ [⟨a, j.toNatClampNeg⟩]) cells slots → T'.heap = h' → Wr h h' a j.toNatClampNeg v → own_Go p e below s Q K N (T'.setTop (mkF m pc' Ls rest))) : own_Go p e below s Q K N (T.setTop (mkF m pc Ls (v :: .int j :: .ref a :: rest))) := by
  subst hp
  obtain ⟨T', h', X', e', W', st⟩ := stR X hx hZ eT A hj hty F (g := mkF m pc Ls (v :: .int j :: .ref a :: rest)) rfl rfl hd
  exact own_step st (k T' h' X' e' W')
theorem own_iaload (X : Stand p l e R s m args below meth c T locs cells slots) (hx : p.tables.exec = Jvm.exec) {Z : State} {h : Heap} (hZ : Z.Warmed39 s.vm) (eT : T.heap = h) {a : Addr} {cl : Cell} (A : Arr Z h a cl .int) {j : Int32} {v : Value} (hj : ¬ (j < 0 ∨ cl.slots.size ≤ j.toNatClampNeg)) (hv : cl.slots[j.toNatClampNeg]? = some v) {pc : Nat} (pc' : Nat) {Ls : Array Slot} {rest : List Value} (hd : decode c.code pc = .ok (.iaload, 1)) (hp : pc + 1 = pc') (G : own_Go p e below s Q K N (T.setTop (mkF m pc' Ls (v :: rest)))) : own_Go p e below s Q K N (T.setTop (mkF m pc Ls (.int j :: .ref a :: rest))) := by
  subst hp eT
  exact own_step (X.iaload hx (j := j) (v := v) A.1 (State.isArrayOf_alike hZ.alike A.2.1) A.2.2 hj hv (g := mkF m pc Ls (.int j :: .ref a :: rest)) rfl rfl hd) G
theorem own_caload (X : Stand p l e R s m args below meth c T locs cells slots) (hx : p.tables.exec = Jvm.exec) {Z : State} {h : Heap} (hZ : Z.Warmed39 s.vm) (eT : T.heap = h) {a : Addr} {cl : Cell} (A : Arr Z h a cl .char) {j : Int32} {v : Value} (hj : ¬ (j < 0 ∨ cl.slots.size ≤ j.toNatClampNeg)) (hv : cl.slots[j.toNatClampNeg]? = some v) {pc : Nat} (pc' : Nat) {Ls : Array Slot} {rest : List Value} (hd : decode c.code pc = .ok (.caload, 1)) (hp : pc + 1 = pc') (G : own_Go p e below s Q K N (T.setTop (mkF m pc' Ls (v :: rest)))) : own_Go p e below s Q K N (T.setTop (mkF m pc Ls (.int j :: .ref a :: rest))) := by
  subst hp eT
  exact own_step (X.caload hx (j := j) (v := v) A.1 (State.isArrayOf_alike hZ.alike A.2.1) A.2.2 hj hv (g := mkF m pc Ls (.int j :: .ref a :: rest)) rfl rfl hd) G
theorem own_laload (X : Stand p l e R s m args below meth c T locs cells slots) (hx : p.tables.exec = Jvm.exec) {Z : State} {h : Heap} (hZ : Z.Warmed39 s.vm) (eT : T.heap = h) {a : Addr} {cl : Cell} (A : Arr Z h a cl .long) {j : Int32} {v : Value} (hj : ¬ (j < 0 ∨ cl.slots.size ≤ j.toNatClampNeg)) (hv : cl.slots[j.toNatClampNeg]? = some v) {pc : Nat} (pc' : Nat) {Ls : Array Slot} {rest : List Value} (hd : decode c.code pc = .ok (.laload, 1)) (hp : pc + 1 = pc') (G : own_Go p e below s Q K N (T.setTop (mkF m pc' Ls (v :: rest)))) : own_Go p e below s Q K N (T.setTop (mkF m pc Ls (.int j :: .ref a :: rest))) := by
  subst hp eT
  exact own_step (X.laload hx (j := j) (v := v) A.1 (State.isArrayOf_alike hZ.alike A.2.1) A.2.2 hj hv (g := mkF m pc Ls (.int j :: .ref a :: rest)) rfl rfl hd) G
theorem own_baloadB (X : Stand p l e R s m args below meth c T locs cells slots) (hx : p.tables.exec = Jvm.exec) {Z : State} {h : Heap} (hZ : Z.Warmed39 s.vm) (eT : T.heap = h) {a : Addr} {cl : Cell} (A : Arr Z h a cl .byte) {j : Int32} {v : Value} (hj : ¬ (j < 0 ∨ cl.slots.size ≤ j.toNatClampNeg)) (hv : cl.slots[j.toNatClampNeg]? = some v) {pc : Nat} (pc' : Nat) {Ls : Array Slot} {rest : List Value} (hd : decode c.code pc = .ok (.baload, 1)) (hp : pc + 1 = pc') (G : own_Go p e below s Q K N (T.setTop (mkF m pc' Ls (v :: rest)))) : own_Go p e below s Q K N (T.setTop (mkF m pc Ls (.int j :: .ref a :: rest))) := by
  subst hp eT
  exact own_step (X.baloadBytes hx (j := j) (v := v) A.1 (State.isArrayOf_alike hZ.alike A.2.1) A.2.2 hj hv (g := mkF m pc Ls (.int j :: .ref a :: rest)) rfl rfl hd) G
theorem own_baloadZ (X : Stand p l e R s m args below meth c T locs cells slots) (hx : p.tables.exec = Jvm.exec) {Z : State} {h : Heap} (hZ : Z.Warmed39 s.vm) (eT : T.heap = h) {a : Addr} {cl : Cell} (A : Arr Z h a cl .boolean) {j : Int32} {v : Value} (hj : ¬ (j < 0 ∨ cl.slots.size ≤ j.toNatClampNeg)) (hv : cl.slots[j.toNatClampNeg]? = some v) {pc : Nat} (pc' : Nat) {Ls : Array Slot} {rest : List Value} (hd : decode c.code pc = .ok (.baload, 1)) (hp : pc + 1 = pc') (G : own_Go p e below s Q K N (T.setTop (mkF m pc' Ls (v :: rest)))) : own_Go p e below s Q K N (T.setTop (mkF m pc Ls (.int j :: .ref a :: rest))) := by
  subst hp eT
  exact own_step (X.baloadBooleans hx (j := j) (v := v) A.1 (State.isArrayOf_alike hZ.alike A.2.1) A.2.2 hj hv (g := mkF m pc Ls (.int j :: .ref a :: rest)) rfl rfl hd) G
theorem own_aaload (X : Stand p l e R s m args below meth c T locs cells slots) (hx : p.tables.exec = Jvm.exec) {Z : State} {h : Heap} (hZ : Z.Warmed39 s.vm) (eT : T.heap = h) {a : Addr} {cl : Cell} {ty : FieldType} (hty : ty.isReference = true) (A : Arr Z h a cl ty) {j : Int32} {v : Value} (hj : ¬ (j < 0 ∨ cl.slots.size ≤ j.toNatClampNeg)) (hv : cl.slots[j.toNatClampNeg]? = some v) {pc : Nat} (pc' : Nat) {Ls : Array Slot} {rest : List Value} (hd : decode c.code pc = .ok (.aaload, 1)) (hp : pc + 1 = pc') (G : own_Go p e below s Q K N (T.setTop (mkF m pc' Ls (v :: rest)))) : own_Go p e below s Q K N (T.setTop (mkF m pc Ls (.int j :: .ref a :: rest))) := by
  subst hp eT
  exact own_step (X.aaload hx (j := j) (v := v) A.1 (State.isArrayOf_alike hZ.alike A.2.1) hty A.2.2 hj hv (g := mkF m pc Ls (.int j :: .ref a :: rest)) rfl rfl hd) G
theorem own_arraylength (X : Stand p l e R s m args below meth c T locs cells slots) (hx : p.tables.exec = Jvm.exec) {Z : State} {h : Heap} (hZ : Z.Warmed39 s.vm) (eT : T.heap = h) {a : Addr} {cl : Cell} {ty : FieldType} (A : Arr Z h a cl ty) {z : Int32} (hz : cl.slots.size = z.toNatClampNeg) (h0 : ¬ z < 0) {pc : Nat} (pc' : Nat) {Ls : Array Slot} {rest : List Value} (hd : decode c.code pc = .ok (.arraylength, 1)) (hp : pc + 1 = pc') (G : own_Go p e below s Q K N (T.setTop (mkF m pc' Ls (.int z :: rest)))) : own_Go p e below s Q K N (T.setTop (mkF m pc Ls (.ref a :: rest))) := by
  subst hp eT
  refine own_step (X.arraylength hx A.1 (State.isArrayOf_alike hZ.alike A.2.1) (g := mkF m pc Ls (.ref a :: rest)) rfl rfl hd) ?_
  rw [len_of hz h0]
  exact G
theorem own_initO (X : Stand p l e R s m args below meth c T locs cells slots) (hx : p.tables.exec = Jvm.exec) {Z : State} {a0 : Array Value} {h : Heap} (hZ : Z.Warmed39 s.vm) {own : String} (hown : s.vm.findClass own = some m.cls) {idx : Nat} (w1 : (Jvm.Cond.methodLink own idx Lib.objectInit).before a0 Z = true) (w2 : (Jvm.Cond.instanceMethod Lib.objectInit).before a0 Z = true) (w3 : (Jvm.Cond.code Lib.objectInit ⟨#[0xb1]⟩ 1 none).before a0 Z = true) (eT : T.heap = h) {a : Addr} {pc : Nat} (pc' : Nat) {Ls : Array Slot} {rest : List Value} (hsize : Ls.size = c.maxLocals) (hd : decode c.code pc = .ok (.invokespecial idx, 3)) (hp : pc + 3 = pc') (hf : 1 ≤ R.frames) (W : Nat) (hW : (rest.map fun v => v.category).sum = W) (hl : W + 12 ≤ R.locals) (k : ∀ T', Stand p l e R s m args below meth c T' locs cells slots → T'.heap = h → own_Go p e below s Q K N (T'.setTop (mkF m pc' Ls rest))) : own_Go p e below s Q K N (T.setTop (mkF m pc Ls (.ref a :: rest))) := by
  subst hp
  obtain ⟨T', X', e', st⟩ := initO X hx hZ hown w1 w2 w3 eT (g := mkF m pc Ls (.ref a :: rest)) rfl hsize rfl hd hf (W := W) (by show 2 * 0 + _ ≤ _; omega) hl
  exact own_step st (k T' X' e')
theorem own_callS (X : Stand p l e R s m args below meth c T locs cells slots) (hx : p.tables.exec = Jvm.exec) {Z : State} {a0 : Array Value} {h : Heap} (hZ : Z.Warmed39 s.vm) {own : String} (hown : s.vm.findClass own = some m.cls) {index : Nat} {y : MethodName} {bytes : ByteArray} {maxL : Nat} {ret : Option FieldType} {rm : Room} {as' : Array Value} {Q' : Option Value → Heap → List Loc → Prop} (w1 : (Jvm.Cond.methodLink own index y).before a0 Z = true) (w2 : (Jvm.Cond.static y).before a0 Z = true) (hy : y.cls ≠ "java/lang/invoke/MethodHandle" ∧ y.cls ≠ "java/lang/invoke/VarHandle") (hM : MetFree l y (head1 [Jvm.Cond.code y bytes maxL ret] rm) (fun a U => a = as' ∧ Z.Warmed39 U.vm ∧ U.heap = h) (fun _ _ _ _ _ => True) (fun _ U o U' => ∃ v L, o = .returned v ∧ Q' v U'.heap L ∧ FrameEnd U o U' L rm.cells rm.slots)) (wc : (Jvm.Cond.code y bytes maxL ret).before a0 Z = true) (wz : (Jvm.Cond.initialized y.cls).before a0 Z = true) (eT : T.heap = h) (W : Nat) (hf : rm.frames + 1 ≤ R.frames) (hl : W + (maxL + 11) + rm.locals ≤ R.locals) (hc : cells + rm.cells ≤ R.cells) (hs : slots + rm.slots ≤ R.slots) (argsL rest : List Value) (has : argsL.toArray = as') {ps : List FieldType} {rr : Option FieldType} (hpd : parseMethodDescriptor y.desc = some ⟨ps, rr⟩) (hlen : argsL.length = ps.length) {pc : Nat} (pc' : Nat) {Ls : Array Slot} {stk : List Value} (hstk : stk = argsL.reverse ++ rest) (hsize : Ls.size = c.maxLocals) (hW : (rest.map fun v => v.category).sum = W) (hd : decode c.code pc = .ok (.invokestatic index, 3)) (hp : pc + 3 = pc') (k : ∀ T' v L, Stand p l e R s m args below meth c T' (locs ++ L) (cells + rm.cells) (slots + rm.slots) → Q' v T'.heap L → own_Go p e below s Q K N (T'.setTop (mkF m pc' Ls (v.toList ++ rest)))) : own_Go p e below s Q K N (T.setTop (mkF m pc Ls stk)) := by
  subst hp hstk
  obtain ⟨v', _, ⟨T', L', k', n'⟩, -, X', ⟨Lc', hQ', l', y', z'⟩, st'⟩ := Jvm.LawKit.callS X hx (y := y) hown (mvT hZ w1) (mvT hZ w2) (mvT hZ wz) (mvT hZ wc) hy (backOf (W := W) hM hZ wc wz hf hl) (g := mkF m pc Ls (argsL.reverse ++ rest)) rfl hsize (argsL := argsL) (rest := rest) (lenOf hpd hlen) rfl (by show 2 * 0 + _ ≤ _; omega) hd (fun _ _ => ⟨has, eT, hc, hs⟩)
  dsimp only [Pt.U, Pt.locs, Pt.cells, Pt.slots] at X' l' y' z' st' hQ'
  subst l' y' z'
  exact own_step (fun t kk => st' _ kk) (k T' v' _ X' hQ')
theorem own_callI (X : Stand p l e R s m args below meth c T locs cells slots) (hx : p.tables.exec = Jvm.exec) {Z : State} {a0 : Array Value} {h : Heap} (hZ : Z.Warmed39 s.vm) {own : String} (hown : s.vm.findClass own = some m.cls) {index : Nat} {y : MethodName} {bytes : ByteArray} {maxL : Nat} {rm : Room} {as' : Array Value} {Q' : Option Value → Heap → List Loc → Prop} (hy1 : y.name = "<init>") (w1 : (Jvm.Cond.methodLink own index y).before a0 Z = true) (w2 : (Jvm.Cond.instanceMethod y).before a0 Z = true) (hy : y.cls ≠ "java/lang/invoke/MethodHandle" ∧ y.cls ≠ "java/lang/invoke/VarHandle") (hM : MetFree l y (head1 [Jvm.Cond.code y bytes maxL none] rm) (fun a U => a = as' ∧ Z.Warmed39 U.vm ∧ U.heap = h) (fun _ _ _ _ _ => True) (fun _ U o U' => ∃ v L, o = .returned v ∧ Q' v U'.heap L ∧ FrameEnd U o U' L rm.cells rm.slots)) (wc : (Jvm.Cond.code y bytes maxL none).before a0 Z = true) (wz : (Jvm.Cond.initialized y.cls).before a0 Z = true) (eT : T.heap = h) (W : Nat) (hf : rm.frames + 1 ≤ R.frames) (hl : W + (maxL + 11) + rm.locals ≤ R.locals) (hc : cells + rm.cells ≤ R.cells) (hs : slots + rm.slots ≤ R.slots) (a : Addr) (argsL rest : List Value) (has : (.ref a :: argsL).toArray = as') {ps : List FieldType} {rr : Option FieldType} (hpd : parseMethodDescriptor y.desc = some ⟨ps, rr⟩) (hlen : argsL.length = ps.length) {pc : Nat} (pc' : Nat) {Ls : Array Slot} {stk : List Value} (hstk : stk = argsL.reverse ++ .ref a :: rest) (hsize : Ls.size = c.maxLocals) (hW : (rest.map fun v => v.category).sum = W) (hd : decode c.code pc = .ok (.invokespecial index, 3)) (hp : pc + 3 = pc') (k : ∀ T' v L, Stand p l e R s m args below meth c T' (locs ++ L) (cells + rm.cells) (slots + rm.slots) → Q' v T'.heap L → own_Go p e below s Q K N (T'.setTop (mkF m pc' Ls (v.toList ++ rest)))) : own_Go p e below s Q K N (T.setTop (mkF m pc Ls stk)) := by
  subst hp hstk
  obtain ⟨v', _, ⟨T', L', k', n'⟩, -, X', ⟨Lc', hQ', l', y', z'⟩, st'⟩ := X.specialBack hx (y := y) hy1 hown (mvT hZ w1) (mvT hZ w2) (mvT hZ wc) hy (backOf (W := W) hM hZ wc wz hf hl) (g := mkF m pc Ls (argsL.reverse ++ .ref a :: rest)) rfl hsize (Steps.refl _) (a := a) (argsL := argsL) (rest := rest) (lenOf hpd hlen) rfl (by show 2 * 0 + _ ≤ _; omega) hd (fun _ _ => ⟨has, eT, hc, hs⟩)
  dsimp only [Pt.U, Pt.locs, Pt.cells, Pt.slots] at X' l' y' z' st' hQ'
  subst l' y' z'
  exact own_step (fun t kk => st'.trans kk) (k T' v' _ X' hQ')
theorem own_callV (X : Stand p l e R s m args below meth c T locs cells slots) (hx : p.tables.exec = Jvm.exec) {Z : State} {a0 : Array Value} {h : Heap} (hZ : Z.Warmed39 s.vm) {own : String} (hown : s.vm.findClass own = some m.cls) {C : String} {index : Nat} {y z : MethodName} {bytes : ByteArray} {maxL : Nat} {ret : Option FieldType} {rm : Room} {as' : Array Value} {Q' : Option Value → Heap → List Loc → Prop} (w1 : (Jvm.Cond.methodLink own index y).before a0 Z = true) (w2 : (Jvm.Cond.declares y).before a0 Z = true) (hnf : NotFace s y) (w3 : (Jvm.Cond.selects C y z).before a0 Z = true) (w4 : (Jvm.Cond.instanceMethod z).before a0 Z = true) (hy : y.cls ≠ "java/lang/invoke/MethodHandle" ∧ y.cls ≠ "java/lang/invoke/VarHandle") (hM : MetFree l z (head1 [Jvm.Cond.code z bytes maxL ret] rm) (fun a U => a = as' ∧ Z.Warmed39 U.vm ∧ U.heap = h) (fun _ _ _ _ _ => True) (fun _ U o U' => ∃ v L, o = .returned v ∧ Q' v U'.heap L ∧ FrameEnd U o U' L rm.cells rm.slots)) (wc : (Jvm.Cond.code z bytes maxL ret).before a0 Z = true) (wz : (Jvm.Cond.initialized z.cls).before a0 Z = true) (eT : T.heap = h) (W : Nat) (hf : rm.frames + 1 ≤ R.frames) (hl : W + (maxL + 11) + rm.locals ≤ R.locals) (hc : cells + rm.cells ≤ R.cells) (hs : slots + rm.slots ≤ R.slots) {a : Addr} (E : Exa Z h a C) (argsL rest : List Value) (has : (.ref a :: argsL).toArray = as') {ps : List FieldType} {rr : Option FieldType} (hpd : parseMethodDescriptor y.desc = some ⟨ps, rr⟩) (hlen : argsL.length = ps.length) {pc : Nat} (pc' : Nat) {Ls : Array Slot} {stk : List Value} (hstk : stk = argsL.reverse ++ .ref a :: rest) (hsize : Ls.size = c.maxLocals) (hW : (rest.map fun v => v.category).sum = W) (hd : decode c.code pc = .ok (.invokevirtual index, 3)) (hp : pc + 3 = pc') (k : ∀ T' v L, Stand p l e R s m args below meth c T' (locs ++ L) (cells + rm.cells) (slots + rm.slots) → Q' v T'.heap L → own_Go p e below s Q K N (T'.setTop (mkF m pc' Ls (v.toList ++ rest)))) : own_Go p e below s Q K N (T.setTop (mkF m pc Ls stk)) := by
  subst hp hstk
  obtain ⟨cq, kq, qa, qb, qc⟩ := isOf hZ eT E
  obtain ⟨v', _, ⟨T', L', k', n'⟩, -, X', ⟨Lc', hQ', l', y', z'⟩, st'⟩ := X.virtualBack hx (y := y) (z := z) hown (mvT hZ w1) (mvT hZ w2) hnf (mvT hZ w3) (mvT hZ w4) hy (backOf (W := W) hM hZ wc wz hf hl) qa qc (g := mkF m pc Ls (argsL.reverse ++ .ref a :: rest)) rfl hsize (Steps.refl _) (argsL := argsL) (rest := rest) (lenOf hpd hlen) rfl (by show 2 * 0 + _ ≤ _; omega) hd (fun _ _ => ⟨has, eT, hc, hs⟩)
  dsimp only [Pt.U, Pt.locs, Pt.cells, Pt.slots] at X' l' y' z' st' hQ'
  subst l' y' z'
  exact own_step (fun t kk => st'.trans kk) (k T' v' _ X' hQ')
theorem own_callU (X : Stand p l e R s m args below meth c T locs cells slots) (hx : p.tables.exec = Jvm.exec) {Z : State} {a0 : Array Value} {h : Heap} (hZ : Z.Warmed39 s.vm) {own : String} (hown : s.vm.findClass own = some m.cls) {C owner : String} {index : Nat} {y z : MethodName} {bytes : ByteArray} {maxL : Nat} {ret : Option FieldType} {rm : Room} {as' : Array Value} {Q' : Option Value → Heap → List Loc → Prop} (w1 : (Jvm.Cond.methodLink own index y).before a0 Z = true) (w5 : (Jvm.Cond.sameMethod y.cls owner y.name y.desc).before a0 Z = true) (w2 : (Jvm.Cond.declares ⟨owner, y.name, y.desc⟩).before a0 Z = true) (ho : owner ≠ "java/lang/invoke/MethodHandle" ∧ owner ≠ "java/lang/invoke/VarHandle") (w3 : (Jvm.Cond.selects C y z).before a0 Z = true) (w4 : (Jvm.Cond.instanceMethod z).before a0 Z = true) (hM : MetFree l z (head1 [Jvm.Cond.code z bytes maxL ret] rm) (fun a U => a = as' ∧ Z.Warmed39 U.vm ∧ U.heap = h) (fun _ _ _ _ _ => True) (fun _ U o U' => ∃ v L, o = .returned v ∧ Q' v U'.heap L ∧ FrameEnd U o U' L rm.cells rm.slots)) (wc : (Jvm.Cond.code z bytes maxL ret).before a0 Z = true) (wz : (Jvm.Cond.initialized z.cls).before a0 Z = true) (eT : T.heap = h) (W : Nat) (hf : rm.frames + 1 ≤ R.frames) (hl : W + (maxL + 11) + rm.locals ≤ R.locals) (hc : cells + rm.cells ≤ R.cells) (hs : slots + rm.slots ≤ R.slots) {a : Addr} (E : Exa Z h a C) (argsL rest : List Value) (has : (.ref a :: argsL).toArray = as') {ps : List FieldType} {rr : Option FieldType} (hpd : parseMethodDescriptor y.desc = some ⟨ps, rr⟩) (hlen : argsL.length = ps.length) {pc : Nat} (pc' : Nat) {Ls : Array Slot} {stk : List Value} (hstk : stk = argsL.reverse ++ .ref a :: rest) (hsize : Ls.size = c.maxLocals) (hW : (rest.map fun v => v.category).sum = W) (hd : decode c.code pc = .ok (.invokevirtual index, 3)) (hp : pc + 3 = pc') (k : ∀ T' v L, Stand p l e R s m args below meth c T' (locs ++ L) (cells + rm.cells) (slots + rm.slots) → Q' v T'.heap L → own_Go p e below s Q K N (T'.setTop (mkF m pc' Ls (v.toList ++ rest)))) : own_Go p e below s Q K N (T.setTop (mkF m pc Ls stk)) := by
  subst hp hstk
  obtain ⟨cq, kq, qa, qb, qc⟩ := isOf hZ eT E
  obtain ⟨v', _, ⟨T', L', k', n'⟩, -, X', ⟨Lc', hQ', l', y', z'⟩, st'⟩ := X.virtualBackUp hx (owner := owner) (x := y) (y := z) hown (mvT hZ w1) (mvT hZ w5) (mvT hZ w2) ho (mvT hZ w3) (mvT hZ w4) (backOf (W := W) hM hZ wc wz hf hl) qa qc (g := mkF m pc Ls (argsL.reverse ++ .ref a :: rest)) rfl hsize (Steps.refl _) (argsL := argsL) (rest := rest) (lenOf hpd hlen) rfl (by show 2 * 0 + _ ≤ _; omega) hd (fun _ _ => ⟨has, eT, hc, hs⟩)
  dsimp only [Pt.U, Pt.locs, Pt.cells, Pt.slots] at X' l' y' z' st' hQ'
  subst l' y' z'
  exact own_step (fun t kk => st'.trans kk) (k T' v' _ X' hQ')
theorem own_nf {C : String} {y : MethodName} {Z : State} {a0 : Array Value} (hZ : Z.Warmed39 s.vm) (w : (Jvm.Cond.selects C y y).before a0 Z = true) : NotFace s y := notFace_of_selects (args := #[]) (mvT hZ w)
theorem own_selfsel {K : String} {y y' : MethodName} (w : (Jvm.Cond.selects K y' y').before args s = true) (hK : y'.cls = y.cls) (hp : s.PrivateAt y) (hi : (Jvm.Cond.instanceMethod y).before args s = true) (hy : y.cls ≠ "java/lang/invoke/MethodHandle" ∧ y.cls ≠ "java/lang/invoke/VarHandle") : (Jvm.Cond.selects y.cls y y).before args s = true := by
  obtain ⟨c2, r2, m2, -, -, q3, -, kP, hkP, hkPi⟩ := Cond.selects_spec w
  exact selects_self_of_private (by rw [← hK]; exact findClass_of_methodNamed q3) hkP hkPi hp hi hy
theorem own_callP (X : Stand p l e R s m args below meth c T locs cells slots) (hx : p.tables.exec = Jvm.exec) {Z : State} {a0 : Array Value} {h : Heap} (hZ : Z.Warmed39 s.vm) {own : String} (hown : s.vm.findClass own = some m.cls) {C K' : String} {index : Nat} {y y' : MethodName} {bytes : ByteArray} {maxL : Nat} {ret : Option FieldType} {rm : Room} {as' : Array Value} {Q' : Option Value → Heap → List Loc → Prop} (w1 : (Jvm.Cond.methodLink own index y).before a0 Z = true) (w2 : (Jvm.Cond.instanceMethod y).before a0 Z = true) (w3 : (Jvm.Cond.selects K' y' y').before a0 Z = true) (hK : y'.cls = y.cls) (w4 : (Jvm.Cond.privateMethod y).before a0 Z = true) (hy : y.cls ≠ "java/lang/invoke/MethodHandle" ∧ y.cls ≠ "java/lang/invoke/VarHandle") (hM : MetFree l y (head1 [Jvm.Cond.code y bytes maxL ret] rm) (fun a U => a = as' ∧ Z.Warmed39 U.vm ∧ U.heap = h) (fun _ _ _ _ _ => True) (fun _ U o U' => ∃ v L, o = .returned v ∧ Q' v U'.heap L ∧ FrameEnd U o U' L rm.cells rm.slots)) (wc : (Jvm.Cond.code y bytes maxL ret).before a0 Z = true) (wz : (Jvm.Cond.initialized y.cls).before a0 Z = true) (eT : T.heap = h) (W : Nat) (hf : rm.frames + 1 ≤ R.frames) (hl : W + (maxL + 11) + rm.locals ≤ R.locals) (hc : cells + rm.cells ≤ R.cells) (hs : slots + rm.slots ≤ R.slots) {a : Addr} (E : Exa Z h a C) (argsL rest : List Value) (has : (.ref a :: argsL).toArray = as') {ps : List FieldType} {rr : Option FieldType} (hpd : parseMethodDescriptor y.desc = some ⟨ps, rr⟩) (hlen : argsL.length = ps.length) {pc : Nat} (pc' : Nat) {Ls : Array Slot} {stk : List Value} (hstk : stk = argsL.reverse ++ .ref a :: rest) (hsize : Ls.size = c.maxLocals) (hW : (rest.map fun v => v.category).sum = W) (hd : decode c.code pc = .ok (.invokevirtual index, 3)) (hp : pc + 3 = pc') (k : ∀ T' v L, Stand p l e R s m args below meth c T' (locs ++ L) (cells + rm.cells) (slots + rm.slots) → Q' v T'.heap L → own_Go p e below s Q K N (T'.setTop (mkF m pc' Ls (v.toList ++ rest)))) : own_Go p e below s Q K N (T.setTop (mkF m pc Ls stk)) := by
  subst hp hstk
  obtain ⟨cq, qa, qb⟩ := E.cell
  have hpr := Cond.privateMethod_at (mvP hZ w4 (args := args))
  obtain ⟨v', _, ⟨T', L', k', n'⟩, -, X', ⟨Lc', hQ', l', y', z'⟩, st'⟩ := X.privateBack hx (y := y) hown (mvT hZ w1) (mvT hZ w2) (own_selfsel (mvT hZ w3) hK hpr (mvT hZ w2) hy) hpr (mvT hZ wc) hy (backOf (W := W) hM hZ wc wz hf hl) (g := mkF m pc Ls (argsL.reverse ++ .ref a :: rest)) rfl hsize (Steps.refl _) (a := a) (by rw [eT]; exact qa) qb (argsL := argsL) (rest := rest) (lenOf hpd hlen) rfl (by show 2 * 0 + _ ≤ _; omega) hd (fun _ _ => ⟨has, eT, hc, hs⟩)
  dsimp only [Pt.U, Pt.locs, Pt.cells, Pt.slots] at X' l' y' z' st' hQ'
  subst l' y' z'
  exact own_step (fun t kk => st'.trans kk) (k T' v' _ X' hQ')
theorem own_cpA (X : Stand p l e R s m args below meth c T locs cells slots) (hx : p.tables.exec = Jvm.exec) {Z : State} {a0 : Array Value} {h : Heap} (hZ : Z.Warmed39 s.vm) {own : String} (hown : s.vm.findClass own = some m.cls) {index : Nat} (w1 : (Jvm.Cond.methodLink own index Jvm.Stand.acN).before a0 Z = true) (w2 : (Jvm.Cond.native Jvm.Stand.acN).before a0 Z = true) (w3 : (Jvm.Cond.static Jvm.Stand.acN).before a0 Z = true) (w4 : (Jvm.Cond.initialized "java/lang/System").before a0 Z = true) (eT : T.heap = h)
    {a b : Addr} {k k' : ClassId} {ty ty' : FieldType} {z z' sp dp nn : Int32} {vs vd : List Value} {dv dd : Value} (us : List Value) (A : Arv Z h a k ty z vs dv) (B : Arv Z h b k' ty' z' vd dd) (hty : (ty = ty' ∧ refKind ty = false) ∨ (refKind ty = true ∧ refKind ty' = true ∧ StoL Z h b us))
    (h1 : ¬ sp < 0) (h2 : ¬ dp < 0) (h3 : ¬ nn < 0) (h4 : sp.toNatClampNeg + nn.toNatClampNeg ≤ z.toNatClampNeg) (h5 : dp.toNatClampNeg + nn.toNatClampNeg ≤ z'.toNatClampNeg) (hus : us = (List.range nn.toNatClampNeg).map fun i => vs.getD (sp.toNatClampNeg + i) dv) (hl : dp.toNatClampNeg + nn.toNatClampNeg ≤ vd.length) {n0 : Nat} (Nf : Fr n0 locs) (ge : n0 ≤ b)
    {pc : Nat} (pc' : Nat) {Ls : Array Slot} {rest : List Value} (hsize : Ls.size = c.maxLocals) (hd : decode c.code pc = .ok (.invokestatic index, 3)) (hp : pc + 3 = pc') (hf : 1 ≤ R.frames) (W : Nat) (hW : (rest.map fun v => v.category).sum = W) (hlo : W + (nativeFrameWords "java/lang/System" "arraycopy" 5 + 11) ≤ R.locals)
    (kk : ∀ T' h' L, Stand p l e R s m args below meth c T' L cells slots → T'.heap = h' → Fr n0 L → Keep h h' [b] → Arv Z h' b k' ty' z' (vd.take dp.toNatClampNeg ++ us ++ vd.drop (dp.toNatClampNeg + nn.toNatClampNeg)) dd → own_Go p e below s Q K N (T'.setTop (mkF m pc' Ls rest))) : own_Go p e below s Q K N (T.setTop (mkF m pc Ls (.int nn :: .int dp :: .ref b :: .int sp :: .ref a :: rest))) := by
  subst hp
  obtain ⟨T', h', L', X', e', N', K', B', st⟩ := cpA X hx hZ hown w1 w2 w3 w4 eT A B hty h1 h2 h3 h4 h5 hus hl Nf ge (g := mkF m pc Ls (.int nn :: .int dp :: .ref b :: .int sp :: .ref a :: rest)) rfl hsize rfl hd hf (W := W) (by show 2 * 0 + _ ≤ _; omega) hlo
  exact own_step st (kk T' h' L' X' e' N' K' B')
theorem own_plainE {Z : State} {h : Heap} {a : Addr} {C : String} (E : Exa Z h a C) : ∀ cell : Cell, h[a]? = some cell → cell.vm.isStatics = false := fun cell hc => by
  obtain ⟨c', k', h1, -, -, h2, -⟩ := E
  cases h1.symm.trans hc; exact h2
theorem own_plainA {Z : State} {h : Heap} {a : Addr} {k : ClassId} {ty : FieldType} {z : Int32} {vs : List Value} {dv : Value} (V : Arv Z h a k ty z vs dv) : ∀ cell : Cell, h[a]? = some cell → cell.vm.isStatics = false := fun cell hc => by
  obtain ⟨c', A, -⟩ := V
  cases A.1.symm.trans hc; exact A.plain
theorem own_castY (X : Stand p l e R s m args below meth c T locs cells slots) (hx : p.tables.exec = Jvm.exec) {Z : State} {a0 : Array Value} {h : Heap} (hZ : Z.Warmed39 s.vm) {own : String} (hown : s.vm.findClass own = some m.cls) {K' : String} {index : Nat} (w : (Jvm.Cond.classLink own index K').before a0 Z = true) (eT : T.heap = h) {a : Addr} (F : Ins Z h a K' true) {pc : Nat} (pc' : Nat) {Ls : Array Slot} {rest : List Value} (hd : decode c.code pc = .ok (.checkcast index, 3)) (hp : pc + 3 = pc') (k : ∀ T', Stand p l e R s m args below meth c T' locs cells slots → T'.heap = h → own_Go p e below s Q K N (T'.setTop (mkF m pc' Ls (.ref a :: rest)))) : own_Go p e below s Q K N (T.setTop (mkF m pc Ls (.ref a :: rest))) := by
  subst hp
  obtain ⟨T', X', e', st⟩ := castY X hx hZ hown w eT F (g := mkF m pc Ls (.ref a :: rest)) rfl rfl hd
  exact own_step st (k T' X' e')
theorem own_instY (X : Stand p l e R s m args below meth c T locs cells slots) (hx : p.tables.exec = Jvm.exec) {Z : State} {a0 : Array Value} {h : Heap} (hZ : Z.Warmed39 s.vm) {own : String} (hown : s.vm.findClass own = some m.cls) {K' : String} {index : Nat} (w : (Jvm.Cond.classLink own index K').before a0 Z = true) (eT : T.heap = h) {a : Addr} (F : Ins Z h a K' true) {pc : Nat} (pc' : Nat) {Ls : Array Slot} {rest : List Value} (hd : decode c.code pc = .ok (.instanceof index, 3)) (hp : pc + 3 = pc') (k : ∀ T', Stand p l e R s m args below meth c T' locs cells slots → T'.heap = h → own_Go p e below s Q K N (T'.setTop (mkF m pc' Ls (.int 1 :: rest)))) : own_Go p e below s Q K N (T.setTop (mkF m pc Ls (.ref a :: rest))) := by
  subst hp
  obtain ⟨T', X', e', st⟩ := instY X hx hZ hown w eT F (g := mkF m pc Ls (.ref a :: rest)) rfl rfl hd
  exact own_step st (k T' X' e')
theorem own_instNo (X : Stand p l e R s m args below meth c T locs cells slots) (hx : p.tables.exec = Jvm.exec) {Z : State} {a0 : Array Value} {h : Heap} (hZ : Z.Warmed39 s.vm) {own : String} (hown : s.vm.findClass own = some m.cls) {K' : String} {index : Nat} (w : (Jvm.Cond.classLink own index K').before a0 Z = true) (eT : T.heap = h) {a : Addr} {C : String} (E : Exa Z h a C) (F : ∃ c t, Z.vm.findClass C = some c ∧ Z.vm.findClass K' = some t ∧ Z.vm.assignable c t = false) {pc : Nat} (pc' : Nat) {Ls : Array Slot} {rest : List Value} (hd : decode c.code pc = .ok (.instanceof index, 3)) (hp : pc + 3 = pc') (k : ∀ T', Stand p l e R s m args below meth c T' locs cells slots → T'.heap = h → own_Go p e below s Q K N (T'.setTop (mkF m pc' Ls (.int 0 :: rest)))) : own_Go p e below s Q K N (T.setTop (mkF m pc Ls (.ref a :: rest))) := by
  subst hp
  obtain ⟨T', X', e', st⟩ := instNo X hx hZ hown w eT E F (g := mkF m pc Ls (.ref a :: rest)) rfl rfl hd
  exact own_step st (k T' X' e')
theorem own_instNull (X : Stand p l e R s m args below meth c T locs cells slots) (hx : p.tables.exec = Jvm.exec) {index : Nat} {pc : Nat} (pc' : Nat) {Ls : Array Slot} {rest : List Value} (hd : decode c.code pc = .ok (.instanceof index, 3)) (hp : pc + 3 = pc') (G : own_Go p e below s Q K N (T.setTop (mkF m pc' Ls (.int 0 :: rest)))) : own_Go p e below s Q K N (T.setTop (mkF m pc Ls (.null :: rest))) := by
  subst hp
  exact own_step (X.instanceofNull hx (g := mkF m pc Ls (.null :: rest)) rfl rfl hd) G
theorem g_dload_n (X : Stand p l e R s m args below meth c T locs cells slots) (hx : p.tables.exec = Jvm.exec) {pc : Nat} (pc' : Nat) {Ls : Array Slot} {k : Fin 4} {v : UInt64} {st : List Value} (hd : decode c.code pc = .ok (.dload_n k, 1)) (hl : Ls[k.val]? = some (.val (.double v))) (hp : pc + 1 = pc') (G : own_Go p e below s Q K N (T.setTop (mkF m pc' Ls (.double v :: st)))) : own_Go p e below s Q K N (T.setTop (mkF m pc Ls (st))) := by
  subst hp; exact own_step (fun _ k => XS.dloadN X.here hx rfl hd hl k) G
theorem g_dload (X : Stand p l e R s m args below meth c T locs cells slots) (hx : p.tables.exec = Jvm.exec) {pc : Nat} (pc' : Nat) {Ls : Array Slot} {k : Nat} {v : UInt64} {st : List Value} (hd : decode c.code pc = .ok (.dload k, 2)) (hl : Ls[k]? = some (.val (.double v))) (hp : pc + 2 = pc') (G : own_Go p e below s Q K N (T.setTop (mkF m pc' Ls (.double v :: st)))) : own_Go p e below s Q K N (T.setTop (mkF m pc Ls (st))) := by
  subst hp; exact own_step (fun _ k => XS.dload X.here hx rfl hd hl k) G
theorem g_dstore_n (X : Stand p l e R s m args below meth c T locs cells slots) (hx : p.tables.exec = Jvm.exec) {pc : Nat} (pc' : Nat) {Ls : Array Slot} {k : Fin 4} {v : UInt64} {st : List Value} {l' : Array Slot} (hd : decode c.code pc = .ok (.dstore_n k, 1)) (hl : storeLocals Ls k.val (.double v) = some l') (hp : pc + 1 = pc') (G : own_Go p e below s Q K N (T.setTop (mkF m pc' l' (st)))) : own_Go p e below s Q K N (T.setTop (mkF m pc Ls (.double v :: st))) := by
  subst hp; exact own_step (fun _ k => XS.dstoreN X.here hx rfl hd rfl hl k) G
theorem g_dstore (X : Stand p l e R s m args below meth c T locs cells slots) (hx : p.tables.exec = Jvm.exec) {pc : Nat} (pc' : Nat) {Ls : Array Slot} {k : Nat} {v : UInt64} {st : List Value} {l' : Array Slot} (hd : decode c.code pc = .ok (.dstore k, 2)) (hl : storeLocals Ls k (.double v) = some l') (hp : pc + 2 = pc') (G : own_Go p e below s Q K N (T.setTop (mkF m pc' l' (st)))) : own_Go p e below s Q K N (T.setTop (mkF m pc Ls (.double v :: st))) := by
  subst hp; exact own_step (fun _ k => XS.dstore X.here hx rfl hd rfl hl k) G
theorem g_l2d (X : Stand p l e R s m args below meth c T locs cells slots) (hx : p.tables.exec = Jvm.exec) {pc : Nat} (pc' : Nat) {Ls : Array Slot} {x : Int64} {st : List Value} (hd : decode c.code pc = .ok (.l2d, 1))  (hp : pc + 1 = pc') (G : own_Go p e below s Q K N (T.setTop (mkF m pc' Ls (.double (FP.l2d x) :: st)))) : own_Go p e below s Q K N (T.setTop (mkF m pc Ls (.long x :: st))) := by
  subst hp; exact own_step (fun _ k => XS.l2dS X.here hx rfl hd rfl rfl k) G
theorem g_i2d (X : Stand p l e R s m args below meth c T locs cells slots) (hx : p.tables.exec = Jvm.exec) {pc : Nat} (pc' : Nat) {Ls : Array Slot} {x : Int32} {st : List Value} (hd : decode c.code pc = .ok (.i2d, 1))  (hp : pc + 1 = pc') (G : own_Go p e below s Q K N (T.setTop (mkF m pc' Ls (.double (FP.i2d x) :: st)))) : own_Go p e below s Q K N (T.setTop (mkF m pc Ls (.int x :: st))) := by
  subst hp; exact own_step (fun _ k => XS.i2dS X.here hx rfl hd rfl rfl k) G
theorem g_dadd (X : Stand p l e R s m args below meth c T locs cells slots) (hx : p.tables.exec = Jvm.exec) {pc : Nat} (pc' : Nat) {Ls : Array Slot} {x y : UInt64} {st : List Value} (hd : decode c.code pc = .ok (.dadd, 1)) (hn : Jvm.Free.Fl.NoNaN64 (FP.dadd x y)) (hp : pc + 1 = pc') (G : own_Go p e below s Q K N (T.setTop (mkF m pc' Ls (.double (FP.dadd x y) :: st)))) : own_Go p e below s Q K N (T.setTop (mkF m pc Ls (.double y :: .double x :: st))) := by
  subst hp; exact own_step (fun _ k => XS.daddS X.here hx rfl hd rfl hn rfl k) G
theorem g_dsub (X : Stand p l e R s m args below meth c T locs cells slots) (hx : p.tables.exec = Jvm.exec) {pc : Nat} (pc' : Nat) {Ls : Array Slot} {x y : UInt64} {st : List Value} (hd : decode c.code pc = .ok (.dsub, 1)) (hn : Jvm.Free.Fl.NoNaN64 (FP.dsub x y)) (hp : pc + 1 = pc') (G : own_Go p e below s Q K N (T.setTop (mkF m pc' Ls (.double (FP.dsub x y) :: st)))) : own_Go p e below s Q K N (T.setTop (mkF m pc Ls (.double y :: .double x :: st))) := by
  subst hp; exact own_step (fun _ k => XS.dsubS X.here hx rfl hd rfl hn rfl k) G
theorem g_dmul (X : Stand p l e R s m args below meth c T locs cells slots) (hx : p.tables.exec = Jvm.exec) {pc : Nat} (pc' : Nat) {Ls : Array Slot} {x y : UInt64} {st : List Value} (hd : decode c.code pc = .ok (.dmul, 1)) (hn : Jvm.Free.Fl.NoNaN64 (FP.dmul x y)) (hp : pc + 1 = pc') (G : own_Go p e below s Q K N (T.setTop (mkF m pc' Ls (.double (FP.dmul x y) :: st)))) : own_Go p e below s Q K N (T.setTop (mkF m pc Ls (.double y :: .double x :: st))) := by
  subst hp; exact own_step (fun _ k => XS.dmulS X.here hx rfl hd rfl hn rfl k) G
theorem g_ddiv (X : Stand p l e R s m args below meth c T locs cells slots) (hx : p.tables.exec = Jvm.exec) {pc : Nat} (pc' : Nat) {Ls : Array Slot} {x y : UInt64} {st : List Value} (hd : decode c.code pc = .ok (.ddiv, 1)) (hn : Jvm.Free.Fl.NoNaN64 (FP.ddiv x y)) (hp : pc + 1 = pc') (G : own_Go p e below s Q K N (T.setTop (mkF m pc' Ls (.double (FP.ddiv x y) :: st)))) : own_Go p e below s Q K N (T.setTop (mkF m pc Ls (.double y :: .double x :: st))) := by
  subst hp; exact own_step (fun _ k => XS.ddivS X.here hx rfl hd rfl hn rfl k) G
theorem g_dcmp (X : Stand p l e R s m args below meth c T locs cells slots) (hx : p.tables.exec = Jvm.exec) {pc : Nat} (pc' : Nat) {Ls : Array Slot} {o : CmpOp} {x y : UInt64} {st : List Value} (hd : decode c.code pc = .ok (.dcmp o, 1))  (hp : pc + 1 = pc') (G : own_Go p e below s Q K N (T.setTop (mkF m pc' Ls (.int (cmpValue (FP.dcmp x y) o) :: st)))) : own_Go p e below s Q K N (T.setTop (mkF m pc Ls (.double y :: .double x :: st))) := by
  subst hp; exact own_step (fun _ k => XS.dcmpS X.here hx rfl hd rfl rfl k) G
theorem g_dconst0 (X : Stand p l e R s m args below meth c T locs cells slots) (hx : p.tables.exec = Jvm.exec) {pc : Nat} (pc' : Nat) {Ls : Array Slot} {v : UInt64} {st : List Value} (hd : decode c.code pc = .ok (.dconst 0, 1)) (hv : FP.dconst0 = v) (hp : pc + 1 = pc') (G : own_Go p e below s Q K N (T.setTop (mkF m pc' Ls (.double v :: st)))) : own_Go p e below s Q K N (T.setTop (mkF m pc Ls (st))) := by
  subst hp; exact own_step (fun _ k => XS.dconst0 X.here hx rfl hd hv k) G
theorem g_dconst1 (X : Stand p l e R s m args below meth c T locs cells slots) (hx : p.tables.exec = Jvm.exec) {pc : Nat} (pc' : Nat) {Ls : Array Slot} {v : UInt64} {st : List Value} (hd : decode c.code pc = .ok (.dconst 1, 1)) (hv : FP.dconst1 = v) (hp : pc + 1 = pc') (G : own_Go p e below s Q K N (T.setTop (mkF m pc' Ls (.double v :: st)))) : own_Go p e below s Q K N (T.setTop (mkF m pc Ls (st))) := by
  subst hp; exact own_step (fun _ k => XS.dconst1 X.here hx rfl hd hv k) G
theorem g_ldc2_wD (X : Stand p l e R s m args below meth c T locs cells slots) (hx : p.tables.exec = Jvm.exec) {own : String} (hown : s.vm.findClass own = some m.cls) {pc : Nat} (pc' : Nat) {Ls : Array Slot} {i : Nat} {z : UInt64} {st : List Value} (hw : (Jvm.Cond.constantDouble own i z).before args s = true) (hd : decode c.code pc = .ok (.ldc2_w i, 3)) (hp : pc + 3 = pc') (G : own_Go p e below s Q K N (T.setTop (mkF m pc' Ls (.double z :: st)))) : own_Go p e below s Q K N (T.setTop (mkF m pc Ls st)) := by
  subst hp; exact own_step (fun _ k => X.ldc2DoubleC hx hown hw (g := mkF m pc Ls st) rfl hd _ k) G
theorem own_retD (X : Stand p l e R s m args below meth c T locs cells slots) (hx : p.tables.exec = Jvm.exec) (hlk : meth.locks = false) {pc : Nat} {Ls : Array Slot} {z : UInt64} {rest : List Value} (hret : meth.sig.returnType = some .double)
    (hd : decode c.code pc = .ok (.dreturn, 1)) (hq : Q (some (.double z)) T.heap locs) (hk : cells ≤ K) (hn : slots ≤ N) : own_Go p e below s Q K N (T.setTop (mkF m pc Ls (.double z :: rest))) :=
  own_end X (fun h => by rw [hret] at h; cases h) hlk hq hk hn fun fs hr => retOut X hx hret rfl (Or.inr (Or.inr (Or.inl ⟨rfl, rfl, _, rfl⟩))) hd hr
theorem own_irr (x : Int32) : ¬ x < x := by rw [Int32.lt_iff_toInt_lt]; omega
theorem own_fldV {Z : State} {h : Heap} {a : Addr} {C n d : String} {v w : Value} (F : Fld Z h a C n d v) (q : v = w) : Fld Z h a C n d w := q ▸ F
theorem own_arvL {Z : State} {h : Heap} {a : Addr} {k : ClassId} {ty : FieldType} {z : Int32} {vs ws : List Value} {dv : Value} (F : Arv Z h a k ty z vs dv) (q : ws = vs) : Arv Z h a k ty z ws dv := q ▸ F
end Own
section Math
open Jvm.FP.Core
theorem own_pows {A B c d : Nat} {q r : Int} (h1 : c * 2 ^ q.toNat = A * 2 ^ (-q).toNat) (h2 : d * 2 ^ r.toNat = B * 2 ^ (-r).toNat) :
    c * B * 2 ^ (q - r - 0).toNat = A * d * 2 ^ (0 - (q - r)).toNat := by
  have e : (-q).toNat + r.toNat + (q - r - 0).toNat = (0 - (q - r)).toNat + q.toNat + (-r).toNat := by omega
  apply Nat.eq_of_mul_eq_mul_right (Nat.mul_pos (Nat.two_pow_pos q.toNat) (Nat.two_pow_pos (-r).toNat))
  calc c * B * 2 ^ (q - r - 0).toNat * (2 ^ q.toNat * 2 ^ (-r).toNat) = (c * 2 ^ q.toNat) * (B * 2 ^ (-r).toNat) * 2 ^ (q - r - 0).toNat := by ac_rfl
    _ = (A * 2 ^ (-q).toNat) * (d * 2 ^ r.toNat) * 2 ^ (q - r - 0).toNat := by rw [h1, ← h2]
    _ = A * d * 2 ^ ((-q).toNat + r.toNat + (q - r - 0).toNat) := by rw [Nat.pow_add, Nat.pow_add]; ac_rfl
    _ = A * d * 2 ^ (0 - (q - r)).toNat * (2 ^ q.toNat * 2 ^ (-r).toNat) := by rw [e, Nat.pow_add, Nat.pow_add]; ac_rfl
/-- the datum times 2^k -/
def own_sh (k : Nat) : Datum → Datum
  | .fin s c q => .fin s c (q + k)
  | d => d
/-- x is worth n / 2^k -/
def own_Dy (n : Int) (k : Nat) (x : UInt64) : Prop := Whole n (own_sh k (val64 x))
theorem own_Dy.fin {n : Int} {k : Nat} {x : UInt64} (h : own_Dy n k x) : ∃ s c q, val64 x = .fin s c q ∧ Whole n (.fin s c (q + k)) := by
  unfold own_Dy at h
  cases e : val64 x with
  | nan => rw [e] at h; exact h.elim
  | inf s => rw [e] at h; exact h.elim
  | fin s c q => rw [e] at h; exact ⟨s, c, q, rfl, h⟩
theorem own_Dy.nn {n : Int} {k : Nat} {x : UInt64} (h : own_Dy n k x) : val64 x ≠ .nan := by
  obtain ⟨s, c, q, e, -⟩ := h.fin
  rw [e]; simp
theorem own_Dy.no {n : Int} {k : Nat} {x : UInt64} (h : own_Dy n k x) : Jvm.Free.Fl.NoNaN64 x := Jvm.Free.Fl.noNaN64_no.mpr ((notNaN_iff _).mpr h.nn)
theorem own_Dy.of_int {n : Int} {x : UInt64} (h : DInt n x) : own_Dy n 0 x := by
  unfold DInt at h
  unfold own_Dy
  cases e : val64 x with
  | nan => rw [e] at h; exact h
  | inf s => rw [e] at h; exact h
  | fin s c q => rw [e] at h; show Whole n (.fin s c (q + (0 : Nat))); rw [show q + ((0 : Nat) : Int) = q by omega]; exact h
theorem own_sh_sum (k : Nat) (x y : Datum) : own_sh k (exactSum x y) = exactSum (own_sh k x) (own_sh k y) := by
  cases x <;> cases y <;> try rfl
  · rename_i s t
    show own_sh k (if s = t then .inf s else .nan) = (if s = t then .inf s else .nan)
    split <;> rfl
  · rename_i s c q t d r
    have hm : min (q + (k : Int)) (r + k) = min q r + k := by omega
    have hu : ∀ (c : Nat) (q e : Int), inUnits c (q + k) (e + k) = inUnits c q e := fun c q e => by unfold inUnits; rw [show q + (k : Int) - (e + k) = q - e by omega]
    show Datum.fin _ _ _ = Datum.fin _ _ _
    rw [hm]
    unfold sumUnits
    rw [hu, hu]
theorem own_sh_prod (k l : Nat) {s t : Bool} {c d : Nat} {q r : Int} : own_sh (k + l) (exactProduct (.fin s c q) (.fin t d r)) = exactProduct (own_sh k (.fin s c q)) (own_sh l (.fin t d r)) := by
  show Datum.fin _ _ _ = Datum.fin _ _ _
  congr 1
  show q + r + ((k + l : Nat) : Int) = q + k + (r + l)
  omega
theorem own_sh_neg (k : Nat) (x : Datum) : own_sh k (negate x) = negate (own_sh k x) := by cases x <;> rfl
/-- a whole number of at most 53 bits over 2^k is a double -/
theorem own_fit (s : Bool) {n k : Nat} (hn : n ≤ 2 ^ 53) (hk : k ≤ 900) : ∃ c q, Jvm.FP.Core.fits b64 (.fin s c q) ∧ n * 2 ^ (-((k : Int)) - q).toNat = c * 2 ^ (q - (-(k : Int))).toNat := by
  by_cases h0 : n = 0
  · subst h0
    exact ⟨0, b64.qmin, zero_fits good_b64 s, by simp⟩
  · obtain ⟨c, q, hf, he⟩ := natFit good_b64 wide_b64 s (n := n) hn
    obtain ⟨h1, h2, h3, h4⟩ := hf
    rw [Nat.mul_one] at he
    have hq : -60 ≤ q := by
      apply Int.not_lt.mp
      intro hlt
      rw [show (q - 0).toNat = 0 by omega, Nat.pow_zero, Nat.mul_one] at he
      have a1 : 2 ^ 60 ≤ 2 ^ (0 - q).toNat := Nat.pow_le_pow_right (by decide) (by omega)
      have a2 : 2 ^ (0 - q).toNat ≤ n * 2 ^ (0 - q).toNat := Nat.le_mul_of_pos_left _ (by omega)
      have a3 : c < 2 ^ 53 := h1
      have a4 : (2 : Nat) ^ 53 ≤ 2 ^ 60 := by decide
      omega
    have hmin : b64.qmin = -1074 := qmin_b64
    have hc : b64.tails ≤ c := by
      rcases h4 with h | h
      · omega
      · exact h
    refine ⟨c, q - k, ⟨h1, by omega, by omega, Or.inr hc⟩, ?_⟩
    rw [show (-(k : Int) - (q - k)).toNat = (0 - q).toNat by omega, show (q - k - -(k : Int)).toNat = (q - 0).toNat by omega]
    exact he
theorem own_whole_of {i : Int} {s : Bool} {c c' : Nat} {q q' : Int} (h : Whole i (.fin s c q)) (he : c * 2 ^ (q - q').toNat = c' * 2 ^ (q' - q).toNat) : Whole i (.fin s c' q') := by
  have key : ∀ (a b : Nat), a * 2 ^ (q - q').toNat = b * 2 ^ (q' - q).toNat → signed s (a * 2 ^ q.toNat) = i * ((2 ^ (-q).toNat : Nat) : Int) → signed s (b * 2 ^ q'.toNat) = i * ((2 ^ (-q').toNat : Nat) : Int) := by
    intro a b hab hw
    have e : q.toNat + (-q').toNat + (q' - q).toNat = (-q).toNat + q'.toNat + (q - q').toNat := by omega
    rw [signed_mul] at hw ⊢
    have hs : signed s a * ((2 ^ (q - q').toNat : Nat) : Int) = signed s b * ((2 ^ (q' - q).toNat : Nat) : Int) := by rw [← signed_mul, ← signed_mul, hab]
    have p1 : ((2 ^ (q' - q).toNat : Nat) : Int) ≠ 0 := by have := Nat.two_pow_pos (q' - q).toNat; omega
    have p2 : ((2 ^ q.toNat : Nat) : Int) ≠ 0 := by have := Nat.two_pow_pos q.toNat; omega
    have e' : ((2 ^ q.toNat : Nat) : Int) * ((2 ^ (-q').toNat : Nat) : Int) * ((2 ^ (q' - q).toNat : Nat) : Int) = ((2 ^ (-q).toNat : Nat) : Int) * ((2 ^ q'.toNat : Nat) : Int) * ((2 ^ (q - q').toNat : Nat) : Int) := by
      rw [← Int.natCast_mul, ← Int.natCast_mul, ← Int.natCast_mul, ← Int.natCast_mul, ← Nat.pow_add, ← Nat.pow_add, ← Nat.pow_add, ← Nat.pow_add, e]
    apply Int.eq_of_mul_eq_mul_right p2
    apply Int.eq_of_mul_eq_mul_right p1
    generalize signed s a = A at *
    generalize signed s b = B at *
    generalize ((2 ^ q.toNat : Nat) : Int) = P at *
    generalize ((2 ^ (-q).toNat : Nat) : Int) = P' at *
    generalize ((2 ^ q'.toNat : Nat) : Int) = R at *
    generalize ((2 ^ (-q').toNat : Nat) : Int) = R' at *
    generalize ((2 ^ (q - q').toNat : Nat) : Int) = D at *
    generalize ((2 ^ (q' - q).toNat : Nat) : Int) = D' at *
    calc B * R * P * D' = (B * D') * (R * P) := by ac_rfl
      _ = (A * D) * (R * P) := by rw [hs]
      _ = (A * P) * (R * D) := by ac_rfl
      _ = (i * P') * (R * D) := by rw [hw]
      _ = i * (P' * R * D) := by ac_rfl
      _ = i * (P * R' * D') := by rw [e']
      _ = i * R' * P * D' := by ac_rfl
  exact key c c' he h
theorem own_align {c c' N : Nat} {q q' : Int} {k : Int} (h1 : c * 2 ^ (q + k).toNat = N * 2 ^ (-(q + k)).toNat) (h2 : N * 2 ^ (-k - q').toNat = c' * 2 ^ (q' - -k).toNat) : c * 2 ^ (q - q').toNat = c' * 1 * 2 ^ (q' - q).toNat := by
  have e : (q' - -k).toNat + (-(q + k)).toNat + (q - q').toNat = (q' - q).toNat + (q + k).toNat + (-k - q').toNat := by omega
  rw [Nat.mul_one]
  apply Nat.eq_of_mul_eq_mul_right (Nat.mul_pos (Nat.two_pow_pos (q + k).toNat) (Nat.two_pow_pos (-k - q').toNat))
  calc c * 2 ^ (q - q').toNat * (2 ^ (q + k).toNat * 2 ^ (-k - q').toNat) = (c * 2 ^ (q + k).toNat) * (2 ^ (q - q').toNat * 2 ^ (-k - q').toNat) := by ac_rfl
    _ = (N * 2 ^ (-(q + k)).toNat) * (2 ^ (q - q').toNat * 2 ^ (-k - q').toNat) := by rw [h1]
    _ = (N * 2 ^ (-k - q').toNat) * (2 ^ (-(q + k)).toNat * 2 ^ (q - q').toNat) := by ac_rfl
    _ = (c' * 2 ^ (q' - -k).toNat) * (2 ^ (-(q + k)).toNat * 2 ^ (q - q').toNat) := by rw [h2]
    _ = c' * 2 ^ ((q' - -k).toNat + (-(q + k)).toNat + (q - q').toNat) := by rw [Nat.pow_add, Nat.pow_add]; ac_rfl
    _ = c' * 2 ^ (q' - q).toNat * (2 ^ (q + k).toNat * 2 ^ (-k - q').toNat) := by rw [e, Nat.pow_add, Nat.pow_add]; ac_rfl
theorem own_round {n : Int} {k : Nat} (hn : n.natAbs ≤ 2 ^ 53) (hk : k ≤ 900) {d : Datum} (h : Whole n (own_sh k d)) : Whole n (own_sh k (round b64 d)) := by
  cases d with
  | nan => exact h.elim
  | inf s => exact h.elim
  | fin s c q =>
    obtain ⟨c', q', hf, he⟩ := own_fit s hn hk
    have h' : Whole n (.fin s c (q + k)) := h
    have a := own_align (whole_natAbs h') he
    have r : round b64 (.fin s c q) = .fin s c' q' := roundRatio_exact good_b64 (by decide) hf a
    rw [r]
    refine own_whole_of h' ?_
    rw [show q + (k : Int) - (q' + k) = q - q' by omega, show q' + (k : Int) - (q + k) = q' - q by omega]
    rw [Nat.mul_one] at a
    exact a
theorem own_Dy.add {i j : Int} {k : Nat} {x y : UInt64} (hx : own_Dy i k x) (hy : own_Dy j k y) (h : (i + j).natAbs ≤ 2 ^ 53) (hk : k ≤ 900) : own_Dy (i + j) k (dadd x y) := by
  unfold own_Dy
  rw [val64_dadd]
  exact own_round h hk (by rw [own_sh_sum]; exact whole_sum hx hy)
theorem own_Dy.sub {i j : Int} {k : Nat} {x y : UInt64} (hx : own_Dy i k x) (hy : own_Dy j k y) (h : (i - j).natAbs ≤ 2 ^ 53) (hk : k ≤ 900) : own_Dy (i - j) k (dsub x y) := by
  unfold own_Dy
  rw [val64_dsub]
  refine own_round h hk ?_
  rw [own_sh_sum, own_sh_neg, Int.sub_eq_add_neg]
  exact whole_sum hx (whole_negate hy)
theorem own_Dy.mul {i j : Int} {k l : Nat} {x y : UInt64} (hx : own_Dy i k x) (hy : own_Dy j l y) (h : (i * j).natAbs ≤ 2 ^ 53) (hk : k + l ≤ 900) : own_Dy (i * j) (k + l) (dmul x y) := by
  obtain ⟨s, c, q, ex, wx⟩ := hx.fin
  obtain ⟨t, d, r, ey, wy⟩ := hy.fin
  unfold own_Dy
  rw [val64_dmul]
  refine own_round h hk ?_
  rw [ex, ey, own_sh_prod]
  exact whole_product wx wy
/-- what a quotient is: the ratio, rounded -/
theorem own_Dy.div {i j : Int} {k l : Nat} {x y : UInt64} (hx : own_Dy i k x) (hy : own_Dy j l y) (hj : j ≠ 0) : ∃ s, val64 (ddiv x y) = roundRatio b64 s i.natAbs j.natAbs ((l : Int) - k) ∧ (i ≠ 0 → s = (decide (i < 0) != decide (j < 0))) := by
  obtain ⟨s, c, q, ex, wx⟩ := hx.fin
  obtain ⟨t, d, r, ey, wy⟩ := hy.fin
  have hd : d ≠ 0 := fun z => hj ((whole_zero wy).mp z)
  refine ⟨s != t, ?_, fun hi => by rw [whole_sign wx hi, whole_sign wy hj]⟩
  rw [val64_ddiv, ex, ey]
  show (if d = 0 then _ else _) = _
  rw [if_neg hd]
  refine roundRatio_congr (Nat.pos_of_ne_zero hd) (Int.natAbs_pos.mpr hj) ?_
  have p := own_pows (whole_natAbs wx) (whole_natAbs wy)
  rw [show q - r - ((l : Int) - k) = q + k - (r + l) - 0 by omega, show (l : Int) - k - (q - r) = 0 - (q + k - (r + l)) by omega]
  exact p
/-- by a power of two: exact -/
theorem own_Dy.shr {i : Int} {k e : Nat} {x y : UInt64} (hx : own_Dy i k x) (hy : own_Dy ((2 ^ e : Nat) : Int) 0 y) (h : i.natAbs ≤ 2 ^ 53) (hk : k + e ≤ 900) : own_Dy i (k + e) (ddiv x y) := by
  have hp := Nat.two_pow_pos e
  obtain ⟨s, hv, hs⟩ := hx.div hy (by omega)
  obtain ⟨c, q, hf, he⟩ := own_fit s h hk
  have hr : val64 (ddiv x y) = .fin s c q := by
    rw [hv]
    refine roundRatio_exact good_b64 (by rw [Int.natAbs_natCast]; exact hp) hf ?_
    rw [Int.natAbs_natCast, show ((0 : Nat) : Int) - k - q = -(k : Int) - q by omega, show q - (((0 : Nat) : Int) - k) = q + k by omega]
    have e2 : (-(k : Int) - q).toNat + (q + (k + e)).toNat = (-((k : Int) + e) - q).toNat + e + (q + k).toNat := by omega
    have e3 : ((k + e : Nat) : Int) = (k : Int) + e := by omega
    rw [e3] at he
    apply Nat.eq_of_mul_eq_mul_right (Nat.two_pow_pos (-((k : Int) + e) - q).toNat)
    calc i.natAbs * 2 ^ (-(k : Int) - q).toNat * 2 ^ (-((k : Int) + e) - q).toNat = (i.natAbs * 2 ^ (-((k : Int) + e) - q).toNat) * 2 ^ (-(k : Int) - q).toNat := by ac_rfl
      _ = (c * 2 ^ (q - -((k : Int) + e)).toNat) * 2 ^ (-(k : Int) - q).toNat := by rw [he]
      _ = c * 2 ^ ((-(k : Int) - q).toNat + (q + (k + e)).toNat) := by rw [show q - -((k : Int) + e) = q + (k + e) by omega, Nat.pow_add]; ac_rfl
      _ = c * 2 ^ e * 2 ^ (q + k).toNat * 2 ^ (-((k : Int) + e) - q).toNat := by rw [e2, Nat.pow_add, Nat.pow_add]; ac_rfl
  unfold own_Dy
  rw [hr]
  by_cases h0 : i = 0
  · subst h0
    have hc : c = 0 := by
      have z : c * 2 ^ (q - -(((k + e : Nat) : Int))).toNat = 0 := by rw [← he]; simp
      rcases Nat.mul_eq_zero.mp z with z | z
      · exact z
      · exact absurd z (Nat.ne_of_gt (Nat.two_pow_pos _))
    subst hc
    show signed s (0 * _) = 0 * _
    rw [Nat.zero_mul, signed_zero, Int.zero_mul]
  · have hs' : s = decide (i < 0) := by
      have z : ¬ ((2 ^ e : Nat) : Int) < 0 := by omega
      rw [hs h0, decide_eq_false z]
      simp
    have hw : Whole i (ofInt i) := whole_ofInt i
    have hw2 : Whole i (.fin s i.natAbs 0) := by rw [hs']; exact hw
    refine own_whole_of hw2 ?_
    rw [show (0 : Int) - (q + ((k + e : Nat) : Int)) = -((k + e : Nat) : Int) - q by omega, show q + ((k + e : Nat) : Int) - 0 = q - -((k + e : Nat) : Int) by omega]
    exact he
/-- two quotients of one worth compare as equal -/
theorem own_Dy.same {i j i' j' : Int} {k l k' l' : Nat} {x y x' y' : UInt64} (hx : own_Dy i k x) (hy : own_Dy j l y) (hj : 0 < j) (hx' : own_Dy i' k' x') (hy' : own_Dy j' l' y') (hj' : 0 < j')
    (h : i * j' * ((2 ^ (l + k') : Nat) : Int) = i' * j * ((2 ^ (l' + k) : Nat) : Int)) : dcmp (ddiv x y) (ddiv x' y') = some .eq := by
  obtain ⟨s, hv, hs⟩ := hx.div hy (by omega)
  obtain ⟨s', hv', hs'⟩ := hx'.div hy' (by omega)
  have p1 : (0 : Int) < ((2 ^ (l + k') : Nat) : Int) := by have := Nat.two_pow_pos (l + k'); omega
  have p2 : (0 : Int) < ((2 ^ (l' + k) : Nat) : Int) := by have := Nat.two_pow_pos (l' + k); omega
  show order (val64 (ddiv x y)) (val64 (ddiv x' y')) = _
  by_cases h0 : i = 0
  · have h0' : i' = 0 := by
      rw [h0, Int.zero_mul, Int.zero_mul] at h
      rcases Int.mul_eq_zero.mp h.symm with h | h
      · rcases Int.mul_eq_zero.mp h with h | h
        · exact h
        · omega
      · omega
    rw [hv, hv', h0, h0']
    show order (.fin s 0 b64.qmin) (.fin s' 0 b64.qmin) = _
    show some (compare (signed s (0 * _)) (signed s' (0 * _))) = _
    rw [Nat.zero_mul, signed_zero, signed_zero]
    rfl
  · have sgn : ∀ {a b c : Int}, 0 < b → 0 < c → (a * b * c < 0 ↔ a < 0) := fun {a b c} hb hc => by
      rw [Int.mul_assoc]
      have hbc := Int.mul_pos hb hc
      constructor
      · intro q
        apply Int.not_le.mp
        intro ha
        have := Int.mul_nonneg ha (Int.le_of_lt hbc)
        omega
      · intro q
        exact Int.mul_neg_of_neg_of_pos q hbc
    have h0' : i' ≠ 0 := by
      intro z
      rw [z, Int.zero_mul, Int.zero_mul] at h
      rcases Int.mul_eq_zero.mp h with h | h
      · rcases Int.mul_eq_zero.mp h with h | h
        · exact h0 h
        · omega
      · omega
    have hss : s = s' := by
      rw [hs h0, hs' h0']
      have a : i < 0 ↔ i' < 0 := by rw [← sgn hj' p1, h, sgn hj p2]
      have b1 : decide (j < 0) = false := decide_eq_false (by omega)
      have b2 : decide (j' < 0) = false := decide_eq_false (by omega)
      rw [b1, b2]
      by_cases q : i < 0
      · rw [decide_eq_true q, decide_eq_true (a.mp q)]
      · rw [decide_eq_false q, decide_eq_false (fun z => q (a.mpr z))]
    have e : roundRatio b64 s i.natAbs j.natAbs ((l : Int) - k) = roundRatio b64 s i'.natAbs j'.natAbs ((l' : Int) - k') := by
      refine roundRatio_congr (by omega) (by omega) ?_
      have hn := congrArg Int.natAbs h
      rw [Int.natAbs_mul, Int.natAbs_mul, Int.natAbs_mul, Int.natAbs_mul, Int.natAbs_natCast, Int.natAbs_natCast] at hn
      have hE : l' + k + ((l : Int) - k - (l' - k')).toNat = l + k' + ((l' : Int) - k' - (l - k)).toNat := by omega
      apply Nat.eq_of_mul_eq_mul_right (Nat.two_pow_pos (l' + k))
      calc i.natAbs * j'.natAbs * 2 ^ ((l : Int) - k - (l' - k')).toNat * 2 ^ (l' + k) = i.natAbs * j'.natAbs * 2 ^ (l' + k + ((l : Int) - k - (l' - k')).toNat) := by rw [Nat.pow_add 2 (l' + k) _, Nat.mul_assoc, Nat.mul_comm (2 ^ ((l : Int) - k - (l' - k')).toNat)]
        _ = i.natAbs * j'.natAbs * 2 ^ (l + k') * 2 ^ ((l' : Int) - k' - (l - k)).toNat := by rw [hE, Nat.pow_add 2 (l + k') _, ← Nat.mul_assoc]
        _ = i'.natAbs * j.natAbs * 2 ^ (l' + k) * 2 ^ ((l' : Int) - k' - (l - k)).toNat := by rw [hn]
        _ = i'.natAbs * j.natAbs * 2 ^ ((l' : Int) - k' - (l - k)).toNat * 2 ^ (l' + k) := Nat.mul_right_comm _ _ _
    rw [hv, hv', ← hss, e]
    exact order_self (roundRatio_ne_nan _ _ _ _ _)
theorem own_Dy.up {n : Int} {k : Nat} {x : UInt64} (h : own_Dy n k x) (j : Nat) : own_Dy (n * ((2 ^ j : Nat) : Int)) (k + j) x := by
  obtain ⟨s, c, q, e, w⟩ := h.fin
  have w2 : Whole ((2 ^ j : Nat) : Int) (.fin false 1 (j : Int)) := by
    show signed false (1 * 2 ^ ((j : Int)).toNat) = ((2 ^ j : Nat) : Int) * ((2 ^ (-(j : Int)).toNat : Nat) : Int)
    rw [show ((j : Int)).toNat = j by omega, show (-(j : Int)).toNat = 0 by omega, Nat.one_mul, Nat.pow_zero]
    show ((2 ^ j : Nat) : Int) = ((2 ^ j : Nat) : Int) * 1
    rw [Int.mul_one]
  have p : Whole (n * ((2 ^ j : Nat) : Int)) (.fin (s != false) (c * 1) (q + k + j)) := whole_product w w2
  unfold own_Dy
  rw [e]
  show Whole _ (.fin s c (q + ((k + j : Nat) : Int)))
  rw [show q + ((k + j : Nat) : Int) = q + k + j by omega]
  rw [Nat.mul_one, show (s != false) = s by cases s <;> rfl] at p
  exact p
theorem own_Dy.cast {n n' : Int} {k k' : Nat} {x : UInt64} (h : own_Dy n k x) (e : n = n') (e' : k = k') : own_Dy n' k' x := e ▸ e' ▸ h
theorem own_mulb {x y : Int} {a b : Nat} (hx : x.natAbs ≤ a) (hy : y.natAbs ≤ b) : (x * y).natAbs ≤ a * b := by rw [Int.natAbs_mul]; exact Nat.mul_le_mul hx hy
theorem own_c1 : own_Dy 1 0 4607182418800017408 := by
  rw [show (4607182418800017408 : UInt64) = l2d 1 by decide +kernel]; exact (own_Dy.of_int (l2d_int (a := 1) (by decide))).cast (by decide) rfl
theorem own_c4 : own_Dy ((2 ^ 2 : Nat) : Int) 0 4616189618054758400 := by
  rw [show (4616189618054758400 : UInt64) = l2d 4 by decide +kernel]; exact (own_Dy.of_int (l2d_int (a := 4) (by decide))).cast (by decide) rfl
theorem own_c16 : own_Dy ((2 ^ 4 : Nat) : Int) 0 4625196817309499392 := by
  rw [show (4625196817309499392 : UInt64) = l2d 16 by decide +kernel]; exact (own_Dy.of_int (l2d_int (a := 16) (by decide))).cast (by decide) rfl
theorem own_i (x : Int32) : own_Dy x.toInt 0 (i2d x) := own_Dy.of_int (i2d_int x)
theorem own_l {x : Int64} (h : x.toInt.natAbs ≤ 2 ^ 53) : own_Dy x.toInt 0 (l2d x) := own_Dy.of_int (l2d_int h)
/-- the parts of the weight, as numbers -/
theorem own_parts {a bb len : Int32} {av : UInt64} {e : Nat} (ha : 0 ≤ a.toInt ∧ a.toInt ≤ 31) (hb : 0 ≤ bb.toInt ∧ bb.toInt ≤ 4) (hl : 0 ≤ len.toInt ∧ len.toInt ≤ 1048575) (he : e ≤ 7) (hav : own_Dy ((2 ^ e : Nat) : Int) 0 av) :
    let k1 := FP.ddiv (FP.i2d a) 4616189618054758400
    let b := FP.ddiv (FP.i2d bb) 4616189618054758400
    let S := (4 - bb.toInt) * ((2 ^ e : Nat) : Int) + bb.toInt * len.toInt
    own_Dy a.toInt 2 k1 ∧ own_Dy bb.toInt 2 b ∧ own_Dy (a.toInt + 4) 2 (FP.dadd k1 4607182418800017408) ∧ own_Dy (4 - bb.toInt) 2 (FP.dsub 4607182418800017408 b) ∧ own_Dy (bb.toInt * len.toInt) 2 (FP.dmul b (FP.i2d len)) ∧
    own_Dy (bb.toInt * len.toInt) (2 + e) (FP.ddiv (FP.dmul b (FP.i2d len)) av) ∧ own_Dy S (2 + e) (FP.dadd (FP.dsub 4607182418800017408 b) (FP.ddiv (FP.dmul b (FP.i2d len)) av)) ∧
    own_Dy (a.toInt * S) (4 + e) (FP.dmul k1 (FP.dadd (FP.dsub 4607182418800017408 b) (FP.ddiv (FP.dmul b (FP.i2d len)) av))) ∧ 0 ≤ S ∧ S ≤ 4194812 := by
  intro k1 b S
  have hp : (2 ^ e : Nat) ≤ 128 := Nat.le_trans (Nat.pow_le_pow_right (by decide) he) (by decide)
  have hp0 := Nat.two_pow_pos e
  have d1 : own_Dy a.toInt 2 k1 := (own_Dy.shr (own_i a) own_c4 (by omega) (by decide)).cast rfl rfl
  have d2 : own_Dy bb.toInt 2 b := (own_Dy.shr (own_i bb) own_c4 (by omega) (by decide)).cast rfl rfl
  have c2 : own_Dy 4 2 4607182418800017408 := (own_c1.up 2).cast rfl rfl
  have d3 : own_Dy (a.toInt + 4) 2 (FP.dadd k1 4607182418800017408) := own_Dy.add d1 c2 (by omega) (by decide)
  have d4 : own_Dy (4 - bb.toInt) 2 (FP.dsub 4607182418800017408 b) := own_Dy.sub c2 d2 (by omega) (by decide)
  have bl : (bb.toInt * len.toInt).natAbs ≤ 4 * 1048575 := own_mulb (by omega) (by omega)
  have bl0 : 0 ≤ bb.toInt * len.toInt := Int.mul_nonneg hb.1 hl.1
  have bl1 : bb.toInt * len.toInt ≤ 4194300 := by omega
  have d5 : own_Dy (bb.toInt * len.toInt) 2 (FP.dmul b (FP.i2d len)) := (own_Dy.mul d2 (own_i len) (by omega) (by decide)).cast rfl rfl
  have d6 : own_Dy (bb.toInt * len.toInt) (2 + e) (FP.ddiv (FP.dmul b (FP.i2d len)) av) := own_Dy.shr d5 hav (by omega) (by omega)
  have q1 : ((4 - bb.toInt) * ((2 ^ e : Nat) : Int)).natAbs ≤ 4 * 128 := own_mulb (by omega) (by omega)
  have q0 : 0 ≤ (4 - bb.toInt) * ((2 ^ e : Nat) : Int) := Int.mul_nonneg (by omega) (by omega)
  have s0 : 0 ≤ S := by show 0 ≤ (4 - bb.toInt) * ((2 ^ e : Nat) : Int) + bb.toInt * len.toInt; omega
  have s1 : S ≤ 4194812 := by show (4 - bb.toInt) * ((2 ^ e : Nat) : Int) + bb.toInt * len.toInt ≤ 4194812; omega
  have d7 : own_Dy S (2 + e) (FP.dadd (FP.dsub 4607182418800017408 b) (FP.ddiv (FP.dmul b (FP.i2d len)) av)) := own_Dy.add (d4.up e) d6 (by omega) (by omega)
  have d8 : own_Dy (a.toInt * S) (4 + e) (FP.dmul k1 (FP.dadd (FP.dsub 4607182418800017408 b) (FP.ddiv (FP.dmul b (FP.i2d len)) av))) := (own_Dy.mul d1 d7 (Nat.le_trans (own_mulb (a := 31) (b := 4194812) (by omega) (by omega)) (by decide)) (by omega)).cast rfl (by omega)
  exact ⟨d1, d2, d3, d4, d5, d6, d7, d8, s0, s1⟩
theorem own_kb {a S : Int} (ha : 0 ≤ a ∧ a ≤ 31) (hS : 0 ≤ S ∧ S ≤ 4194812) : 0 ≤ a * S ∧ a * S ≤ 130039172 := by
  have h0 := Int.mul_nonneg ha.1 hS.1
  have h1 : (a * S).natAbs ≤ 31 * 4194812 := own_mulb (by omega) (by omega)
  omega
theorem own_case0 {iv a bb len mm : Int32} {av xl : UInt64} {e : Nat} (hi : -2047 ≤ iv.toInt ∧ iv.toInt ≤ 2047) (ha : 0 ≤ a.toInt ∧ a.toInt ≤ 31) (hb : 0 ≤ bb.toInt ∧ bb.toInt ≤ 4) (hl : 0 ≤ len.toInt ∧ len.toInt ≤ 1048575) (he : e ≤ 7) (hav : own_Dy ((2 ^ e : Nat) : Int) 0 av)
    (hm : 1 ≤ mm.toInt ∧ mm.toInt ≤ 8) (hz : a.toInt * ((4 - bb.toInt) * ((2 ^ e : Nat) : Int) + bb.toInt * len.toInt) = 0) (hxl : own_Dy (iv.toInt * (a.toInt + 4)) 0 xl) :
    let k1 := FP.ddiv (FP.i2d a) 4616189618054758400
    let b := FP.ddiv (FP.i2d bb) 4616189618054758400
    let idf := FP.i2d iv
    let tf := FP.i2d mm
    let t2 := FP.dmul idf (FP.dadd k1 4607182418800017408)
    let u5 := FP.dmul k1 (FP.dadd (FP.dsub 4607182418800017408 b) (FP.ddiv (FP.dmul b (FP.i2d len)) av))
    Jvm.Free.Fl.NoNaN64 t2 ∧ Jvm.Free.Fl.NoNaN64 (FP.dmul t2 tf) ∧ Jvm.Free.Fl.NoNaN64 (FP.dadd u5 tf) ∧ Jvm.Free.Fl.NoNaN64 (FP.ddiv (FP.dmul t2 tf) (FP.dadd u5 tf)) ∧ Jvm.Free.Fl.NoNaN64 (FP.ddiv xl 4616189618054758400) ∧ FP.dcmp (FP.ddiv (FP.dmul t2 tf) (FP.dadd u5 tf)) (FP.ddiv xl 4616189618054758400) = some .eq := by
  intro k1 b idf tf t2 u5
  obtain ⟨d1, d2, d3, d4, d5, d6, d7, d8, s0, s1⟩ := own_parts ha hb hl he hav
  rw [hz] at d8
  have hp : (2 ^ (4 + e) : Nat) ≤ 2048 := Nat.le_trans (Nat.pow_le_pow_right (by decide) (show 4 + e ≤ 11 by omega)) (by decide)
  have hp0 := Nat.two_pow_pos (4 + e)
  have b2 : (iv.toInt * (a.toInt + 4)).natAbs ≤ 2047 * 35 := own_mulb (by omega) (by omega)
  have e2 : own_Dy (iv.toInt * (a.toInt + 4)) 2 t2 := (own_Dy.mul (own_i iv) d3 (by omega) (by decide)).cast rfl rfl
  have b3 : (iv.toInt * (a.toInt + 4) * mm.toInt).natAbs ≤ 2047 * 35 * 8 := own_mulb b2 (by omega)
  have e3 : own_Dy (iv.toInt * (a.toInt + 4) * mm.toInt) 2 (FP.dmul t2 tf) := (own_Dy.mul e2 (own_i mm) (by omega) (by decide)).cast rfl rfl
  have b4 : (mm.toInt * ((2 ^ (4 + e) : Nat) : Int)).natAbs ≤ 8 * 2048 := own_mulb (by omega) (by omega)
  have u : own_Dy (mm.toInt * ((2 ^ (4 + e) : Nat) : Int)) (4 + e) tf := ((own_i mm).up (4 + e)).cast rfl (by omega)
  have e6 : own_Dy (0 + mm.toInt * ((2 ^ (4 + e) : Nat) : Int)) (4 + e) (FP.dadd u5 tf) := own_Dy.add d8 u (by omega) (by omega)
  have pos : 0 < 0 + mm.toInt * ((2 ^ (4 + e) : Nat) : Int) := by rw [Int.zero_add]; exact Int.mul_pos (by omega) (by omega)
  have nn : ∀ {i j : Int} {k l : Nat} {x y : UInt64}, own_Dy i k x → own_Dy j l y → 0 < j → Jvm.Free.Fl.NoNaN64 (FP.ddiv x y) := fun hx hy hj => by
    obtain ⟨s, h, -⟩ := hx.div hy (by omega)
    refine Jvm.Free.Fl.noNaN64_no.mpr ((notNaN_iff _).mpr ?_)
    rw [show FP.ddiv _ _ = ddiv _ _ from rfl, h]
    exact roundRatio_ne_nan _ _ _ _ _
  refine ⟨e2.no, e3.no, e6.no, nn e3 e6 pos, nn hxl own_c4 (by decide), own_Dy.same e3 e6 pos hxl own_c4 (by decide) ?_⟩
  rw [Int.zero_add, show 4 + e + 0 = 4 + e by omega, show 0 + 2 = 2 by omega]
  generalize ((2 ^ (4 + e) : Nat) : Int) = P
  generalize iv.toInt * (a.toInt + 4) = X
  generalize ((2 ^ 2 : Nat) : Int) = F
  ac_rfl
theorem own_case1 {iv a bb len mm : Int32} {av xt xl : UInt64} {m1 : Int32} {e : Nat} (hi : -2047 ≤ iv.toInt ∧ iv.toInt ≤ 2047) (ha : 0 ≤ a.toInt ∧ a.toInt ≤ 31) (hb : 0 ≤ bb.toInt ∧ bb.toInt ≤ 4) (hl : 0 ≤ len.toInt ∧ len.toInt ≤ 1048575) (he : e ≤ 7) (hav : own_Dy ((2 ^ e : Nat) : Int) 0 av)
    (hm : 0 ≤ mm.toInt ∧ mm.toInt ≤ 7) (hm1 : m1.toInt = mm.toInt + 1) (hz : a.toInt * ((4 - bb.toInt) * ((2 ^ e : Nat) : Int) + bb.toInt * len.toInt) ≠ 0) (hxt : own_Dy (mm.toInt * (a.toInt * ((4 - bb.toInt) * ((2 ^ e : Nat) : Int) + bb.toInt * len.toInt))) 0 xt) (hxl : own_Dy (iv.toInt * (a.toInt + 4) * mm.toInt) 0 xl) :
    let k1 := FP.ddiv (FP.i2d a) 4616189618054758400
    let b := FP.ddiv (FP.i2d bb) 4616189618054758400
    let idf := FP.i2d iv
    let tf := FP.ddiv xt (FP.dmul 4625196817309499392 av)
    let t2 := FP.dmul idf (FP.dadd k1 4607182418800017408)
    let u5 := FP.dmul k1 (FP.dadd (FP.dsub 4607182418800017408 b) (FP.ddiv (FP.dmul b (FP.i2d len)) av))
    Jvm.Free.Fl.NoNaN64 (FP.dmul 4625196817309499392 av) ∧ Jvm.Free.Fl.NoNaN64 tf ∧ Jvm.Free.Fl.NoNaN64 t2 ∧ Jvm.Free.Fl.NoNaN64 (FP.dmul t2 tf) ∧ Jvm.Free.Fl.NoNaN64 (FP.dadd u5 tf) ∧ Jvm.Free.Fl.NoNaN64 (FP.ddiv (FP.dmul t2 tf) (FP.dadd u5 tf)) ∧ Jvm.Free.Fl.NoNaN64 (FP.dmul 4616189618054758400 (FP.i2d m1)) ∧ Jvm.Free.Fl.NoNaN64 (FP.ddiv xl (FP.dmul 4616189618054758400 (FP.i2d m1))) ∧
      FP.dcmp (FP.ddiv (FP.dmul t2 tf) (FP.dadd u5 tf)) (FP.ddiv xl (FP.dmul 4616189618054758400 (FP.i2d m1))) = some .eq := by
  intro k1 b idf tf t2 u5
  obtain ⟨d1, d2, d3, d4, d5, d6, d7, d8, s0, s1⟩ := own_parts ha hb hl he hav
  have hK := own_kb ha ⟨s0, s1⟩
  generalize hk : a.toInt * ((4 - bb.toInt) * ((2 ^ e : Nat) : Int) + bb.toInt * len.toInt) = Kc at *
  have hp : (2 ^ e : Nat) ≤ 128 := Nat.le_trans (Nat.pow_le_pow_right (by decide) he) (by decide)
  have hp0 := Nat.two_pow_pos e
  have g1 : own_Dy ((2 ^ (4 + e) : Nat) : Int) 0 (FP.dmul 4625196817309499392 av) := (own_Dy.mul own_c16 hav (Nat.le_trans (own_mulb (a := 16) (b := 128) (by decide) (by omega)) (by decide)) (by decide)).cast (by rw [Nat.pow_add, Int.natCast_mul]) rfl
  have bM : (mm.toInt * Kc).natAbs ≤ 7 * 130039172 := own_mulb (by omega) (by omega)
  have bM0 : 0 ≤ mm.toInt * Kc := Int.mul_nonneg hm.1 hK.1
  have g2 : own_Dy (mm.toInt * Kc) (4 + e) tf := (own_Dy.shr hxt g1 (by omega) (by omega)).cast rfl (by omega)
  have b2 : (iv.toInt * (a.toInt + 4)).natAbs ≤ 2047 * 35 := own_mulb (by omega) (by omega)
  have e2 : own_Dy (iv.toInt * (a.toInt + 4)) 2 t2 := (own_Dy.mul (own_i iv) d3 (by omega) (by decide)).cast rfl rfl
  have b3 : (iv.toInt * (a.toInt + 4) * (mm.toInt * Kc)).natAbs ≤ 2047 * 35 * (7 * 130039172) := own_mulb b2 bM
  have e3 : own_Dy (iv.toInt * (a.toInt + 4) * (mm.toInt * Kc)) (2 + (4 + e)) (FP.dmul t2 tf) := own_Dy.mul e2 g2 (by omega) (by omega)
  have e6 : own_Dy (Kc + mm.toInt * Kc) (4 + e) (FP.dadd u5 tf) := own_Dy.add d8 g2 (by omega) (by omega)
  have pos : 0 < Kc + mm.toInt * Kc := by omega
  have b7 : (((2 ^ 2 : Nat) : Int) * m1.toInt).natAbs ≤ 4 * 8 := own_mulb (by decide) (by omega)
  have e7 : own_Dy (((2 ^ 2 : Nat) : Int) * m1.toInt) 0 (FP.dmul 4616189618054758400 (FP.i2d m1)) := own_Dy.mul own_c4 (own_i m1) (by omega) (by decide)
  have pos7 : 0 < ((2 ^ 2 : Nat) : Int) * m1.toInt := Int.mul_pos (by decide) (by omega)
  have nn : ∀ {i j : Int} {k l : Nat} {x y : UInt64}, own_Dy i k x → own_Dy j l y → 0 < j → Jvm.Free.Fl.NoNaN64 (FP.ddiv x y) := fun hx hy hj => by
    obtain ⟨s, h, -⟩ := hx.div hy (by omega)
    refine Jvm.Free.Fl.noNaN64_no.mpr ((notNaN_iff _).mpr ?_)
    rw [show FP.ddiv _ _ = ddiv _ _ from rfl, h]
    exact roundRatio_ne_nan _ _ _ _ _
  refine ⟨g1.no, g2.no, e2.no, e3.no, e6.no, nn e3 e6 pos, e7.no, nn hxl e7 pos7, own_Dy.same e3 e6 pos hxl e7 pos7 ?_⟩
  rw [hm1, show 4 + e + 0 = 4 + e by omega, show 0 + (2 + (4 + e)) = 2 + (4 + e) by omega, Nat.pow_add 2 2 (4 + e), Int.natCast_mul]
  generalize ((2 ^ (4 + e) : Nat) : Int) = P
  generalize iv.toInt * (a.toInt + 4) = X
  generalize ((2 ^ 2 : Nat) : Int) = F
  rw [show Kc + mm.toInt * Kc = Kc * (mm.toInt + 1) by rw [Int.mul_add, Int.mul_one, Int.add_comm, Int.mul_comm mm.toInt]]
  generalize mm.toInt + 1 = W
  ac_rfl
theorem own_q4 (a : Int32) : own_Dy a.toInt 2 (FP.ddiv (FP.i2d a) 4616189618054758400) := (own_Dy.shr (own_i a) own_c4 (by have := rng32 a; omega) (by decide)).cast rfl rfl
end Math
theorem own_iv (p : Int32) {i : Int32} (q : i = (p % (2048 : Int32))) : -2047 ≤ i.toInt ∧ i.toInt ≤ 2047 := by
  have h := c_irem p 2048 2048 rfl
  rw [← q] at h
  by_cases z : 0 ≤ p.toInt
  · have := h.1 z; omega
  · have := h.2 (by omega); omega
theorem own_av (p : Int32) {i : Int32} (q : i = (p &&& (31 : Int32))) : 0 ≤ i.toInt ∧ i.toInt ≤ 31 := by
  have h := c_mask p 31 5 (by decide) (by decide)
  rw [← q] at h
  omega
theorem own_bv (p : Int32) {i : Int32} (q : i = (((p.toUInt32 >>> ((5 : Int32) &&& 31).toUInt32).toInt32) % (5 : Int32))) : 0 ≤ i.toInt ∧ i.toInt ≤ 4 := by
  have h := c_iushr p 5 5 (by decide) (by decide)
  have r := (c_irem ((p.toUInt32 >>> ((5 : Int32) &&& 31).toUInt32).toInt32) 5 5 rfl).1 (by rw [h]; omega)
  rw [← q] at r
  omega
theorem own_lv (p : Int32) {i : Int32} (q : i = (p &&& (1048575 : Int32))) : 0 ≤ i.toInt ∧ i.toInt ≤ 1048575 := by
  have h := c_mask p 1048575 20 (by decide) (by decide)
  rw [← q] at h
  omega
theorem own_7 (p : Int32) {i : Int32} (q : i = (p &&& (7 : Int32))) : 0 ≤ i.toInt ∧ i.toInt ≤ 7 := by
  have h := c_mask p 7 3 (by decide) (by decide)
  rw [← q] at h
  omega
theorem own_pw {ev : Int32} (h : 0 ≤ ev.toInt ∧ ev.toInt ≤ 7) {pw : Int64} (q : pw = ((1 : Int64) <<< (ev &&& 0x3f).toInt64)) : ∃ e : Nat, e ≤ 7 ∧ pw.toInt = ((2 ^ e : Nat) : Int) := by
  have e : ev = Int32.ofNat ev.toInt.toNat := by
    apply Int32.toInt_inj.mp
    rw [Int32.toInt_ofNat_of_lt (by omega)]
    omega
  have all : ∀ n : Fin 8, ((1 : Int64) <<< (Int32.ofNat n.val &&& 0x3f).toInt64).toInt = ((2 ^ n.val : Nat) : Int) := by decide +kernel
  refine ⟨ev.toInt.toNat, by omega, ?_⟩
  rw [q]
  have := all ⟨ev.toInt.toNat, by omega⟩
  rw [← e] at this
  exact this
theorem own_sc {bb len : Int32} {pw sc : Int64} {e : Nat} (hb : 0 ≤ bb.toInt ∧ bb.toInt ≤ 4) (hl : 0 ≤ len.toInt ∧ len.toInt ≤ 1048575) (he : e ≤ 7) (hp : pw.toInt = ((2 ^ e : Nat) : Int)) (q : sc = ((((4 : Int64) - (bb.toInt64)) * pw) + ((bb.toInt64) * (len.toInt64)))) :
    sc.toInt = (4 - bb.toInt) * ((2 ^ e : Nat) : Int) + bb.toInt * len.toInt ∧ 0 ≤ sc.toInt ∧ sc.toInt ≤ 4194812 := by
  have hp1 : (2 ^ e : Nat) ≤ 128 := Nat.le_trans (Nat.pow_le_pow_right (by decide) he) (by decide)
  have a1 := c_lsub 4 bb.toInt64
  have r1 := rng64 (4 - bb.toInt64)
  rw [c_i2l] at a1
  have k4 : (4 : Int64).toInt = 4 := rfl
  have e1 : ((4 : Int64) - bb.toInt64).toInt = 4 - bb.toInt := by omega
  have a2 := c_lmul (4 - bb.toInt64) pw
  have r2 := rng64 ((4 - bb.toInt64) * pw)
  rw [e1, hp] at a2
  have b2 : ((4 - bb.toInt) * ((2 ^ e : Nat) : Int)).natAbs ≤ 4 * 128 := own_mulb (by omega) (by rw [Int.natAbs_natCast]; exact hp1)
  have b20 : 0 ≤ (4 - bb.toInt) * ((2 ^ e : Nat) : Int) := Int.mul_nonneg (by omega) (Int.natCast_nonneg _)
  have a3 := c_lmul bb.toInt64 len.toInt64
  have r3 := rng64 (bb.toInt64 * len.toInt64)
  rw [c_i2l, c_i2l] at a3
  have b3 : (bb.toInt * len.toInt).natAbs ≤ 4 * 1048575 := own_mulb (by omega) (by omega)
  have b30 : 0 ≤ bb.toInt * len.toInt := Int.mul_nonneg hb.1 hl.1
  have a4 := c_ladd ((4 - bb.toInt64) * pw) (bb.toInt64 * len.toInt64)
  rw [← q] at a4
  have r4 := rng64 sc
  generalize (4 - bb.toInt) * ((2 ^ e : Nat) : Int) = X at *
  generalize bb.toInt * len.toInt = Y at *
  omega
theorem own_kc {a : Int32} {sc kc : Int64} (ha : 0 ≤ a.toInt ∧ a.toInt ≤ 31) (hs : 0 ≤ sc.toInt ∧ sc.toInt ≤ 4194812) (q : kc = ((a.toInt64) * sc)) : kc.toInt = a.toInt * sc.toInt ∧ 0 ≤ kc.toInt ∧ kc.toInt ≤ 130039172 := by
  have a2 := c_lmul a.toInt64 sc
  rw [← q, c_i2l] at a2
  have r := rng64 kc
  have b := own_kb ha hs
  generalize a.toInt * sc.toInt = X at *
  omega
theorem own_m1 {mm : Int32} (h : 0 ≤ mm.toInt ∧ mm.toInt ≤ 7) : (mm + (1 : Int32)).toInt = mm.toInt + 1 := by
  have a := c_iadd mm 1
  have r := rng32 (mm + 1)
  have k : (1 : Int32).toInt = 1 := rfl
  omega
theorem own_a4 {a : Int32} (h : 0 ≤ a.toInt ∧ a.toInt ≤ 31) : ((a + (4 : Int32)).toInt64).toInt = a.toInt + 4 := by
  have x := c_iadd a 4
  have r := rng32 (a + 4)
  have k : (4 : Int32).toInt = 4 := rfl
  rw [c_i2l]
  omega
theorem own_xl {iv a : Int32} (hi : -2047 ≤ iv.toInt ∧ iv.toInt ≤ 2047) (ha : 0 ≤ a.toInt ∧ a.toInt ≤ 31) : ((iv.toInt64) * ((a + (4 : Int32)).toInt64)).toInt = iv.toInt * (a.toInt + 4) := by
  have x := c_lmul iv.toInt64 ((a + (4 : Int32)).toInt64)
  rw [own_a4 ha, c_i2l] at x
  have r := rng64 ((iv.toInt64) * ((a + (4 : Int32)).toInt64))
  have b : (iv.toInt * (a.toInt + 4)).natAbs ≤ 2047 * 35 := own_mulb (by omega) (by omega)
  generalize iv.toInt * (a.toInt + 4) = X at *
  omega
theorem own_xl2 {iv a mm : Int32} (hi : -2047 ≤ iv.toInt ∧ iv.toInt ≤ 2047) (ha : 0 ≤ a.toInt ∧ a.toInt ≤ 31) (hm : 0 ≤ mm.toInt ∧ mm.toInt ≤ 7) : (((iv.toInt64) * ((a + (4 : Int32)).toInt64)) * (mm.toInt64)).toInt = iv.toInt * (a.toInt + 4) * mm.toInt := by
  have x := c_lmul ((iv.toInt64) * ((a + (4 : Int32)).toInt64)) mm.toInt64
  rw [own_xl hi ha, c_i2l] at x
  have r := rng64 (((iv.toInt64) * ((a + (4 : Int32)).toInt64)) * (mm.toInt64))
  have b : (iv.toInt * (a.toInt + 4)).natAbs ≤ 2047 * 35 := own_mulb (by omega) (by omega)
  have b' : (iv.toInt * (a.toInt + 4) * mm.toInt).natAbs ≤ 2047 * 35 * 7 := own_mulb b (by omega)
  generalize iv.toInt * (a.toInt + 4) * mm.toInt = X at *
  omega
theorem own_xt {mm : Int32} {kc : Int64} (hm : 0 ≤ mm.toInt ∧ mm.toInt ≤ 7) (hk : 0 ≤ kc.toInt ∧ kc.toInt ≤ 130039172) : ((mm.toInt64) * kc).toInt = mm.toInt * kc.toInt ∧ (mm.toInt * kc.toInt).natAbs ≤ 910274204 := by
  have x := c_lmul mm.toInt64 kc
  rw [c_i2l] at x
  have r := rng64 ((mm.toInt64) * kc)
  have b : (mm.toInt * kc.toInt).natAbs ≤ 7 * 130039172 := own_mulb (by omega) (by omega)
  generalize mm.toInt * kc.toInt = X at *
  omega
theorem own_dl {x : Int64} {n : Int} (h : x.toInt = n) (b : n.natAbs ≤ 9007199254740992) : own_Dy n 0 (FP.l2d x) := by
  subst h
  exact own_l b
theorem d_jdk_30_method_1_0 : decode jdk_30_method_1_code 0 = .ok (.aload_n 0, 1) := by decide +kernel
theorem d_jdk_30_method_1_1 : decode jdk_30_method_1_code 1 = .ok (.invokespecial 1, 3) := by decide +kernel
theorem d_jdk_30_method_1_4 : decode jdk_30_method_1_code 4 = .ok (.return_, 1) := by decide +kernel
theorem ef_0 (m : MethodId) (x0 : Addr) : entryFrame m #[(.ref x0)] 1 = mkF m 0 #[.val (.ref x0)] [] := by first | (simp [entryFrame, mkF, argsToLocals, Value.category]; done) | rfl
theorem pn_0 : plainName "java/lang/Record" = true := by first | (simp [plainName, overriddenIn]; done) | decide +kernel
def Q_rec (Z : State) (o : Addr) (h0 : Heap) (n0 : Nat) (v : Option Value) (h : Heap) (L : List Loc) : Prop := v = none ∧ Fr n0 L ∧ h = h0
set_option maxRecDepth 65536 in
set_option maxHeartbeats 40000000 in
theorem rm_rec (l : Launch) (Z : State) (a0 : Array Value) (hw : ∀ d ∈ tables_1, d.before a0 Z = true) (ws : List Jvm.Cond) (o : Addr) (h0 : Heap) (n0 : Nat) (Z0 : n0 ≤ h0.size) :
    MetFree l (⟨"java/lang/Record", "<init>", "()V"⟩ : MethodName) (head1 (Jvm.Cond.code (⟨"java/lang/Record", "<init>", "()V"⟩ : MethodName) jdk_30_method_1_code 1 none :: ws) ({ frames := 1, cells := 0, slots := 0, locals := 12 } : Room)) (fun aA U => aA = #[(.ref o)] ∧ Z.Warmed39 U.vm ∧ U.heap = h0) (fun _ _ _ _ _ => True) (fun _ U oO U' => ∃ vV LL, oO = .returned vV ∧ Q_rec Z o h0 n0 vV U'.heap LL ∧ FrameEnd U oO U' LL ({ frames := 1, cells := 0, slots := 0, locals := 12 } : Room).cells ({ frames := 1, cells := 0, slots := 0, locals := 12 } : Room).slots) := by
  refine MetFree.of_bodySF (plainFor_of_name pn_0) hisR ?_
  intro p e s m args below meth c s₁ Bd hml0 hP hK
  obtain ⟨rfl, hZ, hh⟩ := hP
  have hx := Bd.exec
  have hby := Bd.bytes
  have hml : c.maxLocals = 1 := hml0
  have hown : s.vm.findClass "java/lang/Record" = some m.cls := findClass_of_methodNamed Bd.named
  have hnm := (name_of_methodNamed Bd.named Bd.method).1
  have X0 : Stand p l e ({ frames := 1, cells := 0, slots := 0, locals := 12 } : Room) s m #[(.ref o)] below meth c s₁ [] 0 0 := Stand.of_body Bd
  have e0 : s₁.heap = h0 := by rw [← hh, Bd.state]; rfl
  have N0 := Fr.nil n0
  have hret := Bd.returns
  have hlk : meth.locks = false := Bd.notSynchronized
  refine own_start (ef_0 m o) ?_
  show own_Go p e below s (Q_rec Z o h0 n0) ({ frames := 1, cells := 0, slots := 0, locals := 12 } : Room).cells ({ frames := 1, cells := 0, slots := 0, locals := 12 } : Room).slots (s₁.setTop (mkF m 0 #[.val (.ref o)] []))
  refine g_aload_n X0 hx 1 (hb hby d_jdk_30_method_1_0) rfl rfl rfl ?_
  refine own_initO X0 hx hZ hown (hw _ (List.mem_of_getElem? (i := 14) rfl)) (hw _ (List.mem_of_getElem? (i := 15) rfl)) (hw _ (List.mem_of_getElem? (i := 16) rfl)) e0 4 (by rw [hml]; rfl) (hb hby d_jdk_30_method_1_1) rfl (by decide) 0 rfl (by decide) fun T1 X1 e1 => ?_
  refine own_retV X1 hx hlk hret (hb hby d_jdk_30_method_1_4) ?_ (by decide) (by decide)
  rw [e1]
  exact ⟨rfl, N0, rfl⟩
theorem d_prog_83_method_1_0 : decode prog_83_method_1_code 0 = .ok (.aload_n 0, 1) := by decide +kernel
theorem d_prog_83_method_1_1 : decode prog_83_method_1_code 1 = .ok (.invokespecial 1, 3) := by decide +kernel
theorem pd_0 : parseMethodDescriptor "()V" = some ⟨[], none⟩ := by decide +kernel
theorem d_prog_83_method_1_4 : decode prog_83_method_1_code 4 = .ok (.aload_n 0, 1) := by decide +kernel
theorem d_prog_83_method_1_5 : decode prog_83_method_1_code 5 = .ok (.dload_n 1, 1) := by decide +kernel
theorem d_prog_83_method_1_6 : decode prog_83_method_1_code 6 = .ok (.putfield 7, 3) := by decide +kernel
theorem d_prog_83_method_1_9 : decode prog_83_method_1_code 9 = .ok (.aload_n 0, 1) := by decide +kernel
theorem d_prog_83_method_1_10 : decode prog_83_method_1_code 10 = .ok (.dload_n 3, 1) := by decide +kernel
theorem d_prog_83_method_1_11 : decode prog_83_method_1_code 11 = .ok (.putfield 13, 3) := by decide +kernel
theorem d_prog_83_method_1_14 : decode prog_83_method_1_code 14 = .ok (.return_, 1) := by decide +kernel
theorem ef_1 (m : MethodId) (x0 : Addr) (x1 : UInt64) (x2 : UInt64) : entryFrame m #[(.ref x0), (.double x1), (.double x2)] 5 = mkF m 0 #[.val (.ref x0), .val (.double x1), .second, .val (.double x2), .second] [] := by first | (simp [entryFrame, mkF, argsToLocals, Value.category]; done) | rfl
theorem pn_1 : plainName "com/example/libelem/libelem/rank/Bm25" = true := by first | (simp [plainName, overriddenIn]; done) | decide +kernel
def Q_init (Z : State) (o : Addr) (xk : UInt64) (xb : UInt64) (h0 : Heap) (n0 : Nat) (v : Option Value) (h : Heap) (L : List Loc) : Prop := v = none ∧ Fr n0 L ∧ Keep h0 h [o] ∧ Fld Z h o "com/example/libelem/libelem/rank/Bm25" "k1" "D" (.double xk) ∧ Fld Z h o "com/example/libelem/libelem/rank/Bm25" "b" "D" (.double xb)
set_option maxRecDepth 65536 in
set_option maxHeartbeats 40000000 in
theorem rm_init (l : Launch) (Z : State) (a0 : Array Value) (hw : ∀ d ∈ tables_1, d.before a0 Z = true) (ws : List Jvm.Cond) (o : Addr) (xk : UInt64) (xb : UInt64) (h0 : Heap) (n0 : Nat) (Z0 : n0 ≤ h0.size) (E_o : Exa Z h0 o "com/example/libelem/libelem/rank/Bm25") (F_o_k1 : Fld Z h0 o "com/example/libelem/libelem/rank/Bm25" "k1" "D" (.double (0 : UInt64))) (F_o_b : Fld Z h0 o "com/example/libelem/libelem/rank/Bm25" "b" "D" (.double (0 : UInt64))) (g_o : n0 ≤ o) :
    MetFree l (⟨"com/example/libelem/libelem/rank/Bm25", "<init>", "(DD)V"⟩ : MethodName) (head1 (Jvm.Cond.code (⟨"com/example/libelem/libelem/rank/Bm25", "<init>", "(DD)V"⟩ : MethodName) prog_83_method_1_code 5 none :: ws) ({ frames := 2, cells := 0, slots := 0, locals := 24 } : Room)) (fun aA U => aA = #[(.ref o), (.double xk), (.double xb)] ∧ Z.Warmed39 U.vm ∧ U.heap = h0) (fun _ _ _ _ _ => True) (fun _ U oO U' => ∃ vV LL, oO = .returned vV ∧ Q_init Z o xk xb h0 n0 vV U'.heap LL ∧ FrameEnd U oO U' LL ({ frames := 2, cells := 0, slots := 0, locals := 24 } : Room).cells ({ frames := 2, cells := 0, slots := 0, locals := 24 } : Room).slots) := by
  refine MetFree.of_bodySF (plainFor_of_name pn_1) hisR ?_
  intro p e s m args below meth c s₁ Bd hml0 hP hK
  obtain ⟨rfl, hZ, hh⟩ := hP
  have hx := Bd.exec
  have hby := Bd.bytes
  have hml : c.maxLocals = 5 := hml0
  have hown : s.vm.findClass "com/example/libelem/libelem/rank/Bm25" = some m.cls := findClass_of_methodNamed Bd.named
  have hnm := (name_of_methodNamed Bd.named Bd.method).1
  have X0 : Stand p l e ({ frames := 2, cells := 0, slots := 0, locals := 24 } : Room) s m #[(.ref o), (.double xk), (.double xb)] below meth c s₁ [] 0 0 := Stand.of_body Bd
  have e0 : s₁.heap = h0 := by rw [← hh, Bd.state]; rfl
  have N0 := Fr.nil n0
  have hret := Bd.returns
  have hlk : meth.locks = false := Bd.notSynchronized
  refine own_start (ef_1 m o xk xb) ?_
  show own_Go p e below s (Q_init Z o xk xb h0 n0) ({ frames := 2, cells := 0, slots := 0, locals := 24 } : Room).cells ({ frames := 2, cells := 0, slots := 0, locals := 24 } : Room).slots (s₁.setTop (mkF m 0 #[.val (.ref o), .val (.double xk), .second, .val (.double xb), .second] []))
  refine g_aload_n X0 hx 1 (hb hby d_prog_83_method_1_0) rfl rfl rfl ?_
  refine own_callI X0 hx hZ hown rfl (hw _ (List.mem_of_getElem? (i := 9) rfl)) (hw _ (List.mem_of_getElem? (i := 10) rfl)) (by decide) (rm_rec l Z a0 hw [] o h0 n0 Z0 ) (hw _ (List.mem_of_getElem? (i := 13) rfl)) (hw _ (List.mem_of_getElem? (i := 12) rfl)) e0 0 (by decide) (by decide) (by decide) (by decide) o [] [] rfl pd_0 rfl 4 rfl (by rw [hml]; rfl) rfl (hb hby d_prog_83_method_1_1) rfl fun T2 v2 L2 X2 hQ2 => ?_
  obtain ⟨rfl, Nq2, e2⟩ := hQ2
  have N2 := Fr.app N0 Nq2
  show own_Go p e below s _ _ _ (T2.setTop (mkF m 4 _ []))
  refine g_aload_n X2 hx 5 (hb hby d_prog_83_method_1_4) rfl rfl rfl ?_
  refine g_dload_n X2 hx 6 (hb hby d_prog_83_method_1_5) rfl rfl ?_
  refine own_putF X2 hx hZ hown (host := "") (Or.inl (hw _ (List.mem_of_getElem? (i := 17) rfl))) Via.refl e2 F_o_k1 E_o (Or.inr ⟨(hw _ (List.mem_of_getElem? (i := 18) rfl)), rfl, hnm⟩) (hw _ (List.mem_of_getElem? (i := 4) rfl)) (ty := .double) (by decide) rfl rfl 9 (hb hby d_prog_83_method_1_6) rfl fun T3 h3 X3 e3 W3 => ?_
  have f3 : Fld Z h3 o "com/example/libelem/libelem/rank/Bm25" "k1" "D" (.double xk) := Fld.same W3 F_o_k1
  have N3 := Fr.snoc X3 N2 g_o
  have z4 : n0 ≤ h3.size := (Nat.le_trans Z0 (Keep.of_wr W3).1)
  have K5 : Keep h0 h3 [o] := (Keep.refl h0 [o]).wr W3 (Or.inl (List.mem_of_getElem? (i := 0) rfl))
  refine g_aload_n X3 hx 10 (hb hby d_prog_83_method_1_9) rfl rfl rfl ?_
  refine g_dload_n X3 hx 11 (hb hby d_prog_83_method_1_10) rfl rfl ?_
  have f6 : Exa Z h3 o "com/example/libelem/libelem/rank/Bm25" := (Exa.wr W3 E_o)
  have f7 : Fld Z h3 o "com/example/libelem/libelem/rank/Bm25" "b" "D" (.double (0 : UInt64)) := (Fld.other W3 F_o_b (Or.inr (slot_ne (Or.inr (hw _ (List.mem_of_getElem? (i := 20) rfl))) (Or.inr (hw _ (List.mem_of_getElem? (i := 18) rfl))) (by decide) (t := .double) (t' := .double) (by decide) (by decide))))
  refine own_putF X3 hx hZ hown (host := "") (Or.inl (hw _ (List.mem_of_getElem? (i := 19) rfl))) Via.refl e3 f7 f6 (Or.inr ⟨(hw _ (List.mem_of_getElem? (i := 20) rfl)), rfl, hnm⟩) (hw _ (List.mem_of_getElem? (i := 4) rfl)) (ty := .double) (by decide) rfl rfl 14 (hb hby d_prog_83_method_1_11) rfl fun T8 h8 X8 e8 W8 => ?_
  have f8 : Fld Z h8 o "com/example/libelem/libelem/rank/Bm25" "b" "D" (.double xb) := Fld.same W8 f7
  have N8 := Fr.snoc X8 N3 g_o
  have z9 : n0 ≤ h8.size := (Nat.le_trans z4 (Keep.of_wr W8).1)
  have K10 : Keep h0 h8 [o] := K5.wr W8 (Or.inl (List.mem_of_getElem? (i := 0) rfl))
  have f11 : Fld Z h8 o "com/example/libelem/libelem/rank/Bm25" "k1" "D" (.double xk) := (Fld.other W8 f3 (Or.inr (slot_ne (Or.inr (hw _ (List.mem_of_getElem? (i := 18) rfl))) (Or.inr (hw _ (List.mem_of_getElem? (i := 20) rfl))) (by decide) (t := .double) (t' := .double) (by decide) (by decide))))
  refine own_retV X8 hx hlk hret (hb hby d_prog_83_method_1_14) ?_ (by decide) (by decide)
  rw [e8]
  exact ⟨rfl, N8, K10, f11, f8⟩
theorem d_prog_83_method_3_0 : decode prog_83_method_3_code 0 = .ok (.dload_n 1, 1) := by decide +kernel
theorem d_prog_83_method_3_1 : decode prog_83_method_3_code 1 = .ok (.aload_n 0, 1) := by decide +kernel
theorem d_prog_83_method_3_2 : decode prog_83_method_3_code 2 = .ok (.getfield 7, 3) := by decide +kernel
theorem d_prog_83_method_3_5 : decode prog_83_method_3_code 5 = .ok (.dconst 1, 1) := by decide +kernel
theorem d_prog_83_method_3_6 : decode prog_83_method_3_code 6 = .ok (.dadd, 1) := by decide +kernel
theorem d_prog_83_method_3_7 : decode prog_83_method_3_code 7 = .ok (.dmul, 1) := by decide +kernel
theorem d_prog_83_method_3_8 : decode prog_83_method_3_code 8 = .ok (.dload_n 3, 1) := by decide +kernel
theorem d_prog_83_method_3_9 : decode prog_83_method_3_code 9 = .ok (.dmul, 1) := by decide +kernel
theorem d_prog_83_method_3_10 : decode prog_83_method_3_code 10 = .ok (.aload_n 0, 1) := by decide +kernel
theorem d_prog_83_method_3_11 : decode prog_83_method_3_code 11 = .ok (.getfield 7, 3) := by decide +kernel
theorem d_prog_83_method_3_14 : decode prog_83_method_3_code 14 = .ok (.dconst 1, 1) := by decide +kernel
theorem d_prog_83_method_3_15 : decode prog_83_method_3_code 15 = .ok (.aload_n 0, 1) := by decide +kernel
theorem d_prog_83_method_3_16 : decode prog_83_method_3_code 16 = .ok (.getfield 13, 3) := by decide +kernel
theorem d_prog_83_method_3_19 : decode prog_83_method_3_code 19 = .ok (.dsub, 1) := by decide +kernel
theorem d_prog_83_method_3_20 : decode prog_83_method_3_code 20 = .ok (.aload_n 0, 1) := by decide +kernel
theorem d_prog_83_method_3_21 : decode prog_83_method_3_code 21 = .ok (.getfield 13, 3) := by decide +kernel
theorem d_prog_83_method_3_24 : decode prog_83_method_3_code 24 = .ok (.iload 5, 2) := by decide +kernel
theorem d_prog_83_method_3_26 : decode prog_83_method_3_code 26 = .ok (.i2d, 1) := by decide +kernel
theorem d_prog_83_method_3_27 : decode prog_83_method_3_code 27 = .ok (.dmul, 1) := by decide +kernel
theorem d_prog_83_method_3_28 : decode prog_83_method_3_code 28 = .ok (.dload 6, 2) := by decide +kernel
theorem d_prog_83_method_3_30 : decode prog_83_method_3_code 30 = .ok (.ddiv, 1) := by decide +kernel
theorem d_prog_83_method_3_31 : decode prog_83_method_3_code 31 = .ok (.dadd, 1) := by decide +kernel
theorem d_prog_83_method_3_32 : decode prog_83_method_3_code 32 = .ok (.dmul, 1) := by decide +kernel
theorem d_prog_83_method_3_33 : decode prog_83_method_3_code 33 = .ok (.dload_n 3, 1) := by decide +kernel
theorem d_prog_83_method_3_34 : decode prog_83_method_3_code 34 = .ok (.dadd, 1) := by decide +kernel
theorem d_prog_83_method_3_35 : decode prog_83_method_3_code 35 = .ok (.ddiv, 1) := by decide +kernel
theorem d_prog_83_method_3_36 : decode prog_83_method_3_code 36 = .ok (.dreturn, 1) := by decide +kernel
theorem ef_2 (m : MethodId) (x0 : Addr) (x1 : UInt64) (x2 : UInt64) (x3 : Int32) (x4 : UInt64) : entryFrame m #[(.ref x0), (.double x1), (.double x2), (.int x3), (.double x4)] 8 = mkF m 0 #[.val (.ref x0), .val (.double x1), .second, .val (.double x2), .second, .val (.int x3), .val (.double x4), .second] [] := by first | (simp [entryFrame, mkF, argsToLocals, Value.category]; done) | rfl
def Q_weight (Z : State) (o : Addr) (idf : UInt64) (tf : UInt64) (ln : Int32) (avd : UInt64) (xk : UInt64) (xb : UInt64) (h0 : Heap) (n0 : Nat) (v : Option Value) (h : Heap) (L : List Loc) : Prop := v = some (.double (FP.ddiv (FP.dmul (FP.dmul idf (FP.dadd xk (4607182418800017408 : UInt64))) tf) (FP.dadd (FP.dmul xk (FP.dadd (FP.dsub (4607182418800017408 : UInt64) xb) (FP.ddiv (FP.dmul xb (FP.i2d ln)) avd))) tf))) ∧ Fr n0 L ∧ h = h0
set_option maxRecDepth 65536 in
set_option maxHeartbeats 40000000 in
theorem rm_weight (l : Launch) (Z : State) (a0 : Array Value) (hw : ∀ d ∈ tables_1, d.before a0 Z = true) (ws : List Jvm.Cond) (o : Addr) (idf : UInt64) (tf : UInt64) (ln : Int32) (avd : UInt64) (xk : UInt64) (xb : UInt64) (h0 : Heap) (n0 : Nat) (Z0 : n0 ≤ h0.size) (F_o_k1 : Fld Z h0 o "com/example/libelem/libelem/rank/Bm25" "k1" "D" (.double xk)) (F_o_b : Fld Z h0 o "com/example/libelem/libelem/rank/Bm25" "b" "D" (.double xb)) (n1 : Jvm.Free.Fl.NoNaN64 (FP.dadd xk (4607182418800017408 : UInt64))) (n2 : Jvm.Free.Fl.NoNaN64 (FP.dmul idf (FP.dadd xk (4607182418800017408 : UInt64)))) (n3 : Jvm.Free.Fl.NoNaN64 (FP.dmul (FP.dmul idf (FP.dadd xk (4607182418800017408 : UInt64))) tf)) (n4 : Jvm.Free.Fl.NoNaN64 (FP.dsub (4607182418800017408 : UInt64) xb)) (n5 : Jvm.Free.Fl.NoNaN64 (FP.dmul xb (FP.i2d ln))) (n6 : Jvm.Free.Fl.NoNaN64 (FP.ddiv (FP.dmul xb (FP.i2d ln)) avd)) (n7 : Jvm.Free.Fl.NoNaN64 (FP.dadd (FP.dsub (4607182418800017408 : UInt64) xb) (FP.ddiv (FP.dmul xb (FP.i2d ln)) avd))) (n8 : Jvm.Free.Fl.NoNaN64 (FP.dmul xk (FP.dadd (FP.dsub (4607182418800017408 : UInt64) xb) (FP.ddiv (FP.dmul xb (FP.i2d ln)) avd)))) (n9 : Jvm.Free.Fl.NoNaN64 (FP.dadd (FP.dmul xk (FP.dadd (FP.dsub (4607182418800017408 : UInt64) xb) (FP.ddiv (FP.dmul xb (FP.i2d ln)) avd))) tf)) (n10 : Jvm.Free.Fl.NoNaN64 (FP.ddiv (FP.dmul (FP.dmul idf (FP.dadd xk (4607182418800017408 : UInt64))) tf) (FP.dadd (FP.dmul xk (FP.dadd (FP.dsub (4607182418800017408 : UInt64) xb) (FP.ddiv (FP.dmul xb (FP.i2d ln)) avd))) tf))) :
    MetFree l (⟨"com/example/libelem/libelem/rank/Bm25", "weight", "(DDID)D"⟩ : MethodName) (head1 (Jvm.Cond.code (⟨"com/example/libelem/libelem/rank/Bm25", "weight", "(DDID)D"⟩ : MethodName) prog_83_method_3_code 8 (some .double) :: ws) ({ frames := 0, cells := 0, slots := 0, locals := 0 } : Room)) (fun aA U => aA = #[(.ref o), (.double idf), (.double tf), (.int ln), (.double avd)] ∧ Z.Warmed39 U.vm ∧ U.heap = h0) (fun _ _ _ _ _ => True) (fun _ U oO U' => ∃ vV LL, oO = .returned vV ∧ Q_weight Z o idf tf ln avd xk xb h0 n0 vV U'.heap LL ∧ FrameEnd U oO U' LL ({ frames := 0, cells := 0, slots := 0, locals := 0 } : Room).cells ({ frames := 0, cells := 0, slots := 0, locals := 0 } : Room).slots) := by
  refine MetFree.of_bodySF (plainFor_of_name pn_1) hisR ?_
  intro p e s m args below meth c s₁ Bd hml0 hP hK
  obtain ⟨rfl, hZ, hh⟩ := hP
  have hx := Bd.exec
  have hby := Bd.bytes
  have hml : c.maxLocals = 8 := hml0
  have hown : s.vm.findClass "com/example/libelem/libelem/rank/Bm25" = some m.cls := findClass_of_methodNamed Bd.named
  have hnm := (name_of_methodNamed Bd.named Bd.method).1
  have X0 : Stand p l e ({ frames := 0, cells := 0, slots := 0, locals := 0 } : Room) s m #[(.ref o), (.double idf), (.double tf), (.int ln), (.double avd)] below meth c s₁ [] 0 0 := Stand.of_body Bd
  have e0 : s₁.heap = h0 := by rw [← hh, Bd.state]; rfl
  have N0 := Fr.nil n0
  have hret := Bd.returns
  have hlk : meth.locks = false := Bd.notSynchronized
  refine own_start (ef_2 m o idf tf ln avd) ?_
  show own_Go p e below s (Q_weight Z o idf tf ln avd xk xb h0 n0) ({ frames := 0, cells := 0, slots := 0, locals := 0 } : Room).cells ({ frames := 0, cells := 0, slots := 0, locals := 0 } : Room).slots (s₁.setTop (mkF m 0 #[.val (.ref o), .val (.double idf), .second, .val (.double tf), .second, .val (.int ln), .val (.double avd), .second] []))
  refine g_dload_n X0 hx 1 (hb hby d_prog_83_method_3_0) rfl rfl ?_
  refine g_aload_n X0 hx 2 (hb hby d_prog_83_method_3_1) rfl rfl rfl ?_
  refine own_getF X0 hx hZ hown (host := "") (Or.inl (hw _ (List.mem_of_getElem? (i := 17) rfl))) Via.refl e0 F_o_k1 5 (hb hby d_prog_83_method_3_2) rfl fun T12 X12 e12 => ?_
  refine g_dconst1 X12 hx 6 (hb hby d_prog_83_method_3_5) (v := (4607182418800017408 : UInt64)) (by decide +kernel) rfl ?_
  refine g_dadd X12 hx 7 (hb hby d_prog_83_method_3_6) n1 rfl ?_
  refine g_dmul X12 hx 8 (hb hby d_prog_83_method_3_7) n2 rfl ?_
  refine g_dload_n X12 hx 9 (hb hby d_prog_83_method_3_8) rfl rfl ?_
  refine g_dmul X12 hx 10 (hb hby d_prog_83_method_3_9) n3 rfl ?_
  refine g_aload_n X12 hx 11 (hb hby d_prog_83_method_3_10) rfl rfl rfl ?_
  refine own_getF X12 hx hZ hown (host := "") (Or.inl (hw _ (List.mem_of_getElem? (i := 17) rfl))) Via.refl e12 F_o_k1 14 (hb hby d_prog_83_method_3_11) rfl fun T13 X13 e13 => ?_
  refine g_dconst1 X13 hx 15 (hb hby d_prog_83_method_3_14) (v := (4607182418800017408 : UInt64)) (by decide +kernel) rfl ?_
  refine g_aload_n X13 hx 16 (hb hby d_prog_83_method_3_15) rfl rfl rfl ?_
  refine own_getF X13 hx hZ hown (host := "") (Or.inl (hw _ (List.mem_of_getElem? (i := 19) rfl))) Via.refl e13 F_o_b 19 (hb hby d_prog_83_method_3_16) rfl fun T14 X14 e14 => ?_
  refine g_dsub X14 hx 20 (hb hby d_prog_83_method_3_19) n4 rfl ?_
  refine g_aload_n X14 hx 21 (hb hby d_prog_83_method_3_20) rfl rfl rfl ?_
  refine own_getF X14 hx hZ hown (host := "") (Or.inl (hw _ (List.mem_of_getElem? (i := 19) rfl))) Via.refl e14 F_o_b 24 (hb hby d_prog_83_method_3_21) rfl fun T15 X15 e15 => ?_
  refine g_iload X15 hx 26 (hb hby d_prog_83_method_3_24) rfl rfl ?_
  refine g_i2d X15 hx 27 (hb hby d_prog_83_method_3_26) rfl ?_
  refine g_dmul X15 hx 28 (hb hby d_prog_83_method_3_27) n5 rfl ?_
  refine g_dload X15 hx 30 (hb hby d_prog_83_method_3_28) rfl rfl ?_
  refine g_ddiv X15 hx 31 (hb hby d_prog_83_method_3_30) n6 rfl ?_
  refine g_dadd X15 hx 32 (hb hby d_prog_83_method_3_31) n7 rfl ?_
  refine g_dmul X15 hx 33 (hb hby d_prog_83_method_3_32) n8 rfl ?_
  refine g_dload_n X15 hx 34 (hb hby d_prog_83_method_3_33) rfl rfl ?_
  refine g_dadd X15 hx 35 (hb hby d_prog_83_method_3_34) n9 rfl ?_
  refine g_ddiv X15 hx 36 (hb hby d_prog_83_method_3_35) n10 rfl ?_
  refine own_retD X15 hx hlk hret (hb hby d_prog_83_method_3_36) ?_ (by decide) (by decide)
  rw [e15]
  exact ⟨rfl, N0, rfl⟩
theorem pd_1 : parseMethodDescriptor "(DD)V" = some ⟨[.double, .double], none⟩ := by decide +kernel
theorem pd_2 : parseMethodDescriptor "(DDID)D" = some ⟨[.double, .double, .int, .double], some .double⟩ := by decide +kernel
theorem ef_3 (m : MethodId) (x0 : Int32) (x1 : Int32) (x2 : Int32) (x3 : Int32) : entryFrame m #[(.int x0), (.int x1), (.int x2), (.int x3)] maxLocals = mkF m 0 #[.val (.int x0), .val (.int x1), .val (.int x2), .val (.int x3), .unset, .unset, .unset, .unset, .unset, .unset, .unset, .unset, .unset, .unset, .unset, .unset, .unset, .unset, .unset, .unset, .unset, .unset, .unset, .unset, .unset, .unset, .unset, .unset, .unset, .unset, .unset] [] := by first | (simp [entryFrame, mkF, argsToLocals, Value.category, maxLocals]; done) | rfl
theorem pn_2 : plainName "com/example/libelem/libelem/rank/Bm25WeightPinLaw" = true := by first | (simp [plainName, overriddenIn]; done) | decide +kernel
def Q_law (Z : State) (p0 p1 p2 p3 : Int32) (h0 : Heap) (n0 : Nat) (v : Option Value) (h : Heap) (L : List Loc) : Prop := v = some (.int 1) ∧ Fr n0 L
set_option maxRecDepth 65536 in
set_option maxHeartbeats 40000000 in
theorem rm_law (l : Launch) (Z : State) (a0 : Array Value) (hw : ∀ d ∈ tables_1, d.before a0 Z = true) (ws : List Jvm.Cond) (p0 p1 p2 p3 : Int32) (h0 : Heap) (n0 : Nat) (Z0 : n0 ≤ h0.size) :
    MetFree l x (head1 (Jvm.Cond.code x code maxLocals ret :: ws) room_1) (fun aA U => aA = #[(.int p0), (.int p1), (.int p2), (.int p3)] ∧ Z.Warmed39 U.vm ∧ U.heap = h0) (fun _ _ _ _ _ => True) (fun _ U oO U' => ∃ vV LL, oO = .returned vV ∧ Q_law Z p0 p1 p2 p3 h0 n0 vV U'.heap LL ∧ FrameEnd U oO U' LL room_1.cells room_1.slots) := by
  refine MetFree.of_bodySF (plainFor_of_name pn_2) hisR ?_
  intro p e s m args below meth c s₁ Bd hml0 hP hK
  obtain ⟨rfl, hZ, hh⟩ := hP
  have hx := Bd.exec
  have hby := Bd.bytes
  have hml : c.maxLocals = 31 := hml0
  have hown : s.vm.findClass "com/example/libelem/libelem/rank/Bm25WeightPinLaw" = some m.cls := findClass_of_methodNamed Bd.named
  have hnm := (name_of_methodNamed Bd.named Bd.method).1
  have X0 : Stand p l e room_1 s m #[(.int p0), (.int p1), (.int p2), (.int p3)] below meth c s₁ [] 0 0 := Stand.of_body Bd
  have e0 : s₁.heap = h0 := by rw [← hh, Bd.state]; rfl
  have N0 := Fr.nil n0
  have hret := Bd.returns
  have hlk : meth.locks = false := Bd.notSynchronized
  refine own_start (ef_3 m p0 p1 p2 p3) ?_
  show own_Go p e below s (Q_law Z p0 p1 p2 p3 h0 n0) room_1.cells room_1.slots (s₁.setTop (mkF m 0 #[.val (.int p0), .val (.int p1), .val (.int p2), .val (.int p3), .unset, .unset, .unset, .unset, .unset, .unset, .unset, .unset, .unset, .unset, .unset, .unset, .unset, .unset, .unset, .unset, .unset, .unset, .unset, .unset, .unset, .unset, .unset, .unset, .unset, .unset, .unset] []))
  refine g_iload_n X0 hx 1 (hb hby at_0) rfl rfl ?_
  refine g_sipush X0 hx 4 (hb hby at_1) (2048 : Int32) rfl rfl ?_
  refine g_irem X0 hx 5 (hb hby at_4) rfl (by decide) ?_
  obtain ⟨iv, q_iv⟩ : ∃ z, z = (p0 % (2048 : Int32)) := ⟨_, rfl⟩
  have h_iv := own_iv p0 q_iv
  rw [← q_iv]
  refine g_istore X0 hx 7 (hb hby at_5) (l' := #[.val (.int p0), .val (.int p1), .val (.int p2), .val (.int p3), .val (.int iv), .unset, .unset, .unset, .unset, .unset, .unset, .unset, .unset, .unset, .unset, .unset, .unset, .unset, .unset, .unset, .unset, .unset, .unset, .unset, .unset, .unset, .unset, .unset, .unset, .unset, .unset]) rfl rfl ?_
  refine g_iload_n X0 hx 8 (hb hby at_7) rfl rfl ?_
  refine g_bipush X0 hx 10 (hb hby at_8) (31 : Int32) rfl rfl ?_
  refine g_iand X0 hx 11 (hb hby at_10) rfl ?_
  obtain ⟨av, q_av⟩ : ∃ z, z = (p1 &&& (31 : Int32)) := ⟨_, rfl⟩
  have h_av := own_av p1 q_av
  rw [← q_av]
  refine g_istore X0 hx 13 (hb hby at_11) (l' := #[.val (.int p0), .val (.int p1), .val (.int p2), .val (.int p3), .val (.int iv), .val (.int av), .unset, .unset, .unset, .unset, .unset, .unset, .unset, .unset, .unset, .unset, .unset, .unset, .unset, .unset, .unset, .unset, .unset, .unset, .unset, .unset, .unset, .unset, .unset, .unset, .unset]) rfl rfl ?_
  refine g_iload_n X0 hx 14 (hb hby at_13) rfl rfl ?_
  refine g_iconst X0 hx 15 (hb hby at_14) (5 : Int32) rfl rfl ?_
  refine g_iushr X0 hx 16 (hb hby at_15) rfl ?_
  refine g_iconst X0 hx 17 (hb hby at_16) (5 : Int32) rfl rfl ?_
  refine g_irem X0 hx 18 (hb hby at_17) rfl (by decide) ?_
  obtain ⟨bv, q_bv⟩ : ∃ z, z = (((p1.toUInt32 >>> ((5 : Int32) &&& 31).toUInt32).toInt32) % (5 : Int32)) := ⟨_, rfl⟩
  have h_bv := own_bv p1 q_bv
  rw [← q_bv]
  refine g_istore X0 hx 20 (hb hby at_18) (l' := #[.val (.int p0), .val (.int p1), .val (.int p2), .val (.int p3), .val (.int iv), .val (.int av), .val (.int bv), .unset, .unset, .unset, .unset, .unset, .unset, .unset, .unset, .unset, .unset, .unset, .unset, .unset, .unset, .unset, .unset, .unset, .unset, .unset, .unset, .unset, .unset, .unset, .unset]) rfl rfl ?_
  refine g_iload_n X0 hx 21 (hb hby at_20) rfl rfl ?_
  refine g_ldc X0 hx hown 23 (z := (1048575 : Int32)) (mvT hZ (hw _ (List.mem_of_getElem? (i := 0) rfl))) (hb hby at_21) rfl ?_
  refine g_iand X0 hx 24 (hb hby at_23) rfl ?_
  obtain ⟨lv, q_lv⟩ : ∃ z, z = (p2 &&& (1048575 : Int32)) := ⟨_, rfl⟩
  have h_lv := own_lv p2 q_lv
  rw [← q_lv]
  refine g_istore X0 hx 26 (hb hby at_24) (l' := #[.val (.int p0), .val (.int p1), .val (.int p2), .val (.int p3), .val (.int iv), .val (.int av), .val (.int bv), .val (.int lv), .unset, .unset, .unset, .unset, .unset, .unset, .unset, .unset, .unset, .unset, .unset, .unset, .unset, .unset, .unset, .unset, .unset, .unset, .unset, .unset, .unset, .unset, .unset]) rfl rfl ?_
  refine g_iload_n X0 hx 27 (hb hby at_26) rfl rfl ?_
  refine g_bipush X0 hx 29 (hb hby at_27) (7 : Int32) rfl rfl ?_
  refine g_iand X0 hx 30 (hb hby at_29) rfl ?_
  obtain ⟨ev, q_ev⟩ : ∃ z, z = (p3 &&& (7 : Int32)) := ⟨_, rfl⟩
  have h_ev := own_7 p3 q_ev
  rw [← q_ev]
  refine g_istore X0 hx 32 (hb hby at_30) (l' := #[.val (.int p0), .val (.int p1), .val (.int p2), .val (.int p3), .val (.int iv), .val (.int av), .val (.int bv), .val (.int lv), .val (.int ev), .unset, .unset, .unset, .unset, .unset, .unset, .unset, .unset, .unset, .unset, .unset, .unset, .unset, .unset, .unset, .unset, .unset, .unset, .unset, .unset, .unset, .unset]) rfl rfl ?_
  refine g_iload_n X0 hx 33 (hb hby at_32) rfl rfl ?_
  refine g_iconst X0 hx 34 (hb hby at_33) (3 : Int32) rfl rfl ?_
  refine g_iushr X0 hx 35 (hb hby at_34) rfl ?_
  refine g_bipush X0 hx 37 (hb hby at_35) (7 : Int32) rfl rfl ?_
  refine g_iand X0 hx 38 (hb hby at_37) rfl ?_
  obtain ⟨mm, q_mm⟩ : ∃ z, z = (((p3.toUInt32 >>> ((3 : Int32) &&& 31).toUInt32).toInt32) &&& (7 : Int32)) := ⟨_, rfl⟩
  have h_mm := own_7 _ q_mm
  rw [← q_mm]
  refine g_istore X0 hx 40 (hb hby at_38) (l' := #[.val (.int p0), .val (.int p1), .val (.int p2), .val (.int p3), .val (.int iv), .val (.int av), .val (.int bv), .val (.int lv), .val (.int ev), .val (.int mm), .unset, .unset, .unset, .unset, .unset, .unset, .unset, .unset, .unset, .unset, .unset, .unset, .unset, .unset, .unset, .unset, .unset, .unset, .unset, .unset, .unset]) rfl rfl ?_
  refine g_lconst X0 hx 41 (hb hby at_40) (1 : Int64) rfl rfl ?_
  refine g_iload X0 hx 43 (hb hby at_41) rfl rfl ?_
  refine g_lshl X0 hx 44 (hb hby at_43) rfl ?_
  obtain ⟨pw, q_pw⟩ : ∃ z, z = ((1 : Int64) <<< (ev &&& 0x3f).toInt64) := ⟨_, rfl⟩
  obtain ⟨ee, h_ee, h_pw⟩ := own_pw h_ev q_pw
  have h_pd : own_Dy ((2 ^ ee : Nat) : Int) 0 (FP.l2d pw) := own_dl h_pw (by rw [Int.natAbs_natCast]; exact Nat.le_trans (Nat.pow_le_pow_right (by decide) h_ee) (by decide))
  rw [← q_pw]
  refine g_lstore X0 hx 46 (hb hby at_44) (l' := #[.val (.int p0), .val (.int p1), .val (.int p2), .val (.int p3), .val (.int iv), .val (.int av), .val (.int bv), .val (.int lv), .val (.int ev), .val (.int mm), .val (.long pw), .second, .unset, .unset, .unset, .unset, .unset, .unset, .unset, .unset, .unset, .unset, .unset, .unset, .unset, .unset, .unset, .unset, .unset, .unset, .unset]) rfl rfl ?_
  refine g_iload X0 hx 48 (hb hby at_46) rfl rfl ?_
  refine g_i2d X0 hx 49 (hb hby at_48) rfl ?_
  refine g_ldc2_wD X0 hx hown 52 (z := (4616189618054758400 : UInt64)) (mvT hZ (hw _ (List.mem_of_getElem? (i := 1) rfl))) (hb hby at_49) rfl ?_
  refine g_ddiv X0 hx 53 (hb hby at_52) (own_q4 av).no rfl ?_
  refine g_dstore X0 hx 55 (hb hby at_53) (l' := #[.val (.int p0), .val (.int p1), .val (.int p2), .val (.int p3), .val (.int iv), .val (.int av), .val (.int bv), .val (.int lv), .val (.int ev), .val (.int mm), .val (.long pw), .second, .val (.double (FP.ddiv (FP.i2d av) (4616189618054758400 : UInt64))), .second, .unset, .unset, .unset, .unset, .unset, .unset, .unset, .unset, .unset, .unset, .unset, .unset, .unset, .unset, .unset, .unset, .unset]) rfl rfl ?_
  refine g_iload X0 hx 57 (hb hby at_55) rfl rfl ?_
  refine g_i2d X0 hx 58 (hb hby at_57) rfl ?_
  refine g_ldc2_wD X0 hx hown 61 (z := (4616189618054758400 : UInt64)) (mvT hZ (hw _ (List.mem_of_getElem? (i := 1) rfl))) (hb hby at_58) rfl ?_
  refine g_ddiv X0 hx 62 (hb hby at_61) (own_q4 bv).no rfl ?_
  refine g_dstore X0 hx 64 (hb hby at_62) (l' := #[.val (.int p0), .val (.int p1), .val (.int p2), .val (.int p3), .val (.int iv), .val (.int av), .val (.int bv), .val (.int lv), .val (.int ev), .val (.int mm), .val (.long pw), .second, .val (.double (FP.ddiv (FP.i2d av) (4616189618054758400 : UInt64))), .second, .val (.double (FP.ddiv (FP.i2d bv) (4616189618054758400 : UInt64))), .second, .unset, .unset, .unset, .unset, .unset, .unset, .unset, .unset, .unset, .unset, .unset, .unset, .unset, .unset, .unset]) rfl rfl ?_
  refine g_iload X0 hx 66 (hb hby at_64) rfl rfl ?_
  refine g_i2d X0 hx 67 (hb hby at_66) rfl ?_
  refine g_dstore X0 hx 69 (hb hby at_67) (l' := #[.val (.int p0), .val (.int p1), .val (.int p2), .val (.int p3), .val (.int iv), .val (.int av), .val (.int bv), .val (.int lv), .val (.int ev), .val (.int mm), .val (.long pw), .second, .val (.double (FP.ddiv (FP.i2d av) (4616189618054758400 : UInt64))), .second, .val (.double (FP.ddiv (FP.i2d bv) (4616189618054758400 : UInt64))), .second, .val (.double (FP.i2d iv)), .second, .unset, .unset, .unset, .unset, .unset, .unset, .unset, .unset, .unset, .unset, .unset, .unset, .unset]) rfl rfl ?_
  refine g_lload X0 hx 71 (hb hby at_69) rfl rfl ?_
  refine g_l2d X0 hx 72 (hb hby at_71) rfl ?_
  refine g_dstore X0 hx 74 (hb hby at_72) (l' := #[.val (.int p0), .val (.int p1), .val (.int p2), .val (.int p3), .val (.int iv), .val (.int av), .val (.int bv), .val (.int lv), .val (.int ev), .val (.int mm), .val (.long pw), .second, .val (.double (FP.ddiv (FP.i2d av) (4616189618054758400 : UInt64))), .second, .val (.double (FP.ddiv (FP.i2d bv) (4616189618054758400 : UInt64))), .second, .val (.double (FP.i2d iv)), .second, .val (.double (FP.l2d pw)), .second, .unset, .unset, .unset, .unset, .unset, .unset, .unset, .unset, .unset, .unset, .unset]) rfl rfl ?_
  refine g_ldc2_w X0 hx hown 77 (z := (4 : Int64)) (mvT hZ (hw _ (List.mem_of_getElem? (i := 2) rfl))) (hb hby at_74) rfl ?_
  refine g_iload X0 hx 79 (hb hby at_77) rfl rfl ?_
  refine g_i2l X0 hx 80 (hb hby at_79) rfl ?_
  refine g_lsub X0 hx 81 (hb hby at_80) rfl ?_
  refine g_lload X0 hx 83 (hb hby at_81) rfl rfl ?_
  refine g_lmul X0 hx 84 (hb hby at_83) rfl ?_
  refine g_iload X0 hx 86 (hb hby at_84) rfl rfl ?_
  refine g_i2l X0 hx 87 (hb hby at_86) rfl ?_
  refine g_iload X0 hx 89 (hb hby at_87) rfl rfl ?_
  refine g_i2l X0 hx 90 (hb hby at_89) rfl ?_
  refine g_lmul X0 hx 91 (hb hby at_90) rfl ?_
  refine g_ladd X0 hx 92 (hb hby at_91) rfl ?_
  obtain ⟨sc, q_sc⟩ : ∃ z, z = ((((4 : Int64) - (bv.toInt64)) * pw) + ((bv.toInt64) * (lv.toInt64))) := ⟨_, rfl⟩
  have h_sc := own_sc h_bv h_lv h_ee h_pw q_sc
  rw [← q_sc]
  refine g_lstore X0 hx 94 (hb hby at_92) (l' := #[.val (.int p0), .val (.int p1), .val (.int p2), .val (.int p3), .val (.int iv), .val (.int av), .val (.int bv), .val (.int lv), .val (.int ev), .val (.int mm), .val (.long pw), .second, .val (.double (FP.ddiv (FP.i2d av) (4616189618054758400 : UInt64))), .second, .val (.double (FP.ddiv (FP.i2d bv) (4616189618054758400 : UInt64))), .second, .val (.double (FP.i2d iv)), .second, .val (.double (FP.l2d pw)), .second, .val (.long sc), .second, .unset, .unset, .unset, .unset, .unset, .unset, .unset, .unset, .unset]) rfl rfl ?_
  refine g_iload X0 hx 96 (hb hby at_94) rfl rfl ?_
  refine g_i2l X0 hx 97 (hb hby at_96) rfl ?_
  refine g_lload X0 hx 99 (hb hby at_97) rfl rfl ?_
  refine g_lmul X0 hx 100 (hb hby at_99) rfl ?_
  obtain ⟨kc, q_kc⟩ : ∃ z, z = ((av.toInt64) * sc) := ⟨_, rfl⟩
  have h_kc := own_kc h_av h_sc.2 q_kc
  rw [← q_kc]
  refine g_lstore X0 hx 102 (hb hby at_100) (l' := #[.val (.int p0), .val (.int p1), .val (.int p2), .val (.int p3), .val (.int iv), .val (.int av), .val (.int bv), .val (.int lv), .val (.int ev), .val (.int mm), .val (.long pw), .second, .val (.double (FP.ddiv (FP.i2d av) (4616189618054758400 : UInt64))), .second, .val (.double (FP.ddiv (FP.i2d bv) (4616189618054758400 : UInt64))), .second, .val (.double (FP.i2d iv)), .second, .val (.double (FP.l2d pw)), .second, .val (.long sc), .second, .val (.long kc), .second, .unset, .unset, .unset, .unset, .unset, .unset, .unset]) rfl rfl ?_
  refine own_newO X0 hx hZ hown (hw _ (List.mem_of_getElem? (i := 3) rfl)) (hw _ (List.mem_of_getElem? (i := 4) rfl)) (hw _ (List.mem_of_getElem? (i := 5) rfl)) e0 105 (hb hby at_102) rfl (by decide) (by decide) fun T16 h16 b16 X16 e16 g16 E16 A16 D16 => ?_
  have g_b16 : n0 ≤ b16 := Nat.le_trans Z0 (Nat.le_of_eq g16.symm)
  have sz_b16 : h0.size ≤ b16 := Nat.le_trans (Keep.refl h0 []).1 (Nat.le_of_eq g16.symm)
  have K17 : Keep h0 h16 [] := (Keep.refl h0 []).ext E16
  have z18 : n0 ≤ h16.size := (Nat.le_trans Z0 E16.1)
  have f19 : Fld Z h16 b16 "com/example/libelem/libelem/rank/Bm25" "k1" "D" (.double (0 : UInt64)) := D16 (Or.inr (hw _ (List.mem_of_getElem? (i := 18) rfl))) (ty := .double) (by decide)
  have f20 : Fld Z h16 b16 "com/example/libelem/libelem/rank/Bm25" "b" "D" (.double (0 : UInt64)) := D16 (Or.inr (hw _ (List.mem_of_getElem? (i := 20) rfl))) (ty := .double) (by decide)
  refine g_dup X16 hx 106 (hb hby at_105) rfl rfl ?_
  refine g_dload X16 hx 108 (hb hby at_106) rfl rfl ?_
  refine g_dload X16 hx 110 (hb hby at_108) rfl rfl ?_
  refine own_callI X16 hx hZ hown rfl (hw _ (List.mem_of_getElem? (i := 6) rfl)) (hw _ (List.mem_of_getElem? (i := 7) rfl)) (by decide) (rm_init l Z a0 hw [] b16 (FP.ddiv (FP.i2d av) (4616189618054758400 : UInt64)) (FP.ddiv (FP.i2d bv) (4616189618054758400 : UInt64)) h16 n0 z18 A16 f19 f20 g_b16) (hw _ (List.mem_of_getElem? (i := 8) rfl)) (hw _ (List.mem_of_getElem? (i := 5) rfl)) e16 1 (by decide) (by decide) (by decide) (by decide) b16 [(.double (FP.ddiv (FP.i2d av) (4616189618054758400 : UInt64))), (.double (FP.ddiv (FP.i2d bv) (4616189618054758400 : UInt64)))] [(.ref b16)] rfl pd_1 rfl 113 rfl (by rw [hml]; rfl) rfl (hb hby at_110) rfl fun T21 v21 L21 X21 hQ21 => ?_
  obtain ⟨rfl, Nq21, Kq21, f21_0, f21_1⟩ := hQ21
  have N21 := Fr.app N0 Nq21
  have K22 : Keep h0 T21.heap [] := K17.trans Kq21 (allS (Or.inr sz_b16) all0)
  have z23 : n0 ≤ T21.heap.size := (Nat.le_trans z18 Kq21.1)
  show own_Go p e below s _ _ _ (T21.setTop (mkF m 113 _ [(.ref b16)]))
  refine g_astore X21 hx 115 (hb hby at_113) rfl (l' := #[.val (.int p0), .val (.int p1), .val (.int p2), .val (.int p3), .val (.int iv), .val (.int av), .val (.int bv), .val (.int lv), .val (.int ev), .val (.int mm), .val (.long pw), .second, .val (.double (FP.ddiv (FP.i2d av) (4616189618054758400 : UInt64))), .second, .val (.double (FP.ddiv (FP.i2d bv) (4616189618054758400 : UInt64))), .second, .val (.double (FP.i2d iv)), .second, .val (.double (FP.l2d pw)), .second, .val (.long sc), .second, .val (.long kc), .second, .val (.ref b16), .unset, .unset, .unset, .unset, .unset, .unset]) rfl rfl ?_
  refine g_lload X21 hx 117 (hb hby at_115) rfl rfl ?_
  refine g_lconst X21 hx 118 (hb hby at_117) (0 : Int64) rfl rfl ?_
  refine g_lcmp X21 hx 119 (hb hby at_118) rfl ?_
  by_cases c24 : kc = (0 : Int64)
  · refine g_ifNo X21 hx 122 (hb hby at_119) (own_ll_ne_f c24) rfl ?_
    obtain ⟨d1, d2, d3, d4, d5, d6, d7, d8, -, -⟩ := own_parts h_av h_bv h_lv h_ee h_pd
    have hz := h_kc.1
    rw [c24, h_sc.1] at hz
    obtain ⟨x2, x3, x9, xw, xx, hcmp⟩ := own_case0 (mm := mm + (1 : Int32)) h_iv h_av h_bv h_lv h_ee h_pd (by rw [own_m1 h_mm]; omega) hz.symm (own_dl (own_xl h_iv h_av) (Nat.le_trans (own_mulb (a := 2047) (b := 35) (by omega) (by omega)) (by decide)))
    refine g_iload X21 hx 124 (hb hby at_122) rfl rfl ?_
    refine g_iconst X21 hx 125 (hb hby at_124) (1 : Int32) rfl rfl ?_
    refine g_iadd X21 hx 126 (hb hby at_125) rfl ?_
    refine g_i2d X21 hx 127 (hb hby at_126) rfl ?_
    refine g_dstore X21 hx 129 (hb hby at_127) (l' := #[.val (.int p0), .val (.int p1), .val (.int p2), .val (.int p3), .val (.int iv), .val (.int av), .val (.int bv), .val (.int lv), .val (.int ev), .val (.int mm), .val (.long pw), .second, .val (.double (FP.ddiv (FP.i2d av) (4616189618054758400 : UInt64))), .second, .val (.double (FP.ddiv (FP.i2d bv) (4616189618054758400 : UInt64))), .second, .val (.double (FP.i2d iv)), .second, .val (.double (FP.l2d pw)), .second, .val (.long sc), .second, .val (.long kc), .second, .val (.ref b16), .val (.double (FP.i2d (mm + (1 : Int32)))), .second, .unset, .unset, .unset, .unset]) rfl rfl ?_
    refine g_aload X21 hx 131 (hb hby at_129) rfl rfl rfl ?_
    refine g_dload X21 hx 133 (hb hby at_131) rfl rfl ?_
    refine g_dload X21 hx 135 (hb hby at_133) rfl rfl ?_
    refine g_iload X21 hx 137 (hb hby at_135) rfl rfl ?_
    refine g_dload X21 hx 139 (hb hby at_137) rfl rfl ?_
    have f26 : Exa Z T21.heap b16 "com/example/libelem/libelem/rank/Bm25" := (A16.keep Kq21)
    refine own_callV X21 hx hZ hown (hw _ (List.mem_of_getElem? (i := 22) rfl)) (hw _ (List.mem_of_getElem? (i := 23) rfl)) (own_nf hZ (hw _ (List.mem_of_getElem? (i := 25) rfl))) (hw _ (List.mem_of_getElem? (i := 25) rfl)) (hw _ (List.mem_of_getElem? (i := 24) rfl)) (by decide) (rm_weight l Z a0 hw [] b16 (FP.i2d iv) (FP.i2d (mm + (1 : Int32))) lv (FP.l2d pw) (FP.ddiv (FP.i2d av) (4616189618054758400 : UInt64)) (FP.ddiv (FP.i2d bv) (4616189618054758400 : UInt64)) T21.heap n0 z23 f21_0 f21_1 d3.no x2 x3 d4.no d5.no d6.no d7.no d8.no x9 xw) (hw _ (List.mem_of_getElem? (i := 26) rfl)) (hw _ (List.mem_of_getElem? (i := 5) rfl)) rfl 0 (by decide) (by decide) (by decide) (by decide) f26 [(.double (FP.i2d iv)), (.double (FP.i2d (mm + (1 : Int32)))), (.int lv), (.double (FP.l2d pw))] [] rfl pd_2 rfl 142 rfl (by rw [hml]; rfl) rfl (hb hby at_139) rfl fun T25 v25 L25 X25 hQ25 => ?_
    obtain ⟨rfl, Nq25, e25⟩ := hQ25
    have N25 := Fr.app N21 Nq25
    show own_Go p e below s _ _ _ (T25.setTop (mkF m 142 _ [(.double (FP.ddiv (FP.dmul (FP.dmul (FP.i2d iv) (FP.dadd (FP.ddiv (FP.i2d av) (4616189618054758400 : UInt64)) (4607182418800017408 : UInt64))) (FP.i2d (mm + (1 : Int32)))) (FP.dadd (FP.dmul (FP.ddiv (FP.i2d av) (4616189618054758400 : UInt64)) (FP.dadd (FP.dsub (4607182418800017408 : UInt64) (FP.ddiv (FP.i2d bv) (4616189618054758400 : UInt64))) (FP.ddiv (FP.dmul (FP.ddiv (FP.i2d bv) (4616189618054758400 : UInt64)) (FP.i2d lv)) (FP.l2d pw)))) (FP.i2d (mm + (1 : Int32))))))]))
    refine g_dstore X25 hx 144 (hb hby at_142) (l' := #[.val (.int p0), .val (.int p1), .val (.int p2), .val (.int p3), .val (.int iv), .val (.int av), .val (.int bv), .val (.int lv), .val (.int ev), .val (.int mm), .val (.long pw), .second, .val (.double (FP.ddiv (FP.i2d av) (4616189618054758400 : UInt64))), .second, .val (.double (FP.ddiv (FP.i2d bv) (4616189618054758400 : UInt64))), .second, .val (.double (FP.i2d iv)), .second, .val (.double (FP.l2d pw)), .second, .val (.long sc), .second, .val (.long kc), .second, .val (.ref b16), .val (.double (FP.i2d (mm + (1 : Int32)))), .second, .val (.double (FP.ddiv (FP.dmul (FP.dmul (FP.i2d iv) (FP.dadd (FP.ddiv (FP.i2d av) (4616189618054758400 : UInt64)) (4607182418800017408 : UInt64))) (FP.i2d (mm + (1 : Int32)))) (FP.dadd (FP.dmul (FP.ddiv (FP.i2d av) (4616189618054758400 : UInt64)) (FP.dadd (FP.dsub (4607182418800017408 : UInt64) (FP.ddiv (FP.i2d bv) (4616189618054758400 : UInt64))) (FP.ddiv (FP.dmul (FP.ddiv (FP.i2d bv) (4616189618054758400 : UInt64)) (FP.i2d lv)) (FP.l2d pw)))) (FP.i2d (mm + (1 : Int32)))))), .second, .unset, .unset]) rfl rfl ?_
    refine g_iload X25 hx 146 (hb hby at_144) rfl rfl ?_
    refine g_i2l X25 hx 147 (hb hby at_146) rfl ?_
    refine g_iload X25 hx 149 (hb hby at_147) rfl rfl ?_
    refine g_iconst X25 hx 150 (hb hby at_149) (4 : Int32) rfl rfl ?_
    refine g_iadd X25 hx 151 (hb hby at_150) rfl ?_
    refine g_i2l X25 hx 152 (hb hby at_151) rfl ?_
    refine g_lmul X25 hx 153 (hb hby at_152) rfl ?_
    refine g_l2d X25 hx 154 (hb hby at_153) rfl ?_
    refine g_ldc2_wD X25 hx hown 157 (z := (4616189618054758400 : UInt64)) (mvT hZ (hw _ (List.mem_of_getElem? (i := 1) rfl))) (hb hby at_154) rfl ?_
    refine g_ddiv X25 hx 158 (hb hby at_157) xx rfl ?_
    refine g_dstore X25 hx 160 (hb hby at_158) (l' := #[.val (.int p0), .val (.int p1), .val (.int p2), .val (.int p3), .val (.int iv), .val (.int av), .val (.int bv), .val (.int lv), .val (.int ev), .val (.int mm), .val (.long pw), .second, .val (.double (FP.ddiv (FP.i2d av) (4616189618054758400 : UInt64))), .second, .val (.double (FP.ddiv (FP.i2d bv) (4616189618054758400 : UInt64))), .second, .val (.double (FP.i2d iv)), .second, .val (.double (FP.l2d pw)), .second, .val (.long sc), .second, .val (.long kc), .second, .val (.ref b16), .val (.double (FP.i2d (mm + (1 : Int32)))), .second, .val (.double (FP.ddiv (FP.dmul (FP.dmul (FP.i2d iv) (FP.dadd (FP.ddiv (FP.i2d av) (4616189618054758400 : UInt64)) (4607182418800017408 : UInt64))) (FP.i2d (mm + (1 : Int32)))) (FP.dadd (FP.dmul (FP.ddiv (FP.i2d av) (4616189618054758400 : UInt64)) (FP.dadd (FP.dsub (4607182418800017408 : UInt64) (FP.ddiv (FP.i2d bv) (4616189618054758400 : UInt64))) (FP.ddiv (FP.dmul (FP.ddiv (FP.i2d bv) (4616189618054758400 : UInt64)) (FP.i2d lv)) (FP.l2d pw)))) (FP.i2d (mm + (1 : Int32)))))), .second, .val (.double (FP.ddiv (FP.l2d ((iv.toInt64) * ((av + (4 : Int32)).toInt64))) (4616189618054758400 : UInt64))), .second]) rfl rfl ?_
    refine g_dload X25 hx 162 (hb hby at_160) rfl rfl ?_
    refine g_dload X25 hx 164 (hb hby at_162) rfl rfl ?_
    refine g_dcmp X25 hx 165 (hb hby at_164) rfl ?_
    have c27 : (cmpValue (FP.dcmp (FP.ddiv (FP.dmul (FP.dmul (FP.i2d iv) (FP.dadd (FP.ddiv (FP.i2d av) (4616189618054758400 : UInt64)) (4607182418800017408 : UInt64))) (FP.i2d (mm + (1 : Int32)))) (FP.dadd (FP.dmul (FP.ddiv (FP.i2d av) (4616189618054758400 : UInt64)) (FP.dadd (FP.dsub (4607182418800017408 : UInt64) (FP.ddiv (FP.i2d bv) (4616189618054758400 : UInt64))) (FP.ddiv (FP.dmul (FP.ddiv (FP.i2d bv) (4616189618054758400 : UInt64)) (FP.i2d lv)) (FP.l2d pw)))) (FP.i2d (mm + (1 : Int32))))) (FP.ddiv (FP.l2d ((iv.toInt64) * ((av + (4 : Int32)).toInt64))) (4616189618054758400 : UInt64))) .l) = (0 : Int32) := by rw [hcmp]; rfl
    refine g_ifNo X25 hx 168 (hb hby at_165) (own_i0_ne_f c27) rfl ?_
    refine g_iconst X25 hx 169 (hb hby at_168) (1 : Int32) rfl rfl ?_
    refine g_goto X25 hx 173 (hb hby at_169) (by decide) (by decide) ?_
    refine own_retN X25 hx hlk (t := .boolean) hret (by simp) (hb hby at_173) ?_ (by decide) (by decide)
    rw [e25]
    exact ⟨rfl, N25⟩
  · refine g_ifYes X21 hx 174 (hb hby at_119) (own_ll_ne_t c24) (by decide) (by decide) ?_
    obtain ⟨d1, d2, d3, d4, d5, d6, d7, d8, -, -⟩ := own_parts h_av h_bv h_lv h_ee h_pd
    have hz := h_kc.1
    rw [h_sc.1] at hz
    obtain ⟨x16, xtf, x2, x3, x9, xw, x4, xx, hcmp⟩ := own_case1 (mm := mm) (m1 := mm + (1 : Int32)) h_iv h_av h_bv h_lv h_ee h_pd h_mm (own_m1 h_mm) (fun q => c24 (Int64.toInt_inj.mp (by rw [hz, q]; rfl))) (own_dl (by rw [← hz]; exact (own_xt h_mm h_kc.2).1) (by rw [← hz]; exact Nat.le_trans (own_xt h_mm h_kc.2).2 (by decide))) (own_dl (own_xl2 h_iv h_av h_mm) (Nat.le_trans (own_mulb (own_mulb (a := 2047) (b := 35) (by omega) (by omega)) (show mm.toInt.natAbs ≤ 7 by omega)) (by decide)))
    refine g_iload X21 hx 176 (hb hby at_174) rfl rfl ?_
    refine g_i2l X21 hx 177 (hb hby at_176) rfl ?_
    refine g_lload X21 hx 179 (hb hby at_177) rfl rfl ?_
    refine g_lmul X21 hx 180 (hb hby at_179) rfl ?_
    refine g_l2d X21 hx 181 (hb hby at_180) rfl ?_
    refine g_ldc2_wD X21 hx hown 184 (z := (4625196817309499392 : UInt64)) (mvT hZ (hw _ (List.mem_of_getElem? (i := 21) rfl))) (hb hby at_181) rfl ?_
    refine g_lload X21 hx 186 (hb hby at_184) rfl rfl ?_
    refine g_l2d X21 hx 187 (hb hby at_186) rfl ?_
    refine g_dmul X21 hx 188 (hb hby at_187) x16 rfl ?_
    refine g_ddiv X21 hx 189 (hb hby at_188) xtf rfl ?_
    refine g_dstore X21 hx 191 (hb hby at_189) (l' := #[.val (.int p0), .val (.int p1), .val (.int p2), .val (.int p3), .val (.int iv), .val (.int av), .val (.int bv), .val (.int lv), .val (.int ev), .val (.int mm), .val (.long pw), .second, .val (.double (FP.ddiv (FP.i2d av) (4616189618054758400 : UInt64))), .second, .val (.double (FP.ddiv (FP.i2d bv) (4616189618054758400 : UInt64))), .second, .val (.double (FP.i2d iv)), .second, .val (.double (FP.l2d pw)), .second, .val (.long sc), .second, .val (.long kc), .second, .val (.ref b16), .val (.double (FP.ddiv (FP.l2d ((mm.toInt64) * kc)) (FP.dmul (4625196817309499392 : UInt64) (FP.l2d pw)))), .second, .unset, .unset, .unset, .unset]) rfl rfl ?_
    refine g_aload X21 hx 193 (hb hby at_191) rfl rfl rfl ?_
    refine g_dload X21 hx 195 (hb hby at_193) rfl rfl ?_
    refine g_dload X21 hx 197 (hb hby at_195) rfl rfl ?_
    refine g_iload X21 hx 199 (hb hby at_197) rfl rfl ?_
    refine g_dload X21 hx 201 (hb hby at_199) rfl rfl ?_
    have f29 : Exa Z T21.heap b16 "com/example/libelem/libelem/rank/Bm25" := (A16.keep Kq21)
    refine own_callV X21 hx hZ hown (hw _ (List.mem_of_getElem? (i := 22) rfl)) (hw _ (List.mem_of_getElem? (i := 23) rfl)) (own_nf hZ (hw _ (List.mem_of_getElem? (i := 25) rfl))) (hw _ (List.mem_of_getElem? (i := 25) rfl)) (hw _ (List.mem_of_getElem? (i := 24) rfl)) (by decide) (rm_weight l Z a0 hw [] b16 (FP.i2d iv) (FP.ddiv (FP.l2d ((mm.toInt64) * kc)) (FP.dmul (4625196817309499392 : UInt64) (FP.l2d pw))) lv (FP.l2d pw) (FP.ddiv (FP.i2d av) (4616189618054758400 : UInt64)) (FP.ddiv (FP.i2d bv) (4616189618054758400 : UInt64)) T21.heap n0 z23 f21_0 f21_1 d3.no x2 x3 d4.no d5.no d6.no d7.no d8.no x9 xw) (hw _ (List.mem_of_getElem? (i := 26) rfl)) (hw _ (List.mem_of_getElem? (i := 5) rfl)) rfl 0 (by decide) (by decide) (by decide) (by decide) f29 [(.double (FP.i2d iv)), (.double (FP.ddiv (FP.l2d ((mm.toInt64) * kc)) (FP.dmul (4625196817309499392 : UInt64) (FP.l2d pw)))), (.int lv), (.double (FP.l2d pw))] [] rfl pd_2 rfl 204 rfl (by rw [hml]; rfl) rfl (hb hby at_201) rfl fun T28 v28 L28 X28 hQ28 => ?_
    obtain ⟨rfl, Nq28, e28⟩ := hQ28
    have N28 := Fr.app N21 Nq28
    show own_Go p e below s _ _ _ (T28.setTop (mkF m 204 _ [(.double (FP.ddiv (FP.dmul (FP.dmul (FP.i2d iv) (FP.dadd (FP.ddiv (FP.i2d av) (4616189618054758400 : UInt64)) (4607182418800017408 : UInt64))) (FP.ddiv (FP.l2d ((mm.toInt64) * kc)) (FP.dmul (4625196817309499392 : UInt64) (FP.l2d pw)))) (FP.dadd (FP.dmul (FP.ddiv (FP.i2d av) (4616189618054758400 : UInt64)) (FP.dadd (FP.dsub (4607182418800017408 : UInt64) (FP.ddiv (FP.i2d bv) (4616189618054758400 : UInt64))) (FP.ddiv (FP.dmul (FP.ddiv (FP.i2d bv) (4616189618054758400 : UInt64)) (FP.i2d lv)) (FP.l2d pw)))) (FP.ddiv (FP.l2d ((mm.toInt64) * kc)) (FP.dmul (4625196817309499392 : UInt64) (FP.l2d pw))))))]))
    refine g_dstore X28 hx 206 (hb hby at_204) (l' := #[.val (.int p0), .val (.int p1), .val (.int p2), .val (.int p3), .val (.int iv), .val (.int av), .val (.int bv), .val (.int lv), .val (.int ev), .val (.int mm), .val (.long pw), .second, .val (.double (FP.ddiv (FP.i2d av) (4616189618054758400 : UInt64))), .second, .val (.double (FP.ddiv (FP.i2d bv) (4616189618054758400 : UInt64))), .second, .val (.double (FP.i2d iv)), .second, .val (.double (FP.l2d pw)), .second, .val (.long sc), .second, .val (.long kc), .second, .val (.ref b16), .val (.double (FP.ddiv (FP.l2d ((mm.toInt64) * kc)) (FP.dmul (4625196817309499392 : UInt64) (FP.l2d pw)))), .second, .val (.double (FP.ddiv (FP.dmul (FP.dmul (FP.i2d iv) (FP.dadd (FP.ddiv (FP.i2d av) (4616189618054758400 : UInt64)) (4607182418800017408 : UInt64))) (FP.ddiv (FP.l2d ((mm.toInt64) * kc)) (FP.dmul (4625196817309499392 : UInt64) (FP.l2d pw)))) (FP.dadd (FP.dmul (FP.ddiv (FP.i2d av) (4616189618054758400 : UInt64)) (FP.dadd (FP.dsub (4607182418800017408 : UInt64) (FP.ddiv (FP.i2d bv) (4616189618054758400 : UInt64))) (FP.ddiv (FP.dmul (FP.ddiv (FP.i2d bv) (4616189618054758400 : UInt64)) (FP.i2d lv)) (FP.l2d pw)))) (FP.ddiv (FP.l2d ((mm.toInt64) * kc)) (FP.dmul (4625196817309499392 : UInt64) (FP.l2d pw)))))), .second, .unset, .unset]) rfl rfl ?_
    refine g_iload X28 hx 208 (hb hby at_206) rfl rfl ?_
    refine g_i2l X28 hx 209 (hb hby at_208) rfl ?_
    refine g_iload X28 hx 211 (hb hby at_209) rfl rfl ?_
    refine g_iconst X28 hx 212 (hb hby at_211) (4 : Int32) rfl rfl ?_
    refine g_iadd X28 hx 213 (hb hby at_212) rfl ?_
    refine g_i2l X28 hx 214 (hb hby at_213) rfl ?_
    refine g_lmul X28 hx 215 (hb hby at_214) rfl ?_
    refine g_iload X28 hx 217 (hb hby at_215) rfl rfl ?_
    refine g_i2l X28 hx 218 (hb hby at_217) rfl ?_
    refine g_lmul X28 hx 219 (hb hby at_218) rfl ?_
    refine g_l2d X28 hx 220 (hb hby at_219) rfl ?_
    refine g_ldc2_wD X28 hx hown 223 (z := (4616189618054758400 : UInt64)) (mvT hZ (hw _ (List.mem_of_getElem? (i := 1) rfl))) (hb hby at_220) rfl ?_
    refine g_iload X28 hx 225 (hb hby at_223) rfl rfl ?_
    refine g_iconst X28 hx 226 (hb hby at_225) (1 : Int32) rfl rfl ?_
    refine g_iadd X28 hx 227 (hb hby at_226) rfl ?_
    refine g_i2d X28 hx 228 (hb hby at_227) rfl ?_
    refine g_dmul X28 hx 229 (hb hby at_228) x4 rfl ?_
    refine g_ddiv X28 hx 230 (hb hby at_229) xx rfl ?_
    refine g_dstore X28 hx 232 (hb hby at_230) (l' := #[.val (.int p0), .val (.int p1), .val (.int p2), .val (.int p3), .val (.int iv), .val (.int av), .val (.int bv), .val (.int lv), .val (.int ev), .val (.int mm), .val (.long pw), .second, .val (.double (FP.ddiv (FP.i2d av) (4616189618054758400 : UInt64))), .second, .val (.double (FP.ddiv (FP.i2d bv) (4616189618054758400 : UInt64))), .second, .val (.double (FP.i2d iv)), .second, .val (.double (FP.l2d pw)), .second, .val (.long sc), .second, .val (.long kc), .second, .val (.ref b16), .val (.double (FP.ddiv (FP.l2d ((mm.toInt64) * kc)) (FP.dmul (4625196817309499392 : UInt64) (FP.l2d pw)))), .second, .val (.double (FP.ddiv (FP.dmul (FP.dmul (FP.i2d iv) (FP.dadd (FP.ddiv (FP.i2d av) (4616189618054758400 : UInt64)) (4607182418800017408 : UInt64))) (FP.ddiv (FP.l2d ((mm.toInt64) * kc)) (FP.dmul (4625196817309499392 : UInt64) (FP.l2d pw)))) (FP.dadd (FP.dmul (FP.ddiv (FP.i2d av) (4616189618054758400 : UInt64)) (FP.dadd (FP.dsub (4607182418800017408 : UInt64) (FP.ddiv (FP.i2d bv) (4616189618054758400 : UInt64))) (FP.ddiv (FP.dmul (FP.ddiv (FP.i2d bv) (4616189618054758400 : UInt64)) (FP.i2d lv)) (FP.l2d pw)))) (FP.ddiv (FP.l2d ((mm.toInt64) * kc)) (FP.dmul (4625196817309499392 : UInt64) (FP.l2d pw)))))), .second, .val (.double (FP.ddiv (FP.l2d (((iv.toInt64) * ((av + (4 : Int32)).toInt64)) * (mm.toInt64))) (FP.dmul (4616189618054758400 : UInt64) (FP.i2d (mm + (1 : Int32)))))), .second]) rfl rfl ?_
    refine g_dload X28 hx 234 (hb hby at_232) rfl rfl ?_
    refine g_dload X28 hx 236 (hb hby at_234) rfl rfl ?_
    refine g_dcmp X28 hx 237 (hb hby at_236) rfl ?_
    have c30 : (cmpValue (FP.dcmp (FP.ddiv (FP.dmul (FP.dmul (FP.i2d iv) (FP.dadd (FP.ddiv (FP.i2d av) (4616189618054758400 : UInt64)) (4607182418800017408 : UInt64))) (FP.ddiv (FP.l2d ((mm.toInt64) * kc)) (FP.dmul (4625196817309499392 : UInt64) (FP.l2d pw)))) (FP.dadd (FP.dmul (FP.ddiv (FP.i2d av) (4616189618054758400 : UInt64)) (FP.dadd (FP.dsub (4607182418800017408 : UInt64) (FP.ddiv (FP.i2d bv) (4616189618054758400 : UInt64))) (FP.ddiv (FP.dmul (FP.ddiv (FP.i2d bv) (4616189618054758400 : UInt64)) (FP.i2d lv)) (FP.l2d pw)))) (FP.ddiv (FP.l2d ((mm.toInt64) * kc)) (FP.dmul (4625196817309499392 : UInt64) (FP.l2d pw))))) (FP.ddiv (FP.l2d (((iv.toInt64) * ((av + (4 : Int32)).toInt64)) * (mm.toInt64))) (FP.dmul (4616189618054758400 : UInt64) (FP.i2d (mm + (1 : Int32)))))) .l) = (0 : Int32) := by rw [hcmp]; rfl
    refine g_ifNo X28 hx 240 (hb hby at_237) (own_i0_ne_f c30) rfl ?_
    refine g_iconst X28 hx 241 (hb hby at_240) (1 : Int32) rfl rfl ?_
    refine g_goto X28 hx 245 (hb hby at_241) (by decide) (by decide) ?_
    refine own_retN X28 hx hlk (t := .boolean) hret (by simp) (hb hby at_245) ?_ (by decide) (by decide)
    rw [e28]
    exact ⟨rfl, N28⟩
set_option maxRecDepth 65536 in
set_option maxHeartbeats 40000000 in
theorem comes_1 {Post : Tables → Env → Array Value → State → Outcome → State → Prop} (hpost : ∀ tb e args s v u, (limb_1_1.after args s (.returned v) u = true ∧ limb_1_2.after args s (.returned v) u = true ∧ True) → FrameEnd s (.returned v) u (Jvm.fieldLocs frame_1_writes args s ++ Jvm.arrayLocs frame_1_arrays args s ++ Jvm.staticLocs frame_1_statics s) 16 128 → Post tb e args s (.returned v) u) :
    ArmFor flags0 classFile x code maxLocals ret World_1 tables_1 room_1 Calls_1 rest_1 Pre_1 Post := by
  intro l hfl _ _ p e ha hc hk s m args below hf hA hF happ hP
  obtain ⟨hcalls, hrest, hpre⟩ := hP
  obtain ⟨-, -, -, hnamed, -, -, -, hat⟩ := (Spec.applies_iff hf).mp happ
  obtain ⟨hg, hn⟩ := and_e (Cond.before_iff.mp (show (Jvm.Cond.and given_1 narrow_1).before args s = true from hpre))
  obtain ⟨gc, q0⟩ := and_e hg
  obtain ⟨ga0, q1⟩ := and_e q0
  obtain ⟨ga1, q2⟩ := and_e q1
  obtain ⟨ga2, q3⟩ := and_e q2
  have ga3 := q3
  obtain ⟨w0, w1, w2, w3, rfl⟩ : ∃ w0 w1 w2 w3 : Value, args = #[w0, w1, w2, w3] := by
    have hs : args.size = 4 := by simpa [Cond.value, given_1] using gc
    obtain ⟨L⟩ := args
    match L, hs with
    | [w0, w1, w2, w3], _ => exact ⟨w0, w1, w2, w3, rfl⟩
  have hw := fun d (hd : d ∈ tables_1) => atoms_spec (ws := Jvm.Cond.code x code maxLocals ret :: tables_1) hat d (List.mem_cons_of_mem _ hd)
  have hfit : Fit s := fun {y c} hc i hi => by
    obtain ⟨ha, rfl⟩ := Array.getElem?_eq_some_iff.mp hc
    have q := List.all_eq_true.mp ((Array.all_eq_true_iff_forall_mem.mp hF) _ (Array.getElem_mem ha)) i (List.mem_range.mpr hi)
    simpa [Array.getElem?_eq_getElem hi] using q
  obtain ⟨i0, ei0⟩ := is_v ga0
  obtain rfl : w0 = (.int i0) := Option.some.inj ei0
  obtain ⟨i1, ei1⟩ := is_v ga1
  obtain rfl : w1 = (.int i1) := Option.some.inj ei1
  obtain ⟨i2, ei2⟩ := is_v ga2
  obtain rfl : w2 = (.int i2) := Option.some.inj ei2
  obtain ⟨i3, ei3⟩ := is_v ga3
  obtain rfl : w3 = (.int i3) := Option.some.inj ei3
  obtain ⟨n, o, h1, h2, h3, _, L, rfl, ⟨rfl, N⟩, hq⟩ := rm_law l s _ hw tables_1 i0 i1 i2 i3  s.heap s.heap.size (Nat.le_refl _)  p e ha hc hk s m _ below hf ((Spec.applies_iff_loose hf).mp happ).1 ⟨rfl, State.Warmed39.refl s, rfl⟩ trivial
  refine ⟨n, _, h1, h2, h3, hpost _ _ _ _ _ _ ⟨Cond.after_iff.mpr rfl, Cond.after_iff.mpr (eq_i res_at (Term.int_eval (1)) rfl), trivial⟩ ⟨hq.1, hq.2.1, (hq.2.2.sift fun y hy => Or.inr (N y hy)).mono (by decide) (by decide)⟩⟩
theorem main_1_1 : Claimed_1_1 := comes_1 fun _ _ _ _ _ _ h hF => ⟨h.1, hF⟩
theorem main_1_2 : Claimed_1_2 := comes_1 fun _ _ _ _ _ _ h hF => ⟨h.2.1, hF⟩
end Jvm.Pilot.@@N@@
namespace Jvm.Pilot.@@N@@
open Jvm Jvm.ClassFile Sem Op Lib Jvm.Free Jvm.Stand Jvm.Pilot.@@N@@.Jvm.D
/-! MADE BY PROGRAM (witnessworld.py) out of the Statement's table words and the real class files: 10 classes; the members and pool entries that the words name. The judged class is class 1, her method 1. -/
namespace start1
open Jvm.ClassFile
def u (s : String) : CpInfo := .utf8 (stringToUtf16 s)
/-- a pool by its gaps: so many unusable entries, then the entry; so many at the end -/
def gap : Nat → List CpInfo → List CpInfo
  | 0, r => r
  | n + 1, r => .unusable :: gap n r
def poolList (es : List (Nat × CpInfo)) (last : Nat) : List CpInfo := es.foldr (fun e r => gap e.1 (e.2 :: r)) (gap last [])
def pool (es : List (Nat × CpInfo)) (last : Nat) : Array CpInfo := ⟨poolList es last⟩
def fileOf (pool : Array CpInfo) (this : Nat) (attrs : Array Attribute := #[]) (ms : Array MethodInfo := #[]) (fl : Nat := 33) (sup : Nat := 0) (ifs : Array Nat := #[]) (fds : Array FieldInfo := #[]) : ClassFile where
  minorVersion := 0
  majorVersion := 65
  constantPool := pool
  accessFlags := fl
  thisClass := this
  superClass := sup
  interfaces := ifs
  fields := fds
  methods := ms
  attributes := attrs
def plain (name : String) (sup : Option ClassId) : Class where
  name := name
  kind := .ordinary
  loader := none
  accessFlags := 33
  super := sup
  interfaces := #[]
  cf := none
  fields := #[]
  methods := #[]
  instanceTypes := #[]
  staticTypes := #[]
  resolved := #[]
  callSites := []
  init := .initialized
  statics := none
  mirror := none

def pool0 : Array CpInfo := pool [(5, u "<init>"), (0, u "()V"), (1, .class_ 10), (1, u "java/lang/Object")] 113

def k0c0 : Code := { maxStack := 0, maxLocals := 1, code := object_method_1_code, exceptionTable := #[], attributes := #[] }
def k0m0 : Method := { name := "<init>", desc := "()V", sig := { parameters := [], returnType := none }, accessFlags := 1, code := some k0c0 }
/-- java/lang/Object -/
def k0 : Class := { plain "java/lang/Object" none with
  accessFlags := 33
  interfaces := #[]
  cf := some (fileOf pool0 8 #[] #[{ accessFlags := 1, nameIndex := 5, descriptorIndex := 6, attributes := #[] }] 33 0 #[] #[])
  fields := #[]
  methods := #[k0m0]
  instanceTypes := #[]
  staticTypes := #[]
  resolved := Array.replicate 124 none
  statics := none }

def pool1 : Array CpInfo := pool [(2, .class_ 4), (1, u "java/lang/Object"), (0, u "<init>"), (0, u "()V"), (0, .integer 1048575), (0, .double 4616189618054758400), (1, .long 4), (1, .class_ 13), (0, u "com/example/libelem/libelem/rank/Bm25"), (0, .methodref 12 15), (0, .nameAndType 5 16), (0, u "(DD)V"), (0, .methodref 12 18), (0, .nameAndType 19 20), (0, u "weight"), (0, u "(DDID)D"), (0, .double 4625196817309499392), (1, .class_ 24), (0, u "com/example/libelem/libelem/rank/Bm25WeightPinLaw"), (2, u "law"), (0, u "(IIII)Z")] 3

def k1m0 : Method := { name := "<init>", desc := "()V", sig := { parameters := [], returnType := none }, accessFlags := 1, code := none }
def k1c1 : Code := { maxStack := 8, maxLocals := 31, code := code, exceptionTable := #[], attributes := #[] }
def k1m1 : Method := { name := "law", desc := "(IIII)Z", sig := { parameters := [.int, .int, .int, .int], returnType := some .boolean }, accessFlags := 9, code := some k1c1 }
/-- com/example/libelem/libelem/rank/Bm25WeightPinLaw -/
def k1 : Class := { plain "com/example/libelem/libelem/rank/Bm25WeightPinLaw" (some 0) with
  accessFlags := 49
  interfaces := #[]
  cf := some (fileOf pool1 23 #[] #[{ accessFlags := 1, nameIndex := 5, descriptorIndex := 6, attributes := #[] }, { accessFlags := 9, nameIndex := 27, descriptorIndex := 28, attributes := #[] }] 49 2 #[] #[])
  fields := #[]
  methods := #[k1m0, k1m1]
  instanceTypes := #[]
  staticTypes := #[]
  resolved := Array.replicate 32 none
  statics := none }

def pool2 : Array CpInfo := pool [(1, .methodref 2 3), (0, .class_ 4), (0, .nameAndType 5 6), (0, u "java/lang/Object"), (0, u "<init>"), (0, u "()V"), (0, .class_ 8), (0, u "java/lang/Record")] 13

def k2c0 : Code := { maxStack := 1, maxLocals := 1, code := jdk_30_method_1_code, exceptionTable := #[], attributes := #[] }
def k2m0 : Method := { name := "<init>", desc := "()V", sig := { parameters := [], returnType := none }, accessFlags := 4, code := some k2c0 }
/-- java/lang/Record -/
def k2 : Class := { plain "java/lang/Record" (some 0) with
  accessFlags := 1057
  interfaces := #[]
  cf := some (fileOf pool2 7 #[] #[{ accessFlags := 4, nameIndex := 5, descriptorIndex := 6, attributes := #[] }] 1057 2 #[] #[])
  fields := #[]
  methods := #[k2m0]
  instanceTypes := #[]
  staticTypes := #[]
  resolved := Array.replicate 22 none
  statics := none }

def pool3 : Array CpInfo := pool [(1, .methodref 2 3), (0, .class_ 4), (0, .nameAndType 5 6), (0, u "java/lang/Record"), (0, u "<init>"), (0, u "()V"), (0, .fieldref 8 9), (0, .class_ 10), (0, .nameAndType 11 12), (0, u "com/example/libelem/libelem/rank/Bm25"), (0, u "k1"), (0, u "D"), (0, .fieldref 8 14), (0, .nameAndType 15 12), (0, u "b"), (10, u "weight"), (0, u "(DDID)D"), (18, u "(DD)V"), (2, u "DEFAULT"), (0, u "Lcom/example/libelem/libelem/rank/Bm25;")] 33

def k3c0 : Code := { maxStack := 3, maxLocals := 5, code := prog_83_method_1_code, exceptionTable := #[], attributes := #[] }
def k3m0 : Method := { name := "<init>", desc := "(DD)V", sig := { parameters := [.double, .double], returnType := none }, accessFlags := 1, code := some k3c0 }
def k3c1 : Code := { maxStack := 10, maxLocals := 8, code := prog_83_method_3_code, exceptionTable := #[], attributes := #[] }
def k3m1 : Method := { name := "weight", desc := "(DDID)D", sig := { parameters := [.double, .double, .int, .double], returnType := some .double }, accessFlags := 1, code := some k3c1 }
/-- com/example/libelem/libelem/rank/Bm25 -/
def k3 : Class := { plain "com/example/libelem/libelem/rank/Bm25" (some 2) with
  accessFlags := 49
  interfaces := #[]
  cf := some (fileOf pool3 8 #[] #[{ accessFlags := 1, nameIndex := 5, descriptorIndex := 46, attributes := #[] }, { accessFlags := 1, nameIndex := 26, descriptorIndex := 27, attributes := #[] }] 49 2 #[] #[{ accessFlags := 18, nameIndex := 11, descriptorIndex := 12, attributes := #[] }, { accessFlags := 18, nameIndex := 15, descriptorIndex := 12, attributes := #[] }, { accessFlags := 25, nameIndex := 49, descriptorIndex := 50, attributes := #[] }])
  fields := #[{ name := "k1", type := .double, accessFlags := 18, slot := 0, constantValue := 0 }, { name := "b", type := .double, accessFlags := 18, slot := 1, constantValue := 0 }, { name := "DEFAULT", type := (.object "com/example/libelem/libelem/rank/Bm25"), accessFlags := 25, slot := 0, constantValue := 0 }]
  methods := #[k3m0, k3m1]
  instanceTypes := #[.double, .double]
  staticTypes := #[(.object "com/example/libelem/libelem/rank/Bm25")]
  resolved := Array.replicate 84 none
  statics := none }

def pool4 : Array CpInfo := pool [(1, u "java/lang/Cloneable"), (0, .class_ 1), (0, u "java/lang/Object"), (0, .class_ 3)] 3

/-- java/lang/Cloneable -/
def k4 : Class := { plain "java/lang/Cloneable" (some 0) with
  accessFlags := 1537
  interfaces := #[]
  cf := some (fileOf pool4 2 #[] #[] 1537 4 #[] #[])
  fields := #[]
  methods := #[]
  instanceTypes := #[]
  staticTypes := #[]
  resolved := Array.replicate 8 none
  statics := none }

def pool5 : Array CpInfo := pool [(1, u "java/io/Serializable"), (0, .class_ 1), (0, u "java/lang/Object"), (0, .class_ 3)] 3

/-- java/io/Serializable -/
def k5 : Class := { plain "java/io/Serializable" (some 0) with
  accessFlags := 1537
  interfaces := #[]
  cf := some (fileOf pool5 2 #[] #[] 1537 4 #[] #[])
  fields := #[]
  methods := #[]
  instanceTypes := #[]
  staticTypes := #[]
  resolved := Array.replicate 8 none
  statics := none }

/-- the primitive byte -/
def k6 : Class := { plain "byte" none with kind := .primitive 'B', accessFlags := 0x411 }
/-- [B -/
def k7 : Class := { plain "[B" (some 0) with kind := .array 6 .byte, interfaces := #[4, 5], accessFlags := 1041 }

/-- the primitive int -/
def k8 : Class := { plain "int" none with kind := .primitive 'I', accessFlags := 0x411 }
/-- [I -/
def k9 : Class := { plain "[I" (some 0) with kind := .array 8 .int, interfaces := #[4, 5], accessFlags := 1041 }

def heap : Heap := #[]
def classes : Array Class := #[k0, k1, k2, k3, k4, k5, k6, k7, k8, k9]
def interned : List (Array UInt16 × Addr) := []
def slotsUsed : Nat := 0
def theMethod : MethodId := ⟨1, 1⟩
def args0 : Array Value := #[.int 5, .int 5, .int 5, .int 5]
def aboutOver (below : List Frame) : State where
  vm := { classes := classes, interned := interned.toArray }
  heap := heap
  slotsUsed := slotsUsed
  threads := #[{ frames := .invoking theMethod args0 :: below }]
def below0 : List Frame := [.native { method := ⟨0, 0⟩, args := #[] }]
def about1 : State := aboutOver below0
def p0 : Program := .bare "" "" ""
def e0 : Env := launch0.env 0 0 0
theorem w_frames : about1.frames = Frame.invoking theMethod args0 :: below0 := rfl
set_option maxRecDepth 65536 in
theorem w_args : argsFit about1.vm theMethod args0 = true := by decide +kernel
set_option maxRecDepth 65536 in
theorem w_heap : heapFits about1 = true := by decide +kernel
set_option maxRecDepth 65536 in
theorem w_runnable : about1.curStatus? = some .runnable := by decide +kernel
set_option maxRecDepth 65536 in
theorem w_alone : about1.alone = true := by decide +kernel
set_option maxRecDepth 65536 in
theorem w_named : about1.methodNamed? x = some theMethod := by decide +kernel
set_option maxRecDepth 65536 in
theorem w_hears : about1.hears theMethod below0 = true := by decide +kernel
set_option maxRecDepth 65536 in
theorem w_ripe : about1.ripe theMethod args0 below0 = true := by decide +kernel
theorem w_running : about1.status = .running := rfl
set_option maxRecDepth 65536 in
theorem w_room : about1.hasRoom e0.platform room_1 = true :=
  launch0.hasRoom_least _ room_1 (by decide +kernel) (by decide +kernel) (by decide +kernel) (by decide +kernel) (by decide +kernel) (by decide +kernel)
theorem allAtoms_all (ts : List Jvm.Cond) (a : Array Jvm.Value) (st : Jvm.State) : (allAtoms ts).before a st = ts.all (fun c => c.before a st) := by
  induction ts with
  | nil => rfl
  | cons c t ih =>
    show (Jvm.Cond.and c (allAtoms t)).before a st = _
    rw [Jvm.Cond.before_and, ih, List.all_cons]
def words1 : List Jvm.Cond := Jvm.Cond.code x code maxLocals ret :: tables_1
/-- a 'code' word, met by the world's own term for the bytes: nothing is compared byte by byte -/
theorem code_word {y : MethodName} {bytes : ByteArray} {mx : Nat} {rt : Option FieldType} {a : Array Value} {s : State} {m : MethodId} {meth : Method} {c : Code} (h1 : s.methodNamed? y = some m) (h2 : s.vm.method? m = some meth) (h3 : meth.code = some c) (h4 : c.code = bytes)
    (h5 : (c.maxLocals == mx && c.exceptionTable.isEmpty && decide (c.maxStack ≤ mostOperands) && decide (meth.sig.returnType = rt) && !meth.locks && decide (parseMethodDescriptor y.desc = some meth.sig)) = true) : (Jvm.Cond.code y bytes mx rt).before a s = true := by
  simp only [Bool.and_eq_true, beq_iff_eq, Bool.not_eq_true', decide_eq_true_eq] at h5
  obtain ⟨⟨⟨⟨⟨g1, g2⟩, g3⟩, g4⟩, g5⟩, g6⟩ := h5
  simp [Cond.before, Cond.holds, Cond.value, h1, h2, h3, h4, g1, g2, g3, g4, g5, g6]
def isCode : Jvm.Cond → Bool
  | .code _ _ _ _ => true
  | _ => false
theorem all_split {L : List Jvm.Cond} {P : Jvm.Cond → Bool} (h1 : L.all (fun c => isCode c || P c) = true) (h2 : ∀ c ∈ L.filter isCode, P c = true) : L.all P = true := by
  refine List.all_eq_true.mpr fun c hc => ?_
  have h := List.all_eq_true.mp h1 c hc
  rcases Bool.eq_false_or_eq_true (isCode c) with hi | hi
  · exact h2 c (List.mem_filter.mpr ⟨hc, hi⟩)
  · simpa [hi] using h
set_option maxRecDepth 65536 in
theorem w_c0 : (Jvm.Cond.code x code maxLocals ret).before args0 about1 = true := code_word (m := ⟨1, 1⟩) (meth := k1m1) (c := k1c1) (by decide +kernel) rfl rfl rfl (by decide +kernel)
set_option maxRecDepth 65536 in
theorem w_c1 : (Jvm.Cond.code ({ cls := "com/example/libelem/libelem/rank/Bm25", name := "<init>", desc := "(DD)V" } : Jvm.MethodName) prog_83_method_1_code (5 : Nat) (Option.none : Option Jvm.ClassFile.FieldType)).before args0 about1 = true := code_word (m := ⟨3, 0⟩) (meth := k3m0) (c := k3c0) (by decide +kernel) rfl rfl rfl (by decide +kernel)
set_option maxRecDepth 65536 in
theorem w_c2 : (Jvm.Cond.code ({ cls := "java/lang/Record", name := "<init>", desc := "()V" } : Jvm.MethodName) jdk_30_method_1_code (1 : Nat) (Option.none : Option Jvm.ClassFile.FieldType)).before args0 about1 = true := code_word (m := ⟨2, 0⟩) (meth := k2m0) (c := k2c0) (by decide +kernel) rfl rfl rfl (by decide +kernel)
set_option maxRecDepth 65536 in
theorem w_c3 : (Jvm.Cond.code ({ cls := "java/lang/Object", name := "<init>", desc := "()V" } : Jvm.MethodName) object_method_1_code (1 : Nat) (Option.none : Option Jvm.ClassFile.FieldType)).before args0 about1 = true := code_word (m := ⟨0, 0⟩) (meth := k0m0) (c := k0c0) (by decide +kernel) rfl rfl rfl (by decide +kernel)
set_option maxRecDepth 65536 in
theorem w_c4 : (Jvm.Cond.code ({ cls := "com/example/libelem/libelem/rank/Bm25", name := "weight", desc := "(DDID)D" } : Jvm.MethodName) prog_83_method_3_code (8 : Nat) (Option.some Jvm.ClassFile.FieldType.double)).before args0 about1 = true := code_word (m := ⟨3, 1⟩) (meth := k3m1) (c := k3c1) (by decide +kernel) rfl rfl rfl (by decide +kernel)
def codes1 : List Jvm.Cond := [Jvm.Cond.code x code maxLocals ret, Jvm.Cond.code ({ cls := "com/example/libelem/libelem/rank/Bm25", name := "<init>", desc := "(DD)V" } : Jvm.MethodName) prog_83_method_1_code (5 : Nat) (Option.none : Option Jvm.ClassFile.FieldType), Jvm.Cond.code ({ cls := "java/lang/Record", name := "<init>", desc := "()V" } : Jvm.MethodName) jdk_30_method_1_code (1 : Nat) (Option.none : Option Jvm.ClassFile.FieldType), Jvm.Cond.code ({ cls := "java/lang/Object", name := "<init>", desc := "()V" } : Jvm.MethodName) object_method_1_code (1 : Nat) (Option.none : Option Jvm.ClassFile.FieldType), Jvm.Cond.code ({ cls := "com/example/libelem/libelem/rank/Bm25", name := "weight", desc := "(DDID)D" } : Jvm.MethodName) prog_83_method_3_code (8 : Nat) (Option.some Jvm.ClassFile.FieldType.double)]
set_option maxRecDepth 65536 in
theorem codes_eq : words1.filter isCode = codes1 := rfl
theorem w_codes : ∀ c ∈ words1.filter isCode, c.before args0 about1 = true := by
  rw [codes_eq]
  intro c hc
  simp only [codes1, List.mem_cons, List.not_mem_nil, or_false] at hc
  rcases hc with rfl | rfl | rfl | rfl | rfl
  · exact w_c0
  · exact w_c1
  · exact w_c2
  · exact w_c3
  · exact w_c4
set_option maxRecDepth 65536 in
theorem w_t1 : (words1.take 24).all (fun c => isCode c || c.before args0 about1) = true := by decide +kernel
set_option maxRecDepth 65536 in
theorem w_t2 : (words1.drop 24).all (fun c => isCode c || c.before args0 about1) = true := by decide +kernel
theorem w_tables : (allAtoms (Jvm.Cond.code x code maxLocals ret :: tables_1)).before args0 about1 = true := by
  rw [allAtoms_all]
  show words1.all (fun c => c.before args0 about1) = true
  refine all_split ?_ w_codes
  rw [← List.take_append_drop 24 words1, List.all_append, w_t1, w_t2]
  rfl
set_option maxRecDepth 65536 in
theorem w_case : (Jvm.Cond.and given_1 narrow_1).before args0 about1 = true := by decide +kernel
theorem w_applies : (headSpec (Jvm.Cond.code x code maxLocals ret :: tables_1) room_1).applies x e0.platform about1 = true :=
  (Spec.applies_iff w_frames).mpr ⟨w_running, w_runnable, w_alone, w_named, w_hears, w_ripe, w_room, w_tables⟩
theorem atStart : AtStart classFile x code maxLocals ret World_1 tables_1 room_1 Calls_1 rest_1 Pre_1 launch0 p0 e0 about1 theMethod args0 below0 :=
  ⟨lists_1, trivial, launch0.admits_env _ _ _, launch0.least_env, fairChoices_fair.cas, fairChoices_fair.clock, w_frames, w_args, w_heap, w_applies, trivial, trivial, w_case⟩
end start1
theorem witness_1 : WitnessClaimed_1 := ⟨start1.p0, start1.e0, start1.about1, start1.theMethod, start1.args0, start1.below0, start1.atStart⟩
end Jvm.Pilot.@@N@@
