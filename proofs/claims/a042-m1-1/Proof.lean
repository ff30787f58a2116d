import JvmDerived
import JvmDerived.Pilot.@@N@@Statement
import JvmDerived.Pilot.@@N@@Code
set_option linter.unusedVariables false
set_option linter.unusedSimpArgs false
namespace Jvm.Pilot.@@N@@
open Jvm Jvm.ClassFile Sem Op Lib Jvm.Free Jvm.Stand Jvm.LawKit Jvm.RoadKit Bundle Jvm.Pilot.@@N@@.Jvm.D
section Own
variable {p : Program} {l : Launch} {e : Env} {R : Room} {s : State} {m : MethodId} {args : Array Value} {below : List Frame} {meth : Method} {c : Code} {T : State} {locs : List Loc} {cells slots : Nat}
/-- from S0 the run ends as Q says, within the frame of k cells and n slots -/
def own_Go (p : Program) (e : Env) (below : List Frame) (s : State) (Q : Option Value → Heap → List Loc → Prop) (k n : Nat) (S0 : State) : Prop :=
  ∃ U o, Steps p.tables e below S0 U ∧ U.status = .running ∧ Ended U below o ∧ ∃ v L, o = .returned v ∧ Q v U.heap L ∧ FrameEnd s o U L k n
variable {Q : Option Value → Heap → List Loc → Prop} {K N : Nat} {S0 S1 : State}
theorem own_step (h : ∀ t, Steps p.tables e below S1 t → Steps p.tables e below S0 t) (G : own_Go p e below s Q K N S1) : own_Go p e below s Q K N S0 := by
  obtain ⟨U, o, h1, r⟩ := G
  exact ⟨U, o, h _ h1, r⟩
theorem own_start {g g' : JFrame} (q : g = g') (G : own_Go p e below s Q K N (T.setTop g')) : own_Go p e below s Q K N (T.setTop g) := q ▸ G
theorem own_end (X : Stand p l e R s m args below meth c T locs cells slots) {v : Option Value} (hv : meth.sig.returnType = none → v = none) (hlk : meth.locks = false) (hq : Q v T.heap locs) (hk : cells ≤ K) (hn : slots ≤ N)
    (go : ∀ fs, (∀ (f : JFrame) (acts : List Action), f.method = m → f.locked = none → f.entered = [] → (doReturn e (T.setTop f) acts v).1 = T.setFrames fs) → Steps p.tables e below S0 (T.setFrames fs)) : own_Go p e below s Q K N S0 := by
  obtain ⟨fs, hr, hrun, hended, hW, hsame⟩ := X.leave (v := v) hv hlk
  exact ⟨_, _, go fs hr, hrun, hended, _, _, rfl, hq, ⟨_, rfl⟩, hW, hsame.mono hk hn⟩
theorem own_retN (X : Stand p l e R s m args below meth c T locs cells slots) (hx : p.tables.exec = Jvm.exec) (hlk : meth.locks = false) {pc : Nat} {Ls : Array Slot} {z : Int32} {t : FieldType} {rest : List Value} (hret : meth.sig.returnType = some t) (ht : t = .boolean ∨ t = .byte ∨ t = .char ∨ t = .short)
    (hd : decode c.code pc = .ok (.ireturn, 1)) (hq : Q (some (.int (nar t z))) T.heap locs) (hk : cells ≤ K) (hn : slots ≤ N) : own_Go p e below s Q K N (T.setTop (mkF m pc Ls (.int z :: rest))) :=
  own_end X (fun h => by rw [hret] at h; cases h) hlk hq hk hn fun fs hr => retN X hx hret ht hd hr
theorem own_retI (X : Stand p l e R s m args below meth c T locs cells slots) (hx : p.tables.exec = Jvm.exec) (hlk : meth.locks = false) {pc : Nat} {Ls : Array Slot} {z : Int32} {rest : List Value} (hret : meth.sig.returnType = some .int)
    (hd : decode c.code pc = .ok (.ireturn, 1)) (hq : Q (some (.int z)) T.heap locs) (hk : cells ≤ K) (hn : slots ≤ N) : own_Go p e below s Q K N (T.setTop (mkF m pc Ls (.int z :: rest))) :=
  own_end X (fun h => by rw [hret] at h; cases h) hlk hq hk hn fun fs hr => retOut X hx hret rfl (Or.inl ⟨rfl, Or.inl rfl, _, rfl⟩) hd hr
theorem own_retJ (X : Stand p l e R s m args below meth c T locs cells slots) (hx : p.tables.exec = Jvm.exec) (hlk : meth.locks = false) {pc : Nat} {Ls : Array Slot} {z : Int64} {rest : List Value} (hret : meth.sig.returnType = some .long)
    (hd : decode c.code pc = .ok (.lreturn, 1)) (hq : Q (some (.long z)) T.heap locs) (hk : cells ≤ K) (hn : slots ≤ N) : own_Go p e below s Q K N (T.setTop (mkF m pc Ls (.long z :: rest))) :=
  own_end X (fun h => by rw [hret] at h; cases h) hlk hq hk hn fun fs hr => retOut X hx hret rfl (Or.inr (Or.inl ⟨rfl, rfl, _, rfl⟩)) hd hr
theorem own_retA (X : Stand p l e R s m args below meth c T locs cells slots) (hx : p.tables.exec = Jvm.exec) (hlk : meth.locks = false) {pc : Nat} {Ls : Array Slot} {w : Value} {t : FieldType} {rest : List Value} (hret : meth.sig.returnType = some t) (ht : t.isReference = true) (hw : w.isRef = true)
    (hd : decode c.code pc = .ok (.areturn, 1)) (hq : Q (some w) T.heap locs) (hk : cells ≤ K) (hn : slots ≤ N) : own_Go p e below s Q K N (T.setTop (mkF m pc Ls (w :: rest))) :=
  own_end X (fun h => by rw [hret] at h; cases h) hlk hq hk hn fun fs hr => retOut X hx hret (by cases t <;> first | (cases ht; done) | (cases w <;> rfl)) (Or.inr (Or.inr (Or.inr (Or.inr ⟨rfl, ht, hw⟩)))) hd hr
theorem own_retV (X : Stand p l e R s m args below meth c T locs cells slots) (hx : p.tables.exec = Jvm.exec) (hlk : meth.locks = false) {pc : Nat} {Ls : Array Slot} (hret : meth.sig.returnType = none)
    (hd : decode c.code pc = .ok (.return_, 1)) (hq : Q none T.heap locs) (hk : cells ≤ K) (hn : slots ≤ N) : own_Go p e below s Q K N (T.setTop (mkF m pc Ls [])) :=
  own_end X (fun _ => rfl) hlk hq hk hn fun fs hr => X.returnOut hx hret hd hr
theorem own_Sta_keep {Z : State} {h h' : Heap} {ws : List Addr} {C n d : String} {w : Value} (Kp : Keep h h' ws) (F : Sta Z h C n d w) (q : ∀ a ∈ ws, ∀ cell : Cell, h[a]? = some cell → cell.vm.isStatics = false) : Sta Z h' C n d w := by
  obtain ⟨cf, i, k, f, st, cell, h1, h2, h3, h4, h5, h6, h7⟩ := F
  exact ⟨cf, i, k, f, st, cell, h1, h2, h3, h4, Kp.2.1 _ _ h5 (fun hm => by rw [q _ hm _ h5] at h6; cases h6), h6, h7⟩
theorem g_iload_n (X : Stand p l e R s m args below meth c T locs cells slots) (hx : p.tables.exec = Jvm.exec) {pc : Nat} (pc' : Nat) {Ls : Array Slot} {k : Fin 4} {v : Int32} {st : List Value} (hd : decode c.code pc = .ok (.iload_n k, 1)) (hl : Ls[k.val]? = some (.val (.int v))) (hp : pc + 1 = pc') (G : own_Go p e below s Q K N (T.setTop (mkF m pc' Ls (.int v :: st)))) : own_Go p e below s Q K N (T.setTop (mkF m pc Ls (st))) := by
  subst hp; exact own_step (fun _ k => XS.iloadN X.here hx rfl hd hl k) G
theorem g_iload (X : Stand p l e R s m args below meth c T locs cells slots) (hx : p.tables.exec = Jvm.exec) {pc : Nat} (pc' : Nat) {Ls : Array Slot} {k : Nat} {v : Int32} {st : List Value} (hd : decode c.code pc = .ok (.iload k, 2)) (hl : Ls[k]? = some (.val (.int v))) (hp : pc + 2 = pc') (G : own_Go p e below s Q K N (T.setTop (mkF m pc' Ls (.int v :: st)))) : own_Go p e below s Q K N (T.setTop (mkF m pc Ls (st))) := by
  subst hp; exact own_step (fun _ k => XS.iload X.here hx rfl hd hl k) G
theorem g_istore_n (X : Stand p l e R s m args below meth c T locs cells slots) (hx : p.tables.exec = Jvm.exec) {pc : Nat} (pc' : Nat) {Ls : Array Slot} {k : Fin 4} {v : Int32} {st : List Value} {l' : Array Slot} (hd : decode c.code pc = .ok (.istore_n k, 1)) (hl : storeLocals Ls k.val (.int v) = some l') (hp : pc + 1 = pc') (G : own_Go p e below s Q K N (T.setTop (mkF m pc' l' (st)))) : own_Go p e below s Q K N (T.setTop (mkF m pc Ls (.int v :: st))) := by
  subst hp; exact own_step (fun _ k => XS.istoreN X.here hx rfl hd rfl hl k) G
theorem g_istore (X : Stand p l e R s m args below meth c T locs cells slots) (hx : p.tables.exec = Jvm.exec) {pc : Nat} (pc' : Nat) {Ls : Array Slot} {k : Nat} {v : Int32} {st : List Value} {l' : Array Slot} (hd : decode c.code pc = .ok (.istore k, 2)) (hl : storeLocals Ls k (.int v) = some l') (hp : pc + 2 = pc') (G : own_Go p e below s Q K N (T.setTop (mkF m pc' l' (st)))) : own_Go p e below s Q K N (T.setTop (mkF m pc Ls (.int v :: st))) := by
  subst hp; exact own_step (fun _ k => XS.istore X.here hx rfl hd rfl hl k) G
theorem g_lload_n (X : Stand p l e R s m args below meth c T locs cells slots) (hx : p.tables.exec = Jvm.exec) {pc : Nat} (pc' : Nat) {Ls : Array Slot} {k : Fin 4} {v : Int64} {st : List Value} (hd : decode c.code pc = .ok (.lload_n k, 1)) (hl : Ls[k.val]? = some (.val (.long v))) (hp : pc + 1 = pc') (G : own_Go p e below s Q K N (T.setTop (mkF m pc' Ls (.long v :: st)))) : own_Go p e below s Q K N (T.setTop (mkF m pc Ls (st))) := by
  subst hp; exact own_step (fun _ k => XS.lloadN X.here hx rfl hd hl k) G
theorem g_lload (X : Stand p l e R s m args below meth c T locs cells slots) (hx : p.tables.exec = Jvm.exec) {pc : Nat} (pc' : Nat) {Ls : Array Slot} {k : Nat} {v : Int64} {st : List Value} (hd : decode c.code pc = .ok (.lload k, 2)) (hl : Ls[k]? = some (.val (.long v))) (hp : pc + 2 = pc') (G : own_Go p e below s Q K N (T.setTop (mkF m pc' Ls (.long v :: st)))) : own_Go p e below s Q K N (T.setTop (mkF m pc Ls (st))) := by
  subst hp; exact own_step (fun _ k => XS.lload X.here hx rfl hd hl k) G
theorem g_lstore_n (X : Stand p l e R s m args below meth c T locs cells slots) (hx : p.tables.exec = Jvm.exec) {pc : Nat} (pc' : Nat) {Ls : Array Slot} {k : Fin 4} {v : Int64} {st : List Value} {l' : Array Slot} (hd : decode c.code pc = .ok (.lstore_n k, 1)) (hl : storeLocals Ls k.val (.long v) = some l') (hp : pc + 1 = pc') (G : own_Go p e below s Q K N (T.setTop (mkF m pc' l' (st)))) : own_Go p e below s Q K N (T.setTop (mkF m pc Ls (.long v :: st))) := by
  subst hp; exact own_step (fun _ k => XS.lstoreN X.here hx rfl hd rfl hl k) G
theorem g_lstore (X : Stand p l e R s m args below meth c T locs cells slots) (hx : p.tables.exec = Jvm.exec) {pc : Nat} (pc' : Nat) {Ls : Array Slot} {k : Nat} {v : Int64} {st : List Value} {l' : Array Slot} (hd : decode c.code pc = .ok (.lstore k, 2)) (hl : storeLocals Ls k (.long v) = some l') (hp : pc + 2 = pc') (G : own_Go p e below s Q K N (T.setTop (mkF m pc' l' (st)))) : own_Go p e below s Q K N (T.setTop (mkF m pc Ls (.long v :: st))) := by
  subst hp; exact own_step (fun _ k => XS.lstore X.here hx rfl hd rfl hl k) G
theorem g_aload_n (X : Stand p l e R s m args below meth c T locs cells slots) (hx : p.tables.exec = Jvm.exec) {pc : Nat} (pc' : Nat) {Ls : Array Slot} {k : Fin 4} {v : Value} {st : List Value} (hd : decode c.code pc = .ok (.aload_n k, 1)) (hl : Ls[k.val]? = some (.val v)) (hv : v.isRef = true) (hp : pc + 1 = pc') (G : own_Go p e below s Q K N (T.setTop (mkF m pc' Ls (v :: st)))) : own_Go p e below s Q K N (T.setTop (mkF m pc Ls (st))) := by
  subst hp; exact own_step (fun _ k => XS.aloadN X.here hx rfl hd hl hv k) G
theorem g_aload (X : Stand p l e R s m args below meth c T locs cells slots) (hx : p.tables.exec = Jvm.exec) {pc : Nat} (pc' : Nat) {Ls : Array Slot} {k : Nat} {v : Value} {st : List Value} (hd : decode c.code pc = .ok (.aload k, 2)) (hl : Ls[k]? = some (.val v)) (hv : v.isRef = true) (hp : pc + 2 = pc') (G : own_Go p e below s Q K N (T.setTop (mkF m pc' Ls (v :: st)))) : own_Go p e below s Q K N (T.setTop (mkF m pc Ls (st))) := by
  subst hp; exact own_step (fun _ k => XS.aload X.here hx rfl hd hl hv k) G
theorem g_astore_n (X : Stand p l e R s m args below meth c T locs cells slots) (hx : p.tables.exec = Jvm.exec) {pc : Nat} (pc' : Nat) {Ls : Array Slot} {k : Fin 4} {v : Value} {st : List Value} {l' : Array Slot} (hd : decode c.code pc = .ok (.astore_n k, 1)) (hv : v.isRef = true) (hl : storeLocals Ls k.val v = some l') (hp : pc + 1 = pc') (G : own_Go p e below s Q K N (T.setTop (mkF m pc' l' (st)))) : own_Go p e below s Q K N (T.setTop (mkF m pc Ls (v :: st))) := by
  subst hp; exact own_step (fun _ k => XS.astoreN X.here hx rfl hd rfl hv hl k) G
theorem g_astore (X : Stand p l e R s m args below meth c T locs cells slots) (hx : p.tables.exec = Jvm.exec) {pc : Nat} (pc' : Nat) {Ls : Array Slot} {k : Nat} {v : Value} {st : List Value} {l' : Array Slot} (hd : decode c.code pc = .ok (.astore k, 2)) (hv : v.isRef = true) (hl : storeLocals Ls k v = some l') (hp : pc + 2 = pc') (G : own_Go p e below s Q K N (T.setTop (mkF m pc' l' (st)))) : own_Go p e below s Q K N (T.setTop (mkF m pc Ls (v :: st))) := by
  subst hp; exact own_step (fun _ k => XS.astore X.here hx rfl hd rfl hv hl k) G
theorem g_iconst (X : Stand p l e R s m args below meth c T locs cells slots) (hx : p.tables.exec = Jvm.exec) {pc : Nat} (pc' : Nat) {Ls : Array Slot} {i : Int} {st : List Value} (hd : decode c.code pc = .ok (.iconst i, 1)) (z : Int32) (hz : Int32.ofInt i = z) (hp : pc + 1 = pc') (G : own_Go p e below s Q K N (T.setTop (mkF m pc' Ls (.int z :: st)))) : own_Go p e below s Q K N (T.setTop (mkF m pc Ls st)) := by
  subst hp hz; exact own_step (fun _ k => XS.iconst X.here hx rfl hd k) G
theorem g_bipush (X : Stand p l e R s m args below meth c T locs cells slots) (hx : p.tables.exec = Jvm.exec) {pc : Nat} (pc' : Nat) {Ls : Array Slot} {i : Int} {st : List Value} (hd : decode c.code pc = .ok (.bipush i, 2)) (z : Int32) (hz : (Int8.ofInt i).toInt32 = z) (hp : pc + 2 = pc') (G : own_Go p e below s Q K N (T.setTop (mkF m pc' Ls (.int z :: st)))) : own_Go p e below s Q K N (T.setTop (mkF m pc Ls st)) := by
  subst hp hz; exact own_step (fun _ k => XS.bipush X.here hx rfl hd k) G
theorem g_sipush (X : Stand p l e R s m args below meth c T locs cells slots) (hx : p.tables.exec = Jvm.exec) {pc : Nat} (pc' : Nat) {Ls : Array Slot} {i : Int} {st : List Value} (hd : decode c.code pc = .ok (.sipush i, 3)) (z : Int32) (hz : (Int16.ofInt i).toInt32 = z) (hp : pc + 3 = pc') (G : own_Go p e below s Q K N (T.setTop (mkF m pc' Ls (.int z :: st)))) : own_Go p e below s Q K N (T.setTop (mkF m pc Ls st)) := by
  subst hp hz; exact own_step (fun _ k => XS.sipush X.here hx rfl hd k) G
theorem g_lconst (X : Stand p l e R s m args below meth c T locs cells slots) (hx : p.tables.exec = Jvm.exec) {pc : Nat} (pc' : Nat) {Ls : Array Slot} {i : Fin 2} {st : List Value} (hd : decode c.code pc = .ok (.lconst i, 1)) (z : Int64) (hz : Int64.ofNat i.val = z) (hp : pc + 1 = pc') (G : own_Go p e below s Q K N (T.setTop (mkF m pc' Ls (.long z :: st)))) : own_Go p e below s Q K N (T.setTop (mkF m pc Ls st)) := by
  subst hp hz; exact own_step (fun _ k => XS.lconst X.here hx rfl hd k) G
theorem g_aconst_null (X : Stand p l e R s m args below meth c T locs cells slots) (hx : p.tables.exec = Jvm.exec) {pc : Nat} (pc' : Nat) {Ls : Array Slot} {st : List Value} (hd : decode c.code pc = .ok (.aconst_null, 1))  (hp : pc + 1 = pc') (G : own_Go p e below s Q K N (T.setTop (mkF m pc' Ls (.null :: st)))) : own_Go p e below s Q K N (T.setTop (mkF m pc Ls (st))) := by
  subst hp; exact own_step (fun _ k => XS.aconstNull X.here hx rfl hd k) G
theorem g_iadd (X : Stand p l e R s m args below meth c T locs cells slots) (hx : p.tables.exec = Jvm.exec) {pc : Nat} (pc' : Nat) {Ls : Array Slot} {x y : Int32} {st : List Value} (hd : decode c.code pc = .ok (.iadd, 1))  (hp : pc + 1 = pc') (G : own_Go p e below s Q K N (T.setTop (mkF m pc' Ls (.int (x + y) :: st)))) : own_Go p e below s Q K N (T.setTop (mkF m pc Ls (.int y :: .int x :: st))) := by
  subst hp; exact own_step (fun _ k => XS.iadd X.here hx rfl hd rfl k) G
theorem g_ladd (X : Stand p l e R s m args below meth c T locs cells slots) (hx : p.tables.exec = Jvm.exec) {pc : Nat} (pc' : Nat) {Ls : Array Slot} {x y : Int64} {st : List Value} (hd : decode c.code pc = .ok (.ladd, 1))  (hp : pc + 1 = pc') (G : own_Go p e below s Q K N (T.setTop (mkF m pc' Ls (.long (x + y) :: st)))) : own_Go p e below s Q K N (T.setTop (mkF m pc Ls (.long y :: .long x :: st))) := by
  subst hp; exact own_step (fun _ k => XS.ladd X.here hx rfl hd rfl k) G
theorem g_isub (X : Stand p l e R s m args below meth c T locs cells slots) (hx : p.tables.exec = Jvm.exec) {pc : Nat} (pc' : Nat) {Ls : Array Slot} {x y : Int32} {st : List Value} (hd : decode c.code pc = .ok (.isub, 1))  (hp : pc + 1 = pc') (G : own_Go p e below s Q K N (T.setTop (mkF m pc' Ls (.int (x - y) :: st)))) : own_Go p e below s Q K N (T.setTop (mkF m pc Ls (.int y :: .int x :: st))) := by
  subst hp; exact own_step (fun _ k => XS.isub X.here hx rfl hd rfl k) G
theorem g_lsub (X : Stand p l e R s m args below meth c T locs cells slots) (hx : p.tables.exec = Jvm.exec) {pc : Nat} (pc' : Nat) {Ls : Array Slot} {x y : Int64} {st : List Value} (hd : decode c.code pc = .ok (.lsub, 1))  (hp : pc + 1 = pc') (G : own_Go p e below s Q K N (T.setTop (mkF m pc' Ls (.long (x - y) :: st)))) : own_Go p e below s Q K N (T.setTop (mkF m pc Ls (.long y :: .long x :: st))) := by
  subst hp; exact own_step (fun _ k => XS.lsub X.here hx rfl hd rfl k) G
theorem g_imul (X : Stand p l e R s m args below meth c T locs cells slots) (hx : p.tables.exec = Jvm.exec) {pc : Nat} (pc' : Nat) {Ls : Array Slot} {x y : Int32} {st : List Value} (hd : decode c.code pc = .ok (.imul, 1))  (hp : pc + 1 = pc') (G : own_Go p e below s Q K N (T.setTop (mkF m pc' Ls (.int (x * y) :: st)))) : own_Go p e below s Q K N (T.setTop (mkF m pc Ls (.int y :: .int x :: st))) := by
  subst hp; exact own_step (fun _ k => XS.imul X.here hx rfl hd rfl k) G
theorem g_lmul (X : Stand p l e R s m args below meth c T locs cells slots) (hx : p.tables.exec = Jvm.exec) {pc : Nat} (pc' : Nat) {Ls : Array Slot} {x y : Int64} {st : List Value} (hd : decode c.code pc = .ok (.lmul, 1))  (hp : pc + 1 = pc') (G : own_Go p e below s Q K N (T.setTop (mkF m pc' Ls (.long (x * y) :: st)))) : own_Go p e below s Q K N (T.setTop (mkF m pc Ls (.long y :: .long x :: st))) := by
  subst hp; exact own_step (fun _ k => XS.lmul X.here hx rfl hd rfl k) G
theorem g_iand (X : Stand p l e R s m args below meth c T locs cells slots) (hx : p.tables.exec = Jvm.exec) {pc : Nat} (pc' : Nat) {Ls : Array Slot} {x y : Int32} {st : List Value} (hd : decode c.code pc = .ok (.iand, 1))  (hp : pc + 1 = pc') (G : own_Go p e below s Q K N (T.setTop (mkF m pc' Ls (.int (x &&& y) :: st)))) : own_Go p e below s Q K N (T.setTop (mkF m pc Ls (.int y :: .int x :: st))) := by
  subst hp; exact own_step (fun _ k => XS.iand X.here hx rfl hd rfl k) G
theorem g_land (X : Stand p l e R s m args below meth c T locs cells slots) (hx : p.tables.exec = Jvm.exec) {pc : Nat} (pc' : Nat) {Ls : Array Slot} {x y : Int64} {st : List Value} (hd : decode c.code pc = .ok (.land, 1))  (hp : pc + 1 = pc') (G : own_Go p e below s Q K N (T.setTop (mkF m pc' Ls (.long (x &&& y) :: st)))) : own_Go p e below s Q K N (T.setTop (mkF m pc Ls (.long y :: .long x :: st))) := by
  subst hp; exact own_step (fun _ k => XS.land X.here hx rfl hd rfl k) G
theorem g_ior (X : Stand p l e R s m args below meth c T locs cells slots) (hx : p.tables.exec = Jvm.exec) {pc : Nat} (pc' : Nat) {Ls : Array Slot} {x y : Int32} {st : List Value} (hd : decode c.code pc = .ok (.ior, 1))  (hp : pc + 1 = pc') (G : own_Go p e below s Q K N (T.setTop (mkF m pc' Ls (.int (x ||| y) :: st)))) : own_Go p e below s Q K N (T.setTop (mkF m pc Ls (.int y :: .int x :: st))) := by
  subst hp; exact own_step (fun _ k => XS.ior X.here hx rfl hd rfl k) G
theorem g_lor (X : Stand p l e R s m args below meth c T locs cells slots) (hx : p.tables.exec = Jvm.exec) {pc : Nat} (pc' : Nat) {Ls : Array Slot} {x y : Int64} {st : List Value} (hd : decode c.code pc = .ok (.lor, 1))  (hp : pc + 1 = pc') (G : own_Go p e below s Q K N (T.setTop (mkF m pc' Ls (.long (x ||| y) :: st)))) : own_Go p e below s Q K N (T.setTop (mkF m pc Ls (.long y :: .long x :: st))) := by
  subst hp; exact own_step (fun _ k => XS.lor X.here hx rfl hd rfl k) G
theorem g_ixor (X : Stand p l e R s m args below meth c T locs cells slots) (hx : p.tables.exec = Jvm.exec) {pc : Nat} (pc' : Nat) {Ls : Array Slot} {x y : Int32} {st : List Value} (hd : decode c.code pc = .ok (.ixor, 1))  (hp : pc + 1 = pc') (G : own_Go p e below s Q K N (T.setTop (mkF m pc' Ls (.int (x ^^^ y) :: st)))) : own_Go p e below s Q K N (T.setTop (mkF m pc Ls (.int y :: .int x :: st))) := by
  subst hp; exact own_step (fun _ k => XS.ixor X.here hx rfl hd rfl k) G
theorem g_lxor (X : Stand p l e R s m args below meth c T locs cells slots) (hx : p.tables.exec = Jvm.exec) {pc : Nat} (pc' : Nat) {Ls : Array Slot} {x y : Int64} {st : List Value} (hd : decode c.code pc = .ok (.lxor, 1))  (hp : pc + 1 = pc') (G : own_Go p e below s Q K N (T.setTop (mkF m pc' Ls (.long (x ^^^ y) :: st)))) : own_Go p e below s Q K N (T.setTop (mkF m pc Ls (.long y :: .long x :: st))) := by
  subst hp; exact own_step (fun _ k => XS.lxor X.here hx rfl hd rfl k) G
theorem g_ineg (X : Stand p l e R s m args below meth c T locs cells slots) (hx : p.tables.exec = Jvm.exec) {pc : Nat} (pc' : Nat) {Ls : Array Slot} {x : Int32} {st : List Value} (hd : decode c.code pc = .ok (.ineg, 1))  (hp : pc + 1 = pc') (G : own_Go p e below s Q K N (T.setTop (mkF m pc' Ls (.int (-x) :: st)))) : own_Go p e below s Q K N (T.setTop (mkF m pc Ls (.int x :: st))) := by
  subst hp; exact own_step (fun _ k => XS.ineg X.here hx rfl hd rfl k) G
theorem g_lneg (X : Stand p l e R s m args below meth c T locs cells slots) (hx : p.tables.exec = Jvm.exec) {pc : Nat} (pc' : Nat) {Ls : Array Slot} {x : Int64} {st : List Value} (hd : decode c.code pc = .ok (.lneg, 1))  (hp : pc + 1 = pc') (G : own_Go p e below s Q K N (T.setTop (mkF m pc' Ls (.long (-x) :: st)))) : own_Go p e below s Q K N (T.setTop (mkF m pc Ls (.long x :: st))) := by
  subst hp; exact own_step (fun _ k => XS.lneg X.here hx rfl hd rfl k) G
theorem g_i2l (X : Stand p l e R s m args below meth c T locs cells slots) (hx : p.tables.exec = Jvm.exec) {pc : Nat} (pc' : Nat) {Ls : Array Slot} {x : Int32} {st : List Value} (hd : decode c.code pc = .ok (.i2l, 1))  (hp : pc + 1 = pc') (G : own_Go p e below s Q K N (T.setTop (mkF m pc' Ls (.long (x.toInt64) :: st)))) : own_Go p e below s Q K N (T.setTop (mkF m pc Ls (.int x :: st))) := by
  subst hp; exact own_step (fun _ k => XS.i2l X.here hx rfl hd rfl k) G
theorem g_l2i (X : Stand p l e R s m args below meth c T locs cells slots) (hx : p.tables.exec = Jvm.exec) {pc : Nat} (pc' : Nat) {Ls : Array Slot} {x : Int64} {st : List Value} (hd : decode c.code pc = .ok (.l2i, 1))  (hp : pc + 1 = pc') (G : own_Go p e below s Q K N (T.setTop (mkF m pc' Ls (.int (x.toInt32) :: st)))) : own_Go p e below s Q K N (T.setTop (mkF m pc Ls (.long x :: st))) := by
  subst hp; exact own_step (fun _ k => XS.l2i X.here hx rfl hd rfl k) G
theorem g_i2b (X : Stand p l e R s m args below meth c T locs cells slots) (hx : p.tables.exec = Jvm.exec) {pc : Nat} (pc' : Nat) {Ls : Array Slot} {x : Int32} {st : List Value} (hd : decode c.code pc = .ok (.i2b, 1))  (hp : pc + 1 = pc') (G : own_Go p e below s Q K N (T.setTop (mkF m pc' Ls (.int (x.toInt8.toInt32) :: st)))) : own_Go p e below s Q K N (T.setTop (mkF m pc Ls (.int x :: st))) := by
  subst hp; exact own_step (fun _ k => XS.i2b X.here hx rfl hd rfl k) G
theorem g_i2s (X : Stand p l e R s m args below meth c T locs cells slots) (hx : p.tables.exec = Jvm.exec) {pc : Nat} (pc' : Nat) {Ls : Array Slot} {x : Int32} {st : List Value} (hd : decode c.code pc = .ok (.i2s, 1))  (hp : pc + 1 = pc') (G : own_Go p e below s Q K N (T.setTop (mkF m pc' Ls (.int (x.toInt16.toInt32) :: st)))) : own_Go p e below s Q K N (T.setTop (mkF m pc Ls (.int x :: st))) := by
  subst hp; exact own_step (fun _ k => XS.i2s X.here hx rfl hd rfl k) G
theorem g_i2c (X : Stand p l e R s m args below meth c T locs cells slots) (hx : p.tables.exec = Jvm.exec) {pc : Nat} (pc' : Nat) {Ls : Array Slot} {x : Int32} {st : List Value} (hd : decode c.code pc = .ok (.i2c, 1))  (hp : pc + 1 = pc') (G : own_Go p e below s Q K N (T.setTop (mkF m pc' Ls (.int (x.toUInt32.toUInt16.toUInt32.toInt32) :: st)))) : own_Go p e below s Q K N (T.setTop (mkF m pc Ls (.int x :: st))) := by
  subst hp; exact own_step (fun _ k => XS.i2c X.here hx rfl hd rfl k) G
theorem g_ishl (X : Stand p l e R s m args below meth c T locs cells slots) (hx : p.tables.exec = Jvm.exec) {pc : Nat} (pc' : Nat) {Ls : Array Slot} {x : Int32} {y : Int32} {st : List Value} (hd : decode c.code pc = .ok (.ishl, 1))  (hp : pc + 1 = pc') (G : own_Go p e below s Q K N (T.setTop (mkF m pc' Ls (.int (x <<< (y &&& 31)) :: st)))) : own_Go p e below s Q K N (T.setTop (mkF m pc Ls (.int y :: .int x :: st))) := by
  subst hp; exact own_step (fun _ k => XS.ishl X.here hx rfl hd rfl k) G
theorem g_ishr (X : Stand p l e R s m args below meth c T locs cells slots) (hx : p.tables.exec = Jvm.exec) {pc : Nat} (pc' : Nat) {Ls : Array Slot} {x : Int32} {y : Int32} {st : List Value} (hd : decode c.code pc = .ok (.ishr, 1))  (hp : pc + 1 = pc') (G : own_Go p e below s Q K N (T.setTop (mkF m pc' Ls (.int (x >>> (y &&& 31)) :: st)))) : own_Go p e below s Q K N (T.setTop (mkF m pc Ls (.int y :: .int x :: st))) := by
  subst hp; exact own_step (fun _ k => XS.ishr X.here hx rfl hd rfl k) G
theorem g_iushr (X : Stand p l e R s m args below meth c T locs cells slots) (hx : p.tables.exec = Jvm.exec) {pc : Nat} (pc' : Nat) {Ls : Array Slot} {x : Int32} {y : Int32} {st : List Value} (hd : decode c.code pc = .ok (.iushr, 1))  (hp : pc + 1 = pc') (G : own_Go p e below s Q K N (T.setTop (mkF m pc' Ls (.int ((x.toUInt32 >>> (y &&& 31).toUInt32).toInt32) :: st)))) : own_Go p e below s Q K N (T.setTop (mkF m pc Ls (.int y :: .int x :: st))) := by
  subst hp; exact own_step (fun _ k => XS.iushr X.here hx rfl hd rfl k) G
theorem g_lshl (X : Stand p l e R s m args below meth c T locs cells slots) (hx : p.tables.exec = Jvm.exec) {pc : Nat} (pc' : Nat) {Ls : Array Slot} {x : Int64} {y : Int32} {st : List Value} (hd : decode c.code pc = .ok (.lshl, 1))  (hp : pc + 1 = pc') (G : own_Go p e below s Q K N (T.setTop (mkF m pc' Ls (.long (x <<< (y &&& 0x3f).toInt64) :: st)))) : own_Go p e below s Q K N (T.setTop (mkF m pc Ls (.int y :: .long x :: st))) := by
  subst hp; exact own_step (fun _ k => XS.lshl X.here hx rfl hd rfl k) G
theorem g_lshr (X : Stand p l e R s m args below meth c T locs cells slots) (hx : p.tables.exec = Jvm.exec) {pc : Nat} (pc' : Nat) {Ls : Array Slot} {x : Int64} {y : Int32} {st : List Value} (hd : decode c.code pc = .ok (.lshr, 1))  (hp : pc + 1 = pc') (G : own_Go p e below s Q K N (T.setTop (mkF m pc' Ls (.long (x >>> (y &&& 0x3f).toInt64) :: st)))) : own_Go p e below s Q K N (T.setTop (mkF m pc Ls (.int y :: .long x :: st))) := by
  subst hp; exact own_step (fun _ k => XS.lshr X.here hx rfl hd rfl k) G
theorem g_lushr (X : Stand p l e R s m args below meth c T locs cells slots) (hx : p.tables.exec = Jvm.exec) {pc : Nat} (pc' : Nat) {Ls : Array Slot} {x : Int64} {y : Int32} {st : List Value} (hd : decode c.code pc = .ok (.lushr, 1))  (hp : pc + 1 = pc') (G : own_Go p e below s Q K N (T.setTop (mkF m pc' Ls (.long ((x.toUInt64 >>> (y &&& 0x3f).toInt64.toUInt64).toInt64) :: st)))) : own_Go p e below s Q K N (T.setTop (mkF m pc Ls (.int y :: .long x :: st))) := by
  subst hp; exact own_step (fun _ k => XS.lushr X.here hx rfl hd rfl k) G
theorem g_lcmp (X : Stand p l e R s m args below meth c T locs cells slots) (hx : p.tables.exec = Jvm.exec) {pc : Nat} (pc' : Nat) {Ls : Array Slot} {x y : Int64} {st : List Value} (hd : decode c.code pc = .ok (.lcmp, 1))  (hp : pc + 1 = pc') (G : own_Go p e below s Q K N (T.setTop (mkF m pc' Ls (.int (lcmpW x y) :: st)))) : own_Go p e below s Q K N (T.setTop (mkF m pc Ls (.long y :: .long x :: st))) := by
  subst hp; exact own_step (fun _ k => XS.lcmp X.here hx rfl hd rfl k) G
theorem g_idiv (X : Stand p l e R s m args below meth c T locs cells slots) (hx : p.tables.exec = Jvm.exec) {pc : Nat} (pc' : Nat) {Ls : Array Slot} {x y : Int32} {st : List Value} (hd : decode c.code pc = .ok (.idiv, 1)) (hp : pc + 1 = pc') (hy : y ≠ 0) (G : own_Go p e below s Q K N (T.setTop (mkF m pc' Ls (.int (x / y) :: st)))) : own_Go p e below s Q K N (T.setTop (mkF m pc Ls (.int y :: .int x :: st))) := by
  subst hp; exact own_step (fun _ k => XS.idiv X.here hx rfl hd rfl hy k) G
theorem g_ldiv (X : Stand p l e R s m args below meth c T locs cells slots) (hx : p.tables.exec = Jvm.exec) {pc : Nat} (pc' : Nat) {Ls : Array Slot} {x y : Int64} {st : List Value} (hd : decode c.code pc = .ok (.ldiv, 1)) (hp : pc + 1 = pc') (hy : y ≠ 0) (G : own_Go p e below s Q K N (T.setTop (mkF m pc' Ls (.long (x / y) :: st)))) : own_Go p e below s Q K N (T.setTop (mkF m pc Ls (.long y :: .long x :: st))) := by
  subst hp; exact own_step (fun _ k => XS.ldiv X.here hx rfl hd rfl hy k) G
theorem g_irem (X : Stand p l e R s m args below meth c T locs cells slots) (hx : p.tables.exec = Jvm.exec) {pc : Nat} (pc' : Nat) {Ls : Array Slot} {x y : Int32} {st : List Value} (hd : decode c.code pc = .ok (.irem, 1)) (hp : pc + 1 = pc') (hy : y ≠ 0) (G : own_Go p e below s Q K N (T.setTop (mkF m pc' Ls (.int (x % y) :: st)))) : own_Go p e below s Q K N (T.setTop (mkF m pc Ls (.int y :: .int x :: st))) := by
  subst hp; exact own_step (fun _ k => iremM X hx rfl hd rfl hy k) G
theorem g_lrem (X : Stand p l e R s m args below meth c T locs cells slots) (hx : p.tables.exec = Jvm.exec) {pc : Nat} (pc' : Nat) {Ls : Array Slot} {x y : Int64} {st : List Value} (hd : decode c.code pc = .ok (.lrem, 1)) (hp : pc + 1 = pc') (hy : y ≠ 0) (G : own_Go p e below s Q K N (T.setTop (mkF m pc' Ls (.long (x % y) :: st)))) : own_Go p e below s Q K N (T.setTop (mkF m pc Ls (.long y :: .long x :: st))) := by
  subst hp; rw [← lrem_mod] at G; exact own_step (fun _ k => XS.lrem X.here hx rfl hd rfl hy k) G
theorem g_iinc (X : Stand p l e R s m args below meth c T locs cells slots) (hx : p.tables.exec = Jvm.exec) {pc : Nat} (pc' : Nat) {Ls : Array Slot} {k : Nat} {cst : Int} {x z : Int32} {l' : Array Slot} {st : List Value} (hd : decode c.code pc = .ok (.iinc k cst, 3)) (hl : Ls[k]? = some (.val (.int x))) (hz : x + Int32.ofInt cst = z) (hl' : storeLocals Ls k (.int z) = some l') (hp : pc + 3 = pc') (G : own_Go p e below s Q K N (T.setTop (mkF m pc' l' st))) : own_Go p e below s Q K N (T.setTop (mkF m pc Ls st)) := by
  subst hp hz; exact own_step (fun _ k => XS.iinc X.here hx rfl hd hl hl' k) G
theorem g_dup (X : Stand p l e R s m args below meth c T locs cells slots) (hx : p.tables.exec = Jvm.exec) {pc : Nat} (pc' : Nat) {Ls : Array Slot} {x : Value} {st : List Value} (hd : decode c.code pc = .ok (.dup, 1)) (hc : x.category = 1) (hp : pc + 1 = pc') (G : own_Go p e below s Q K N (T.setTop (mkF m pc' Ls (x :: x :: st)))) : own_Go p e below s Q K N (T.setTop (mkF m pc Ls (x :: st))) := by
  subst hp; exact own_step (fun _ k => XS.dup X.here hx rfl hd rfl hc k) G
theorem g_pop (X : Stand p l e R s m args below meth c T locs cells slots) (hx : p.tables.exec = Jvm.exec) {pc : Nat} (pc' : Nat) {Ls : Array Slot} {x : Value} {st : List Value} (hd : decode c.code pc = .ok (.pop, 1)) (hc : x.category = 1) (hp : pc + 1 = pc') (G : own_Go p e below s Q K N (T.setTop (mkF m pc' Ls (st)))) : own_Go p e below s Q K N (T.setTop (mkF m pc Ls (x :: st))) := by
  subst hp; exact own_step (fun _ k => XS.pop X.here hx rfl hd rfl hc k) G
theorem g_dup_x1 (X : Stand p l e R s m args below meth c T locs cells slots) (hx : p.tables.exec = Jvm.exec) {pc : Nat} (pc' : Nat) {Ls : Array Slot} {x y : Value} {st : List Value} (hd : decode c.code pc = .ok (.dup_x1, 1)) (hc : x.category = 1) (hc' : y.category = 1) (hp : pc + 1 = pc') (G : own_Go p e below s Q K N (T.setTop (mkF m pc' Ls (x :: y :: x :: st)))) : own_Go p e below s Q K N (T.setTop (mkF m pc Ls (x :: y :: st))) := by
  subst hp; exact own_step (fun _ k => XS.dupX1 X.here hx rfl hd rfl hc hc' k) G
theorem g_dup2 (X : Stand p l e R s m args below meth c T locs cells slots) (hx : p.tables.exec = Jvm.exec) {pc : Nat} (pc' : Nat) {Ls : Array Slot} {x y : Value} {st : List Value} (hd : decode c.code pc = .ok (.dup2, 1)) (hc : x.category = 1) (hc' : y.category = 1) (hp : pc + 1 = pc') (G : own_Go p e below s Q K N (T.setTop (mkF m pc' Ls (x :: y :: x :: y :: st)))) : own_Go p e below s Q K N (T.setTop (mkF m pc Ls (x :: y :: st))) := by
  subst hp; exact own_step (fun _ k => XT.dup2 X.here hx rfl hd rfl hc hc' k) G
theorem g_dup2L (X : Stand p l e R s m args below meth c T locs cells slots) (hx : p.tables.exec = Jvm.exec) {pc : Nat} (pc' : Nat) {Ls : Array Slot} {x : Int64} {st : List Value} (hd : decode c.code pc = .ok (.dup2, 1))  (hp : pc + 1 = pc') (G : own_Go p e below s Q K N (T.setTop (mkF m pc' Ls (.long x :: .long x :: st)))) : own_Go p e below s Q K N (T.setTop (mkF m pc Ls (.long x :: st))) := by
  subst hp; exact own_step (fun _ k => XT.dup2L X.here hx rfl hd rfl k) G
theorem g_goto (X : Stand p l e R s m args below meth c T locs cells slots) (hx : p.tables.exec = Jvm.exec) {pc : Nat} (pc' : Nat) {Ls : Array Slot} {o : Int} {st : List Value} (hd : decode c.code pc = .ok (.goto o, 3)) (ho : 0 ≤ (pc : Int) + o) (hp : ((pc : Int) + o).toNat = pc') (G : own_Go p e below s Q K N (T.setTop (mkF m pc' Ls st))) : own_Go p e below s Q K N (T.setTop (mkF m pc Ls st)) :=
  own_step (fun _ k => XS.goto X.here hx rfl rfl hd ho hp k) G
theorem g_ifYes (X : Stand p l e R s m args below meth c T locs cells slots) (hx : p.tables.exec = Jvm.exec) {pc : Nat} (pc' : Nat) {Ls : Array Slot} {cd : ClassFile.Cond} {x : Int32} {o : Int} {st : List Value} (hd : decode c.code pc = .ok (.ifCond cd o, 3)) (hc : ifCond.holds cd x = true) (ho : 0 ≤ (pc : Int) + o) (hp : ((pc : Int) + o).toNat = pc') (G : own_Go p e below s Q K N (T.setTop (mkF m pc' Ls st))) : own_Go p e below s Q K N (T.setTop (mkF m pc Ls (.int x :: st))) :=
  own_step (fun _ k => XS.ifYes X.here hx rfl rfl hd rfl hc ho hp k) G
theorem g_ifNo (X : Stand p l e R s m args below meth c T locs cells slots) (hx : p.tables.exec = Jvm.exec) {pc : Nat} (pc' : Nat) {Ls : Array Slot} {cd : ClassFile.Cond} {x : Int32} {o : Int} {st : List Value} (hd : decode c.code pc = .ok (.ifCond cd o, 3)) (hc : ifCond.holds cd x = false) (hp : pc + 3 = pc') (G : own_Go p e below s Q K N (T.setTop (mkF m pc' Ls st))) : own_Go p e below s Q K N (T.setTop (mkF m pc Ls (.int x :: st))) := by
  subst hp; exact own_step (fun _ k => XS.ifNo X.here hx rfl hd rfl hc k) G
theorem g_icmpYes (X : Stand p l e R s m args below meth c T locs cells slots) (hx : p.tables.exec = Jvm.exec) {pc : Nat} (pc' : Nat) {Ls : Array Slot} {cd : ClassFile.Cond} {x y : Int32} {o : Int} {st : List Value} (hd : decode c.code pc = .ok (.if_icmp cd o, 3)) (hc : if_icmp.holds cd x y = true) (ho : 0 ≤ (pc : Int) + o) (hp : ((pc : Int) + o).toNat = pc') (G : own_Go p e below s Q K N (T.setTop (mkF m pc' Ls st))) : own_Go p e below s Q K N (T.setTop (mkF m pc Ls (.int y :: .int x :: st))) :=
  own_step (fun _ k => XS.icmpYes X.here hx rfl rfl hd rfl hc ho hp k) G
theorem g_icmpNo (X : Stand p l e R s m args below meth c T locs cells slots) (hx : p.tables.exec = Jvm.exec) {pc : Nat} (pc' : Nat) {Ls : Array Slot} {cd : ClassFile.Cond} {x y : Int32} {o : Int} {st : List Value} (hd : decode c.code pc = .ok (.if_icmp cd o, 3)) (hc : if_icmp.holds cd x y = false) (hp : pc + 3 = pc') (G : own_Go p e below s Q K N (T.setTop (mkF m pc' Ls st))) : own_Go p e below s Q K N (T.setTop (mkF m pc Ls (.int y :: .int x :: st))) := by
  subst hp; exact own_step (fun _ k => XS.icmpNo X.here hx rfl hd rfl hc k) G
theorem g_ifnullYes (X : Stand p l e R s m args below meth c T locs cells slots) (hx : p.tables.exec = Jvm.exec) {pc : Nat} (pc' : Nat) {Ls : Array Slot} {o : Int} {st : List Value} (hd : decode c.code pc = .ok (.ifnull o, 3)) (ho : 0 ≤ (pc : Int) + o) (hp : ((pc : Int) + o).toNat = pc') (G : own_Go p e below s Q K N (T.setTop (mkF m pc' Ls st))) : own_Go p e below s Q K N (T.setTop (mkF m pc Ls (.null :: st))) :=
  own_step (fun _ k => XS.ifnullYes X.here hx rfl rfl hd rfl ho hp k) G
theorem g_ifnullNo (X : Stand p l e R s m args below meth c T locs cells slots) (hx : p.tables.exec = Jvm.exec) {pc : Nat} (pc' : Nat) {Ls : Array Slot} {b : Addr} {o : Int} {st : List Value} (hd : decode c.code pc = .ok (.ifnull o, 3)) (hp : pc + 3 = pc') (G : own_Go p e below s Q K N (T.setTop (mkF m pc' Ls st))) : own_Go p e below s Q K N (T.setTop (mkF m pc Ls (.ref b :: st))) := by
  subst hp; exact own_step (fun _ k => XS.ifnullNo X.here hx rfl hd rfl k) G
theorem g_ifnonnullYes (X : Stand p l e R s m args below meth c T locs cells slots) (hx : p.tables.exec = Jvm.exec) {pc : Nat} (pc' : Nat) {Ls : Array Slot} {b : Addr} {o : Int} {st : List Value} (hd : decode c.code pc = .ok (.ifnonnull o, 3)) (ho : 0 ≤ (pc : Int) + o) (hp : ((pc : Int) + o).toNat = pc') (G : own_Go p e below s Q K N (T.setTop (mkF m pc' Ls st))) : own_Go p e below s Q K N (T.setTop (mkF m pc Ls (.ref b :: st))) :=
  own_step (fun _ k => XS.ifnonnullYes X.here hx rfl rfl hd rfl ho hp k) G
theorem g_ifnonnullNo (X : Stand p l e R s m args below meth c T locs cells slots) (hx : p.tables.exec = Jvm.exec) {pc : Nat} (pc' : Nat) {Ls : Array Slot} {o : Int} {st : List Value} (hd : decode c.code pc = .ok (.ifnonnull o, 3)) (hp : pc + 3 = pc') (G : own_Go p e below s Q K N (T.setTop (mkF m pc' Ls st))) : own_Go p e below s Q K N (T.setTop (mkF m pc Ls (.null :: st))) := by
  subst hp; exact own_step (fun _ k => XS.ifnonnullNo X.here hx rfl hd rfl k) G
theorem g_acmp (X : Stand p l e R s m args below meth c T locs cells slots) (hx : p.tables.exec = Jvm.exec) {pc : Nat} {Ls : Array Slot} {cd : ACond} {x y : Value} {o : Int} {st : List Value} {same : Bool} (pc' : Nat) (hd : decode c.code pc = .ok (.if_acmp cd o, 3)) (h1 : x.isRef = true) (h2 : y.isRef = true) (hq : decide (x = y) = same) (ho : 0 ≤ (pc : Int) + o) (hp : pc' = if acV cd same = true then ((pc : Int) + o).toNat else pc + 3) (G : own_Go p e below s Q K N (T.setTop (mkF m pc' Ls st))) : own_Go p e below s Q K N (T.setTop (mkF m pc Ls (y :: x :: st))) :=
  own_step (fun _ k => Jvm.RoadKit.acmp X hx rfl h1 h2 rfl hd rfl hq ho hp k) G
theorem g_ldc (X : Stand p l e R s m args below meth c T locs cells slots) (hx : p.tables.exec = Jvm.exec) {own : String} (hown : s.vm.findClass own = some m.cls) {pc : Nat} (pc' : Nat) {Ls : Array Slot} {i : Nat} {z : Int32} {st : List Value} (hw : (Jvm.Cond.constant own i z).before args s = true) (hd : decode c.code pc = .ok (.ldc i, 2)) (hp : pc + 2 = pc') (G : own_Go p e below s Q K N (T.setTop (mkF m pc' Ls (.int z :: st)))) : own_Go p e below s Q K N (T.setTop (mkF m pc Ls st)) := by
  subst hp; exact own_step (fun _ k => X.ldcInt hx hown hw (g := mkF m pc Ls st) rfl hd _ k) G
theorem g_ldc_w (X : Stand p l e R s m args below meth c T locs cells slots) (hx : p.tables.exec = Jvm.exec) {own : String} (hown : s.vm.findClass own = some m.cls) {pc : Nat} (pc' : Nat) {Ls : Array Slot} {i : Nat} {z : Int32} {st : List Value} (hw : (Jvm.Cond.constant own i z).before args s = true) (hd : decode c.code pc = .ok (.ldc_w i, 3)) (hp : pc + 3 = pc') (G : own_Go p e below s Q K N (T.setTop (mkF m pc' Ls (.int z :: st)))) : own_Go p e below s Q K N (T.setTop (mkF m pc Ls st)) := by
  subst hp; exact own_step (fun _ k => X.ldcwInt hx hown hw (g := mkF m pc Ls st) rfl hd _ k) G
theorem g_ldc2_w (X : Stand p l e R s m args below meth c T locs cells slots) (hx : p.tables.exec = Jvm.exec) {own : String} (hown : s.vm.findClass own = some m.cls) {pc : Nat} (pc' : Nat) {Ls : Array Slot} {i : Nat} {z : Int64} {st : List Value} (hw : (Jvm.Cond.constantLong own i z).before args s = true) (hd : decode c.code pc = .ok (.ldc2_w i, 3)) (hp : pc + 3 = pc') (G : own_Go p e below s Q K N (T.setTop (mkF m pc' Ls (.long z :: st)))) : own_Go p e below s Q K N (T.setTop (mkF m pc Ls st)) := by
  subst hp; exact own_step (fun _ k => X.ldc2Long hx hown hw (g := mkF m pc Ls st) rfl hd _ k) G
theorem g_tswIn (X : Stand p l e R s m args below meth c T locs cells slots) (hx : p.tables.exec = Jvm.exec) {pc : Nat} (pc' : Nat) {Ls : Array Slot} {dflt low high : Int} {offs : Array Int} {len : Nat} {o : Int} {i : Int32} {st : List Value} (hd : decode c.code pc = .ok (.tableswitch dflt low high offs, len)) (hin : ¬ (i.toInt < low ∨ i.toInt > high)) (hoff : offs[(i.toInt - low).toNat]? = some o) (ho : 0 ≤ (pc : Int) + o) (hp : ((pc : Int) + o).toNat = pc') (G : own_Go p e below s Q K N (T.setTop (mkF m pc' Ls st))) : own_Go p e below s Q K N (T.setTop (mkF m pc Ls (.int i :: st))) :=
  own_step (fun _ k => XS.tswIn X.here hx rfl rfl hd rfl hin hoff ho hp k) G
theorem g_tswOut (X : Stand p l e R s m args below meth c T locs cells slots) (hx : p.tables.exec = Jvm.exec) {pc : Nat} (pc' : Nat) {Ls : Array Slot} {dflt low high : Int} {offs : Array Int} {len : Nat} {i : Int32} {st : List Value} (hd : decode c.code pc = .ok (.tableswitch dflt low high offs, len)) (hout : i.toInt < low ∨ i.toInt > high) (ho : 0 ≤ (pc : Int) + dflt) (hp : ((pc : Int) + dflt).toNat = pc') (G : own_Go p e below s Q K N (T.setTop (mkF m pc' Ls st))) : own_Go p e below s Q K N (T.setTop (mkF m pc Ls (.int i :: st))) :=
  own_step (fun _ k => XS.tswOut X.here hx rfl rfl hd rfl hout ho hp k) G
theorem own_ii_eq_t {x y : Int32} (h : x = y) : if_icmp.holds .eq x y = true := XT.ii_eq_t h
theorem own_i0_eq_t {x : Int32} (h : x = 0) : ifCond.holds .eq x = true := XT.i0_eq_t h
theorem own_ll_eq_t {x y : Int64} (h : x = y) : ifCond.holds .eq (lcmpW x y) = true := XT.ll_eq_t h
theorem own_ii_eq_f {x y : Int32} (h : ¬ (x = y)) : if_icmp.holds .eq x y = false := XT.ii_eq_f h
theorem own_i0_eq_f {x : Int32} (h : ¬ (x = 0)) : ifCond.holds .eq x = false := XT.i0_eq_f h
theorem own_ll_eq_f {x y : Int64} (h : ¬ (x = y)) : ifCond.holds .eq (lcmpW x y) = false := XT.ll_eq_f h
theorem own_ii_ne_t {x y : Int32} (h : ¬ (x = y)) : if_icmp.holds .ne x y = true := XT.ii_ne_t h
theorem own_i0_ne_t {x : Int32} (h : ¬ (x = 0)) : ifCond.holds .ne x = true := XT.i0_ne_t h
theorem own_ll_ne_t {x y : Int64} (h : ¬ (x = y)) : ifCond.holds .ne (lcmpW x y) = true := XT.ll_ne_t h
theorem own_ii_ne_f {x y : Int32} (h : x = y) : if_icmp.holds .ne x y = false := XT.ii_ne_f h
theorem own_i0_ne_f {x : Int32} (h : x = 0) : ifCond.holds .ne x = false := XT.i0_ne_f h
theorem own_ll_ne_f {x y : Int64} (h : x = y) : ifCond.holds .ne (lcmpW x y) = false := XT.ll_ne_f h
theorem own_ii_lt_t {x y : Int32} (h : x < y) : if_icmp.holds .lt x y = true := XT.ii_lt_t h
theorem own_i0_lt_t {x : Int32} (h : x < 0) : ifCond.holds .lt x = true := XT.i0_lt_t h
theorem own_ll_lt_t {x y : Int64} (h : x < y) : ifCond.holds .lt (lcmpW x y) = true := XT.ll_lt_t h
theorem own_ii_lt_f {x y : Int32} (h : ¬ (x < y)) : if_icmp.holds .lt x y = false := XT.ii_lt_f h
theorem own_i0_lt_f {x : Int32} (h : ¬ (x < 0)) : ifCond.holds .lt x = false := XT.i0_lt_f h
theorem own_ll_lt_f {x y : Int64} (h : ¬ (x < y)) : ifCond.holds .lt (lcmpW x y) = false := XT.ll_lt_f h
theorem own_ii_ge_t {x y : Int32} (h : ¬ (x < y)) : if_icmp.holds .ge x y = true := XT.ii_ge_t h
theorem own_i0_ge_t {x : Int32} (h : ¬ (x < 0)) : ifCond.holds .ge x = true := XT.i0_ge_t h
theorem own_ll_ge_t {x y : Int64} (h : ¬ (x < y)) : ifCond.holds .ge (lcmpW x y) = true := XT.ll_ge_t h
theorem own_ii_ge_f {x y : Int32} (h : x < y) : if_icmp.holds .ge x y = false := XT.ii_ge_f h
theorem own_i0_ge_f {x : Int32} (h : x < 0) : ifCond.holds .ge x = false := XT.i0_ge_f h
theorem own_ll_ge_f {x y : Int64} (h : x < y) : ifCond.holds .ge (lcmpW x y) = false := XT.ll_ge_f h
theorem own_ii_gt_t {x y : Int32} (h : y < x) : if_icmp.holds .gt x y = true := XT.ii_gt_t h
theorem own_i0_gt_t {x : Int32} (h : 0 < x) : ifCond.holds .gt x = true := XT.i0_gt_t h
theorem own_ll_gt_t {x y : Int64} (h : y < x) : ifCond.holds .gt (lcmpW x y) = true := XT.ll_gt_t h
theorem own_ii_gt_f {x y : Int32} (h : ¬ (y < x)) : if_icmp.holds .gt x y = false := XT.ii_gt_f h
theorem own_i0_gt_f {x : Int32} (h : ¬ (0 < x)) : ifCond.holds .gt x = false := XT.i0_gt_f h
theorem own_ll_gt_f {x y : Int64} (h : ¬ (y < x)) : ifCond.holds .gt (lcmpW x y) = false := XT.ll_gt_f h
theorem own_ii_le_t {x y : Int32} (h : ¬ (y < x)) : if_icmp.holds .le x y = true := XT.ii_le_t h
theorem own_i0_le_t {x : Int32} (h : ¬ (0 < x)) : ifCond.holds .le x = true := XT.i0_le_t h
theorem own_ll_le_t {x y : Int64} (h : ¬ (y < x)) : ifCond.holds .le (lcmpW x y) = true := XT.ll_le_t h
theorem own_ii_le_f {x y : Int32} (h : y < x) : if_icmp.holds .le x y = false := XT.ii_le_f h
theorem own_i0_le_f {x : Int32} (h : 0 < x) : ifCond.holds .le x = false := XT.i0_le_f h
theorem own_ll_le_f {x y : Int64} (h : y < x) : ifCond.holds .le (lcmpW x y) = false := XT.ll_le_f h
theorem own_getF (X : Stand p l e R s m args below meth c T locs cells slots) (hx : p.tables.exec = Jvm.exec) {Z : State} {a0 : Array Value} {h : Heap} (hZ : Z.Warmed39 s.vm) {own : String} (hown : s.vm.findClass own = some m.cls) {R0 O n d host : String} {index : Nat} (w : (Jvm.Cond.fieldLink own index R0 n d).before a0 Z = true ∨ (Jvm.Cond.fieldLinkNest own index R0 n d host).before a0 Z = true) (via : Via Z R0 O n d) (eT : T.heap = h) {a : Addr} {v : Value} (F : Fld Z h a O n d v) {pc : Nat} (pc' : Nat) {Ls : Array Slot} {rest : List Value} (hd : decode c.code pc = .ok (.getfield index, 3)) (hp : pc + 3 = pc') (k : ∀ T', Stand p l e R s m args below meth c T' locs cells slots → T'.heap = h → own_Go p e below s Q K N (T'.setTop (mkF m pc' Ls (v :: rest)))) : own_Go p e below s Q K N (T.setTop (mkF m pc Ls (.ref a :: rest))) := by
  subst hp
  obtain ⟨T', X', e', st⟩ := getF X hx hZ hown w via eT F (g := mkF m pc Ls (.ref a :: rest)) rfl rfl hd
  exact own_step st (k T' X' e')
theorem own_getS (X : Stand p l e R s m args below meth c T locs cells slots) (hx : p.tables.exec = Jvm.exec) {Z : State} {a0 : Array Value} {h : Heap} (hZ : Z.Warmed39 s.vm) {own : String} (hown : s.vm.findClass own = some m.cls) {R0 O n d host : String} {index : Nat} (w : (Jvm.Cond.fieldLink own index R0 n d).before a0 Z = true ∨ (Jvm.Cond.fieldLinkNest own index R0 n d host).before a0 Z = true) (via : Via Z R0 O n d) (eT : T.heap = h) {v : Value} (F : Sta Z h O n d v) {pc : Nat} (pc' : Nat) {Ls : Array Slot} {rest : List Value} (hd : decode c.code pc = .ok (.getstatic index, 3)) (hp : pc + 3 = pc') (k : ∀ T', Stand p l e R s m args below meth c T' locs cells slots → T'.heap = h → own_Go p e below s Q K N (T'.setTop (mkF m pc' Ls (v :: rest)))) : own_Go p e below s Q K N (T.setTop (mkF m pc Ls rest)) := by
  subst hp
  obtain ⟨T', X', e', st⟩ := getS2 X hx hZ hown w via eT F (g := mkF m pc Ls rest) rfl hd
  exact own_step st (k T' X' e')
theorem own_putF (X : Stand p l e R s m args below meth c T locs cells slots) (hx : p.tables.exec = Jvm.exec) {Z : State} {a0 : Array Value} {h : Heap} (hZ : Z.Warmed39 s.vm) {own : String} (hown : s.vm.findClass own = some m.cls) {R0 O n d host : String} {index : Nat} (w : (Jvm.Cond.fieldLink own index R0 n d).before a0 Z = true ∨ (Jvm.Cond.fieldLinkNest own index R0 n d host).before a0 Z = true) (via : Via Z R0 O n d) (eT : T.heap = h) {a : Addr} {v old : Value} (F : Fld Z h a O n d old) {C : String} {kk : Nat} {ty : FieldType} (E : Exa Z h a C) (L : (Jvm.Cond.lays C O n d).before a0 Z = true ∨ ((Jvm.Cond.laysFinal C O n d).before a0 Z = true ∧ own = O ∧ meth.name = "<init>")) (wi : (Jvm.Cond.instantiable C kk).before a0 Z = true) (hty : parseFieldDescriptor d = some ty) (hn : narrow ty v = v) (hf : fits ty v = true) {pc : Nat} (pc' : Nat) {Ls : Array Slot} {rest : List Value} (hd : decode c.code pc = .ok (.putfield index, 3)) (hp : pc + 3 = pc') (k : ∀ T' h', Stand p l e R s m args below meth c T' (locs ++ [⟨a, Jvm.RoadKit.slotOf Z O n d⟩]) cells slots → T'.heap = h' → Wr h h' a (Jvm.RoadKit.slotOf Z O n d) v → own_Go p e below s Q K N (T'.setTop (mkF m pc' Ls rest))) : own_Go p e below s Q K N (T.setTop (mkF m pc Ls (v :: .ref a :: rest))) := by
  subst hp
  obtain ⟨T', h', X', e', W', st⟩ := putF X hx hZ hown w via eT F E L wi hty hn hf (g := mkF m pc Ls (v :: .ref a :: rest)) rfl rfl hd
  exact own_step st (k T' h' X' e' W')
theorem own_putFN (X : Stand p l e R s m args below meth c T locs cells slots) (hx : p.tables.exec = Jvm.exec) {Z : State} {a0 : Array Value} {h : Heap} (hZ : Z.Warmed39 s.vm) {own : String} (hown : s.vm.findClass own = some m.cls) {R0 O n d : String} {index : Nat} (w : (Jvm.Cond.fieldLink own index R0 n d).before a0 Z = true) (via : Via Z R0 O n d) (eT : T.heap = h) {a : Addr} {v old : Value} (v' : Value) (F : Fld Z h a O n d old) {C : String} {kk : Nat} {ty : FieldType} (E : Exa Z h a C) (L : (Jvm.Cond.lays C O n d).before a0 Z = true ∨ ((Jvm.Cond.laysFinal C O n d).before a0 Z = true ∧ own = O ∧ meth.name = "<init>")) (wi : (Jvm.Cond.instantiable C kk).before a0 Z = true) (hty : parseFieldDescriptor d = some ty) (hn : narrow ty v = v') (hf : fits ty v' = true) {pc : Nat} (pc' : Nat) {Ls : Array Slot} {rest : List Value} (hd : decode c.code pc = .ok (.putfield index, 3)) (hp : pc + 3 = pc') (k : ∀ T' h', Stand p l e R s m args below meth c T' (locs ++ [⟨a, Jvm.RoadKit.slotOf Z O n d⟩]) cells slots → T'.heap = h' → Wr h h' a (Jvm.RoadKit.slotOf Z O n d) v' → own_Go p e below s Q K N (T'.setTop (mkF m pc' Ls rest))) : own_Go p e below s Q K N (T.setTop (mkF m pc Ls (v :: .ref a :: rest))) := by
  subst hp
  obtain ⟨T', h', X', e', W', st⟩ := putFN X hx hZ hown w via eT F E L wi hty hn hf (g := mkF m pc Ls (v :: .ref a :: rest)) rfl rfl hd
  exact own_step st (k T' h' X' e' W')
theorem own_newO (X : Stand p l e R s m args below meth c T locs cells slots) (hx : p.tables.exec = Jvm.exec) {Z : State} {a0 : Array Value} {h : Heap} (hZ : Z.Warmed39 s.vm) {own : String} (hown : s.vm.findClass own = some m.cls) {C : String} {index n : Nat} (w : (Jvm.Cond.classLink own index C).before a0 Z = true) (wi : (Jvm.Cond.instantiable C n).before a0 Z = true) (wz : (Jvm.Cond.initialized C).before a0 Z = true) (eT : T.heap = h) {pc : Nat} (pc' : Nat) {Ls : Array Slot} {rest : List Value} (hd : decode c.code pc = .ok (.new index, 3)) (hp : pc + 3 = pc') (hc : cells + 1 ≤ R.cells) (hl : slots + n ≤ R.slots)
    (k : ∀ T' h' b, Stand p l e R s m args below meth c T' locs (cells + 1) (slots + n) → T'.heap = h' → b = h.size → Ext h h' → Exa Z h' b C → (∀ {O nm d : String} {ty : FieldType}, Laid Z a0 C O nm d → parseFieldDescriptor d = some ty → Fld Z h' b O nm d (defaultValue ty)) → own_Go p e below s Q K N (T'.setTop (mkF m pc' Ls (.ref b :: rest)))) : own_Go p e below s Q K N (T.setTop (mkF m pc Ls rest)) := by
  subst hp
  obtain ⟨T', h', X', e', E', A', D', -, st⟩ := newO X hx hZ hown w wi wz eT (g := mkF m pc Ls rest) rfl hd hc hl
  exact own_step st (k T' h' _ X' e' rfl E' A' D')
theorem own_newP (X : Stand p l e R s m args below meth c T locs cells slots) (hx : p.tables.exec = Jvm.exec) {Z : State} {a0 : Array Value} {h : Heap} (hZ : Z.Warmed39 s.vm) {aty : ArrayType} (w : (Jvm.Cond.arrayClass (newarray.typeOf aty)).before a0 Z = true) (eT : T.heap = h) {n : Int32} {pc : Nat} (pc' : Nat) {Ls : Array Slot} {rest : List Value} (hd : decode c.code pc = .ok (.newarray aty, 2)) (hp : pc + 2 = pc') (hn : ¬ n < 0) (cap : Nat) (hcap : n.toNatClampNeg ≤ cap) (hb : cap * 8 ≤ 536870912) (hc : cells + 1 ≤ R.cells) (hl : slots + cap ≤ R.slots)
    (k : ∀ T' h' cA b, Stand p l e R s m args below meth c T' locs (cells + 1) (slots + cap) → T'.heap = h' → b = h.size → Ext h h' → Arr Z h' b (newA cA (newarray.typeOf aty) n) (newarray.typeOf aty) → own_Go p e below s Q K N (T'.setTop (mkF m pc' Ls (.ref b :: rest)))) : own_Go p e below s Q K N (T.setTop (mkF m pc Ls (.int n :: rest))) := by
  subst hp
  obtain ⟨T', h', cA, X', e', E', A', st⟩ := newP X hx hZ w eT (g := mkF m pc Ls (.int n :: rest)) rfl hd rfl hn hcap hb hc hl
  exact own_step st (k T' h' cA _ X' e' rfl E' A')
theorem own_newR (X : Stand p l e R s m args below meth c T locs cells slots) (hx : p.tables.exec = Jvm.exec) {Z : State} {a0 : Array Value} {h : Heap} (hZ : Z.Warmed39 s.vm) {own : String} (hown : s.vm.findClass own = some m.cls) {C : String} {index : Nat} (w1 : (Jvm.Cond.classLink own index C).before a0 Z = true) (w2 : (Jvm.Cond.arrayOver (.object C)).before a0 Z = true) (eT : T.heap = h) {n : Int32} {pc : Nat} (pc' : Nat) {Ls : Array Slot} {rest : List Value} (hd : decode c.code pc = .ok (.anewarray index, 3)) (hp : pc + 3 = pc') (hn : ¬ n < 0) (cap : Nat) (hcap : n.toNatClampNeg ≤ cap) (hb : cap * 8 ≤ 536870912) (hc : cells + 1 ≤ R.cells) (hl : slots + cap ≤ R.slots)
    (k : ∀ T' h' cA b, Stand p l e R s m args below meth c T' locs (cells + 1) (slots + cap) → T'.heap = h' → b = h.size → Ext h h' → Arr Z h' b (newA cA (.object C) n) (.object C) → Ovr Z cA C → own_Go p e below s Q K N (T'.setTop (mkF m pc' Ls (.ref b :: rest)))) : own_Go p e below s Q K N (T.setTop (mkF m pc Ls (.int n :: rest))) := by
  subst hp
  obtain ⟨T', h', cA, X', e', E', A', O', st⟩ := newR X hx hZ hown w1 w2 eT (g := mkF m pc Ls (.int n :: rest)) rfl hd rfl hn hcap hb hc hl
  exact own_step st (k T' h' cA _ X' e' rfl E' A' O')
theorem own_stI (X : Stand p l e R s m args below meth c T locs cells slots) (hx : p.tables.exec = Jvm.exec) {Z : State} {h : Heap} (hZ : Z.Warmed39 s.vm) (eT : T.heap = h) {a : Addr} {cl : Cell} (A : Arr Z h a cl .int) {j : Int32} {x : Int32} (hj : ¬ (j < 0 ∨ cl.slots.size ≤ j.toNatClampNeg)) {pc : Nat} (pc' : Nat) {Ls : Array Slot} {rest : List Value} (hd : decode c.code pc = .ok (.iastore, 1)) (hp : pc + 1 = pc') (k : ∀ T' h', Stand p l e R s m args below meth c T' (locs ++ [⟨a, j.toNatClampNeg⟩]) cells slots → T'.heap = h' → Wr h h' a j.toNatClampNeg (.int x) → own_Go p e below s Q K N (T'.setTop (mkF m pc' Ls rest))) : own_Go p e below s Q K N (T.setTop (mkF m pc Ls (.int x :: .int j :: .ref a :: rest))) := by
  subst hp
  obtain ⟨T', h', X', e', W', st⟩ := stI X hx hZ eT A hj (g := mkF m pc Ls (.int x :: .int j :: .ref a :: rest)) rfl rfl hd
  exact own_step st (k T' h' X' e' W')
theorem own_stC (X : Stand p l e R s m args below meth c T locs cells slots) (hx : p.tables.exec = Jvm.exec) {Z : State} {h : Heap} (hZ : Z.Warmed39 s.vm) (eT : T.heap = h) {a : Addr} {cl : Cell} (A : Arr Z h a cl .char) {j : Int32} {x : Int32} (hj : ¬ (j < 0 ∨ cl.slots.size ≤ j.toNatClampNeg)) {pc : Nat} (pc' : Nat) {Ls : Array Slot} {rest : List Value} (hd : decode c.code pc = .ok (.castore, 1)) (hp : pc + 1 = pc') (k : ∀ T' h', Stand p l e R s m args below meth c T' (locs ++ [⟨a, j.toNatClampNeg⟩]) cells slots → T'.heap = h' → Wr h h' a j.toNatClampNeg (.int (nar .char x)) → own_Go p e below s Q K N (T'.setTop (mkF m pc' Ls rest))) : own_Go p e below s Q K N (T.setTop (mkF m pc Ls (.int x :: .int j :: .ref a :: rest))) := by
  subst hp
  obtain ⟨T', h', X', e', W', st⟩ := stC X hx hZ eT A hj (g := mkF m pc Ls (.int x :: .int j :: .ref a :: rest)) rfl rfl hd
  exact own_step st (k T' h' X' e' W')
theorem own_stZ (X : Stand p l e R s m args below meth c T locs cells slots) (hx : p.tables.exec = Jvm.exec) {Z : State} {h : Heap} (hZ : Z.Warmed39 s.vm) (eT : T.heap = h) {a : Addr} {cl : Cell} (A : Arr Z h a cl .boolean) {j : Int32} {x : Int32} (hj : ¬ (j < 0 ∨ cl.slots.size ≤ j.toNatClampNeg)) {pc : Nat} (pc' : Nat) {Ls : Array Slot} {rest : List Value} (hd : decode c.code pc = .ok (.bastore, 1)) (hp : pc + 1 = pc') (k : ∀ T' h', Stand p l e R s m args below meth c T' (locs ++ [⟨a, j.toNatClampNeg⟩]) cells slots → T'.heap = h' → Wr h h' a j.toNatClampNeg (.int (nar .boolean x)) → own_Go p e below s Q K N (T'.setTop (mkF m pc' Ls rest))) : own_Go p e below s Q K N (T.setTop (mkF m pc Ls (.int x :: .int j :: .ref a :: rest))) := by
  subst hp
  obtain ⟨T', h', X', e', W', st⟩ := stZ X hx hZ eT A hj (g := mkF m pc Ls (.int x :: .int j :: .ref a :: rest)) rfl rfl hd
  exact own_step st (k T' h' X' e' W')
theorem own_stB (X : Stand p l e R s m args below meth c T locs cells slots) (hx : p.tables.exec = Jvm.exec) {Z : State} {h : Heap} (hZ : Z.Warmed39 s.vm) (eT : T.heap = h) {a : Addr} {cl : Cell} (A : Arr Z h a cl .byte) {j : Int32} {x : Int32} (hj : ¬ (j < 0 ∨ cl.slots.size ≤ j.toNatClampNeg)) {pc : Nat} (pc' : Nat) {Ls : Array Slot} {rest : List Value} (hd : decode c.code pc = .ok (.bastore, 1)) (hp : pc + 1 = pc') (k : ∀ T' h', Stand p l e R s m args below meth c T' (locs ++ [⟨a, j.toNatClampNeg⟩]) cells slots → T'.heap = h' → Wr h h' a j.toNatClampNeg (.int (nar .byte x)) → own_Go p e below s Q K N (T'.setTop (mkF m pc' Ls rest))) : own_Go p e below s Q K N (T.setTop (mkF m pc Ls (.int x :: .int j :: .ref a :: rest))) := by
  subst hp
  obtain ⟨T', h', X', e', W', st⟩ := stB X hx hZ eT A hj (g := mkF m pc Ls (.int x :: .int j :: .ref a :: rest)) rfl rfl hd
  exact own_step st (k T' h' X' e' W')
theorem own_stS (X : Stand p l e R s m args below meth c T locs cells slots) (hx : p.tables.exec = Jvm.exec) {Z : State} {h : Heap} (hZ : Z.Warmed39 s.vm) (eT : T.heap = h) {a : Addr} {cl : Cell} (A : Arr Z h a cl .short) {j : Int32} {x : Int32} (hj : ¬ (j < 0 ∨ cl.slots.size ≤ j.toNatClampNeg)) {pc : Nat} (pc' : Nat) {Ls : Array Slot} {rest : List Value} (hd : decode c.code pc = .ok (.sastore, 1)) (hp : pc + 1 = pc') (k : ∀ T' h', Stand p l e R s m args below meth c T' (locs ++ [⟨a, j.toNatClampNeg⟩]) cells slots → T'.heap = h' → Wr h h' a j.toNatClampNeg (.int (nar .short x)) → own_Go p e below s Q K N (T'.setTop (mkF m pc' Ls rest))) : own_Go p e below s Q K N (T.setTop (mkF m pc Ls (.int x :: .int j :: .ref a :: rest))) := by
  subst hp
  obtain ⟨T', h', X', e', W', st⟩ := stS X hx hZ eT A hj (g := mkF m pc Ls (.int x :: .int j :: .ref a :: rest)) rfl rfl hd
  exact own_step st (k T' h' X' e' W')
theorem own_stJ (X : Stand p l e R s m args below meth c T locs cells slots) (hx : p.tables.exec = Jvm.exec) {Z : State} {h : Heap} (hZ : Z.Warmed39 s.vm) (eT : T.heap = h) {a : Addr} {cl : Cell} (A : Arr Z h a cl .long) {j : Int32} {x : Int64} (hj : ¬ (j < 0 ∨ cl.slots.size ≤ j.toNatClampNeg)) {pc : Nat} (pc' : Nat) {Ls : Array Slot} {rest : List Value} (hd : decode c.code pc = .ok (.lastore, 1)) (hp : pc + 1 = pc') (k : ∀ T' h', Stand p l e R s m args below meth c T' (locs ++ [⟨a, j.toNatClampNeg⟩]) cells slots → T'.heap = h' → Wr h h' a j.toNatClampNeg (.long x) → own_Go p e below s Q K N (T'.setTop (mkF m pc' Ls rest))) : own_Go p e below s Q K N (T.setTop (mkF m pc Ls (.long x :: .int j :: .ref a :: rest))) := by
  subst hp
  obtain ⟨T', h', X', e', W', st⟩ := stJ X hx hZ eT A hj (g := mkF m pc Ls (.long x :: .int j :: .ref a :: rest)) rfl rfl hd
  exact own_step st (k T' h' X' e' W')
theorem own_stR (X : Stand p l e R s m args below meth c T locs cells slots) (hx : p.tables.exec = Jvm.exec) {Z : State} {h : Heap} (hZ : Z.Warmed39 s.vm) (eT : T.heap = h) {a : Addr} {cl : Cell} {ty : FieldType} (A : Arr Z h a cl ty) {j : Int32} {v : Value} (hj : ¬ (j < 0 ∨ cl.slots.size ≤ j.toNatClampNeg)) (hty : ty.isReference = true) (F : Sto Z h a v) {pc : Nat} (pc' : Nat) {Ls : Array Slot} {rest : List Value} (hd : decode c.code pc = .ok (.aastore, 1)) (hp : pc + 1 = pc') (k : ∀ T' h', Stand p l e R s m args below meth c T' (locs ++ [⟨a, j.toNatClampNeg⟩]) cells slots → T'.heap = h' → Wr h h' a j.toNatClampNeg v → own_Go p e below s Q K N (T'.setTop (mkF m pc' Ls rest))) : own_Go p e below s Q K N (T.setTop (mkF m pc Ls (v :: .int j :: .ref a :: rest))) := by
  subst hp
  obtain ⟨T', h', X', e', W', st⟩ := stR X hx hZ eT A hj hty F (g := mkF m pc Ls (v :: .int j :: .ref a :: rest)) rfl rfl hd
  exact own_step st (k T' h' X' e' W')
theorem own_iaload (X : Stand p l e R s m args below meth c T locs cells slots) (hx : p.tables.exec = Jvm.exec) {Z : State} {h : Heap} (hZ : Z.Warmed39 s.vm) (eT : T.heap = h) {a : Addr} {cl : Cell} (A : Arr Z h a cl .int) {j : Int32} {v : Value} (hj : ¬ (j < 0 ∨ cl.slots.size ≤ j.toNatClampNeg)) (hv : cl.slots[j.toNatClampNeg]? = some v) {pc : Nat} (pc' : Nat) {Ls : Array Slot} {rest : List Value} (hd : decode c.code pc = .ok (.iaload, 1)) (hp : pc + 1 = pc') (G : own_Go p e below s Q K N (T.setTop (mkF m pc' Ls (v :: rest)))) : own_Go p e below s Q K N (T.setTop (mkF m pc Ls (.int j :: .ref a :: rest))) := by
  subst hp eT
  exact own_step (X.iaload hx (j := j) (v := v) A.1 (State.isArrayOf_alike hZ.alike A.2.1) A.2.2 hj hv (g := mkF m pc Ls (.int j :: .ref a :: rest)) rfl rfl hd) G
theorem own_caload (X : Stand p l e R s m args below meth c T locs cells slots) (hx : p.tables.exec = Jvm.exec) {Z : State} {h : Heap} (hZ : Z.Warmed39 s.vm) (eT : T.heap = h) {a : Addr} {cl : Cell} (A : Arr Z h a cl .char) {j : Int32} {v : Value} (hj : ¬ (j < 0 ∨ cl.slots.size ≤ j.toNatClampNeg)) (hv : cl.slots[j.toNatClampNeg]? = some v) {pc : Nat} (pc' : Nat) {Ls : Array Slot} {rest : List Value} (hd : decode c.code pc = .ok (.caload, 1)) (hp : pc + 1 = pc') (G : own_Go p e below s Q K N (T.setTop (mkF m pc' Ls (v :: rest)))) : own_Go p e below s Q K N (T.setTop (mkF m pc Ls (.int j :: .ref a :: rest))) := by
  subst hp eT
  exact own_step (X.caload hx (j := j) (v := v) A.1 (State.isArrayOf_alike hZ.alike A.2.1) A.2.2 hj hv (g := mkF m pc Ls (.int j :: .ref a :: rest)) rfl rfl hd) G
theorem own_laload (X : Stand p l e R s m args below meth c T locs cells slots) (hx : p.tables.exec = Jvm.exec) {Z : State} {h : Heap} (hZ : Z.Warmed39 s.vm) (eT : T.heap = h) {a : Addr} {cl : Cell} (A : Arr Z h a cl .long) {j : Int32} {v : Value} (hj : ¬ (j < 0 ∨ cl.slots.size ≤ j.toNatClampNeg)) (hv : cl.slots[j.toNatClampNeg]? = some v) {pc : Nat} (pc' : Nat) {Ls : Array Slot} {rest : List Value} (hd : decode c.code pc = .ok (.laload, 1)) (hp : pc + 1 = pc') (G : own_Go p e below s Q K N (T.setTop (mkF m pc' Ls (v :: rest)))) : own_Go p e below s Q K N (T.setTop (mkF m pc Ls (.int j :: .ref a :: rest))) := by
  subst hp eT
  exact own_step (X.laload hx (j := j) (v := v) A.1 (State.isArrayOf_alike hZ.alike A.2.1) A.2.2 hj hv (g := mkF m pc Ls (.int j :: .ref a :: rest)) rfl rfl hd) G
theorem own_baloadB (X : Stand p l e R s m args below meth c T locs cells slots) (hx : p.tables.exec = Jvm.exec) {Z : State} {h : Heap} (hZ : Z.Warmed39 s.vm) (eT : T.heap = h) {a : Addr} {cl : Cell} (A : Arr Z h a cl .byte) {j : Int32} {v : Value} (hj : ¬ (j < 0 ∨ cl.slots.size ≤ j.toNatClampNeg)) (hv : cl.slots[j.toNatClampNeg]? = some v) {pc : Nat} (pc' : Nat) {Ls : Array Slot} {rest : List Value} (hd : decode c.code pc = .ok (.baload, 1)) (hp : pc + 1 = pc') (G : own_Go p e below s Q K N (T.setTop (mkF m pc' Ls (v :: rest)))) : own_Go p e below s Q K N (T.setTop (mkF m pc Ls (.int j :: .ref a :: rest))) := by
  subst hp eT
  exact own_step (X.baloadBytes hx (j := j) (v := v) A.1 (State.isArrayOf_alike hZ.alike A.2.1) A.2.2 hj hv (g := mkF m pc Ls (.int j :: .ref a :: rest)) rfl rfl hd) G
theorem own_baloadZ (X : Stand p l e R s m args below meth c T locs cells slots) (hx : p.tables.exec = Jvm.exec) {Z : State} {h : Heap} (hZ : Z.Warmed39 s.vm) (eT : T.heap = h) {a : Addr} {cl : Cell} (A : Arr Z h a cl .boolean) {j : Int32} {v : Value} (hj : ¬ (j < 0 ∨ cl.slots.size ≤ j.toNatClampNeg)) (hv : cl.slots[j.toNatClampNeg]? = some v) {pc : Nat} (pc' : Nat) {Ls : Array Slot} {rest : List Value} (hd : decode c.code pc = .ok (.baload, 1)) (hp : pc + 1 = pc') (G : own_Go p e below s Q K N (T.setTop (mkF m pc' Ls (v :: rest)))) : own_Go p e below s Q K N (T.setTop (mkF m pc Ls (.int j :: .ref a :: rest))) := by
  subst hp eT
  exact own_step (X.baloadBooleans hx (j := j) (v := v) A.1 (State.isArrayOf_alike hZ.alike A.2.1) A.2.2 hj hv (g := mkF m pc Ls (.int j :: .ref a :: rest)) rfl rfl hd) G
theorem own_aaload (X : Stand p l e R s m args below meth c T locs cells slots) (hx : p.tables.exec = Jvm.exec) {Z : State} {h : Heap} (hZ : Z.Warmed39 s.vm) (eT : T.heap = h) {a : Addr} {cl : Cell} {ty : FieldType} (hty : ty.isReference = true) (A : Arr Z h a cl ty) {j : Int32} {v : Value} (hj : ¬ (j < 0 ∨ cl.slots.size ≤ j.toNatClampNeg)) (hv : cl.slots[j.toNatClampNeg]? = some v) {pc : Nat} (pc' : Nat) {Ls : Array Slot} {rest : List Value} (hd : decode c.code pc = .ok (.aaload, 1)) (hp : pc + 1 = pc') (G : own_Go p e below s Q K N (T.setTop (mkF m pc' Ls (v :: rest)))) : own_Go p e below s Q K N (T.setTop (mkF m pc Ls (.int j :: .ref a :: rest))) := by
  subst hp eT
  exact own_step (X.aaload hx (j := j) (v := v) A.1 (State.isArrayOf_alike hZ.alike A.2.1) hty A.2.2 hj hv (g := mkF m pc Ls (.int j :: .ref a :: rest)) rfl rfl hd) G
theorem own_arraylength (X : Stand p l e R s m args below meth c T locs cells slots) (hx : p.tables.exec = Jvm.exec) {Z : State} {h : Heap} (hZ : Z.Warmed39 s.vm) (eT : T.heap = h) {a : Addr} {cl : Cell} {ty : FieldType} (A : Arr Z h a cl ty) {z : Int32} (hz : cl.slots.size = z.toNatClampNeg) (h0 : ¬ z < 0) {pc : Nat} (pc' : Nat) {Ls : Array Slot} {rest : List Value} (hd : decode c.code pc = .ok (.arraylength, 1)) (hp : pc + 1 = pc') (G : own_Go p e below s Q K N (T.setTop (mkF m pc' Ls (.int z :: rest)))) : own_Go p e below s Q K N (T.setTop (mkF m pc Ls (.ref a :: rest))) := by
  subst hp eT
  refine own_step (X.arraylength hx A.1 (State.isArrayOf_alike hZ.alike A.2.1) (g := mkF m pc Ls (.ref a :: rest)) rfl rfl hd) ?_
  rw [len_of hz h0]
  exact G
theorem own_initO (X : Stand p l e R s m args below meth c T locs cells slots) (hx : p.tables.exec = Jvm.exec) {Z : State} {a0 : Array Value} {h : Heap} (hZ : Z.Warmed39 s.vm) {own : String} (hown : s.vm.findClass own = some m.cls) {idx : Nat} (w1 : (Jvm.Cond.methodLink own idx Lib.objectInit).before a0 Z = true) (w2 : (Jvm.Cond.instanceMethod Lib.objectInit).before a0 Z = true) (w3 : (Jvm.Cond.code Lib.objectInit ⟨#[0xb1]⟩ 1 none).before a0 Z = true) (eT : T.heap = h) {a : Addr} {pc : Nat} (pc' : Nat) {Ls : Array Slot} {rest : List Value} (hsize : Ls.size = c.maxLocals) (hd : decode c.code pc = .ok (.invokespecial idx, 3)) (hp : pc + 3 = pc') (hf : 1 ≤ R.frames) (W : Nat) (hW : (rest.map fun v => v.category).sum = W) (hl : W + 12 ≤ R.locals) (k : ∀ T', Stand p l e R s m args below meth c T' locs cells slots → T'.heap = h → own_Go p e below s Q K N (T'.setTop (mkF m pc' Ls rest))) : own_Go p e below s Q K N (T.setTop (mkF m pc Ls (.ref a :: rest))) := by
  subst hp
  obtain ⟨T', X', e', st⟩ := initO X hx hZ hown w1 w2 w3 eT (g := mkF m pc Ls (.ref a :: rest)) rfl hsize rfl hd hf (W := W) (by show 2 * 0 + _ ≤ _; omega) hl
  exact own_step st (k T' X' e')
theorem own_callS (X : Stand p l e R s m args below meth c T locs cells slots) (hx : p.tables.exec = Jvm.exec) {Z : State} {a0 : Array Value} {h : Heap} (hZ : Z.Warmed39 s.vm) {own : String} (hown : s.vm.findClass own = some m.cls) {index : Nat} {y : MethodName} {bytes : ByteArray} {maxL : Nat} {ret : Option FieldType} {rm : Room} {as' : Array Value} {Q' : Option Value → Heap → List Loc → Prop} (w1 : (Jvm.Cond.methodLink own index y).before a0 Z = true) (w2 : (Jvm.Cond.static y).before a0 Z = true) (hy : y.cls ≠ "java/lang/invoke/MethodHandle" ∧ y.cls ≠ "java/lang/invoke/VarHandle") (hM : MetFree l y (head1 [Jvm.Cond.code y bytes maxL ret] rm) (fun a U => a = as' ∧ Z.Warmed39 U.vm ∧ U.heap = h) (fun _ _ _ _ _ => True) (fun _ U o U' => ∃ v L, o = .returned v ∧ Q' v U'.heap L ∧ FrameEnd U o U' L rm.cells rm.slots)) (wc : (Jvm.Cond.code y bytes maxL ret).before a0 Z = true) (wz : (Jvm.Cond.initialized y.cls).before a0 Z = true) (eT : T.heap = h) (W : Nat) (hf : rm.frames + 1 ≤ R.frames) (hl : W + (maxL + 11) + rm.locals ≤ R.locals) (hc : cells + rm.cells ≤ R.cells) (hs : slots + rm.slots ≤ R.slots) (argsL rest : List Value) (has : argsL.toArray = as') {ps : List FieldType} {rr : Option FieldType} (hpd : parseMethodDescriptor y.desc = some ⟨ps, rr⟩) (hlen : argsL.length = ps.length) {pc : Nat} (pc' : Nat) {Ls : Array Slot} {stk : List Value} (hstk : stk = argsL.reverse ++ rest) (hsize : Ls.size = c.maxLocals) (hW : (rest.map fun v => v.category).sum = W) (hd : decode c.code pc = .ok (.invokestatic index, 3)) (hp : pc + 3 = pc') (k : ∀ T' v L, Stand p l e R s m args below meth c T' (locs ++ L) (cells + rm.cells) (slots + rm.slots) → Q' v T'.heap L → own_Go p e below s Q K N (T'.setTop (mkF m pc' Ls (v.toList ++ rest)))) : own_Go p e below s Q K N (T.setTop (mkF m pc Ls stk)) := by
  subst hp hstk
  obtain ⟨v', _, ⟨T', L', k', n'⟩, -, X', ⟨Lc', hQ', l', y', z'⟩, st'⟩ := Jvm.LawKit.callS X hx (y := y) hown (mvT hZ w1) (mvT hZ w2) (mvT hZ wz) (mvT hZ wc) hy (backOf (W := W) hM hZ wc wz hf hl) (g := mkF m pc Ls (argsL.reverse ++ rest)) rfl hsize (argsL := argsL) (rest := rest) (lenOf hpd hlen) rfl (by show 2 * 0 + _ ≤ _; omega) hd (fun _ _ => ⟨has, eT, hc, hs⟩)
  dsimp only [Pt.U, Pt.locs, Pt.cells, Pt.slots] at X' l' y' z' st' hQ'
  subst l' y' z'
  exact own_step (fun t kk => st' _ kk) (k T' v' _ X' hQ')
theorem own_callI (X : Stand p l e R s m args below meth c T locs cells slots) (hx : p.tables.exec = Jvm.exec) {Z : State} {a0 : Array Value} {h : Heap} (hZ : Z.Warmed39 s.vm) {own : String} (hown : s.vm.findClass own = some m.cls) {index : Nat} {y : MethodName} {bytes : ByteArray} {maxL : Nat} {rm : Room} {as' : Array Value} {Q' : Option Value → Heap → List Loc → Prop} (hy1 : y.name = "<init>") (w1 : (Jvm.Cond.methodLink own index y).before a0 Z = true) (w2 : (Jvm.Cond.instanceMethod y).before a0 Z = true) (hy : y.cls ≠ "java/lang/invoke/MethodHandle" ∧ y.cls ≠ "java/lang/invoke/VarHandle") (hM : MetFree l y (head1 [Jvm.Cond.code y bytes maxL none] rm) (fun a U => a = as' ∧ Z.Warmed39 U.vm ∧ U.heap = h) (fun _ _ _ _ _ => True) (fun _ U o U' => ∃ v L, o = .returned v ∧ Q' v U'.heap L ∧ FrameEnd U o U' L rm.cells rm.slots)) (wc : (Jvm.Cond.code y bytes maxL none).before a0 Z = true) (wz : (Jvm.Cond.initialized y.cls).before a0 Z = true) (eT : T.heap = h) (W : Nat) (hf : rm.frames + 1 ≤ R.frames) (hl : W + (maxL + 11) + rm.locals ≤ R.locals) (hc : cells + rm.cells ≤ R.cells) (hs : slots + rm.slots ≤ R.slots) (a : Addr) (argsL rest : List Value) (has : (.ref a :: argsL).toArray = as') {ps : List FieldType} {rr : Option FieldType} (hpd : parseMethodDescriptor y.desc = some ⟨ps, rr⟩) (hlen : argsL.length = ps.length) {pc : Nat} (pc' : Nat) {Ls : Array Slot} {stk : List Value} (hstk : stk = argsL.reverse ++ .ref a :: rest) (hsize : Ls.size = c.maxLocals) (hW : (rest.map fun v => v.category).sum = W) (hd : decode c.code pc = .ok (.invokespecial index, 3)) (hp : pc + 3 = pc') (k : ∀ T' v L, Stand p l e R s m args below meth c T' (locs ++ L) (cells + rm.cells) (slots + rm.slots) → Q' v T'.heap L → own_Go p e below s Q K N (T'.setTop (mkF m pc' Ls (v.toList ++ rest)))) : own_Go p e below s Q K N (T.setTop (mkF m pc Ls stk)) := by
  subst hp hstk
  obtain ⟨v', _, ⟨T', L', k', n'⟩, -, X', ⟨Lc', hQ', l', y', z'⟩, st'⟩ := X.specialBack hx (y := y) hy1 hown (mvT hZ w1) (mvT hZ w2) (mvT hZ wc) hy (backOf (W := W) hM hZ wc wz hf hl) (g := mkF m pc Ls (argsL.reverse ++ .ref a :: rest)) rfl hsize (Steps.refl _) (a := a) (argsL := argsL) (rest := rest) (lenOf hpd hlen) rfl (by show 2 * 0 + _ ≤ _; omega) hd (fun _ _ => ⟨has, eT, hc, hs⟩)
  dsimp only [Pt.U, Pt.locs, Pt.cells, Pt.slots] at X' l' y' z' st' hQ'
  subst l' y' z'
  exact own_step (fun t kk => st'.trans kk) (k T' v' _ X' hQ')
theorem own_callV (X : Stand p l e R s m args below meth c T locs cells slots) (hx : p.tables.exec = Jvm.exec) {Z : State} {a0 : Array Value} {h : Heap} (hZ : Z.Warmed39 s.vm) {own : String} (hown : s.vm.findClass own = some m.cls) {C : String} {index : Nat} {y z : MethodName} {bytes : ByteArray} {maxL : Nat} {ret : Option FieldType} {rm : Room} {as' : Array Value} {Q' : Option Value → Heap → List Loc → Prop} (w1 : (Jvm.Cond.methodLink own index y).before a0 Z = true) (w2 : (Jvm.Cond.declares y).before a0 Z = true) (hnf : NotFace s y) (w3 : (Jvm.Cond.selects C y z).before a0 Z = true) (w4 : (Jvm.Cond.instanceMethod z).before a0 Z = true) (hy : y.cls ≠ "java/lang/invoke/MethodHandle" ∧ y.cls ≠ "java/lang/invoke/VarHandle") (hM : MetFree l z (head1 [Jvm.Cond.code z bytes maxL ret] rm) (fun a U => a = as' ∧ Z.Warmed39 U.vm ∧ U.heap = h) (fun _ _ _ _ _ => True) (fun _ U o U' => ∃ v L, o = .returned v ∧ Q' v U'.heap L ∧ FrameEnd U o U' L rm.cells rm.slots)) (wc : (Jvm.Cond.code z bytes maxL ret).before a0 Z = true) (wz : (Jvm.Cond.initialized z.cls).before a0 Z = true) (eT : T.heap = h) (W : Nat) (hf : rm.frames + 1 ≤ R.frames) (hl : W + (maxL + 11) + rm.locals ≤ R.locals) (hc : cells + rm.cells ≤ R.cells) (hs : slots + rm.slots ≤ R.slots) {a : Addr} (E : Exa Z h a C) (argsL rest : List Value) (has : (.ref a :: argsL).toArray = as') {ps : List FieldType} {rr : Option FieldType} (hpd : parseMethodDescriptor y.desc = some ⟨ps, rr⟩) (hlen : argsL.length = ps.length) {pc : Nat} (pc' : Nat) {Ls : Array Slot} {stk : List Value} (hstk : stk = argsL.reverse ++ .ref a :: rest) (hsize : Ls.size = c.maxLocals) (hW : (rest.map fun v => v.category).sum = W) (hd : decode c.code pc = .ok (.invokevirtual index, 3)) (hp : pc + 3 = pc') (k : ∀ T' v L, Stand p l e R s m args below meth c T' (locs ++ L) (cells + rm.cells) (slots + rm.slots) → Q' v T'.heap L → own_Go p e below s Q K N (T'.setTop (mkF m pc' Ls (v.toList ++ rest)))) : own_Go p e below s Q K N (T.setTop (mkF m pc Ls stk)) := by
  subst hp hstk
  obtain ⟨cq, kq, qa, qb, qc⟩ := isOf hZ eT E
  obtain ⟨v', _, ⟨T', L', k', n'⟩, -, X', ⟨Lc', hQ', l', y', z'⟩, st'⟩ := X.virtualBack hx (y := y) (z := z) hown (mvT hZ w1) (mvT hZ w2) hnf (mvT hZ w3) (mvT hZ w4) hy (backOf (W := W) hM hZ wc wz hf hl) qa qc (g := mkF m pc Ls (argsL.reverse ++ .ref a :: rest)) rfl hsize (Steps.refl _) (argsL := argsL) (rest := rest) (lenOf hpd hlen) rfl (by show 2 * 0 + _ ≤ _; omega) hd (fun _ _ => ⟨has, eT, hc, hs⟩)
  dsimp only [Pt.U, Pt.locs, Pt.cells, Pt.slots] at X' l' y' z' st' hQ'
  subst l' y' z'
  exact own_step (fun t kk => st'.trans kk) (k T' v' _ X' hQ')
theorem own_callU (X : Stand p l e R s m args below meth c T locs cells slots) (hx : p.tables.exec = Jvm.exec) {Z : State} {a0 : Array Value} {h : Heap} (hZ : Z.Warmed39 s.vm) {own : String} (hown : s.vm.findClass own = some m.cls) {C owner : String} {index : Nat} {y z : MethodName} {bytes : ByteArray} {maxL : Nat} {ret : Option FieldType} {rm : Room} {as' : Array Value} {Q' : Option Value → Heap → List Loc → Prop} (w1 : (Jvm.Cond.methodLink own index y).before a0 Z = true) (w5 : (Jvm.Cond.sameMethod y.cls owner y.name y.desc).before a0 Z = true) (w2 : (Jvm.Cond.declares ⟨owner, y.name, y.desc⟩).before a0 Z = true) (ho : owner ≠ "java/lang/invoke/MethodHandle" ∧ owner ≠ "java/lang/invoke/VarHandle") (w3 : (Jvm.Cond.selects C y z).before a0 Z = true) (w4 : (Jvm.Cond.instanceMethod z).before a0 Z = true) (hM : MetFree l z (head1 [Jvm.Cond.code z bytes maxL ret] rm) (fun a U => a = as' ∧ Z.Warmed39 U.vm ∧ U.heap = h) (fun _ _ _ _ _ => True) (fun _ U o U' => ∃ v L, o = .returned v ∧ Q' v U'.heap L ∧ FrameEnd U o U' L rm.cells rm.slots)) (wc : (Jvm.Cond.code z bytes maxL ret).before a0 Z = true) (wz : (Jvm.Cond.initialized z.cls).before a0 Z = true) (eT : T.heap = h) (W : Nat) (hf : rm.frames + 1 ≤ R.frames) (hl : W + (maxL + 11) + rm.locals ≤ R.locals) (hc : cells + rm.cells ≤ R.cells) (hs : slots + rm.slots ≤ R.slots) {a : Addr} (E : Exa Z h a C) (argsL rest : List Value) (has : (.ref a :: argsL).toArray = as') {ps : List FieldType} {rr : Option FieldType} (hpd : parseMethodDescriptor y.desc = some ⟨ps, rr⟩) (hlen : argsL.length = ps.length) {pc : Nat} (pc' : Nat) {Ls : Array Slot} {stk : List Value} (hstk : stk = argsL.reverse ++ .ref a :: rest) (hsize : Ls.size = c.maxLocals) (hW : (rest.map fun v => v.category).sum = W) (hd : decode c.code pc = .ok (.invokevirtual index, 3)) (hp : pc + 3 = pc') (k : ∀ T' v L, Stand p l e R s m args below meth c T' (locs ++ L) (cells + rm.cells) (slots + rm.slots) → Q' v T'.heap L → own_Go p e below s Q K N (T'.setTop (mkF m pc' Ls (v.toList ++ rest)))) : own_Go p e below s Q K N (T.setTop (mkF m pc Ls stk)) := by
  subst hp hstk
  obtain ⟨cq, kq, qa, qb, qc⟩ := isOf hZ eT E
  obtain ⟨v', _, ⟨T', L', k', n'⟩, -, X', ⟨Lc', hQ', l', y', z'⟩, st'⟩ := X.virtualBackUp hx (owner := owner) (x := y) (y := z) hown (mvT hZ w1) (mvT hZ w5) (mvT hZ w2) ho (mvT hZ w3) (mvT hZ w4) (backOf (W := W) hM hZ wc wz hf hl) qa qc (g := mkF m pc Ls (argsL.reverse ++ .ref a :: rest)) rfl hsize (Steps.refl _) (argsL := argsL) (rest := rest) (lenOf hpd hlen) rfl (by show 2 * 0 + _ ≤ _; omega) hd (fun _ _ => ⟨has, eT, hc, hs⟩)
  dsimp only [Pt.U, Pt.locs, Pt.cells, Pt.slots] at X' l' y' z' st' hQ'
  subst l' y' z'
  exact own_step (fun t kk => st'.trans kk) (k T' v' _ X' hQ')
theorem own_nf {C : String} {y : MethodName} {Z : State} {a0 : Array Value} (hZ : Z.Warmed39 s.vm) (w : (Jvm.Cond.selects C y y).before a0 Z = true) : NotFace s y := notFace_of_selects (args := #[]) (mvT hZ w)
theorem own_selfsel {K : String} {y y' : MethodName} (w : (Jvm.Cond.selects K y' y').before args s = true) (hK : y'.cls = y.cls) (hp : s.PrivateAt y) (hi : (Jvm.Cond.instanceMethod y).before args s = true) (hy : y.cls ≠ "java/lang/invoke/MethodHandle" ∧ y.cls ≠ "java/lang/invoke/VarHandle") : (Jvm.Cond.selects y.cls y y).before args s = true := by
  obtain ⟨c2, r2, m2, -, -, q3, -, kP, hkP, hkPi⟩ := Cond.selects_spec w
  exact selects_self_of_private (by rw [← hK]; exact findClass_of_methodNamed q3) hkP hkPi hp hi hy
theorem own_callP (X : Stand p l e R s m args below meth c T locs cells slots) (hx : p.tables.exec = Jvm.exec) {Z : State} {a0 : Array Value} {h : Heap} (hZ : Z.Warmed39 s.vm) {own : String} (hown : s.vm.findClass own = some m.cls) {C K' : String} {index : Nat} {y y' : MethodName} {bytes : ByteArray} {maxL : Nat} {ret : Option FieldType} {rm : Room} {as' : Array Value} {Q' : Option Value → Heap → List Loc → Prop} (w1 : (Jvm.Cond.methodLink own index y).before a0 Z = true) (w2 : (Jvm.Cond.instanceMethod y).before a0 Z = true) (w3 : (Jvm.Cond.selects K' y' y').before a0 Z = true) (hK : y'.cls = y.cls) (w4 : (Jvm.Cond.privateMethod y).before a0 Z = true) (hy : y.cls ≠ "java/lang/invoke/MethodHandle" ∧ y.cls ≠ "java/lang/invoke/VarHandle") (hM : MetFree l y (head1 [Jvm.Cond.code y bytes maxL ret] rm) (fun a U => a = as' ∧ Z.Warmed39 U.vm ∧ U.heap = h) (fun _ _ _ _ _ => True) (fun _ U o U' => ∃ v L, o = .returned v ∧ Q' v U'.heap L ∧ FrameEnd U o U' L rm.cells rm.slots)) (wc : (Jvm.Cond.code y bytes maxL ret).before a0 Z = true) (wz : (Jvm.Cond.initialized y.cls).before a0 Z = true) (eT : T.heap = h) (W : Nat) (hf : rm.frames + 1 ≤ R.frames) (hl : W + (maxL + 11) + rm.locals ≤ R.locals) (hc : cells + rm.cells ≤ R.cells) (hs : slots + rm.slots ≤ R.slots) {a : Addr} (E : Exa Z h a C) (argsL rest : List Value) (has : (.ref a :: argsL).toArray = as') {ps : List FieldType} {rr : Option FieldType} (hpd : parseMethodDescriptor y.desc = some ⟨ps, rr⟩) (hlen : argsL.length = ps.length) {pc : Nat} (pc' : Nat) {Ls : Array Slot} {stk : List Value} (hstk : stk = argsL.reverse ++ .ref a :: rest) (hsize : Ls.size = c.maxLocals) (hW : (rest.map fun v => v.category).sum = W) (hd : decode c.code pc = .ok (.invokevirtual index, 3)) (hp : pc + 3 = pc') (k : ∀ T' v L, Stand p l e R s m args below meth c T' (locs ++ L) (cells + rm.cells) (slots + rm.slots) → Q' v T'.heap L → own_Go p e below s Q K N (T'.setTop (mkF m pc' Ls (v.toList ++ rest)))) : own_Go p e below s Q K N (T.setTop (mkF m pc Ls stk)) := by
  subst hp hstk
  obtain ⟨cq, qa, qb⟩ := E.cell
  have hpr := Cond.privateMethod_at (mvP hZ w4 (args := args))
  obtain ⟨v', _, ⟨T', L', k', n'⟩, -, X', ⟨Lc', hQ', l', y', z'⟩, st'⟩ := X.privateBack hx (y := y) hown (mvT hZ w1) (mvT hZ w2) (own_selfsel (mvT hZ w3) hK hpr (mvT hZ w2) hy) hpr (mvT hZ wc) hy (backOf (W := W) hM hZ wc wz hf hl) (g := mkF m pc Ls (argsL.reverse ++ .ref a :: rest)) rfl hsize (Steps.refl _) (a := a) (by rw [eT]; exact qa) qb (argsL := argsL) (rest := rest) (lenOf hpd hlen) rfl (by show 2 * 0 + _ ≤ _; omega) hd (fun _ _ => ⟨has, eT, hc, hs⟩)
  dsimp only [Pt.U, Pt.locs, Pt.cells, Pt.slots] at X' l' y' z' st' hQ'
  subst l' y' z'
  exact own_step (fun t kk => st'.trans kk) (k T' v' _ X' hQ')
theorem own_cpA (X : Stand p l e R s m args below meth c T locs cells slots) (hx : p.tables.exec = Jvm.exec) {Z : State} {a0 : Array Value} {h : Heap} (hZ : Z.Warmed39 s.vm) {own : String} (hown : s.vm.findClass own = some m.cls) {index : Nat} (w1 : (Jvm.Cond.methodLink own index Jvm.Stand.acN).before a0 Z = true) (w2 : (Jvm.Cond.native Jvm.Stand.acN).before a0 Z = true) (w3 : (Jvm.Cond.static Jvm.Stand.acN).before a0 Z = true) (w4 : (Jvm.Cond.initialized "java/lang/System").before a0 Z = true) (eT : T.heap = h)
    {a b : Addr} {k k' : ClassId} {ty ty' : FieldType} {z z' sp dp nn : Int32} {vs vd : List Value} {dv dd : Value} (us : List Value) (A : Arv Z h a k ty z vs dv) (B : Arv Z h b k' ty' z' vd dd) (hty : (ty = ty' ∧ refKind ty = false) ∨ (refKind ty = true ∧ refKind ty' = true ∧ StoL Z h b us))
    (h1 : ¬ sp < 0) (h2 : ¬ dp < 0) (h3 : ¬ nn < 0) (h4 : sp.toNatClampNeg + nn.toNatClampNeg ≤ z.toNatClampNeg) (h5 : dp.toNatClampNeg + nn.toNatClampNeg ≤ z'.toNatClampNeg) (hus : us = (List.range nn.toNatClampNeg).map fun i => vs.getD (sp.toNatClampNeg + i) dv) (hl : dp.toNatClampNeg + nn.toNatClampNeg ≤ vd.length) {n0 : Nat} (Nf : Fr n0 locs) (ge : n0 ≤ b)
    {pc : Nat} (pc' : Nat) {Ls : Array Slot} {rest : List Value} (hsize : Ls.size = c.maxLocals) (hd : decode c.code pc = .ok (.invokestatic index, 3)) (hp : pc + 3 = pc') (hf : 1 ≤ R.frames) (W : Nat) (hW : (rest.map fun v => v.category).sum = W) (hlo : W + (nativeFrameWords "java/lang/System" "arraycopy" 5 + 11) ≤ R.locals)
    (kk : ∀ T' h' L, Stand p l e R s m args below meth c T' L cells slots → T'.heap = h' → Fr n0 L → Keep h h' [b] → Arv Z h' b k' ty' z' (vd.take dp.toNatClampNeg ++ us ++ vd.drop (dp.toNatClampNeg + nn.toNatClampNeg)) dd → own_Go p e below s Q K N (T'.setTop (mkF m pc' Ls rest))) : own_Go p e below s Q K N (T.setTop (mkF m pc Ls (.int nn :: .int dp :: .ref b :: .int sp :: .ref a :: rest))) := by
  subst hp
  obtain ⟨T', h', L', X', e', N', K', B', st⟩ := cpA X hx hZ hown w1 w2 w3 w4 eT A B hty h1 h2 h3 h4 h5 hus hl Nf ge (g := mkF m pc Ls (.int nn :: .int dp :: .ref b :: .int sp :: .ref a :: rest)) rfl hsize rfl hd hf (W := W) (by show 2 * 0 + _ ≤ _; omega) hlo
  exact own_step st (kk T' h' L' X' e' N' K' B')
theorem own_plainE {Z : State} {h : Heap} {a : Addr} {C : String} (E : Exa Z h a C) : ∀ cell : Cell, h[a]? = some cell → cell.vm.isStatics = false := fun cell hc => by
  obtain ⟨c', k', h1, -, -, h2, -⟩ := E
  cases h1.symm.trans hc; exact h2
theorem own_plainA {Z : State} {h : Heap} {a : Addr} {k : ClassId} {ty : FieldType} {z : Int32} {vs : List Value} {dv : Value} (V : Arv Z h a k ty z vs dv) : ∀ cell : Cell, h[a]? = some cell → cell.vm.isStatics = false := fun cell hc => by
  obtain ⟨c', A, -⟩ := V
  cases A.1.symm.trans hc; exact A.plain
theorem own_castY (X : Stand p l e R s m args below meth c T locs cells slots) (hx : p.tables.exec = Jvm.exec) {Z : State} {a0 : Array Value} {h : Heap} (hZ : Z.Warmed39 s.vm) {own : String} (hown : s.vm.findClass own = some m.cls) {K' : String} {index : Nat} (w : (Jvm.Cond.classLink own index K').before a0 Z = true) (eT : T.heap = h) {a : Addr} (F : Ins Z h a K' true) {pc : Nat} (pc' : Nat) {Ls : Array Slot} {rest : List Value} (hd : decode c.code pc = .ok (.checkcast index, 3)) (hp : pc + 3 = pc') (k : ∀ T', Stand p l e R s m args below meth c T' locs cells slots → T'.heap = h → own_Go p e below s Q K N (T'.setTop (mkF m pc' Ls (.ref a :: rest)))) : own_Go p e below s Q K N (T.setTop (mkF m pc Ls (.ref a :: rest))) := by
  subst hp
  obtain ⟨T', X', e', st⟩ := castY X hx hZ hown w eT F (g := mkF m pc Ls (.ref a :: rest)) rfl rfl hd
  exact own_step st (k T' X' e')
theorem own_instY (X : Stand p l e R s m args below meth c T locs cells slots) (hx : p.tables.exec = Jvm.exec) {Z : State} {a0 : Array Value} {h : Heap} (hZ : Z.Warmed39 s.vm) {own : String} (hown : s.vm.findClass own = some m.cls) {K' : String} {index : Nat} (w : (Jvm.Cond.classLink own index K').before a0 Z = true) (eT : T.heap = h) {a : Addr} (F : Ins Z h a K' true) {pc : Nat} (pc' : Nat) {Ls : Array Slot} {rest : List Value} (hd : decode c.code pc = .ok (.instanceof index, 3)) (hp : pc + 3 = pc') (k : ∀ T', Stand p l e R s m args below meth c T' locs cells slots → T'.heap = h → own_Go p e below s Q K N (T'.setTop (mkF m pc' Ls (.int 1 :: rest)))) : own_Go p e below s Q K N (T.setTop (mkF m pc Ls (.ref a :: rest))) := by
  subst hp
  obtain ⟨T', X', e', st⟩ := instY X hx hZ hown w eT F (g := mkF m pc Ls (.ref a :: rest)) rfl rfl hd
  exact own_step st (k T' X' e')
theorem own_instNo (X : Stand p l e R s m args below meth c T locs cells slots) (hx : p.tables.exec = Jvm.exec) {Z : State} {a0 : Array Value} {h : Heap} (hZ : Z.Warmed39 s.vm) {own : String} (hown : s.vm.findClass own = some m.cls) {K' : String} {index : Nat} (w : (Jvm.Cond.classLink own index K').before a0 Z = true) (eT : T.heap = h) {a : Addr} {C : String} (E : Exa Z h a C) (F : ∃ c t, Z.vm.findClass C = some c ∧ Z.vm.findClass K' = some t ∧ Z.vm.assignable c t = false) {pc : Nat} (pc' : Nat) {Ls : Array Slot} {rest : List Value} (hd : decode c.code pc = .ok (.instanceof index, 3)) (hp : pc + 3 = pc') (k : ∀ T', Stand p l e R s m args below meth c T' locs cells slots → T'.heap = h → own_Go p e below s Q K N (T'.setTop (mkF m pc' Ls (.int 0 :: rest)))) : own_Go p e below s Q K N (T.setTop (mkF m pc Ls (.ref a :: rest))) := by
  subst hp
  obtain ⟨T', X', e', st⟩ := instNo X hx hZ hown w eT E F (g := mkF m pc Ls (.ref a :: rest)) rfl rfl hd
  exact own_step st (k T' X' e')
theorem own_instNull (X : Stand p l e R s m args below meth c T locs cells slots) (hx : p.tables.exec = Jvm.exec) {index : Nat} {pc : Nat} (pc' : Nat) {Ls : Array Slot} {rest : List Value} (hd : decode c.code pc = .ok (.instanceof index, 3)) (hp : pc + 3 = pc') (G : own_Go p e below s Q K N (T.setTop (mkF m pc' Ls (.int 0 :: rest)))) : own_Go p e below s Q K N (T.setTop (mkF m pc Ls (.null :: rest))) := by
  subst hp
  exact own_step (X.instanceofNull hx (g := mkF m pc Ls (.null :: rest)) rfl rfl hd) G
theorem own_irr (x : Int32) : ¬ x < x := by rw [Int32.lt_iff_toInt_lt]; omega
theorem own_fldV {Z : State} {h : Heap} {a : Addr} {C n d : String} {v w : Value} (F : Fld Z h a C n d v) (q : v = w) : Fld Z h a C n d w := q ▸ F
theorem own_arvL {Z : State} {h : Heap} {a : Addr} {k : ClassId} {ty : FieldType} {z : Int32} {vs ws : List Value} {dv : Value} (F : Arv Z h a k ty z vs dv) (q : ws = vs) : Arv Z h a k ty z ws dv := q ▸ F
end Own
theorem own_rb {z w : Int32} (h : z = w) (hz : nar .boolean z = z := by decide) : (some (Value.int (nar .boolean z)) : Option Value) = some (.int w) := by rw [hz, h]
theorem own_fld_int {Z : State} {args : Array Value} {t : Term} {a : Addr} {C n : String} {z : Int32} (ht : t.eval args Z none [] Z = some (.ref a)) (h : (Jvm.Cond.eq (.field t C n "I") (.int z)).value args Z none Z [] = some true) : Fld Z Z.heap a C n "I" (.int z) := by
  obtain ⟨x, y, h1, h2, k1, k2⟩ := cmp_v (Or.inl h)
  have hy : y = .int z := (Option.some.inj h2).symm
  subst hy
  obtain ⟨w, rfl⟩ := k2
  have hw : w = z := by
    have q := h
    simp only [Cond.value, h1, h2] at q
    simpa using q
  subst hw
  rw [fld_at ht] at h1
  exact Fld.start h1
theorem own_three (p : Int32) {i : Int32} (q : i = ((p &&& (2147483647 : Int32)) % (3 : Int32))) : i = 0 ∨ i = 1 ∨ i = 2 := by
  have a := c_mask p 2147483647 31 (by decide) (by decide)
  have b := (c_irem (p &&& (2147483647 : Int32)) 3 3 rfl).1 (by omega)
  rw [← q] at b
  have h0 : (0 : Int32).toInt = 0 := rfl
  have h1 : (1 : Int32).toInt = 1 := rfl
  have h2 : (2 : Int32).toInt = 2 := rfl
  rw [← Int32.toInt_inj, ← Int32.toInt_inj, ← Int32.toInt_inj]
  omega
theorem d_method_2_0 : decode method_2_code 0 = .ok (.iload_n 0, 1) := by decide +kernel
theorem d_method_2_1 : decode method_2_code 1 = .ok (.ifCond .ne 7, 3) := by decide +kernel
theorem d_method_2_4 : decode method_2_code 4 = .ok (.getstatic 7, 3) := by decide +kernel
theorem d_method_2_7 : decode method_2_code 7 = .ok (.areturn, 1) := by decide +kernel
theorem ef_0 (m : MethodId) (x0 : Int32) : entryFrame m #[(.int x0)] 1 = mkF m 0 #[.val (.int x0)] [] := by first | (simp [entryFrame, mkF, argsToLocals, Value.category]; done) | rfl
theorem pn_0 : plainName "com/example/grantbook/grantbook/model/PermissionIncludesPinLaw" = true := by first | (simp [plainName, overriddenIn]; done) | decide +kernel
def Q_pick0 (Z : State) (s0 : Addr) (s1 : Addr) (s2 : Addr) (h0 : Heap) (n0 : Nat) (v : Option Value) (h : Heap) (L : List Loc) : Prop := v = some (.ref s0) ∧ Fr n0 L ∧ h = h0
set_option maxRecDepth 65536 in
set_option maxHeartbeats 40000000 in
theorem rm_pick0 (l : Launch) (Z : State) (a0 : Array Value) (hw : ∀ d ∈ tables_1, d.before a0 Z = true) (ws : List Jvm.Cond) (s0 : Addr) (s1 : Addr) (s2 : Addr) (h0 : Heap) (n0 : Nat) (Z0 : n0 ≤ h0.size) (S_OAUTH_CLIENT_READ : Sta Z h0 "com/example/grantbook/grantbook/model/Permission" "OAUTH_CLIENT_READ" "Lcom/example/grantbook/grantbook/model/Permission;" (.ref s0)) (S_OAUTH_CLIENT_WRITE : Sta Z h0 "com/example/grantbook/grantbook/model/Permission" "OAUTH_CLIENT_WRITE" "Lcom/example/grantbook/grantbook/model/Permission;" (.ref s1)) (S_OAUTH_CLIENT_REGISTER : Sta Z h0 "com/example/grantbook/grantbook/model/Permission" "OAUTH_CLIENT_REGISTER" "Lcom/example/grantbook/grantbook/model/Permission;" (.ref s2)) :
    MetFree l (⟨"com/example/grantbook/grantbook/model/PermissionIncludesPinLaw", "pick", "(I)Lcom/example/grantbook/grantbook/model/Permission;"⟩ : MethodName) (head1 (Jvm.Cond.code (⟨"com/example/grantbook/grantbook/model/PermissionIncludesPinLaw", "pick", "(I)Lcom/example/grantbook/grantbook/model/Permission;"⟩ : MethodName) method_2_code 1 (some (.object "com/example/grantbook/grantbook/model/Permission")) :: ws) ({ frames := 0, cells := 0, slots := 0, locals := 0 } : Room)) (fun aA U => aA = #[(.int (0 : Int32))] ∧ Z.Warmed39 U.vm ∧ U.heap = h0) (fun _ _ _ _ _ => True) (fun _ U oO U' => ∃ vV LL, oO = .returned vV ∧ Q_pick0 Z s0 s1 s2 h0 n0 vV U'.heap LL ∧ FrameEnd U oO U' LL ({ frames := 0, cells := 0, slots := 0, locals := 0 } : Room).cells ({ frames := 0, cells := 0, slots := 0, locals := 0 } : Room).slots) := by
  refine MetFree.of_bodySF (plainFor_of_name pn_0) hisR ?_
  intro p e s m args below meth c s₁ Bd hml0 hP hK
  obtain ⟨rfl, hZ, hh⟩ := hP
  have hx := Bd.exec
  have hby := Bd.bytes
  have hml : c.maxLocals = 1 := hml0
  have hown : s.vm.findClass "com/example/grantbook/grantbook/model/PermissionIncludesPinLaw" = some m.cls := findClass_of_methodNamed Bd.named
  have hnm := (name_of_methodNamed Bd.named Bd.method).1
  have X0 : Stand p l e ({ frames := 0, cells := 0, slots := 0, locals := 0 } : Room) s m #[(.int (0 : Int32))] below meth c s₁ [] 0 0 := Stand.of_body Bd
  have e0 : s₁.heap = h0 := by rw [← hh, Bd.state]; rfl
  have N0 := Fr.nil n0
  have hret := Bd.returns
  have hlk : meth.locks = false := Bd.notSynchronized
  refine own_start (ef_0 m (0 : Int32)) ?_
  show own_Go p e below s (Q_pick0 Z s0 s1 s2 h0 n0) ({ frames := 0, cells := 0, slots := 0, locals := 0 } : Room).cells ({ frames := 0, cells := 0, slots := 0, locals := 0 } : Room).slots (s₁.setTop (mkF m 0 #[.val (.int (0 : Int32))] []))
  refine g_iload_n X0 hx 1 (hb hby d_method_2_0) rfl rfl ?_
  refine g_ifNo X0 hx 4 (hb hby d_method_2_1) (own_i0_ne_f (by decide)) rfl ?_
  refine own_getS X0 hx hZ hown (host := "") (Or.inl (hw _ (List.mem_of_getElem? (i := 5) rfl))) Via.refl e0 S_OAUTH_CLIENT_READ 7 (hb hby d_method_2_4) rfl fun T1 X1 e1 => ?_
  refine own_retA X1 hx hlk hret rfl rfl (hb hby d_method_2_7) ?_ (by decide) (by decide)
  rw [e1]
  exact ⟨rfl, N0, rfl⟩
theorem d_method_2_8 : decode method_2_code 8 = .ok (.iload_n 0, 1) := by decide +kernel
theorem d_method_2_9 : decode method_2_code 9 = .ok (.iconst 1, 1) := by decide +kernel
theorem d_method_2_10 : decode method_2_code 10 = .ok (.if_icmp .ne 7, 3) := by decide +kernel
theorem d_method_2_13 : decode method_2_code 13 = .ok (.getstatic 13, 3) := by decide +kernel
theorem d_method_2_16 : decode method_2_code 16 = .ok (.areturn, 1) := by decide +kernel
def Q_pick1 (Z : State) (s0 : Addr) (s1 : Addr) (s2 : Addr) (h0 : Heap) (n0 : Nat) (v : Option Value) (h : Heap) (L : List Loc) : Prop := v = some (.ref s1) ∧ Fr n0 L ∧ h = h0
set_option maxRecDepth 65536 in
set_option maxHeartbeats 40000000 in
theorem rm_pick1 (l : Launch) (Z : State) (a0 : Array Value) (hw : ∀ d ∈ tables_1, d.before a0 Z = true) (ws : List Jvm.Cond) (s0 : Addr) (s1 : Addr) (s2 : Addr) (h0 : Heap) (n0 : Nat) (Z0 : n0 ≤ h0.size) (S_OAUTH_CLIENT_READ : Sta Z h0 "com/example/grantbook/grantbook/model/Permission" "OAUTH_CLIENT_READ" "Lcom/example/grantbook/grantbook/model/Permission;" (.ref s0)) (S_OAUTH_CLIENT_WRITE : Sta Z h0 "com/example/grantbook/grantbook/model/Permission" "OAUTH_CLIENT_WRITE" "Lcom/example/grantbook/grantbook/model/Permission;" (.ref s1)) (S_OAUTH_CLIENT_REGISTER : Sta Z h0 "com/example/grantbook/grantbook/model/Permission" "OAUTH_CLIENT_REGISTER" "Lcom/example/grantbook/grantbook/model/Permission;" (.ref s2)) :
    MetFree l (⟨"com/example/grantbook/grantbook/model/PermissionIncludesPinLaw", "pick", "(I)Lcom/example/grantbook/grantbook/model/Permission;"⟩ : MethodName) (head1 (Jvm.Cond.code (⟨"com/example/grantbook/grantbook/model/PermissionIncludesPinLaw", "pick", "(I)Lcom/example/grantbook/grantbook/model/Permission;"⟩ : MethodName) method_2_code 1 (some (.object "com/example/grantbook/grantbook/model/Permission")) :: ws) ({ frames := 0, cells := 0, slots := 0, locals := 0 } : Room)) (fun aA U => aA = #[(.int (1 : Int32))] ∧ Z.Warmed39 U.vm ∧ U.heap = h0) (fun _ _ _ _ _ => True) (fun _ U oO U' => ∃ vV LL, oO = .returned vV ∧ Q_pick1 Z s0 s1 s2 h0 n0 vV U'.heap LL ∧ FrameEnd U oO U' LL ({ frames := 0, cells := 0, slots := 0, locals := 0 } : Room).cells ({ frames := 0, cells := 0, slots := 0, locals := 0 } : Room).slots) := by
  refine MetFree.of_bodySF (plainFor_of_name pn_0) hisR ?_
  intro p e s m args below meth c s₁ Bd hml0 hP hK
  obtain ⟨rfl, hZ, hh⟩ := hP
  have hx := Bd.exec
  have hby := Bd.bytes
  have hml : c.maxLocals = 1 := hml0
  have hown : s.vm.findClass "com/example/grantbook/grantbook/model/PermissionIncludesPinLaw" = some m.cls := findClass_of_methodNamed Bd.named
  have hnm := (name_of_methodNamed Bd.named Bd.method).1
  have X0 : Stand p l e ({ frames := 0, cells := 0, slots := 0, locals := 0 } : Room) s m #[(.int (1 : Int32))] below meth c s₁ [] 0 0 := Stand.of_body Bd
  have e0 : s₁.heap = h0 := by rw [← hh, Bd.state]; rfl
  have N0 := Fr.nil n0
  have hret := Bd.returns
  have hlk : meth.locks = false := Bd.notSynchronized
  refine own_start (ef_0 m (1 : Int32)) ?_
  show own_Go p e below s (Q_pick1 Z s0 s1 s2 h0 n0) ({ frames := 0, cells := 0, slots := 0, locals := 0 } : Room).cells ({ frames := 0, cells := 0, slots := 0, locals := 0 } : Room).slots (s₁.setTop (mkF m 0 #[.val (.int (1 : Int32))] []))
  refine g_iload_n X0 hx 1 (hb hby d_method_2_0) rfl rfl ?_
  refine g_ifYes X0 hx 8 (hb hby d_method_2_1) (own_i0_ne_t (by decide)) (by decide) (by decide) ?_
  refine g_iload_n X0 hx 9 (hb hby d_method_2_8) rfl rfl ?_
  refine g_iconst X0 hx 10 (hb hby d_method_2_9) (1 : Int32) rfl rfl ?_
  refine g_icmpNo X0 hx 13 (hb hby d_method_2_10) (own_ii_ne_f (by decide)) rfl ?_
  refine own_getS X0 hx hZ hown (host := "") (Or.inl (hw _ (List.mem_of_getElem? (i := 16) rfl))) Via.refl e0 S_OAUTH_CLIENT_WRITE 16 (hb hby d_method_2_13) rfl fun T2 X2 e2 => ?_
  refine own_retA X2 hx hlk hret rfl rfl (hb hby d_method_2_16) ?_ (by decide) (by decide)
  rw [e2]
  exact ⟨rfl, N0, rfl⟩
theorem d_method_2_17 : decode method_2_code 17 = .ok (.getstatic 16, 3) := by decide +kernel
theorem d_method_2_20 : decode method_2_code 20 = .ok (.areturn, 1) := by decide +kernel
def Q_pick2 (Z : State) (s0 : Addr) (s1 : Addr) (s2 : Addr) (h0 : Heap) (n0 : Nat) (v : Option Value) (h : Heap) (L : List Loc) : Prop := v = some (.ref s2) ∧ Fr n0 L ∧ h = h0
set_option maxRecDepth 65536 in
set_option maxHeartbeats 40000000 in
theorem rm_pick2 (l : Launch) (Z : State) (a0 : Array Value) (hw : ∀ d ∈ tables_1, d.before a0 Z = true) (ws : List Jvm.Cond) (s0 : Addr) (s1 : Addr) (s2 : Addr) (h0 : Heap) (n0 : Nat) (Z0 : n0 ≤ h0.size) (S_OAUTH_CLIENT_READ : Sta Z h0 "com/example/grantbook/grantbook/model/Permission" "OAUTH_CLIENT_READ" "Lcom/example/grantbook/grantbook/model/Permission;" (.ref s0)) (S_OAUTH_CLIENT_WRITE : Sta Z h0 "com/example/grantbook/grantbook/model/Permission" "OAUTH_CLIENT_WRITE" "Lcom/example/grantbook/grantbook/model/Permission;" (.ref s1)) (S_OAUTH_CLIENT_REGISTER : Sta Z h0 "com/example/grantbook/grantbook/model/Permission" "OAUTH_CLIENT_REGISTER" "Lcom/example/grantbook/grantbook/model/Permission;" (.ref s2)) :
    MetFree l (⟨"com/example/grantbook/grantbook/model/PermissionIncludesPinLaw", "pick", "(I)Lcom/example/grantbook/grantbook/model/Permission;"⟩ : MethodName) (head1 (Jvm.Cond.code (⟨"com/example/grantbook/grantbook/model/PermissionIncludesPinLaw", "pick", "(I)Lcom/example/grantbook/grantbook/model/Permission;"⟩ : MethodName) method_2_code 1 (some (.object "com/example/grantbook/grantbook/model/Permission")) :: ws) ({ frames := 0, cells := 0, slots := 0, locals := 0 } : Room)) (fun aA U => aA = #[(.int (2 : Int32))] ∧ Z.Warmed39 U.vm ∧ U.heap = h0) (fun _ _ _ _ _ => True) (fun _ U oO U' => ∃ vV LL, oO = .returned vV ∧ Q_pick2 Z s0 s1 s2 h0 n0 vV U'.heap LL ∧ FrameEnd U oO U' LL ({ frames := 0, cells := 0, slots := 0, locals := 0 } : Room).cells ({ frames := 0, cells := 0, slots := 0, locals := 0 } : Room).slots) := by
  refine MetFree.of_bodySF (plainFor_of_name pn_0) hisR ?_
  intro p e s m args below meth c s₁ Bd hml0 hP hK
  obtain ⟨rfl, hZ, hh⟩ := hP
  have hx := Bd.exec
  have hby := Bd.bytes
  have hml : c.maxLocals = 1 := hml0
  have hown : s.vm.findClass "com/example/grantbook/grantbook/model/PermissionIncludesPinLaw" = some m.cls := findClass_of_methodNamed Bd.named
  have hnm := (name_of_methodNamed Bd.named Bd.method).1
  have X0 : Stand p l e ({ frames := 0, cells := 0, slots := 0, locals := 0 } : Room) s m #[(.int (2 : Int32))] below meth c s₁ [] 0 0 := Stand.of_body Bd
  have e0 : s₁.heap = h0 := by rw [← hh, Bd.state]; rfl
  have N0 := Fr.nil n0
  have hret := Bd.returns
  have hlk : meth.locks = false := Bd.notSynchronized
  refine own_start (ef_0 m (2 : Int32)) ?_
  show own_Go p e below s (Q_pick2 Z s0 s1 s2 h0 n0) ({ frames := 0, cells := 0, slots := 0, locals := 0 } : Room).cells ({ frames := 0, cells := 0, slots := 0, locals := 0 } : Room).slots (s₁.setTop (mkF m 0 #[.val (.int (2 : Int32))] []))
  refine g_iload_n X0 hx 1 (hb hby d_method_2_0) rfl rfl ?_
  refine g_ifYes X0 hx 8 (hb hby d_method_2_1) (own_i0_ne_t (by decide)) (by decide) (by decide) ?_
  refine g_iload_n X0 hx 9 (hb hby d_method_2_8) rfl rfl ?_
  refine g_iconst X0 hx 10 (hb hby d_method_2_9) (1 : Int32) rfl rfl ?_
  refine g_icmpYes X0 hx 17 (hb hby d_method_2_10) (own_ii_ne_t (by decide)) (by decide) (by decide) ?_
  refine own_getS X0 hx hZ hown (host := "") (Or.inl (hw _ (List.mem_of_getElem? (i := 14) rfl))) Via.refl e0 S_OAUTH_CLIENT_REGISTER 20 (hb hby d_method_2_17) rfl fun T3 X3 e3 => ?_
  refine own_retA X3 hx hlk hret rfl rfl (hb hby d_method_2_20) ?_ (by decide) (by decide)
  rw [e3]
  exact ⟨rfl, N0, rfl⟩
theorem d_prog_44_method_6_0 : decode prog_44_method_6_code 0 = .ok (.aload_n 0, 1) := by decide +kernel
theorem d_prog_44_method_6_1 : decode prog_44_method_6_code 1 = .ok (.aload_n 1, 1) := by decide +kernel
theorem d_prog_44_method_6_2 : decode prog_44_method_6_code 2 = .ok (.if_acmp .eq 10, 3) := by decide +kernel
theorem d_prog_44_method_6_12 : decode prog_44_method_6_code 12 = .ok (.iconst 1, 1) := by decide +kernel
theorem d_prog_44_method_6_13 : decode prog_44_method_6_code 13 = .ok (.goto 4, 3) := by decide +kernel
theorem d_prog_44_method_6_17 : decode prog_44_method_6_code 17 = .ok (.ireturn, 1) := by decide +kernel
theorem ef_1 (m : MethodId) (x0 : Addr) (x1 : Addr) : entryFrame m #[(.ref x0), (.ref x1)] 2 = mkF m 0 #[.val (.ref x0), .val (.ref x1)] [] := by first | (simp [entryFrame, mkF, argsToLocals, Value.category]; done) | rfl
theorem pn_1 : plainName "com/example/grantbook/grantbook/model/Permission" = true := by first | (simp [plainName, overriddenIn]; done) | decide +kernel
def Q_inc00 (Z : State) (s0 : Addr) (s1 : Addr) (s2 : Addr) (h0 : Heap) (n0 : Nat) (v : Option Value) (h : Heap) (L : List Loc) : Prop := v = some (.int (1 : Int32)) ∧ Fr n0 L ∧ h = h0
set_option maxRecDepth 65536 in
set_option maxHeartbeats 40000000 in
theorem rm_inc00 (l : Launch) (Z : State) (a0 : Array Value) (hw : ∀ d ∈ tables_1, d.before a0 Z = true) (ws : List Jvm.Cond) (s0 : Addr) (s1 : Addr) (s2 : Addr) (h0 : Heap) (n0 : Nat) (Z0 : n0 ≤ h0.size) (S_OAUTH_CLIENT_READ : Sta Z h0 "com/example/grantbook/grantbook/model/Permission" "OAUTH_CLIENT_READ" "Lcom/example/grantbook/grantbook/model/Permission;" (.ref s0)) (S_OAUTH_CLIENT_WRITE : Sta Z h0 "com/example/grantbook/grantbook/model/Permission" "OAUTH_CLIENT_WRITE" "Lcom/example/grantbook/grantbook/model/Permission;" (.ref s1)) (S_OAUTH_CLIENT_REGISTER : Sta Z h0 "com/example/grantbook/grantbook/model/Permission" "OAUTH_CLIENT_REGISTER" "Lcom/example/grantbook/grantbook/model/Permission;" (.ref s2)) (ne_s0_s1 : s0 ≠ s1) (ne_s0_s2 : s0 ≠ s2) (ne_s1_s2 : s1 ≠ s2) :
    MetFree l (⟨"com/example/grantbook/grantbook/model/Permission", "includes", "(Lcom/example/grantbook/grantbook/model/Permission;)Z"⟩ : MethodName) (head1 (Jvm.Cond.code (⟨"com/example/grantbook/grantbook/model/Permission", "includes", "(Lcom/example/grantbook/grantbook/model/Permission;)Z"⟩ : MethodName) prog_44_method_6_code 2 (some .boolean) :: ws) ({ frames := 0, cells := 0, slots := 0, locals := 0 } : Room)) (fun aA U => aA = #[(.ref s0), (.ref s0)] ∧ Z.Warmed39 U.vm ∧ U.heap = h0) (fun _ _ _ _ _ => True) (fun _ U oO U' => ∃ vV LL, oO = .returned vV ∧ Q_inc00 Z s0 s1 s2 h0 n0 vV U'.heap LL ∧ FrameEnd U oO U' LL ({ frames := 0, cells := 0, slots := 0, locals := 0 } : Room).cells ({ frames := 0, cells := 0, slots := 0, locals := 0 } : Room).slots) := by
  refine MetFree.of_bodySF (plainFor_of_name pn_1) hisR ?_
  intro p e s m args below meth c s₁ Bd hml0 hP hK
  obtain ⟨rfl, hZ, hh⟩ := hP
  have hx := Bd.exec
  have hby := Bd.bytes
  have hml : c.maxLocals = 2 := hml0
  have hown : s.vm.findClass "com/example/grantbook/grantbook/model/Permission" = some m.cls := findClass_of_methodNamed Bd.named
  have hnm := (name_of_methodNamed Bd.named Bd.method).1
  have X0 : Stand p l e ({ frames := 0, cells := 0, slots := 0, locals := 0 } : Room) s m #[(.ref s0), (.ref s0)] below meth c s₁ [] 0 0 := Stand.of_body Bd
  have e0 : s₁.heap = h0 := by rw [← hh, Bd.state]; rfl
  have N0 := Fr.nil n0
  have hret := Bd.returns
  have hlk : meth.locks = false := Bd.notSynchronized
  refine own_start (ef_1 m s0 s0) ?_
  show own_Go p e below s (Q_inc00 Z s0 s1 s2 h0 n0) ({ frames := 0, cells := 0, slots := 0, locals := 0 } : Room).cells ({ frames := 0, cells := 0, slots := 0, locals := 0 } : Room).slots (s₁.setTop (mkF m 0 #[.val (.ref s0), .val (.ref s0)] []))
  refine g_aload_n X0 hx 1 (hb hby d_prog_44_method_6_0) rfl rfl rfl ?_
  refine g_aload_n X0 hx 2 (hb hby d_prog_44_method_6_1) rfl rfl rfl ?_
  refine g_acmp X0 hx (x := (.ref s0)) (y := (.ref s0)) (same := true) 12 (hb hby d_prog_44_method_6_2) rfl rfl (decide_eq_true rfl) (by decide) (by decide) ?_
  refine g_iconst X0 hx 13 (hb hby d_prog_44_method_6_12) (1 : Int32) rfl rfl ?_
  refine g_goto X0 hx 17 (hb hby d_prog_44_method_6_13) (by decide) (by decide) ?_
  refine own_retN X0 hx hlk (t := .boolean) hret (by simp) (hb hby d_prog_44_method_6_17) ?_ (by decide) (by decide)
  rw [e0]
  exact ⟨(own_rb rfl), N0, rfl⟩
theorem d_prog_44_method_6_5 : decode prog_44_method_6_code 5 = .ok (.aload_n 0, 1) := by decide +kernel
theorem d_prog_44_method_6_6 : decode prog_44_method_6_code 6 = .ok (.getstatic 7, 3) := by decide +kernel
theorem d_prog_44_method_6_9 : decode prog_44_method_6_code 9 = .ok (.if_acmp .ne 7, 3) := by decide +kernel
theorem d_prog_44_method_6_16 : decode prog_44_method_6_code 16 = .ok (.iconst 0, 1) := by decide +kernel
def Q_inc01 (Z : State) (s0 : Addr) (s1 : Addr) (s2 : Addr) (h0 : Heap) (n0 : Nat) (v : Option Value) (h : Heap) (L : List Loc) : Prop := v = some (.int (0 : Int32)) ∧ Fr n0 L ∧ h = h0
set_option maxRecDepth 65536 in
set_option maxHeartbeats 40000000 in
theorem rm_inc01 (l : Launch) (Z : State) (a0 : Array Value) (hw : ∀ d ∈ tables_1, d.before a0 Z = true) (ws : List Jvm.Cond) (s0 : Addr) (s1 : Addr) (s2 : Addr) (h0 : Heap) (n0 : Nat) (Z0 : n0 ≤ h0.size) (S_OAUTH_CLIENT_READ : Sta Z h0 "com/example/grantbook/grantbook/model/Permission" "OAUTH_CLIENT_READ" "Lcom/example/grantbook/grantbook/model/Permission;" (.ref s0)) (S_OAUTH_CLIENT_WRITE : Sta Z h0 "com/example/grantbook/grantbook/model/Permission" "OAUTH_CLIENT_WRITE" "Lcom/example/grantbook/grantbook/model/Permission;" (.ref s1)) (S_OAUTH_CLIENT_REGISTER : Sta Z h0 "com/example/grantbook/grantbook/model/Permission" "OAUTH_CLIENT_REGISTER" "Lcom/example/grantbook/grantbook/model/Permission;" (.ref s2)) (ne_s0_s1 : s0 ≠ s1) (ne_s0_s2 : s0 ≠ s2) (ne_s1_s2 : s1 ≠ s2) :
    MetFree l (⟨"com/example/grantbook/grantbook/model/Permission", "includes", "(Lcom/example/grantbook/grantbook/model/Permission;)Z"⟩ : MethodName) (head1 (Jvm.Cond.code (⟨"com/example/grantbook/grantbook/model/Permission", "includes", "(Lcom/example/grantbook/grantbook/model/Permission;)Z"⟩ : MethodName) prog_44_method_6_code 2 (some .boolean) :: ws) ({ frames := 0, cells := 0, slots := 0, locals := 0 } : Room)) (fun aA U => aA = #[(.ref s0), (.ref s1)] ∧ Z.Warmed39 U.vm ∧ U.heap = h0) (fun _ _ _ _ _ => True) (fun _ U oO U' => ∃ vV LL, oO = .returned vV ∧ Q_inc01 Z s0 s1 s2 h0 n0 vV U'.heap LL ∧ FrameEnd U oO U' LL ({ frames := 0, cells := 0, slots := 0, locals := 0 } : Room).cells ({ frames := 0, cells := 0, slots := 0, locals := 0 } : Room).slots) := by
  refine MetFree.of_bodySF (plainFor_of_name pn_1) hisR ?_
  intro p e s m args below meth c s₁ Bd hml0 hP hK
  obtain ⟨rfl, hZ, hh⟩ := hP
  have hx := Bd.exec
  have hby := Bd.bytes
  have hml : c.maxLocals = 2 := hml0
  have hown : s.vm.findClass "com/example/grantbook/grantbook/model/Permission" = some m.cls := findClass_of_methodNamed Bd.named
  have hnm := (name_of_methodNamed Bd.named Bd.method).1
  have X0 : Stand p l e ({ frames := 0, cells := 0, slots := 0, locals := 0 } : Room) s m #[(.ref s0), (.ref s1)] below meth c s₁ [] 0 0 := Stand.of_body Bd
  have e0 : s₁.heap = h0 := by rw [← hh, Bd.state]; rfl
  have N0 := Fr.nil n0
  have hret := Bd.returns
  have hlk : meth.locks = false := Bd.notSynchronized
  refine own_start (ef_1 m s0 s1) ?_
  show own_Go p e below s (Q_inc01 Z s0 s1 s2 h0 n0) ({ frames := 0, cells := 0, slots := 0, locals := 0 } : Room).cells ({ frames := 0, cells := 0, slots := 0, locals := 0 } : Room).slots (s₁.setTop (mkF m 0 #[.val (.ref s0), .val (.ref s1)] []))
  refine g_aload_n X0 hx 1 (hb hby d_prog_44_method_6_0) rfl rfl rfl ?_
  refine g_aload_n X0 hx 2 (hb hby d_prog_44_method_6_1) rfl rfl rfl ?_
  refine g_acmp X0 hx (x := (.ref s0)) (y := (.ref s1)) (same := false) 5 (hb hby d_prog_44_method_6_2) rfl rfl (decide_eq_false fun q => ne_s0_s1 (Value.ref.inj q)) (by decide) (by decide) ?_
  refine g_aload_n X0 hx 6 (hb hby d_prog_44_method_6_5) rfl rfl rfl ?_
  refine own_getS X0 hx hZ hown (host := "") (Or.inl (hw _ (List.mem_of_getElem? (i := 18) rfl))) Via.refl e0 S_OAUTH_CLIENT_WRITE 9 (hb hby d_prog_44_method_6_6) rfl fun T4 X4 e4 => ?_
  refine g_acmp X4 hx (x := (.ref s0)) (y := (.ref s1)) (same := false) 16 (hb hby d_prog_44_method_6_9) rfl rfl (decide_eq_false fun q => ne_s0_s1 (Value.ref.inj q)) (by decide) (by decide) ?_
  refine g_iconst X4 hx 17 (hb hby d_prog_44_method_6_16) (0 : Int32) rfl rfl ?_
  refine own_retN X4 hx hlk (t := .boolean) hret (by simp) (hb hby d_prog_44_method_6_17) ?_ (by decide) (by decide)
  rw [e4]
  exact ⟨(own_rb rfl), N0, rfl⟩
def Q_inc02 (Z : State) (s0 : Addr) (s1 : Addr) (s2 : Addr) (h0 : Heap) (n0 : Nat) (v : Option Value) (h : Heap) (L : List Loc) : Prop := v = some (.int (0 : Int32)) ∧ Fr n0 L ∧ h = h0
set_option maxRecDepth 65536 in
set_option maxHeartbeats 40000000 in
theorem rm_inc02 (l : Launch) (Z : State) (a0 : Array Value) (hw : ∀ d ∈ tables_1, d.before a0 Z = true) (ws : List Jvm.Cond) (s0 : Addr) (s1 : Addr) (s2 : Addr) (h0 : Heap) (n0 : Nat) (Z0 : n0 ≤ h0.size) (S_OAUTH_CLIENT_READ : Sta Z h0 "com/example/grantbook/grantbook/model/Permission" "OAUTH_CLIENT_READ" "Lcom/example/grantbook/grantbook/model/Permission;" (.ref s0)) (S_OAUTH_CLIENT_WRITE : Sta Z h0 "com/example/grantbook/grantbook/model/Permission" "OAUTH_CLIENT_WRITE" "Lcom/example/grantbook/grantbook/model/Permission;" (.ref s1)) (S_OAUTH_CLIENT_REGISTER : Sta Z h0 "com/example/grantbook/grantbook/model/Permission" "OAUTH_CLIENT_REGISTER" "Lcom/example/grantbook/grantbook/model/Permission;" (.ref s2)) (ne_s0_s1 : s0 ≠ s1) (ne_s0_s2 : s0 ≠ s2) (ne_s1_s2 : s1 ≠ s2) :
    MetFree l (⟨"com/example/grantbook/grantbook/model/Permission", "includes", "(Lcom/example/grantbook/grantbook/model/Permission;)Z"⟩ : MethodName) (head1 (Jvm.Cond.code (⟨"com/example/grantbook/grantbook/model/Permission", "includes", "(Lcom/example/grantbook/grantbook/model/Permission;)Z"⟩ : MethodName) prog_44_method_6_code 2 (some .boolean) :: ws) ({ frames := 0, cells := 0, slots := 0, locals := 0 } : Room)) (fun aA U => aA = #[(.ref s0), (.ref s2)] ∧ Z.Warmed39 U.vm ∧ U.heap = h0) (fun _ _ _ _ _ => True) (fun _ U oO U' => ∃ vV LL, oO = .returned vV ∧ Q_inc02 Z s0 s1 s2 h0 n0 vV U'.heap LL ∧ FrameEnd U oO U' LL ({ frames := 0, cells := 0, slots := 0, locals := 0 } : Room).cells ({ frames := 0, cells := 0, slots := 0, locals := 0 } : Room).slots) := by
  refine MetFree.of_bodySF (plainFor_of_name pn_1) hisR ?_
  intro p e s m args below meth c s₁ Bd hml0 hP hK
  obtain ⟨rfl, hZ, hh⟩ := hP
  have hx := Bd.exec
  have hby := Bd.bytes
  have hml : c.maxLocals = 2 := hml0
  have hown : s.vm.findClass "com/example/grantbook/grantbook/model/Permission" = some m.cls := findClass_of_methodNamed Bd.named
  have hnm := (name_of_methodNamed Bd.named Bd.method).1
  have X0 : Stand p l e ({ frames := 0, cells := 0, slots := 0, locals := 0 } : Room) s m #[(.ref s0), (.ref s2)] below meth c s₁ [] 0 0 := Stand.of_body Bd
  have e0 : s₁.heap = h0 := by rw [← hh, Bd.state]; rfl
  have N0 := Fr.nil n0
  have hret := Bd.returns
  have hlk : meth.locks = false := Bd.notSynchronized
  refine own_start (ef_1 m s0 s2) ?_
  show own_Go p e below s (Q_inc02 Z s0 s1 s2 h0 n0) ({ frames := 0, cells := 0, slots := 0, locals := 0 } : Room).cells ({ frames := 0, cells := 0, slots := 0, locals := 0 } : Room).slots (s₁.setTop (mkF m 0 #[.val (.ref s0), .val (.ref s2)] []))
  refine g_aload_n X0 hx 1 (hb hby d_prog_44_method_6_0) rfl rfl rfl ?_
  refine g_aload_n X0 hx 2 (hb hby d_prog_44_method_6_1) rfl rfl rfl ?_
  refine g_acmp X0 hx (x := (.ref s0)) (y := (.ref s2)) (same := false) 5 (hb hby d_prog_44_method_6_2) rfl rfl (decide_eq_false fun q => ne_s0_s2 (Value.ref.inj q)) (by decide) (by decide) ?_
  refine g_aload_n X0 hx 6 (hb hby d_prog_44_method_6_5) rfl rfl rfl ?_
  refine own_getS X0 hx hZ hown (host := "") (Or.inl (hw _ (List.mem_of_getElem? (i := 18) rfl))) Via.refl e0 S_OAUTH_CLIENT_WRITE 9 (hb hby d_prog_44_method_6_6) rfl fun T5 X5 e5 => ?_
  refine g_acmp X5 hx (x := (.ref s0)) (y := (.ref s1)) (same := false) 16 (hb hby d_prog_44_method_6_9) rfl rfl (decide_eq_false fun q => ne_s0_s1 (Value.ref.inj q)) (by decide) (by decide) ?_
  refine g_iconst X5 hx 17 (hb hby d_prog_44_method_6_16) (0 : Int32) rfl rfl ?_
  refine own_retN X5 hx hlk (t := .boolean) hret (by simp) (hb hby d_prog_44_method_6_17) ?_ (by decide) (by decide)
  rw [e5]
  exact ⟨(own_rb rfl), N0, rfl⟩
def Q_inc10 (Z : State) (s0 : Addr) (s1 : Addr) (s2 : Addr) (h0 : Heap) (n0 : Nat) (v : Option Value) (h : Heap) (L : List Loc) : Prop := v = some (.int (1 : Int32)) ∧ Fr n0 L ∧ h = h0
set_option maxRecDepth 65536 in
set_option maxHeartbeats 40000000 in
theorem rm_inc10 (l : Launch) (Z : State) (a0 : Array Value) (hw : ∀ d ∈ tables_1, d.before a0 Z = true) (ws : List Jvm.Cond) (s0 : Addr) (s1 : Addr) (s2 : Addr) (h0 : Heap) (n0 : Nat) (Z0 : n0 ≤ h0.size) (S_OAUTH_CLIENT_READ : Sta Z h0 "com/example/grantbook/grantbook/model/Permission" "OAUTH_CLIENT_READ" "Lcom/example/grantbook/grantbook/model/Permission;" (.ref s0)) (S_OAUTH_CLIENT_WRITE : Sta Z h0 "com/example/grantbook/grantbook/model/Permission" "OAUTH_CLIENT_WRITE" "Lcom/example/grantbook/grantbook/model/Permission;" (.ref s1)) (S_OAUTH_CLIENT_REGISTER : Sta Z h0 "com/example/grantbook/grantbook/model/Permission" "OAUTH_CLIENT_REGISTER" "Lcom/example/grantbook/grantbook/model/Permission;" (.ref s2)) (ne_s0_s1 : s0 ≠ s1) (ne_s0_s2 : s0 ≠ s2) (ne_s1_s2 : s1 ≠ s2) :
    MetFree l (⟨"com/example/grantbook/grantbook/model/Permission", "includes", "(Lcom/example/grantbook/grantbook/model/Permission;)Z"⟩ : MethodName) (head1 (Jvm.Cond.code (⟨"com/example/grantbook/grantbook/model/Permission", "includes", "(Lcom/example/grantbook/grantbook/model/Permission;)Z"⟩ : MethodName) prog_44_method_6_code 2 (some .boolean) :: ws) ({ frames := 0, cells := 0, slots := 0, locals := 0 } : Room)) (fun aA U => aA = #[(.ref s1), (.ref s0)] ∧ Z.Warmed39 U.vm ∧ U.heap = h0) (fun _ _ _ _ _ => True) (fun _ U oO U' => ∃ vV LL, oO = .returned vV ∧ Q_inc10 Z s0 s1 s2 h0 n0 vV U'.heap LL ∧ FrameEnd U oO U' LL ({ frames := 0, cells := 0, slots := 0, locals := 0 } : Room).cells ({ frames := 0, cells := 0, slots := 0, locals := 0 } : Room).slots) := by
  refine MetFree.of_bodySF (plainFor_of_name pn_1) hisR ?_
  intro p e s m args below meth c s₁ Bd hml0 hP hK
  obtain ⟨rfl, hZ, hh⟩ := hP
  have hx := Bd.exec
  have hby := Bd.bytes
  have hml : c.maxLocals = 2 := hml0
  have hown : s.vm.findClass "com/example/grantbook/grantbook/model/Permission" = some m.cls := findClass_of_methodNamed Bd.named
  have hnm := (name_of_methodNamed Bd.named Bd.method).1
  have X0 : Stand p l e ({ frames := 0, cells := 0, slots := 0, locals := 0 } : Room) s m #[(.ref s1), (.ref s0)] below meth c s₁ [] 0 0 := Stand.of_body Bd
  have e0 : s₁.heap = h0 := by rw [← hh, Bd.state]; rfl
  have N0 := Fr.nil n0
  have hret := Bd.returns
  have hlk : meth.locks = false := Bd.notSynchronized
  refine own_start (ef_1 m s1 s0) ?_
  show own_Go p e below s (Q_inc10 Z s0 s1 s2 h0 n0) ({ frames := 0, cells := 0, slots := 0, locals := 0 } : Room).cells ({ frames := 0, cells := 0, slots := 0, locals := 0 } : Room).slots (s₁.setTop (mkF m 0 #[.val (.ref s1), .val (.ref s0)] []))
  refine g_aload_n X0 hx 1 (hb hby d_prog_44_method_6_0) rfl rfl rfl ?_
  refine g_aload_n X0 hx 2 (hb hby d_prog_44_method_6_1) rfl rfl rfl ?_
  refine g_acmp X0 hx (x := (.ref s1)) (y := (.ref s0)) (same := false) 5 (hb hby d_prog_44_method_6_2) rfl rfl (decide_eq_false fun q => (Ne.symm ne_s0_s1) (Value.ref.inj q)) (by decide) (by decide) ?_
  refine g_aload_n X0 hx 6 (hb hby d_prog_44_method_6_5) rfl rfl rfl ?_
  refine own_getS X0 hx hZ hown (host := "") (Or.inl (hw _ (List.mem_of_getElem? (i := 18) rfl))) Via.refl e0 S_OAUTH_CLIENT_WRITE 9 (hb hby d_prog_44_method_6_6) rfl fun T6 X6 e6 => ?_
  refine g_acmp X6 hx (x := (.ref s1)) (y := (.ref s1)) (same := true) 12 (hb hby d_prog_44_method_6_9) rfl rfl (decide_eq_true rfl) (by decide) (by decide) ?_
  refine g_iconst X6 hx 13 (hb hby d_prog_44_method_6_12) (1 : Int32) rfl rfl ?_
  refine g_goto X6 hx 17 (hb hby d_prog_44_method_6_13) (by decide) (by decide) ?_
  refine own_retN X6 hx hlk (t := .boolean) hret (by simp) (hb hby d_prog_44_method_6_17) ?_ (by decide) (by decide)
  rw [e6]
  exact ⟨(own_rb rfl), N0, rfl⟩
def Q_inc11 (Z : State) (s0 : Addr) (s1 : Addr) (s2 : Addr) (h0 : Heap) (n0 : Nat) (v : Option Value) (h : Heap) (L : List Loc) : Prop := v = some (.int (1 : Int32)) ∧ Fr n0 L ∧ h = h0
set_option maxRecDepth 65536 in
set_option maxHeartbeats 40000000 in
theorem rm_inc11 (l : Launch) (Z : State) (a0 : Array Value) (hw : ∀ d ∈ tables_1, d.before a0 Z = true) (ws : List Jvm.Cond) (s0 : Addr) (s1 : Addr) (s2 : Addr) (h0 : Heap) (n0 : Nat) (Z0 : n0 ≤ h0.size) (S_OAUTH_CLIENT_READ : Sta Z h0 "com/example/grantbook/grantbook/model/Permission" "OAUTH_CLIENT_READ" "Lcom/example/grantbook/grantbook/model/Permission;" (.ref s0)) (S_OAUTH_CLIENT_WRITE : Sta Z h0 "com/example/grantbook/grantbook/model/Permission" "OAUTH_CLIENT_WRITE" "Lcom/example/grantbook/grantbook/model/Permission;" (.ref s1)) (S_OAUTH_CLIENT_REGISTER : Sta Z h0 "com/example/grantbook/grantbook/model/Permission" "OAUTH_CLIENT_REGISTER" "Lcom/example/grantbook/grantbook/model/Permission;" (.ref s2)) (ne_s0_s1 : s0 ≠ s1) (ne_s0_s2 : s0 ≠ s2) (ne_s1_s2 : s1 ≠ s2) :
    MetFree l (⟨"com/example/grantbook/grantbook/model/Permission", "includes", "(Lcom/example/grantbook/grantbook/model/Permission;)Z"⟩ : MethodName) (head1 (Jvm.Cond.code (⟨"com/example/grantbook/grantbook/model/Permission", "includes", "(Lcom/example/grantbook/grantbook/model/Permission;)Z"⟩ : MethodName) prog_44_method_6_code 2 (some .boolean) :: ws) ({ frames := 0, cells := 0, slots := 0, locals := 0 } : Room)) (fun aA U => aA = #[(.ref s1), (.ref s1)] ∧ Z.Warmed39 U.vm ∧ U.heap = h0) (fun _ _ _ _ _ => True) (fun _ U oO U' => ∃ vV LL, oO = .returned vV ∧ Q_inc11 Z s0 s1 s2 h0 n0 vV U'.heap LL ∧ FrameEnd U oO U' LL ({ frames := 0, cells := 0, slots := 0, locals := 0 } : Room).cells ({ frames := 0, cells := 0, slots := 0, locals := 0 } : Room).slots) := by
  refine MetFree.of_bodySF (plainFor_of_name pn_1) hisR ?_
  intro p e s m args below meth c s₁ Bd hml0 hP hK
  obtain ⟨rfl, hZ, hh⟩ := hP
  have hx := Bd.exec
  have hby := Bd.bytes
  have hml : c.maxLocals = 2 := hml0
  have hown : s.vm.findClass "com/example/grantbook/grantbook/model/Permission" = some m.cls := findClass_of_methodNamed Bd.named
  have hnm := (name_of_methodNamed Bd.named Bd.method).1
  have X0 : Stand p l e ({ frames := 0, cells := 0, slots := 0, locals := 0 } : Room) s m #[(.ref s1), (.ref s1)] below meth c s₁ [] 0 0 := Stand.of_body Bd
  have e0 : s₁.heap = h0 := by rw [← hh, Bd.state]; rfl
  have N0 := Fr.nil n0
  have hret := Bd.returns
  have hlk : meth.locks = false := Bd.notSynchronized
  refine own_start (ef_1 m s1 s1) ?_
  show own_Go p e below s (Q_inc11 Z s0 s1 s2 h0 n0) ({ frames := 0, cells := 0, slots := 0, locals := 0 } : Room).cells ({ frames := 0, cells := 0, slots := 0, locals := 0 } : Room).slots (s₁.setTop (mkF m 0 #[.val (.ref s1), .val (.ref s1)] []))
  refine g_aload_n X0 hx 1 (hb hby d_prog_44_method_6_0) rfl rfl rfl ?_
  refine g_aload_n X0 hx 2 (hb hby d_prog_44_method_6_1) rfl rfl rfl ?_
  refine g_acmp X0 hx (x := (.ref s1)) (y := (.ref s1)) (same := true) 12 (hb hby d_prog_44_method_6_2) rfl rfl (decide_eq_true rfl) (by decide) (by decide) ?_
  refine g_iconst X0 hx 13 (hb hby d_prog_44_method_6_12) (1 : Int32) rfl rfl ?_
  refine g_goto X0 hx 17 (hb hby d_prog_44_method_6_13) (by decide) (by decide) ?_
  refine own_retN X0 hx hlk (t := .boolean) hret (by simp) (hb hby d_prog_44_method_6_17) ?_ (by decide) (by decide)
  rw [e0]
  exact ⟨(own_rb rfl), N0, rfl⟩
def Q_inc12 (Z : State) (s0 : Addr) (s1 : Addr) (s2 : Addr) (h0 : Heap) (n0 : Nat) (v : Option Value) (h : Heap) (L : List Loc) : Prop := v = some (.int (1 : Int32)) ∧ Fr n0 L ∧ h = h0
set_option maxRecDepth 65536 in
set_option maxHeartbeats 40000000 in
theorem rm_inc12 (l : Launch) (Z : State) (a0 : Array Value) (hw : ∀ d ∈ tables_1, d.before a0 Z = true) (ws : List Jvm.Cond) (s0 : Addr) (s1 : Addr) (s2 : Addr) (h0 : Heap) (n0 : Nat) (Z0 : n0 ≤ h0.size) (S_OAUTH_CLIENT_READ : Sta Z h0 "com/example/grantbook/grantbook/model/Permission" "OAUTH_CLIENT_READ" "Lcom/example/grantbook/grantbook/model/Permission;" (.ref s0)) (S_OAUTH_CLIENT_WRITE : Sta Z h0 "com/example/grantbook/grantbook/model/Permission" "OAUTH_CLIENT_WRITE" "Lcom/example/grantbook/grantbook/model/Permission;" (.ref s1)) (S_OAUTH_CLIENT_REGISTER : Sta Z h0 "com/example/grantbook/grantbook/model/Permission" "OAUTH_CLIENT_REGISTER" "Lcom/example/grantbook/grantbook/model/Permission;" (.ref s2)) (ne_s0_s1 : s0 ≠ s1) (ne_s0_s2 : s0 ≠ s2) (ne_s1_s2 : s1 ≠ s2) :
    MetFree l (⟨"com/example/grantbook/grantbook/model/Permission", "includes", "(Lcom/example/grantbook/grantbook/model/Permission;)Z"⟩ : MethodName) (head1 (Jvm.Cond.code (⟨"com/example/grantbook/grantbook/model/Permission", "includes", "(Lcom/example/grantbook/grantbook/model/Permission;)Z"⟩ : MethodName) prog_44_method_6_code 2 (some .boolean) :: ws) ({ frames := 0, cells := 0, slots := 0, locals := 0 } : Room)) (fun aA U => aA = #[(.ref s1), (.ref s2)] ∧ Z.Warmed39 U.vm ∧ U.heap = h0) (fun _ _ _ _ _ => True) (fun _ U oO U' => ∃ vV LL, oO = .returned vV ∧ Q_inc12 Z s0 s1 s2 h0 n0 vV U'.heap LL ∧ FrameEnd U oO U' LL ({ frames := 0, cells := 0, slots := 0, locals := 0 } : Room).cells ({ frames := 0, cells := 0, slots := 0, locals := 0 } : Room).slots) := by
  refine MetFree.of_bodySF (plainFor_of_name pn_1) hisR ?_
  intro p e s m args below meth c s₁ Bd hml0 hP hK
  obtain ⟨rfl, hZ, hh⟩ := hP
  have hx := Bd.exec
  have hby := Bd.bytes
  have hml : c.maxLocals = 2 := hml0
  have hown : s.vm.findClass "com/example/grantbook/grantbook/model/Permission" = some m.cls := findClass_of_methodNamed Bd.named
  have hnm := (name_of_methodNamed Bd.named Bd.method).1
  have X0 : Stand p l e ({ frames := 0, cells := 0, slots := 0, locals := 0 } : Room) s m #[(.ref s1), (.ref s2)] below meth c s₁ [] 0 0 := Stand.of_body Bd
  have e0 : s₁.heap = h0 := by rw [← hh, Bd.state]; rfl
  have N0 := Fr.nil n0
  have hret := Bd.returns
  have hlk : meth.locks = false := Bd.notSynchronized
  refine own_start (ef_1 m s1 s2) ?_
  show own_Go p e below s (Q_inc12 Z s0 s1 s2 h0 n0) ({ frames := 0, cells := 0, slots := 0, locals := 0 } : Room).cells ({ frames := 0, cells := 0, slots := 0, locals := 0 } : Room).slots (s₁.setTop (mkF m 0 #[.val (.ref s1), .val (.ref s2)] []))
  refine g_aload_n X0 hx 1 (hb hby d_prog_44_method_6_0) rfl rfl rfl ?_
  refine g_aload_n X0 hx 2 (hb hby d_prog_44_method_6_1) rfl rfl rfl ?_
  refine g_acmp X0 hx (x := (.ref s1)) (y := (.ref s2)) (same := false) 5 (hb hby d_prog_44_method_6_2) rfl rfl (decide_eq_false fun q => ne_s1_s2 (Value.ref.inj q)) (by decide) (by decide) ?_
  refine g_aload_n X0 hx 6 (hb hby d_prog_44_method_6_5) rfl rfl rfl ?_
  refine own_getS X0 hx hZ hown (host := "") (Or.inl (hw _ (List.mem_of_getElem? (i := 18) rfl))) Via.refl e0 S_OAUTH_CLIENT_WRITE 9 (hb hby d_prog_44_method_6_6) rfl fun T7 X7 e7 => ?_
  refine g_acmp X7 hx (x := (.ref s1)) (y := (.ref s1)) (same := true) 12 (hb hby d_prog_44_method_6_9) rfl rfl (decide_eq_true rfl) (by decide) (by decide) ?_
  refine g_iconst X7 hx 13 (hb hby d_prog_44_method_6_12) (1 : Int32) rfl rfl ?_
  refine g_goto X7 hx 17 (hb hby d_prog_44_method_6_13) (by decide) (by decide) ?_
  refine own_retN X7 hx hlk (t := .boolean) hret (by simp) (hb hby d_prog_44_method_6_17) ?_ (by decide) (by decide)
  rw [e7]
  exact ⟨(own_rb rfl), N0, rfl⟩
def Q_inc20 (Z : State) (s0 : Addr) (s1 : Addr) (s2 : Addr) (h0 : Heap) (n0 : Nat) (v : Option Value) (h : Heap) (L : List Loc) : Prop := v = some (.int (0 : Int32)) ∧ Fr n0 L ∧ h = h0
set_option maxRecDepth 65536 in
set_option maxHeartbeats 40000000 in
theorem rm_inc20 (l : Launch) (Z : State) (a0 : Array Value) (hw : ∀ d ∈ tables_1, d.before a0 Z = true) (ws : List Jvm.Cond) (s0 : Addr) (s1 : Addr) (s2 : Addr) (h0 : Heap) (n0 : Nat) (Z0 : n0 ≤ h0.size) (S_OAUTH_CLIENT_READ : Sta Z h0 "com/example/grantbook/grantbook/model/Permission" "OAUTH_CLIENT_READ" "Lcom/example/grantbook/grantbook/model/Permission;" (.ref s0)) (S_OAUTH_CLIENT_WRITE : Sta Z h0 "com/example/grantbook/grantbook/model/Permission" "OAUTH_CLIENT_WRITE" "Lcom/example/grantbook/grantbook/model/Permission;" (.ref s1)) (S_OAUTH_CLIENT_REGISTER : Sta Z h0 "com/example/grantbook/grantbook/model/Permission" "OAUTH_CLIENT_REGISTER" "Lcom/example/grantbook/grantbook/model/Permission;" (.ref s2)) (ne_s0_s1 : s0 ≠ s1) (ne_s0_s2 : s0 ≠ s2) (ne_s1_s2 : s1 ≠ s2) :
    MetFree l (⟨"com/example/grantbook/grantbook/model/Permission", "includes", "(Lcom/example/grantbook/grantbook/model/Permission;)Z"⟩ : MethodName) (head1 (Jvm.Cond.code (⟨"com/example/grantbook/grantbook/model/Permission", "includes", "(Lcom/example/grantbook/grantbook/model/Permission;)Z"⟩ : MethodName) prog_44_method_6_code 2 (some .boolean) :: ws) ({ frames := 0, cells := 0, slots := 0, locals := 0 } : Room)) (fun aA U => aA = #[(.ref s2), (.ref s0)] ∧ Z.Warmed39 U.vm ∧ U.heap = h0) (fun _ _ _ _ _ => True) (fun _ U oO U' => ∃ vV LL, oO = .returned vV ∧ Q_inc20 Z s0 s1 s2 h0 n0 vV U'.heap LL ∧ FrameEnd U oO U' LL ({ frames := 0, cells := 0, slots := 0, locals := 0 } : Room).cells ({ frames := 0, cells := 0, slots := 0, locals := 0 } : Room).slots) := by
  refine MetFree.of_bodySF (plainFor_of_name pn_1) hisR ?_
  intro p e s m args below meth c s₁ Bd hml0 hP hK
  obtain ⟨rfl, hZ, hh⟩ := hP
  have hx := Bd.exec
  have hby := Bd.bytes
  have hml : c.maxLocals = 2 := hml0
  have hown : s.vm.findClass "com/example/grantbook/grantbook/model/Permission" = some m.cls := findClass_of_methodNamed Bd.named
  have hnm := (name_of_methodNamed Bd.named Bd.method).1
  have X0 : Stand p l e ({ frames := 0, cells := 0, slots := 0, locals := 0 } : Room) s m #[(.ref s2), (.ref s0)] below meth c s₁ [] 0 0 := Stand.of_body Bd
  have e0 : s₁.heap = h0 := by rw [← hh, Bd.state]; rfl
  have N0 := Fr.nil n0
  have hret := Bd.returns
  have hlk : meth.locks = false := Bd.notSynchronized
  refine own_start (ef_1 m s2 s0) ?_
  show own_Go p e below s (Q_inc20 Z s0 s1 s2 h0 n0) ({ frames := 0, cells := 0, slots := 0, locals := 0 } : Room).cells ({ frames := 0, cells := 0, slots := 0, locals := 0 } : Room).slots (s₁.setTop (mkF m 0 #[.val (.ref s2), .val (.ref s0)] []))
  refine g_aload_n X0 hx 1 (hb hby d_prog_44_method_6_0) rfl rfl rfl ?_
  refine g_aload_n X0 hx 2 (hb hby d_prog_44_method_6_1) rfl rfl rfl ?_
  refine g_acmp X0 hx (x := (.ref s2)) (y := (.ref s0)) (same := false) 5 (hb hby d_prog_44_method_6_2) rfl rfl (decide_eq_false fun q => (Ne.symm ne_s0_s2) (Value.ref.inj q)) (by decide) (by decide) ?_
  refine g_aload_n X0 hx 6 (hb hby d_prog_44_method_6_5) rfl rfl rfl ?_
  refine own_getS X0 hx hZ hown (host := "") (Or.inl (hw _ (List.mem_of_getElem? (i := 18) rfl))) Via.refl e0 S_OAUTH_CLIENT_WRITE 9 (hb hby d_prog_44_method_6_6) rfl fun T8 X8 e8 => ?_
  refine g_acmp X8 hx (x := (.ref s2)) (y := (.ref s1)) (same := false) 16 (hb hby d_prog_44_method_6_9) rfl rfl (decide_eq_false fun q => (Ne.symm ne_s1_s2) (Value.ref.inj q)) (by decide) (by decide) ?_
  refine g_iconst X8 hx 17 (hb hby d_prog_44_method_6_16) (0 : Int32) rfl rfl ?_
  refine own_retN X8 hx hlk (t := .boolean) hret (by simp) (hb hby d_prog_44_method_6_17) ?_ (by decide) (by decide)
  rw [e8]
  exact ⟨(own_rb rfl), N0, rfl⟩
def Q_inc21 (Z : State) (s0 : Addr) (s1 : Addr) (s2 : Addr) (h0 : Heap) (n0 : Nat) (v : Option Value) (h : Heap) (L : List Loc) : Prop := v = some (.int (0 : Int32)) ∧ Fr n0 L ∧ h = h0
set_option maxRecDepth 65536 in
set_option maxHeartbeats 40000000 in
theorem rm_inc21 (l : Launch) (Z : State) (a0 : Array Value) (hw : ∀ d ∈ tables_1, d.before a0 Z = true) (ws : List Jvm.Cond) (s0 : Addr) (s1 : Addr) (s2 : Addr) (h0 : Heap) (n0 : Nat) (Z0 : n0 ≤ h0.size) (S_OAUTH_CLIENT_READ : Sta Z h0 "com/example/grantbook/grantbook/model/Permission" "OAUTH_CLIENT_READ" "Lcom/example/grantbook/grantbook/model/Permission;" (.ref s0)) (S_OAUTH_CLIENT_WRITE : Sta Z h0 "com/example/grantbook/grantbook/model/Permission" "OAUTH_CLIENT_WRITE" "Lcom/example/grantbook/grantbook/model/Permission;" (.ref s1)) (S_OAUTH_CLIENT_REGISTER : Sta Z h0 "com/example/grantbook/grantbook/model/Permission" "OAUTH_CLIENT_REGISTER" "Lcom/example/grantbook/grantbook/model/Permission;" (.ref s2)) (ne_s0_s1 : s0 ≠ s1) (ne_s0_s2 : s0 ≠ s2) (ne_s1_s2 : s1 ≠ s2) :
    MetFree l (⟨"com/example/grantbook/grantbook/model/Permission", "includes", "(Lcom/example/grantbook/grantbook/model/Permission;)Z"⟩ : MethodName) (head1 (Jvm.Cond.code (⟨"com/example/grantbook/grantbook/model/Permission", "includes", "(Lcom/example/grantbook/grantbook/model/Permission;)Z"⟩ : MethodName) prog_44_method_6_code 2 (some .boolean) :: ws) ({ frames := 0, cells := 0, slots := 0, locals := 0 } : Room)) (fun aA U => aA = #[(.ref s2), (.ref s1)] ∧ Z.Warmed39 U.vm ∧ U.heap = h0) (fun _ _ _ _ _ => True) (fun _ U oO U' => ∃ vV LL, oO = .returned vV ∧ Q_inc21 Z s0 s1 s2 h0 n0 vV U'.heap LL ∧ FrameEnd U oO U' LL ({ frames := 0, cells := 0, slots := 0, locals := 0 } : Room).cells ({ frames := 0, cells := 0, slots := 0, locals := 0 } : Room).slots) := by
  refine MetFree.of_bodySF (plainFor_of_name pn_1) hisR ?_
  intro p e s m args below meth c s₁ Bd hml0 hP hK
  obtain ⟨rfl, hZ, hh⟩ := hP
  have hx := Bd.exec
  have hby := Bd.bytes
  have hml : c.maxLocals = 2 := hml0
  have hown : s.vm.findClass "com/example/grantbook/grantbook/model/Permission" = some m.cls := findClass_of_methodNamed Bd.named
  have hnm := (name_of_methodNamed Bd.named Bd.method).1
  have X0 : Stand p l e ({ frames := 0, cells := 0, slots := 0, locals := 0 } : Room) s m #[(.ref s2), (.ref s1)] below meth c s₁ [] 0 0 := Stand.of_body Bd
  have e0 : s₁.heap = h0 := by rw [← hh, Bd.state]; rfl
  have N0 := Fr.nil n0
  have hret := Bd.returns
  have hlk : meth.locks = false := Bd.notSynchronized
  refine own_start (ef_1 m s2 s1) ?_
  show own_Go p e below s (Q_inc21 Z s0 s1 s2 h0 n0) ({ frames := 0, cells := 0, slots := 0, locals := 0 } : Room).cells ({ frames := 0, cells := 0, slots := 0, locals := 0 } : Room).slots (s₁.setTop (mkF m 0 #[.val (.ref s2), .val (.ref s1)] []))
  refine g_aload_n X0 hx 1 (hb hby d_prog_44_method_6_0) rfl rfl rfl ?_
  refine g_aload_n X0 hx 2 (hb hby d_prog_44_method_6_1) rfl rfl rfl ?_
  refine g_acmp X0 hx (x := (.ref s2)) (y := (.ref s1)) (same := false) 5 (hb hby d_prog_44_method_6_2) rfl rfl (decide_eq_false fun q => (Ne.symm ne_s1_s2) (Value.ref.inj q)) (by decide) (by decide) ?_
  refine g_aload_n X0 hx 6 (hb hby d_prog_44_method_6_5) rfl rfl rfl ?_
  refine own_getS X0 hx hZ hown (host := "") (Or.inl (hw _ (List.mem_of_getElem? (i := 18) rfl))) Via.refl e0 S_OAUTH_CLIENT_WRITE 9 (hb hby d_prog_44_method_6_6) rfl fun T9 X9 e9 => ?_
  refine g_acmp X9 hx (x := (.ref s2)) (y := (.ref s1)) (same := false) 16 (hb hby d_prog_44_method_6_9) rfl rfl (decide_eq_false fun q => (Ne.symm ne_s1_s2) (Value.ref.inj q)) (by decide) (by decide) ?_
  refine g_iconst X9 hx 17 (hb hby d_prog_44_method_6_16) (0 : Int32) rfl rfl ?_
  refine own_retN X9 hx hlk (t := .boolean) hret (by simp) (hb hby d_prog_44_method_6_17) ?_ (by decide) (by decide)
  rw [e9]
  exact ⟨(own_rb rfl), N0, rfl⟩
def Q_inc22 (Z : State) (s0 : Addr) (s1 : Addr) (s2 : Addr) (h0 : Heap) (n0 : Nat) (v : Option Value) (h : Heap) (L : List Loc) : Prop := v = some (.int (1 : Int32)) ∧ Fr n0 L ∧ h = h0
set_option maxRecDepth 65536 in
set_option maxHeartbeats 40000000 in
theorem rm_inc22 (l : Launch) (Z : State) (a0 : Array Value) (hw : ∀ d ∈ tables_1, d.before a0 Z = true) (ws : List Jvm.Cond) (s0 : Addr) (s1 : Addr) (s2 : Addr) (h0 : Heap) (n0 : Nat) (Z0 : n0 ≤ h0.size) (S_OAUTH_CLIENT_READ : Sta Z h0 "com/example/grantbook/grantbook/model/Permission" "OAUTH_CLIENT_READ" "Lcom/example/grantbook/grantbook/model/Permission;" (.ref s0)) (S_OAUTH_CLIENT_WRITE : Sta Z h0 "com/example/grantbook/grantbook/model/Permission" "OAUTH_CLIENT_WRITE" "Lcom/example/grantbook/grantbook/model/Permission;" (.ref s1)) (S_OAUTH_CLIENT_REGISTER : Sta Z h0 "com/example/grantbook/grantbook/model/Permission" "OAUTH_CLIENT_REGISTER" "Lcom/example/grantbook/grantbook/model/Permission;" (.ref s2)) (ne_s0_s1 : s0 ≠ s1) (ne_s0_s2 : s0 ≠ s2) (ne_s1_s2 : s1 ≠ s2) :
    MetFree l (⟨"com/example/grantbook/grantbook/model/Permission", "includes", "(Lcom/example/grantbook/grantbook/model/Permission;)Z"⟩ : MethodName) (head1 (Jvm.Cond.code (⟨"com/example/grantbook/grantbook/model/Permission", "includes", "(Lcom/example/grantbook/grantbook/model/Permission;)Z"⟩ : MethodName) prog_44_method_6_code 2 (some .boolean) :: ws) ({ frames := 0, cells := 0, slots := 0, locals := 0 } : Room)) (fun aA U => aA = #[(.ref s2), (.ref s2)] ∧ Z.Warmed39 U.vm ∧ U.heap = h0) (fun _ _ _ _ _ => True) (fun _ U oO U' => ∃ vV LL, oO = .returned vV ∧ Q_inc22 Z s0 s1 s2 h0 n0 vV U'.heap LL ∧ FrameEnd U oO U' LL ({ frames := 0, cells := 0, slots := 0, locals := 0 } : Room).cells ({ frames := 0, cells := 0, slots := 0, locals := 0 } : Room).slots) := by
  refine MetFree.of_bodySF (plainFor_of_name pn_1) hisR ?_
  intro p e s m args below meth c s₁ Bd hml0 hP hK
  obtain ⟨rfl, hZ, hh⟩ := hP
  have hx := Bd.exec
  have hby := Bd.bytes
  have hml : c.maxLocals = 2 := hml0
  have hown : s.vm.findClass "com/example/grantbook/grantbook/model/Permission" = some m.cls := findClass_of_methodNamed Bd.named
  have hnm := (name_of_methodNamed Bd.named Bd.method).1
  have X0 : Stand p l e ({ frames := 0, cells := 0, slots := 0, locals := 0 } : Room) s m #[(.ref s2), (.ref s2)] below meth c s₁ [] 0 0 := Stand.of_body Bd
  have e0 : s₁.heap = h0 := by rw [← hh, Bd.state]; rfl
  have N0 := Fr.nil n0
  have hret := Bd.returns
  have hlk : meth.locks = false := Bd.notSynchronized
  refine own_start (ef_1 m s2 s2) ?_
  show own_Go p e below s (Q_inc22 Z s0 s1 s2 h0 n0) ({ frames := 0, cells := 0, slots := 0, locals := 0 } : Room).cells ({ frames := 0, cells := 0, slots := 0, locals := 0 } : Room).slots (s₁.setTop (mkF m 0 #[.val (.ref s2), .val (.ref s2)] []))
  refine g_aload_n X0 hx 1 (hb hby d_prog_44_method_6_0) rfl rfl rfl ?_
  refine g_aload_n X0 hx 2 (hb hby d_prog_44_method_6_1) rfl rfl rfl ?_
  refine g_acmp X0 hx (x := (.ref s2)) (y := (.ref s2)) (same := true) 12 (hb hby d_prog_44_method_6_2) rfl rfl (decide_eq_true rfl) (by decide) (by decide) ?_
  refine g_iconst X0 hx 13 (hb hby d_prog_44_method_6_12) (1 : Int32) rfl rfl ?_
  refine g_goto X0 hx 17 (hb hby d_prog_44_method_6_13) (by decide) (by decide) ?_
  refine own_retN X0 hx hlk (t := .boolean) hret (by simp) (hb hby d_prog_44_method_6_17) ?_ (by decide) (by decide)
  rw [e0]
  exact ⟨(own_rb rfl), N0, rfl⟩
theorem pd_0 : parseMethodDescriptor "(I)Lcom/example/grantbook/grantbook/model/Permission;" = some ⟨[.int], some (.object "com/example/grantbook/grantbook/model/Permission")⟩ := by decide +kernel
theorem pd_1 : parseMethodDescriptor "(Lcom/example/grantbook/grantbook/model/Permission;)Z" = some ⟨[(.object "com/example/grantbook/grantbook/model/Permission")], some .boolean⟩ := by decide +kernel
theorem ef_2 (m : MethodId) (x0 : Int32) (x1 : Int32) : entryFrame m #[(.int x0), (.int x1)] maxLocals = mkF m 0 #[.val (.int x0), .val (.int x1), .unset, .unset, .unset, .unset, .unset, .unset] [] := by first | (simp [entryFrame, mkF, argsToLocals, Value.category, maxLocals]; done) | rfl
def Q_law (Z : State) (p0 p1 : Int32) (s0 s1 s2 : Addr) (h0 : Heap) (n0 : Nat) (v : Option Value) (h : Heap) (L : List Loc) : Prop := v = some (.int 1) ∧ Fr n0 L
set_option maxRecDepth 65536 in
set_option maxHeartbeats 40000000 in
theorem rm_law (l : Launch) (Z : State) (a0 : Array Value) (hw : ∀ d ∈ tables_1, d.before a0 Z = true) (ws : List Jvm.Cond) (p0 p1 : Int32) (s0 s1 s2 : Addr) (h0 : Heap) (n0 : Nat) (Z0 : n0 ≤ h0.size) (S_s0 : Sta Z h0 "com/example/grantbook/grantbook/model/Permission" "OAUTH_CLIENT_READ" "Lcom/example/grantbook/grantbook/model/Permission;" (.ref s0)) (S_s1 : Sta Z h0 "com/example/grantbook/grantbook/model/Permission" "OAUTH_CLIENT_WRITE" "Lcom/example/grantbook/grantbook/model/Permission;" (.ref s1)) (S_s2 : Sta Z h0 "com/example/grantbook/grantbook/model/Permission" "OAUTH_CLIENT_REGISTER" "Lcom/example/grantbook/grantbook/model/Permission;" (.ref s2)) (E_s0 : Exa Z h0 s0 "com/example/grantbook/grantbook/model/Permission") (E_s1 : Exa Z h0 s1 "com/example/grantbook/grantbook/model/Permission") (E_s2 : Exa Z h0 s2 "com/example/grantbook/grantbook/model/Permission") (ne_s0_s1 : s0 ≠ s1) (ne_s0_s2 : s0 ≠ s2) (ne_s1_s2 : s1 ≠ s2) :
    MetFree l x (head1 (Jvm.Cond.code x code maxLocals ret :: ws) room_1) (fun aA U => aA = #[(.int p0), (.int p1)] ∧ Z.Warmed39 U.vm ∧ U.heap = h0) (fun _ _ _ _ _ => True) (fun _ U oO U' => ∃ vV LL, oO = .returned vV ∧ Q_law Z p0 p1 s0 s1 s2 h0 n0 vV U'.heap LL ∧ FrameEnd U oO U' LL room_1.cells room_1.slots) := by
  refine MetFree.of_bodySF (plainFor_of_name pn_0) hisR ?_
  intro p e s m args below meth c s₁ Bd hml0 hP hK
  obtain ⟨rfl, hZ, hh⟩ := hP
  have hx := Bd.exec
  have hby := Bd.bytes
  have hml : c.maxLocals = 8 := hml0
  have hown : s.vm.findClass "com/example/grantbook/grantbook/model/PermissionIncludesPinLaw" = some m.cls := findClass_of_methodNamed Bd.named
  have hnm := (name_of_methodNamed Bd.named Bd.method).1
  have X0 : Stand p l e room_1 s m #[(.int p0), (.int p1)] below meth c s₁ [] 0 0 := Stand.of_body Bd
  have e0 : s₁.heap = h0 := by rw [← hh, Bd.state]; rfl
  have N0 := Fr.nil n0
  have hret := Bd.returns
  have hlk : meth.locks = false := Bd.notSynchronized
  refine own_start (ef_2 m p0 p1) ?_
  show own_Go p e below s (Q_law Z p0 p1 s0 s1 s2 h0 n0) room_1.cells room_1.slots (s₁.setTop (mkF m 0 #[.val (.int p0), .val (.int p1), .unset, .unset, .unset, .unset, .unset, .unset] []))
  refine g_iload_n X0 hx 1 (hb hby at_0) rfl rfl ?_
  refine g_ldc X0 hx hown 3 (z := (2147483647 : Int32)) (mvT hZ (hw _ (List.mem_of_getElem? (i := 0) rfl))) (hb hby at_1) rfl ?_
  refine g_iand X0 hx 4 (hb hby at_3) rfl ?_
  refine g_iconst X0 hx 5 (hb hby at_4) (3 : Int32) rfl rfl ?_
  refine g_irem X0 hx 6 (hb hby at_5) rfl (by decide) ?_
  obtain ⟨i, q_i⟩ : ∃ z, z = ((p0 &&& (2147483647 : Int32)) % (3 : Int32)) := ⟨_, rfl⟩
  rw [← q_i]
  refine g_istore_n X0 hx 7 (hb hby at_6) (l' := #[.val (.int p0), .val (.int p1), .val (.int i), .unset, .unset, .unset, .unset, .unset]) rfl rfl ?_
  refine g_iload_n X0 hx 8 (hb hby at_7) rfl rfl ?_
  refine g_ldc X0 hx hown 10 (z := (2147483647 : Int32)) (mvT hZ (hw _ (List.mem_of_getElem? (i := 0) rfl))) (hb hby at_8) rfl ?_
  refine g_iand X0 hx 11 (hb hby at_10) rfl ?_
  refine g_iconst X0 hx 12 (hb hby at_11) (3 : Int32) rfl rfl ?_
  refine g_irem X0 hx 13 (hb hby at_12) rfl (by decide) ?_
  obtain ⟨j, q_j⟩ : ∃ z, z = ((p1 &&& (2147483647 : Int32)) % (3 : Int32)) := ⟨_, rfl⟩
  rw [← q_j]
  refine g_istore_n X0 hx 14 (hb hby at_13) (l' := #[.val (.int p0), .val (.int p1), .val (.int i), .val (.int j), .unset, .unset, .unset, .unset]) rfl rfl ?_
  rcases own_three p0 q_i with rfl | rfl | rfl
  · show own_Go p e below s _ _ _ (s₁.setTop (mkF m 14 _ []))
    refine g_iload_n X0 hx 15 (hb hby at_14) rfl rfl ?_
    refine own_callS X0 hx hZ hown (hw _ (List.mem_of_getElem? (i := 1) rfl)) (hw _ (List.mem_of_getElem? (i := 2) rfl)) (by decide) (rm_pick0 l Z a0 hw [] s0 s1 s2 h0 n0 Z0 S_s0 S_s1 S_s2) (hw _ (List.mem_of_getElem? (i := 4) rfl)) (hw _ (List.mem_of_getElem? (i := 3) rfl)) e0 0 (by decide) (by decide) (by decide) (by decide) [(.int (0 : Int32))] [] rfl pd_0 rfl 18 rfl (by rw [hml]; rfl) rfl (hb hby at_15) rfl fun T10 v10 L10 X10 hQ10 => ?_
    obtain ⟨rfl, Nq10, e10⟩ := hQ10
    have N10 := Fr.app N0 Nq10
    show own_Go p e below s _ _ _ (T10.setTop (mkF m 18 _ [(.ref s0)]))
    refine g_astore X10 hx 20 (hb hby at_18) rfl (l' := #[.val (.int p0), .val (.int p1), .val (.int (0 : Int32)), .val (.int j), .val (.ref s0), .unset, .unset, .unset]) rfl rfl ?_
    rcases own_three p1 q_j with rfl | rfl | rfl
    · show own_Go p e below s _ _ _ (T10.setTop (mkF m 20 _ []))
      refine g_iload_n X10 hx 21 (hb hby at_20) rfl rfl ?_
      refine own_callS X10 hx hZ hown (hw _ (List.mem_of_getElem? (i := 1) rfl)) (hw _ (List.mem_of_getElem? (i := 2) rfl)) (by decide) (rm_pick0 l Z a0 hw [] s0 s1 s2 h0 n0 Z0 S_s0 S_s1 S_s2) (hw _ (List.mem_of_getElem? (i := 4) rfl)) (hw _ (List.mem_of_getElem? (i := 3) rfl)) e10 0 (by decide) (by decide) (by decide) (by decide) [(.int (0 : Int32))] [] rfl pd_0 rfl 24 rfl (by rw [hml]; rfl) rfl (hb hby at_21) rfl fun T11 v11 L11 X11 hQ11 => ?_
      obtain ⟨rfl, Nq11, e11⟩ := hQ11
      have N11 := Fr.app N10 Nq11
      show own_Go p e below s _ _ _ (T11.setTop (mkF m 24 _ [(.ref s0)]))
      refine g_astore X11 hx 26 (hb hby at_24) rfl (l' := #[.val (.int p0), .val (.int p1), .val (.int (0 : Int32)), .val (.int (0 : Int32)), .val (.ref s0), .val (.ref s0), .unset, .unset]) rfl rfl ?_
      refine g_bipush X11 hx 28 (hb hby at_26) (9 : Int32) rfl rfl ?_
      refine own_newP X11 hx hZ (hw _ (List.mem_of_getElem? (i := 8) rfl)) e11 30 (hb hby at_28) rfl (by decide) 9 (by decide) (by decide) (by decide) (by decide) fun T12 h12 k12 b12 X12 e12 g12 E12 A12 => ?_
      have ne13 : s0 ≠ b12 := Nat.ne_of_lt (Nat.lt_of_lt_of_le E_s0.lt (Nat.le_of_eq g12.symm))
      have ne14 : s1 ≠ b12 := Nat.ne_of_lt (Nat.lt_of_lt_of_le E_s1.lt (Nat.le_of_eq g12.symm))
      have ne15 : s2 ≠ b12 := Nat.ne_of_lt (Nat.lt_of_lt_of_le E_s2.lt (Nat.le_of_eq g12.symm))
      have g_b12 : n0 ≤ b12 := Nat.le_trans Z0 (Nat.le_of_eq g12.symm)
      have sz_b12 : h0.size ≤ b12 := Nat.le_trans (Keep.refl h0 []).1 (Nat.le_of_eq g12.symm)
      have K16 : Keep h0 h12 [] := (Keep.refl h0 []).ext E12
      have z17 : n0 ≤ h12.size := (Nat.le_trans Z0 E12.1)
      have V12 : Arv Z h12 b12 k12 .boolean (9 : Int32) [(.int (0 : Int32)), (.int (0 : Int32)), (.int (0 : Int32)), (.int (0 : Int32)), (.int (0 : Int32)), (.int (0 : Int32)), (.int (0 : Int32)), (.int (0 : Int32)), (.int (0 : Int32))] (.int (0 : Int32)) := (Arv.new A12 (by decide)).pad (pad_rep [] (.int (0 : Int32)) 9)
      refine g_dup X12 hx 31 (hb hby at_30) rfl rfl ?_
      refine g_iconst X12 hx 32 (hb hby at_31) (0 : Int32) rfl rfl ?_
      refine g_iconst X12 hx 33 (hb hby at_32) (1 : Int32) rfl rfl ?_
      obtain ⟨cl18, Ar18, q18, S18, P18, H18, G18⟩ := id V12
      have hin18 := inb_of (j := (0 : Int32)) S18 ⟨by decide, by decide⟩
      refine own_stZ X12 hx hZ e12 Ar18 hin18 34 (hb hby at_33) rfl fun T18 h18 X18 e18 W18 => ?_
      have V18 : Arv Z h18 b12 k12 .boolean (9 : Int32) [(.int (1 : Int32)), (.int (0 : Int32)), (.int (0 : Int32)), (.int (0 : Int32)), (.int (0 : Int32)), (.int (0 : Int32)), (.int (0 : Int32)), (.int (0 : Int32)), (.int (0 : Int32))] (.int (0 : Int32)) := Arv.set Ar18 q18 S18 P18 H18 G18 (v := (.int (1 : Int32))) rfl W18 0 rfl (Nat.le_of_ble_eq_true rfl)
      have N18 := Fr.snoc X18 N11 g_b12
      have z19 : n0 ≤ h18.size := (Nat.le_trans z17 (Keep.of_wr W18).1)
      have K20 : Keep h0 h18 [] := K16.wr W18 (Or.inr sz_b12)
      refine g_dup X18 hx 35 (hb hby at_34) rfl rfl ?_
      refine g_iconst X18 hx 36 (hb hby at_35) (1 : Int32) rfl rfl ?_
      refine g_iconst X18 hx 37 (hb hby at_36) (0 : Int32) rfl rfl ?_
      obtain ⟨cl21, Ar21, q21, S21, P21, H21, G21⟩ := id V18
      have hin21 := inb_of (j := (1 : Int32)) S21 ⟨by decide, by decide⟩
      refine own_stZ X18 hx hZ e18 Ar21 hin21 38 (hb hby at_37) rfl fun T21 h21 X21 e21 W21 => ?_
      have V21 : Arv Z h21 b12 k12 .boolean (9 : Int32) [(.int (1 : Int32)), (.int (0 : Int32)), (.int (0 : Int32)), (.int (0 : Int32)), (.int (0 : Int32)), (.int (0 : Int32)), (.int (0 : Int32)), (.int (0 : Int32)), (.int (0 : Int32))] (.int (0 : Int32)) := Arv.set Ar21 q21 S21 P21 H21 G21 (v := (.int (0 : Int32))) rfl W21 1 rfl (Nat.le_of_ble_eq_true rfl)
      have N21 := Fr.snoc X21 N18 g_b12
      have z22 : n0 ≤ h21.size := (Nat.le_trans z19 (Keep.of_wr W21).1)
      have K23 : Keep h0 h21 [] := K20.wr W21 (Or.inr sz_b12)
      refine g_dup X21 hx 39 (hb hby at_38) rfl rfl ?_
      refine g_iconst X21 hx 40 (hb hby at_39) (2 : Int32) rfl rfl ?_
      refine g_iconst X21 hx 41 (hb hby at_40) (0 : Int32) rfl rfl ?_
      obtain ⟨cl24, Ar24, q24, S24, P24, H24, G24⟩ := id V21
      have hin24 := inb_of (j := (2 : Int32)) S24 ⟨by decide, by decide⟩
      refine own_stZ X21 hx hZ e21 Ar24 hin24 42 (hb hby at_41) rfl fun T24 h24 X24 e24 W24 => ?_
      have V24 : Arv Z h24 b12 k12 .boolean (9 : Int32) [(.int (1 : Int32)), (.int (0 : Int32)), (.int (0 : Int32)), (.int (0 : Int32)), (.int (0 : Int32)), (.int (0 : Int32)), (.int (0 : Int32)), (.int (0 : Int32)), (.int (0 : Int32))] (.int (0 : Int32)) := Arv.set Ar24 q24 S24 P24 H24 G24 (v := (.int (0 : Int32))) rfl W24 2 rfl (Nat.le_of_ble_eq_true rfl)
      have N24 := Fr.snoc X24 N21 g_b12
      have z25 : n0 ≤ h24.size := (Nat.le_trans z22 (Keep.of_wr W24).1)
      have K26 : Keep h0 h24 [] := K23.wr W24 (Or.inr sz_b12)
      refine g_dup X24 hx 43 (hb hby at_42) rfl rfl ?_
      refine g_iconst X24 hx 44 (hb hby at_43) (3 : Int32) rfl rfl ?_
      refine g_iconst X24 hx 45 (hb hby at_44) (1 : Int32) rfl rfl ?_
      obtain ⟨cl27, Ar27, q27, S27, P27, H27, G27⟩ := id V24
      have hin27 := inb_of (j := (3 : Int32)) S27 ⟨by decide, by decide⟩
      refine own_stZ X24 hx hZ e24 Ar27 hin27 46 (hb hby at_45) rfl fun T27 h27 X27 e27 W27 => ?_
      have V27 : Arv Z h27 b12 k12 .boolean (9 : Int32) [(.int (1 : Int32)), (.int (0 : Int32)), (.int (0 : Int32)), (.int (1 : Int32)), (.int (0 : Int32)), (.int (0 : Int32)), (.int (0 : Int32)), (.int (0 : Int32)), (.int (0 : Int32))] (.int (0 : Int32)) := Arv.set Ar27 q27 S27 P27 H27 G27 (v := (.int (1 : Int32))) rfl W27 3 rfl (Nat.le_of_ble_eq_true rfl)
      have N27 := Fr.snoc X27 N24 g_b12
      have z28 : n0 ≤ h27.size := (Nat.le_trans z25 (Keep.of_wr W27).1)
      have K29 : Keep h0 h27 [] := K26.wr W27 (Or.inr sz_b12)
      refine g_dup X27 hx 47 (hb hby at_46) rfl rfl ?_
      refine g_iconst X27 hx 48 (hb hby at_47) (4 : Int32) rfl rfl ?_
      refine g_iconst X27 hx 49 (hb hby at_48) (1 : Int32) rfl rfl ?_
      obtain ⟨cl30, Ar30, q30, S30, P30, H30, G30⟩ := id V27
      have hin30 := inb_of (j := (4 : Int32)) S30 ⟨by decide, by decide⟩
      refine own_stZ X27 hx hZ e27 Ar30 hin30 50 (hb hby at_49) rfl fun T30 h30 X30 e30 W30 => ?_
      have V30 : Arv Z h30 b12 k12 .boolean (9 : Int32) [(.int (1 : Int32)), (.int (0 : Int32)), (.int (0 : Int32)), (.int (1 : Int32)), (.int (1 : Int32)), (.int (0 : Int32)), (.int (0 : Int32)), (.int (0 : Int32)), (.int (0 : Int32))] (.int (0 : Int32)) := Arv.set Ar30 q30 S30 P30 H30 G30 (v := (.int (1 : Int32))) rfl W30 4 rfl (Nat.le_of_ble_eq_true rfl)
      have N30 := Fr.snoc X30 N27 g_b12
      have z31 : n0 ≤ h30.size := (Nat.le_trans z28 (Keep.of_wr W30).1)
      have K32 : Keep h0 h30 [] := K29.wr W30 (Or.inr sz_b12)
      refine g_dup X30 hx 51 (hb hby at_50) rfl rfl ?_
      refine g_iconst X30 hx 52 (hb hby at_51) (5 : Int32) rfl rfl ?_
      refine g_iconst X30 hx 53 (hb hby at_52) (1 : Int32) rfl rfl ?_
      obtain ⟨cl33, Ar33, q33, S33, P33, H33, G33⟩ := id V30
      have hin33 := inb_of (j := (5 : Int32)) S33 ⟨by decide, by decide⟩
      refine own_stZ X30 hx hZ e30 Ar33 hin33 54 (hb hby at_53) rfl fun T33 h33 X33 e33 W33 => ?_
      have V33 : Arv Z h33 b12 k12 .boolean (9 : Int32) [(.int (1 : Int32)), (.int (0 : Int32)), (.int (0 : Int32)), (.int (1 : Int32)), (.int (1 : Int32)), (.int (1 : Int32)), (.int (0 : Int32)), (.int (0 : Int32)), (.int (0 : Int32))] (.int (0 : Int32)) := Arv.set Ar33 q33 S33 P33 H33 G33 (v := (.int (1 : Int32))) rfl W33 5 rfl (Nat.le_of_ble_eq_true rfl)
      have N33 := Fr.snoc X33 N30 g_b12
      have z34 : n0 ≤ h33.size := (Nat.le_trans z31 (Keep.of_wr W33).1)
      have K35 : Keep h0 h33 [] := K32.wr W33 (Or.inr sz_b12)
      refine g_dup X33 hx 55 (hb hby at_54) rfl rfl ?_
      refine g_bipush X33 hx 57 (hb hby at_55) (6 : Int32) rfl rfl ?_
      refine g_iconst X33 hx 58 (hb hby at_57) (0 : Int32) rfl rfl ?_
      obtain ⟨cl36, Ar36, q36, S36, P36, H36, G36⟩ := id V33
      have hin36 := inb_of (j := (6 : Int32)) S36 ⟨by decide, by decide⟩
      refine own_stZ X33 hx hZ e33 Ar36 hin36 59 (hb hby at_58) rfl fun T36 h36 X36 e36 W36 => ?_
      have V36 : Arv Z h36 b12 k12 .boolean (9 : Int32) [(.int (1 : Int32)), (.int (0 : Int32)), (.int (0 : Int32)), (.int (1 : Int32)), (.int (1 : Int32)), (.int (1 : Int32)), (.int (0 : Int32)), (.int (0 : Int32)), (.int (0 : Int32))] (.int (0 : Int32)) := Arv.set Ar36 q36 S36 P36 H36 G36 (v := (.int (0 : Int32))) rfl W36 6 rfl (Nat.le_of_ble_eq_true rfl)
      have N36 := Fr.snoc X36 N33 g_b12
      have z37 : n0 ≤ h36.size := (Nat.le_trans z34 (Keep.of_wr W36).1)
      have K38 : Keep h0 h36 [] := K35.wr W36 (Or.inr sz_b12)
      refine g_dup X36 hx 60 (hb hby at_59) rfl rfl ?_
      refine g_bipush X36 hx 62 (hb hby at_60) (7 : Int32) rfl rfl ?_
      refine g_iconst X36 hx 63 (hb hby at_62) (0 : Int32) rfl rfl ?_
      obtain ⟨cl39, Ar39, q39, S39, P39, H39, G39⟩ := id V36
      have hin39 := inb_of (j := (7 : Int32)) S39 ⟨by decide, by decide⟩
      refine own_stZ X36 hx hZ e36 Ar39 hin39 64 (hb hby at_63) rfl fun T39 h39 X39 e39 W39 => ?_
      have V39 : Arv Z h39 b12 k12 .boolean (9 : Int32) [(.int (1 : Int32)), (.int (0 : Int32)), (.int (0 : Int32)), (.int (1 : Int32)), (.int (1 : Int32)), (.int (1 : Int32)), (.int (0 : Int32)), (.int (0 : Int32)), (.int (0 : Int32))] (.int (0 : Int32)) := Arv.set Ar39 q39 S39 P39 H39 G39 (v := (.int (0 : Int32))) rfl W39 7 rfl (Nat.le_of_ble_eq_true rfl)
      have N39 := Fr.snoc X39 N36 g_b12
      have z40 : n0 ≤ h39.size := (Nat.le_trans z37 (Keep.of_wr W39).1)
      have K41 : Keep h0 h39 [] := K38.wr W39 (Or.inr sz_b12)
      refine g_dup X39 hx 65 (hb hby at_64) rfl rfl ?_
      refine g_bipush X39 hx 67 (hb hby at_65) (8 : Int32) rfl rfl ?_
      refine g_iconst X39 hx 68 (hb hby at_67) (1 : Int32) rfl rfl ?_
      obtain ⟨cl42, Ar42, q42, S42, P42, H42, G42⟩ := id V39
      have hin42 := inb_of (j := (8 : Int32)) S42 ⟨by decide, by decide⟩
      refine own_stZ X39 hx hZ e39 Ar42 hin42 69 (hb hby at_68) rfl fun T42 h42 X42 e42 W42 => ?_
      have V42 : Arv Z h42 b12 k12 .boolean (9 : Int32) [(.int (1 : Int32)), (.int (0 : Int32)), (.int (0 : Int32)), (.int (1 : Int32)), (.int (1 : Int32)), (.int (1 : Int32)), (.int (0 : Int32)), (.int (0 : Int32)), (.int (1 : Int32))] (.int (0 : Int32)) := Arv.set Ar42 q42 S42 P42 H42 G42 (v := (.int (1 : Int32))) rfl W42 8 rfl (Nat.le_of_ble_eq_true rfl)
      have N42 := Fr.snoc X42 N39 g_b12
      have z43 : n0 ≤ h42.size := (Nat.le_trans z40 (Keep.of_wr W42).1)
      have K44 : Keep h0 h42 [] := K41.wr W42 (Or.inr sz_b12)
      refine g_astore X42 hx 71 (hb hby at_69) rfl (l' := #[.val (.int p0), .val (.int p1), .val (.int (0 : Int32)), .val (.int (0 : Int32)), .val (.ref s0), .val (.ref s0), .val (.ref b12), .unset]) rfl rfl ?_
      refine g_aload X42 hx 73 (hb hby at_71) rfl rfl rfl ?_
      refine g_iload_n X42 hx 74 (hb hby at_73) rfl rfl ?_
      refine g_iconst X42 hx 75 (hb hby at_74) (3 : Int32) rfl rfl ?_
      refine g_imul X42 hx 76 (hb hby at_75) rfl ?_
      show own_Go p e below s _ _ _ (T42.setTop (mkF m 76 _ [(.int (0 : Int32)), (.ref b12)]))
      refine g_iload_n X42 hx 77 (hb hby at_76) rfl rfl ?_
      refine g_iadd X42 hx 78 (hb hby at_77) rfl ?_
      show own_Go p e below s _ _ _ (T42.setTop (mkF m 78 _ [(.int (0 : Int32)), (.ref b12)]))
      obtain ⟨cl45, Ar45, q45, S45, P45, H45, G45⟩ := id V42
      have hin45 := inb_of (j := (0 : Int32)) S45 ⟨by decide, by decide⟩
      refine own_baloadZ X42 hx hZ e42 Ar45 (v := (.int (1 : Int32))) hin45 (Has.at H45 hin45 rfl) 79 (hb hby at_78) rfl ?_
      refine g_istore X42 hx 81 (hb hby at_79) (l' := #[.val (.int p0), .val (.int p1), .val (.int (0 : Int32)), .val (.int (0 : Int32)), .val (.ref s0), .val (.ref s0), .val (.ref b12), .val (.int (1 : Int32))]) rfl rfl ?_
      refine g_aload X42 hx 83 (hb hby at_81) rfl rfl rfl ?_
      refine g_aload X42 hx 85 (hb hby at_83) rfl rfl rfl ?_
      have f47 : Sta Z h42 "com/example/grantbook/grantbook/model/Permission" "OAUTH_CLIENT_READ" "Lcom/example/grantbook/grantbook/model/Permission;" (.ref s0) := (own_Sta_keep K44 S_s0 all0)
      have f48 : Sta Z h42 "com/example/grantbook/grantbook/model/Permission" "OAUTH_CLIENT_WRITE" "Lcom/example/grantbook/grantbook/model/Permission;" (.ref s1) := (own_Sta_keep K44 S_s1 all0)
      have f49 : Sta Z h42 "com/example/grantbook/grantbook/model/Permission" "OAUTH_CLIENT_REGISTER" "Lcom/example/grantbook/grantbook/model/Permission;" (.ref s2) := (own_Sta_keep K44 S_s2 all0)
      have f50 : Exa Z h42 s0 "com/example/grantbook/grantbook/model/Permission" := (E_s0.keep K44)
      refine own_callV X42 hx hZ hown (hw _ (List.mem_of_getElem? (i := 9) rfl)) (hw _ (List.mem_of_getElem? (i := 10) rfl)) (own_nf hZ (hw _ (List.mem_of_getElem? (i := 12) rfl))) (hw _ (List.mem_of_getElem? (i := 12) rfl)) (hw _ (List.mem_of_getElem? (i := 11) rfl)) (by decide) (rm_inc00 l Z a0 hw [] s0 s1 s2 h42 n0 z43 f47 f48 f49 ne_s0_s1 ne_s0_s2 ne_s1_s2) (hw _ (List.mem_of_getElem? (i := 13) rfl)) (hw _ (List.mem_of_getElem? (i := 6) rfl)) e42 0 (by decide) (by decide) (by decide) (by decide) f50 [(.ref s0)] [] rfl pd_1 rfl 88 rfl (by rw [hml]; rfl) rfl (hb hby at_85) rfl fun T46 v46 L46 X46 hQ46 => ?_
      obtain ⟨rfl, Nq46, e46⟩ := hQ46
      have N46 := Fr.app N42 Nq46
      show own_Go p e below s _ _ _ (T46.setTop (mkF m 88 _ [(.int (1 : Int32))]))
      refine g_iload X46 hx 90 (hb hby at_88) rfl rfl ?_
      refine g_icmpNo X46 hx 93 (hb hby at_90) (own_ii_ne_f (by decide)) rfl ?_
      refine g_iconst X46 hx 94 (hb hby at_93) (1 : Int32) rfl rfl ?_
      refine g_goto X46 hx 98 (hb hby at_94) (by decide) (by decide) ?_
      refine own_retN X46 hx hlk (t := .boolean) hret (by simp) (hb hby at_98) ?_ (by decide) (by decide)
      rw [e46]
      exact ⟨rfl, N46⟩
    · show own_Go p e below s _ _ _ (T10.setTop (mkF m 20 _ []))
      refine g_iload_n X10 hx 21 (hb hby at_20) rfl rfl ?_
      refine own_callS X10 hx hZ hown (hw _ (List.mem_of_getElem? (i := 1) rfl)) (hw _ (List.mem_of_getElem? (i := 2) rfl)) (by decide) (rm_pick1 l Z a0 hw [] s0 s1 s2 h0 n0 Z0 S_s0 S_s1 S_s2) (hw _ (List.mem_of_getElem? (i := 4) rfl)) (hw _ (List.mem_of_getElem? (i := 3) rfl)) e10 0 (by decide) (by decide) (by decide) (by decide) [(.int (1 : Int32))] [] rfl pd_0 rfl 24 rfl (by rw [hml]; rfl) rfl (hb hby at_21) rfl fun T51 v51 L51 X51 hQ51 => ?_
      obtain ⟨rfl, Nq51, e51⟩ := hQ51
      have N51 := Fr.app N10 Nq51
      show own_Go p e below s _ _ _ (T51.setTop (mkF m 24 _ [(.ref s1)]))
      refine g_astore X51 hx 26 (hb hby at_24) rfl (l' := #[.val (.int p0), .val (.int p1), .val (.int (0 : Int32)), .val (.int (1 : Int32)), .val (.ref s0), .val (.ref s1), .unset, .unset]) rfl rfl ?_
      refine g_bipush X51 hx 28 (hb hby at_26) (9 : Int32) rfl rfl ?_
      refine own_newP X51 hx hZ (hw _ (List.mem_of_getElem? (i := 8) rfl)) e51 30 (hb hby at_28) rfl (by decide) 9 (by decide) (by decide) (by decide) (by decide) fun T52 h52 k52 b52 X52 e52 g52 E52 A52 => ?_
      have ne53 : s0 ≠ b52 := Nat.ne_of_lt (Nat.lt_of_lt_of_le E_s0.lt (Nat.le_of_eq g52.symm))
      have ne54 : s1 ≠ b52 := Nat.ne_of_lt (Nat.lt_of_lt_of_le E_s1.lt (Nat.le_of_eq g52.symm))
      have ne55 : s2 ≠ b52 := Nat.ne_of_lt (Nat.lt_of_lt_of_le E_s2.lt (Nat.le_of_eq g52.symm))
      have g_b52 : n0 ≤ b52 := Nat.le_trans Z0 (Nat.le_of_eq g52.symm)
      have sz_b52 : h0.size ≤ b52 := Nat.le_trans (Keep.refl h0 []).1 (Nat.le_of_eq g52.symm)
      have K56 : Keep h0 h52 [] := (Keep.refl h0 []).ext E52
      have z57 : n0 ≤ h52.size := (Nat.le_trans Z0 E52.1)
      have V52 : Arv Z h52 b52 k52 .boolean (9 : Int32) [(.int (0 : Int32)), (.int (0 : Int32)), (.int (0 : Int32)), (.int (0 : Int32)), (.int (0 : Int32)), (.int (0 : Int32)), (.int (0 : Int32)), (.int (0 : Int32)), (.int (0 : Int32))] (.int (0 : Int32)) := (Arv.new A52 (by decide)).pad (pad_rep [] (.int (0 : Int32)) 9)
      refine g_dup X52 hx 31 (hb hby at_30) rfl rfl ?_
      refine g_iconst X52 hx 32 (hb hby at_31) (0 : Int32) rfl rfl ?_
      refine g_iconst X52 hx 33 (hb hby at_32) (1 : Int32) rfl rfl ?_
      obtain ⟨cl58, Ar58, q58, S58, P58, H58, G58⟩ := id V52
      have hin58 := inb_of (j := (0 : Int32)) S58 ⟨by decide, by decide⟩
      refine own_stZ X52 hx hZ e52 Ar58 hin58 34 (hb hby at_33) rfl fun T58 h58 X58 e58 W58 => ?_
      have V58 : Arv Z h58 b52 k52 .boolean (9 : Int32) [(.int (1 : Int32)), (.int (0 : Int32)), (.int (0 : Int32)), (.int (0 : Int32)), (.int (0 : Int32)), (.int (0 : Int32)), (.int (0 : Int32)), (.int (0 : Int32)), (.int (0 : Int32))] (.int (0 : Int32)) := Arv.set Ar58 q58 S58 P58 H58 G58 (v := (.int (1 : Int32))) rfl W58 0 rfl (Nat.le_of_ble_eq_true rfl)
      have N58 := Fr.snoc X58 N51 g_b52
      have z59 : n0 ≤ h58.size := (Nat.le_trans z57 (Keep.of_wr W58).1)
      have K60 : Keep h0 h58 [] := K56.wr W58 (Or.inr sz_b52)
      refine g_dup X58 hx 35 (hb hby at_34) rfl rfl ?_
      refine g_iconst X58 hx 36 (hb hby at_35) (1 : Int32) rfl rfl ?_
      refine g_iconst X58 hx 37 (hb hby at_36) (0 : Int32) rfl rfl ?_
      obtain ⟨cl61, Ar61, q61, S61, P61, H61, G61⟩ := id V58
      have hin61 := inb_of (j := (1 : Int32)) S61 ⟨by decide, by decide⟩
      refine own_stZ X58 hx hZ e58 Ar61 hin61 38 (hb hby at_37) rfl fun T61 h61 X61 e61 W61 => ?_
      have V61 : Arv Z h61 b52 k52 .boolean (9 : Int32) [(.int (1 : Int32)), (.int (0 : Int32)), (.int (0 : Int32)), (.int (0 : Int32)), (.int (0 : Int32)), (.int (0 : Int32)), (.int (0 : Int32)), (.int (0 : Int32)), (.int (0 : Int32))] (.int (0 : Int32)) := Arv.set Ar61 q61 S61 P61 H61 G61 (v := (.int (0 : Int32))) rfl W61 1 rfl (Nat.le_of_ble_eq_true rfl)
      have N61 := Fr.snoc X61 N58 g_b52
      have z62 : n0 ≤ h61.size := (Nat.le_trans z59 (Keep.of_wr W61).1)
      have K63 : Keep h0 h61 [] := K60.wr W61 (Or.inr sz_b52)
      refine g_dup X61 hx 39 (hb hby at_38) rfl rfl ?_
      refine g_iconst X61 hx 40 (hb hby at_39) (2 : Int32) rfl rfl ?_
      refine g_iconst X61 hx 41 (hb hby at_40) (0 : Int32) rfl rfl ?_
      obtain ⟨cl64, Ar64, q64, S64, P64, H64, G64⟩ := id V61
      have hin64 := inb_of (j := (2 : Int32)) S64 ⟨by decide, by decide⟩
      refine own_stZ X61 hx hZ e61 Ar64 hin64 42 (hb hby at_41) rfl fun T64 h64 X64 e64 W64 => ?_
      have V64 : Arv Z h64 b52 k52 .boolean (9 : Int32) [(.int (1 : Int32)), (.int (0 : Int32)), (.int (0 : Int32)), (.int (0 : Int32)), (.int (0 : Int32)), (.int (0 : Int32)), (.int (0 : Int32)), (.int (0 : Int32)), (.int (0 : Int32))] (.int (0 : Int32)) := Arv.set Ar64 q64 S64 P64 H64 G64 (v := (.int (0 : Int32))) rfl W64 2 rfl (Nat.le_of_ble_eq_true rfl)
      have N64 := Fr.snoc X64 N61 g_b52
      have z65 : n0 ≤ h64.size := (Nat.le_trans z62 (Keep.of_wr W64).1)
      have K66 : Keep h0 h64 [] := K63.wr W64 (Or.inr sz_b52)
      refine g_dup X64 hx 43 (hb hby at_42) rfl rfl ?_
      refine g_iconst X64 hx 44 (hb hby at_43) (3 : Int32) rfl rfl ?_
      refine g_iconst X64 hx 45 (hb hby at_44) (1 : Int32) rfl rfl ?_
      obtain ⟨cl67, Ar67, q67, S67, P67, H67, G67⟩ := id V64
      have hin67 := inb_of (j := (3 : Int32)) S67 ⟨by decide, by decide⟩
      refine own_stZ X64 hx hZ e64 Ar67 hin67 46 (hb hby at_45) rfl fun T67 h67 X67 e67 W67 => ?_
      have V67 : Arv Z h67 b52 k52 .boolean (9 : Int32) [(.int (1 : Int32)), (.int (0 : Int32)), (.int (0 : Int32)), (.int (1 : Int32)), (.int (0 : Int32)), (.int (0 : Int32)), (.int (0 : Int32)), (.int (0 : Int32)), (.int (0 : Int32))] (.int (0 : Int32)) := Arv.set Ar67 q67 S67 P67 H67 G67 (v := (.int (1 : Int32))) rfl W67 3 rfl (Nat.le_of_ble_eq_true rfl)
      have N67 := Fr.snoc X67 N64 g_b52
      have z68 : n0 ≤ h67.size := (Nat.le_trans z65 (Keep.of_wr W67).1)
      have K69 : Keep h0 h67 [] := K66.wr W67 (Or.inr sz_b52)
      refine g_dup X67 hx 47 (hb hby at_46) rfl rfl ?_
      refine g_iconst X67 hx 48 (hb hby at_47) (4 : Int32) rfl rfl ?_
      refine g_iconst X67 hx 49 (hb hby at_48) (1 : Int32) rfl rfl ?_
      obtain ⟨cl70, Ar70, q70, S70, P70, H70, G70⟩ := id V67
      have hin70 := inb_of (j := (4 : Int32)) S70 ⟨by decide, by decide⟩
      refine own_stZ X67 hx hZ e67 Ar70 hin70 50 (hb hby at_49) rfl fun T70 h70 X70 e70 W70 => ?_
      have V70 : Arv Z h70 b52 k52 .boolean (9 : Int32) [(.int (1 : Int32)), (.int (0 : Int32)), (.int (0 : Int32)), (.int (1 : Int32)), (.int (1 : Int32)), (.int (0 : Int32)), (.int (0 : Int32)), (.int (0 : Int32)), (.int (0 : Int32))] (.int (0 : Int32)) := Arv.set Ar70 q70 S70 P70 H70 G70 (v := (.int (1 : Int32))) rfl W70 4 rfl (Nat.le_of_ble_eq_true rfl)
      have N70 := Fr.snoc X70 N67 g_b52
      have z71 : n0 ≤ h70.size := (Nat.le_trans z68 (Keep.of_wr W70).1)
      have K72 : Keep h0 h70 [] := K69.wr W70 (Or.inr sz_b52)
      refine g_dup X70 hx 51 (hb hby at_50) rfl rfl ?_
      refine g_iconst X70 hx 52 (hb hby at_51) (5 : Int32) rfl rfl ?_
      refine g_iconst X70 hx 53 (hb hby at_52) (1 : Int32) rfl rfl ?_
      obtain ⟨cl73, Ar73, q73, S73, P73, H73, G73⟩ := id V70
      have hin73 := inb_of (j := (5 : Int32)) S73 ⟨by decide, by decide⟩
      refine own_stZ X70 hx hZ e70 Ar73 hin73 54 (hb hby at_53) rfl fun T73 h73 X73 e73 W73 => ?_
      have V73 : Arv Z h73 b52 k52 .boolean (9 : Int32) [(.int (1 : Int32)), (.int (0 : Int32)), (.int (0 : Int32)), (.int (1 : Int32)), (.int (1 : Int32)), (.int (1 : Int32)), (.int (0 : Int32)), (.int (0 : Int32)), (.int (0 : Int32))] (.int (0 : Int32)) := Arv.set Ar73 q73 S73 P73 H73 G73 (v := (.int (1 : Int32))) rfl W73 5 rfl (Nat.le_of_ble_eq_true rfl)
      have N73 := Fr.snoc X73 N70 g_b52
      have z74 : n0 ≤ h73.size := (Nat.le_trans z71 (Keep.of_wr W73).1)
      have K75 : Keep h0 h73 [] := K72.wr W73 (Or.inr sz_b52)
      refine g_dup X73 hx 55 (hb hby at_54) rfl rfl ?_
      refine g_bipush X73 hx 57 (hb hby at_55) (6 : Int32) rfl rfl ?_
      refine g_iconst X73 hx 58 (hb hby at_57) (0 : Int32) rfl rfl ?_
      obtain ⟨cl76, Ar76, q76, S76, P76, H76, G76⟩ := id V73
      have hin76 := inb_of (j := (6 : Int32)) S76 ⟨by decide, by decide⟩
      refine own_stZ X73 hx hZ e73 Ar76 hin76 59 (hb hby at_58) rfl fun T76 h76 X76 e76 W76 => ?_
      have V76 : Arv Z h76 b52 k52 .boolean (9 : Int32) [(.int (1 : Int32)), (.int (0 : Int32)), (.int (0 : Int32)), (.int (1 : Int32)), (.int (1 : Int32)), (.int (1 : Int32)), (.int (0 : Int32)), (.int (0 : Int32)), (.int (0 : Int32))] (.int (0 : Int32)) := Arv.set Ar76 q76 S76 P76 H76 G76 (v := (.int (0 : Int32))) rfl W76 6 rfl (Nat.le_of_ble_eq_true rfl)
      have N76 := Fr.snoc X76 N73 g_b52
      have z77 : n0 ≤ h76.size := (Nat.le_trans z74 (Keep.of_wr W76).1)
      have K78 : Keep h0 h76 [] := K75.wr W76 (Or.inr sz_b52)
      refine g_dup X76 hx 60 (hb hby at_59) rfl rfl ?_
      refine g_bipush X76 hx 62 (hb hby at_60) (7 : Int32) rfl rfl ?_
      refine g_iconst X76 hx 63 (hb hby at_62) (0 : Int32) rfl rfl ?_
      obtain ⟨cl79, Ar79, q79, S79, P79, H79, G79⟩ := id V76
      have hin79 := inb_of (j := (7 : Int32)) S79 ⟨by decide, by decide⟩
      refine own_stZ X76 hx hZ e76 Ar79 hin79 64 (hb hby at_63) rfl fun T79 h79 X79 e79 W79 => ?_
      have V79 : Arv Z h79 b52 k52 .boolean (9 : Int32) [(.int (1 : Int32)), (.int (0 : Int32)), (.int (0 : Int32)), (.int (1 : Int32)), (.int (1 : Int32)), (.int (1 : Int32)), (.int (0 : Int32)), (.int (0 : Int32)), (.int (0 : Int32))] (.int (0 : Int32)) := Arv.set Ar79 q79 S79 P79 H79 G79 (v := (.int (0 : Int32))) rfl W79 7 rfl (Nat.le_of_ble_eq_true rfl)
      have N79 := Fr.snoc X79 N76 g_b52
      have z80 : n0 ≤ h79.size := (Nat.le_trans z77 (Keep.of_wr W79).1)
      have K81 : Keep h0 h79 [] := K78.wr W79 (Or.inr sz_b52)
      refine g_dup X79 hx 65 (hb hby at_64) rfl rfl ?_
      refine g_bipush X79 hx 67 (hb hby at_65) (8 : Int32) rfl rfl ?_
      refine g_iconst X79 hx 68 (hb hby at_67) (1 : Int32) rfl rfl ?_
      obtain ⟨cl82, Ar82, q82, S82, P82, H82, G82⟩ := id V79
      have hin82 := inb_of (j := (8 : Int32)) S82 ⟨by decide, by decide⟩
      refine own_stZ X79 hx hZ e79 Ar82 hin82 69 (hb hby at_68) rfl fun T82 h82 X82 e82 W82 => ?_
      have V82 : Arv Z h82 b52 k52 .boolean (9 : Int32) [(.int (1 : Int32)), (.int (0 : Int32)), (.int (0 : Int32)), (.int (1 : Int32)), (.int (1 : Int32)), (.int (1 : Int32)), (.int (0 : Int32)), (.int (0 : Int32)), (.int (1 : Int32))] (.int (0 : Int32)) := Arv.set Ar82 q82 S82 P82 H82 G82 (v := (.int (1 : Int32))) rfl W82 8 rfl (Nat.le_of_ble_eq_true rfl)
      have N82 := Fr.snoc X82 N79 g_b52
      have z83 : n0 ≤ h82.size := (Nat.le_trans z80 (Keep.of_wr W82).1)
      have K84 : Keep h0 h82 [] := K81.wr W82 (Or.inr sz_b52)
      refine g_astore X82 hx 71 (hb hby at_69) rfl (l' := #[.val (.int p0), .val (.int p1), .val (.int (0 : Int32)), .val (.int (1 : Int32)), .val (.ref s0), .val (.ref s1), .val (.ref b52), .unset]) rfl rfl ?_
      refine g_aload X82 hx 73 (hb hby at_71) rfl rfl rfl ?_
      refine g_iload_n X82 hx 74 (hb hby at_73) rfl rfl ?_
      refine g_iconst X82 hx 75 (hb hby at_74) (3 : Int32) rfl rfl ?_
      refine g_imul X82 hx 76 (hb hby at_75) rfl ?_
      show own_Go p e below s _ _ _ (T82.setTop (mkF m 76 _ [(.int (0 : Int32)), (.ref b52)]))
      refine g_iload_n X82 hx 77 (hb hby at_76) rfl rfl ?_
      refine g_iadd X82 hx 78 (hb hby at_77) rfl ?_
      show own_Go p e below s _ _ _ (T82.setTop (mkF m 78 _ [(.int (1 : Int32)), (.ref b52)]))
      obtain ⟨cl85, Ar85, q85, S85, P85, H85, G85⟩ := id V82
      have hin85 := inb_of (j := (1 : Int32)) S85 ⟨by decide, by decide⟩
      refine own_baloadZ X82 hx hZ e82 Ar85 (v := (.int (0 : Int32))) hin85 (Has.at H85 hin85 rfl) 79 (hb hby at_78) rfl ?_
      refine g_istore X82 hx 81 (hb hby at_79) (l' := #[.val (.int p0), .val (.int p1), .val (.int (0 : Int32)), .val (.int (1 : Int32)), .val (.ref s0), .val (.ref s1), .val (.ref b52), .val (.int (0 : Int32))]) rfl rfl ?_
      refine g_aload X82 hx 83 (hb hby at_81) rfl rfl rfl ?_
      refine g_aload X82 hx 85 (hb hby at_83) rfl rfl rfl ?_
      have f87 : Sta Z h82 "com/example/grantbook/grantbook/model/Permission" "OAUTH_CLIENT_READ" "Lcom/example/grantbook/grantbook/model/Permission;" (.ref s0) := (own_Sta_keep K84 S_s0 all0)
      have f88 : Sta Z h82 "com/example/grantbook/grantbook/model/Permission" "OAUTH_CLIENT_WRITE" "Lcom/example/grantbook/grantbook/model/Permission;" (.ref s1) := (own_Sta_keep K84 S_s1 all0)
      have f89 : Sta Z h82 "com/example/grantbook/grantbook/model/Permission" "OAUTH_CLIENT_REGISTER" "Lcom/example/grantbook/grantbook/model/Permission;" (.ref s2) := (own_Sta_keep K84 S_s2 all0)
      have f90 : Exa Z h82 s0 "com/example/grantbook/grantbook/model/Permission" := (E_s0.keep K84)
      refine own_callV X82 hx hZ hown (hw _ (List.mem_of_getElem? (i := 9) rfl)) (hw _ (List.mem_of_getElem? (i := 10) rfl)) (own_nf hZ (hw _ (List.mem_of_getElem? (i := 12) rfl))) (hw _ (List.mem_of_getElem? (i := 12) rfl)) (hw _ (List.mem_of_getElem? (i := 11) rfl)) (by decide) (rm_inc01 l Z a0 hw [] s0 s1 s2 h82 n0 z83 f87 f88 f89 ne_s0_s1 ne_s0_s2 ne_s1_s2) (hw _ (List.mem_of_getElem? (i := 13) rfl)) (hw _ (List.mem_of_getElem? (i := 6) rfl)) e82 0 (by decide) (by decide) (by decide) (by decide) f90 [(.ref s1)] [] rfl pd_1 rfl 88 rfl (by rw [hml]; rfl) rfl (hb hby at_85) rfl fun T86 v86 L86 X86 hQ86 => ?_
      obtain ⟨rfl, Nq86, e86⟩ := hQ86
      have N86 := Fr.app N82 Nq86
      show own_Go p e below s _ _ _ (T86.setTop (mkF m 88 _ [(.int (0 : Int32))]))
      refine g_iload X86 hx 90 (hb hby at_88) rfl rfl ?_
      refine g_icmpNo X86 hx 93 (hb hby at_90) (own_ii_ne_f (by decide)) rfl ?_
      refine g_iconst X86 hx 94 (hb hby at_93) (1 : Int32) rfl rfl ?_
      refine g_goto X86 hx 98 (hb hby at_94) (by decide) (by decide) ?_
      refine own_retN X86 hx hlk (t := .boolean) hret (by simp) (hb hby at_98) ?_ (by decide) (by decide)
      rw [e86]
      exact ⟨rfl, N86⟩
    · show own_Go p e below s _ _ _ (T10.setTop (mkF m 20 _ []))
      refine g_iload_n X10 hx 21 (hb hby at_20) rfl rfl ?_
      refine own_callS X10 hx hZ hown (hw _ (List.mem_of_getElem? (i := 1) rfl)) (hw _ (List.mem_of_getElem? (i := 2) rfl)) (by decide) (rm_pick2 l Z a0 hw [] s0 s1 s2 h0 n0 Z0 S_s0 S_s1 S_s2) (hw _ (List.mem_of_getElem? (i := 4) rfl)) (hw _ (List.mem_of_getElem? (i := 3) rfl)) e10 0 (by decide) (by decide) (by decide) (by decide) [(.int (2 : Int32))] [] rfl pd_0 rfl 24 rfl (by rw [hml]; rfl) rfl (hb hby at_21) rfl fun T91 v91 L91 X91 hQ91 => ?_
      obtain ⟨rfl, Nq91, e91⟩ := hQ91
      have N91 := Fr.app N10 Nq91
      show own_Go p e below s _ _ _ (T91.setTop (mkF m 24 _ [(.ref s2)]))
      refine g_astore X91 hx 26 (hb hby at_24) rfl (l' := #[.val (.int p0), .val (.int p1), .val (.int (0 : Int32)), .val (.int (2 : Int32)), .val (.ref s0), .val (.ref s2), .unset, .unset]) rfl rfl ?_
      refine g_bipush X91 hx 28 (hb hby at_26) (9 : Int32) rfl rfl ?_
      refine own_newP X91 hx hZ (hw _ (List.mem_of_getElem? (i := 8) rfl)) e91 30 (hb hby at_28) rfl (by decide) 9 (by decide) (by decide) (by decide) (by decide) fun T92 h92 k92 b92 X92 e92 g92 E92 A92 => ?_
      have ne93 : s0 ≠ b92 := Nat.ne_of_lt (Nat.lt_of_lt_of_le E_s0.lt (Nat.le_of_eq g92.symm))
      have ne94 : s1 ≠ b92 := Nat.ne_of_lt (Nat.lt_of_lt_of_le E_s1.lt (Nat.le_of_eq g92.symm))
      have ne95 : s2 ≠ b92 := Nat.ne_of_lt (Nat.lt_of_lt_of_le E_s2.lt (Nat.le_of_eq g92.symm))
      have g_b92 : n0 ≤ b92 := Nat.le_trans Z0 (Nat.le_of_eq g92.symm)
      have sz_b92 : h0.size ≤ b92 := Nat.le_trans (Keep.refl h0 []).1 (Nat.le_of_eq g92.symm)
      have K96 : Keep h0 h92 [] := (Keep.refl h0 []).ext E92
      have z97 : n0 ≤ h92.size := (Nat.le_trans Z0 E92.1)
      have V92 : Arv Z h92 b92 k92 .boolean (9 : Int32) [(.int (0 : Int32)), (.int (0 : Int32)), (.int (0 : Int32)), (.int (0 : Int32)), (.int (0 : Int32)), (.int (0 : Int32)), (.int (0 : Int32)), (.int (0 : Int32)), (.int (0 : Int32))] (.int (0 : Int32)) := (Arv.new A92 (by decide)).pad (pad_rep [] (.int (0 : Int32)) 9)
      refine g_dup X92 hx 31 (hb hby at_30) rfl rfl ?_
      refine g_iconst X92 hx 32 (hb hby at_31) (0 : Int32) rfl rfl ?_
      refine g_iconst X92 hx 33 (hb hby at_32) (1 : Int32) rfl rfl ?_
      obtain ⟨cl98, Ar98, q98, S98, P98, H98, G98⟩ := id V92
      have hin98 := inb_of (j := (0 : Int32)) S98 ⟨by decide, by decide⟩
      refine own_stZ X92 hx hZ e92 Ar98 hin98 34 (hb hby at_33) rfl fun T98 h98 X98 e98 W98 => ?_
      have V98 : Arv Z h98 b92 k92 .boolean (9 : Int32) [(.int (1 : Int32)), (.int (0 : Int32)), (.int (0 : Int32)), (.int (0 : Int32)), (.int (0 : Int32)), (.int (0 : Int32)), (.int (0 : Int32)), (.int (0 : Int32)), (.int (0 : Int32))] (.int (0 : Int32)) := Arv.set Ar98 q98 S98 P98 H98 G98 (v := (.int (1 : Int32))) rfl W98 0 rfl (Nat.le_of_ble_eq_true rfl)
      have N98 := Fr.snoc X98 N91 g_b92
      have z99 : n0 ≤ h98.size := (Nat.le_trans z97 (Keep.of_wr W98).1)
      have K100 : Keep h0 h98 [] := K96.wr W98 (Or.inr sz_b92)
      refine g_dup X98 hx 35 (hb hby at_34) rfl rfl ?_
      refine g_iconst X98 hx 36 (hb hby at_35) (1 : Int32) rfl rfl ?_
      refine g_iconst X98 hx 37 (hb hby at_36) (0 : Int32) rfl rfl ?_
      obtain ⟨cl101, Ar101, q101, S101, P101, H101, G101⟩ := id V98
      have hin101 := inb_of (j := (1 : Int32)) S101 ⟨by decide, by decide⟩
      refine own_stZ X98 hx hZ e98 Ar101 hin101 38 (hb hby at_37) rfl fun T101 h101 X101 e101 W101 => ?_
      have V101 : Arv Z h101 b92 k92 .boolean (9 : Int32) [(.int (1 : Int32)), (.int (0 : Int32)), (.int (0 : Int32)), (.int (0 : Int32)), (.int (0 : Int32)), (.int (0 : Int32)), (.int (0 : Int32)), (.int (0 : Int32)), (.int (0 : Int32))] (.int (0 : Int32)) := Arv.set Ar101 q101 S101 P101 H101 G101 (v := (.int (0 : Int32))) rfl W101 1 rfl (Nat.le_of_ble_eq_true rfl)
      have N101 := Fr.snoc X101 N98 g_b92
      have z102 : n0 ≤ h101.size := (Nat.le_trans z99 (Keep.of_wr W101).1)
      have K103 : Keep h0 h101 [] := K100.wr W101 (Or.inr sz_b92)
      refine g_dup X101 hx 39 (hb hby at_38) rfl rfl ?_
      refine g_iconst X101 hx 40 (hb hby at_39) (2 : Int32) rfl rfl ?_
      refine g_iconst X101 hx 41 (hb hby at_40) (0 : Int32) rfl rfl ?_
      obtain ⟨cl104, Ar104, q104, S104, P104, H104, G104⟩ := id V101
      have hin104 := inb_of (j := (2 : Int32)) S104 ⟨by decide, by decide⟩
      refine own_stZ X101 hx hZ e101 Ar104 hin104 42 (hb hby at_41) rfl fun T104 h104 X104 e104 W104 => ?_
      have V104 : Arv Z h104 b92 k92 .boolean (9 : Int32) [(.int (1 : Int32)), (.int (0 : Int32)), (.int (0 : Int32)), (.int (0 : Int32)), (.int (0 : Int32)), (.int (0 : Int32)), (.int (0 : Int32)), (.int (0 : Int32)), (.int (0 : Int32))] (.int (0 : Int32)) := Arv.set Ar104 q104 S104 P104 H104 G104 (v := (.int (0 : Int32))) rfl W104 2 rfl (Nat.le_of_ble_eq_true rfl)
      have N104 := Fr.snoc X104 N101 g_b92
      have z105 : n0 ≤ h104.size := (Nat.le_trans z102 (Keep.of_wr W104).1)
      have K106 : Keep h0 h104 [] := K103.wr W104 (Or.inr sz_b92)
      refine g_dup X104 hx 43 (hb hby at_42) rfl rfl ?_
      refine g_iconst X104 hx 44 (hb hby at_43) (3 : Int32) rfl rfl ?_
      refine g_iconst X104 hx 45 (hb hby at_44) (1 : Int32) rfl rfl ?_
      obtain ⟨cl107, Ar107, q107, S107, P107, H107, G107⟩ := id V104
      have hin107 := inb_of (j := (3 : Int32)) S107 ⟨by decide, by decide⟩
      refine own_stZ X104 hx hZ e104 Ar107 hin107 46 (hb hby at_45) rfl fun T107 h107 X107 e107 W107 => ?_
      have V107 : Arv Z h107 b92 k92 .boolean (9 : Int32) [(.int (1 : Int32)), (.int (0 : Int32)), (.int (0 : Int32)), (.int (1 : Int32)), (.int (0 : Int32)), (.int (0 : Int32)), (.int (0 : Int32)), (.int (0 : Int32)), (.int (0 : Int32))] (.int (0 : Int32)) := Arv.set Ar107 q107 S107 P107 H107 G107 (v := (.int (1 : Int32))) rfl W107 3 rfl (Nat.le_of_ble_eq_true rfl)
      have N107 := Fr.snoc X107 N104 g_b92
      have z108 : n0 ≤ h107.size := (Nat.le_trans z105 (Keep.of_wr W107).1)
      have K109 : Keep h0 h107 [] := K106.wr W107 (Or.inr sz_b92)
      refine g_dup X107 hx 47 (hb hby at_46) rfl rfl ?_
      refine g_iconst X107 hx 48 (hb hby at_47) (4 : Int32) rfl rfl ?_
      refine g_iconst X107 hx 49 (hb hby at_48) (1 : Int32) rfl rfl ?_
      obtain ⟨cl110, Ar110, q110, S110, P110, H110, G110⟩ := id V107
      have hin110 := inb_of (j := (4 : Int32)) S110 ⟨by decide, by decide⟩
      refine own_stZ X107 hx hZ e107 Ar110 hin110 50 (hb hby at_49) rfl fun T110 h110 X110 e110 W110 => ?_
      have V110 : Arv Z h110 b92 k92 .boolean (9 : Int32) [(.int (1 : Int32)), (.int (0 : Int32)), (.int (0 : Int32)), (.int (1 : Int32)), (.int (1 : Int32)), (.int (0 : Int32)), (.int (0 : Int32)), (.int (0 : Int32)), (.int (0 : Int32))] (.int (0 : Int32)) := Arv.set Ar110 q110 S110 P110 H110 G110 (v := (.int (1 : Int32))) rfl W110 4 rfl (Nat.le_of_ble_eq_true rfl)
      have N110 := Fr.snoc X110 N107 g_b92
      have z111 : n0 ≤ h110.size := (Nat.le_trans z108 (Keep.of_wr W110).1)
      have K112 : Keep h0 h110 [] := K109.wr W110 (Or.inr sz_b92)
      refine g_dup X110 hx 51 (hb hby at_50) rfl rfl ?_
      refine g_iconst X110 hx 52 (hb hby at_51) (5 : Int32) rfl rfl ?_
      refine g_iconst X110 hx 53 (hb hby at_52) (1 : Int32) rfl rfl ?_
      obtain ⟨cl113, Ar113, q113, S113, P113, H113, G113⟩ := id V110
      have hin113 := inb_of (j := (5 : Int32)) S113 ⟨by decide, by decide⟩
      refine own_stZ X110 hx hZ e110 Ar113 hin113 54 (hb hby at_53) rfl fun T113 h113 X113 e113 W113 => ?_
      have V113 : Arv Z h113 b92 k92 .boolean (9 : Int32) [(.int (1 : Int32)), (.int (0 : Int32)), (.int (0 : Int32)), (.int (1 : Int32)), (.int (1 : Int32)), (.int (1 : Int32)), (.int (0 : Int32)), (.int (0 : Int32)), (.int (0 : Int32))] (.int (0 : Int32)) := Arv.set Ar113 q113 S113 P113 H113 G113 (v := (.int (1 : Int32))) rfl W113 5 rfl (Nat.le_of_ble_eq_true rfl)
      have N113 := Fr.snoc X113 N110 g_b92
      have z114 : n0 ≤ h113.size := (Nat.le_trans z111 (Keep.of_wr W113).1)
      have K115 : Keep h0 h113 [] := K112.wr W113 (Or.inr sz_b92)
      refine g_dup X113 hx 55 (hb hby at_54) rfl rfl ?_
      refine g_bipush X113 hx 57 (hb hby at_55) (6 : Int32) rfl rfl ?_
      refine g_iconst X113 hx 58 (hb hby at_57) (0 : Int32) rfl rfl ?_
      obtain ⟨cl116, Ar116, q116, S116, P116, H116, G116⟩ := id V113
      have hin116 := inb_of (j := (6 : Int32)) S116 ⟨by decide, by decide⟩
      refine own_stZ X113 hx hZ e113 Ar116 hin116 59 (hb hby at_58) rfl fun T116 h116 X116 e116 W116 => ?_
      have V116 : Arv Z h116 b92 k92 .boolean (9 : Int32) [(.int (1 : Int32)), (.int (0 : Int32)), (.int (0 : Int32)), (.int (1 : Int32)), (.int (1 : Int32)), (.int (1 : Int32)), (.int (0 : Int32)), (.int (0 : Int32)), (.int (0 : Int32))] (.int (0 : Int32)) := Arv.set Ar116 q116 S116 P116 H116 G116 (v := (.int (0 : Int32))) rfl W116 6 rfl (Nat.le_of_ble_eq_true rfl)
      have N116 := Fr.snoc X116 N113 g_b92
      have z117 : n0 ≤ h116.size := (Nat.le_trans z114 (Keep.of_wr W116).1)
      have K118 : Keep h0 h116 [] := K115.wr W116 (Or.inr sz_b92)
      refine g_dup X116 hx 60 (hb hby at_59) rfl rfl ?_
      refine g_bipush X116 hx 62 (hb hby at_60) (7 : Int32) rfl rfl ?_
      refine g_iconst X116 hx 63 (hb hby at_62) (0 : Int32) rfl rfl ?_
      obtain ⟨cl119, Ar119, q119, S119, P119, H119, G119⟩ := id V116
      have hin119 := inb_of (j := (7 : Int32)) S119 ⟨by decide, by decide⟩
      refine own_stZ X116 hx hZ e116 Ar119 hin119 64 (hb hby at_63) rfl fun T119 h119 X119 e119 W119 => ?_
      have V119 : Arv Z h119 b92 k92 .boolean (9 : Int32) [(.int (1 : Int32)), (.int (0 : Int32)), (.int (0 : Int32)), (.int (1 : Int32)), (.int (1 : Int32)), (.int (1 : Int32)), (.int (0 : Int32)), (.int (0 : Int32)), (.int (0 : Int32))] (.int (0 : Int32)) := Arv.set Ar119 q119 S119 P119 H119 G119 (v := (.int (0 : Int32))) rfl W119 7 rfl (Nat.le_of_ble_eq_true rfl)
      have N119 := Fr.snoc X119 N116 g_b92
      have z120 : n0 ≤ h119.size := (Nat.le_trans z117 (Keep.of_wr W119).1)
      have K121 : Keep h0 h119 [] := K118.wr W119 (Or.inr sz_b92)
      refine g_dup X119 hx 65 (hb hby at_64) rfl rfl ?_
      refine g_bipush X119 hx 67 (hb hby at_65) (8 : Int32) rfl rfl ?_
      refine g_iconst X119 hx 68 (hb hby at_67) (1 : Int32) rfl rfl ?_
      obtain ⟨cl122, Ar122, q122, S122, P122, H122, G122⟩ := id V119
      have hin122 := inb_of (j := (8 : Int32)) S122 ⟨by decide, by decide⟩
      refine own_stZ X119 hx hZ e119 Ar122 hin122 69 (hb hby at_68) rfl fun T122 h122 X122 e122 W122 => ?_
      have V122 : Arv Z h122 b92 k92 .boolean (9 : Int32) [(.int (1 : Int32)), (.int (0 : Int32)), (.int (0 : Int32)), (.int (1 : Int32)), (.int (1 : Int32)), (.int (1 : Int32)), (.int (0 : Int32)), (.int (0 : Int32)), (.int (1 : Int32))] (.int (0 : Int32)) := Arv.set Ar122 q122 S122 P122 H122 G122 (v := (.int (1 : Int32))) rfl W122 8 rfl (Nat.le_of_ble_eq_true rfl)
      have N122 := Fr.snoc X122 N119 g_b92
      have z123 : n0 ≤ h122.size := (Nat.le_trans z120 (Keep.of_wr W122).1)
      have K124 : Keep h0 h122 [] := K121.wr W122 (Or.inr sz_b92)
      refine g_astore X122 hx 71 (hb hby at_69) rfl (l' := #[.val (.int p0), .val (.int p1), .val (.int (0 : Int32)), .val (.int (2 : Int32)), .val (.ref s0), .val (.ref s2), .val (.ref b92), .unset]) rfl rfl ?_
      refine g_aload X122 hx 73 (hb hby at_71) rfl rfl rfl ?_
      refine g_iload_n X122 hx 74 (hb hby at_73) rfl rfl ?_
      refine g_iconst X122 hx 75 (hb hby at_74) (3 : Int32) rfl rfl ?_
      refine g_imul X122 hx 76 (hb hby at_75) rfl ?_
      show own_Go p e below s _ _ _ (T122.setTop (mkF m 76 _ [(.int (0 : Int32)), (.ref b92)]))
      refine g_iload_n X122 hx 77 (hb hby at_76) rfl rfl ?_
      refine g_iadd X122 hx 78 (hb hby at_77) rfl ?_
      show own_Go p e below s _ _ _ (T122.setTop (mkF m 78 _ [(.int (2 : Int32)), (.ref b92)]))
      obtain ⟨cl125, Ar125, q125, S125, P125, H125, G125⟩ := id V122
      have hin125 := inb_of (j := (2 : Int32)) S125 ⟨by decide, by decide⟩
      refine own_baloadZ X122 hx hZ e122 Ar125 (v := (.int (0 : Int32))) hin125 (Has.at H125 hin125 rfl) 79 (hb hby at_78) rfl ?_
      refine g_istore X122 hx 81 (hb hby at_79) (l' := #[.val (.int p0), .val (.int p1), .val (.int (0 : Int32)), .val (.int (2 : Int32)), .val (.ref s0), .val (.ref s2), .val (.ref b92), .val (.int (0 : Int32))]) rfl rfl ?_
      refine g_aload X122 hx 83 (hb hby at_81) rfl rfl rfl ?_
      refine g_aload X122 hx 85 (hb hby at_83) rfl rfl rfl ?_
      have f127 : Sta Z h122 "com/example/grantbook/grantbook/model/Permission" "OAUTH_CLIENT_READ" "Lcom/example/grantbook/grantbook/model/Permission;" (.ref s0) := (own_Sta_keep K124 S_s0 all0)
      have f128 : Sta Z h122 "com/example/grantbook/grantbook/model/Permission" "OAUTH_CLIENT_WRITE" "Lcom/example/grantbook/grantbook/model/Permission;" (.ref s1) := (own_Sta_keep K124 S_s1 all0)
      have f129 : Sta Z h122 "com/example/grantbook/grantbook/model/Permission" "OAUTH_CLIENT_REGISTER" "Lcom/example/grantbook/grantbook/model/Permission;" (.ref s2) := (own_Sta_keep K124 S_s2 all0)
      have f130 : Exa Z h122 s0 "com/example/grantbook/grantbook/model/Permission" := (E_s0.keep K124)
      refine own_callV X122 hx hZ hown (hw _ (List.mem_of_getElem? (i := 9) rfl)) (hw _ (List.mem_of_getElem? (i := 10) rfl)) (own_nf hZ (hw _ (List.mem_of_getElem? (i := 12) rfl))) (hw _ (List.mem_of_getElem? (i := 12) rfl)) (hw _ (List.mem_of_getElem? (i := 11) rfl)) (by decide) (rm_inc02 l Z a0 hw [] s0 s1 s2 h122 n0 z123 f127 f128 f129 ne_s0_s1 ne_s0_s2 ne_s1_s2) (hw _ (List.mem_of_getElem? (i := 13) rfl)) (hw _ (List.mem_of_getElem? (i := 6) rfl)) e122 0 (by decide) (by decide) (by decide) (by decide) f130 [(.ref s2)] [] rfl pd_1 rfl 88 rfl (by rw [hml]; rfl) rfl (hb hby at_85) rfl fun T126 v126 L126 X126 hQ126 => ?_
      obtain ⟨rfl, Nq126, e126⟩ := hQ126
      have N126 := Fr.app N122 Nq126
      show own_Go p e below s _ _ _ (T126.setTop (mkF m 88 _ [(.int (0 : Int32))]))
      refine g_iload X126 hx 90 (hb hby at_88) rfl rfl ?_
      refine g_icmpNo X126 hx 93 (hb hby at_90) (own_ii_ne_f (by decide)) rfl ?_
      refine g_iconst X126 hx 94 (hb hby at_93) (1 : Int32) rfl rfl ?_
      refine g_goto X126 hx 98 (hb hby at_94) (by decide) (by decide) ?_
      refine own_retN X126 hx hlk (t := .boolean) hret (by simp) (hb hby at_98) ?_ (by decide) (by decide)
      rw [e126]
      exact ⟨rfl, N126⟩
  · show own_Go p e below s _ _ _ (s₁.setTop (mkF m 14 _ []))
    refine g_iload_n X0 hx 15 (hb hby at_14) rfl rfl ?_
    refine own_callS X0 hx hZ hown (hw _ (List.mem_of_getElem? (i := 1) rfl)) (hw _ (List.mem_of_getElem? (i := 2) rfl)) (by decide) (rm_pick1 l Z a0 hw [] s0 s1 s2 h0 n0 Z0 S_s0 S_s1 S_s2) (hw _ (List.mem_of_getElem? (i := 4) rfl)) (hw _ (List.mem_of_getElem? (i := 3) rfl)) e0 0 (by decide) (by decide) (by decide) (by decide) [(.int (1 : Int32))] [] rfl pd_0 rfl 18 rfl (by rw [hml]; rfl) rfl (hb hby at_15) rfl fun T131 v131 L131 X131 hQ131 => ?_
    obtain ⟨rfl, Nq131, e131⟩ := hQ131
    have N131 := Fr.app N0 Nq131
    show own_Go p e below s _ _ _ (T131.setTop (mkF m 18 _ [(.ref s1)]))
    refine g_astore X131 hx 20 (hb hby at_18) rfl (l' := #[.val (.int p0), .val (.int p1), .val (.int (1 : Int32)), .val (.int j), .val (.ref s1), .unset, .unset, .unset]) rfl rfl ?_
    rcases own_three p1 q_j with rfl | rfl | rfl
    · show own_Go p e below s _ _ _ (T131.setTop (mkF m 20 _ []))
      refine g_iload_n X131 hx 21 (hb hby at_20) rfl rfl ?_
      refine own_callS X131 hx hZ hown (hw _ (List.mem_of_getElem? (i := 1) rfl)) (hw _ (List.mem_of_getElem? (i := 2) rfl)) (by decide) (rm_pick0 l Z a0 hw [] s0 s1 s2 h0 n0 Z0 S_s0 S_s1 S_s2) (hw _ (List.mem_of_getElem? (i := 4) rfl)) (hw _ (List.mem_of_getElem? (i := 3) rfl)) e131 0 (by decide) (by decide) (by decide) (by decide) [(.int (0 : Int32))] [] rfl pd_0 rfl 24 rfl (by rw [hml]; rfl) rfl (hb hby at_21) rfl fun T132 v132 L132 X132 hQ132 => ?_
      obtain ⟨rfl, Nq132, e132⟩ := hQ132
      have N132 := Fr.app N131 Nq132
      show own_Go p e below s _ _ _ (T132.setTop (mkF m 24 _ [(.ref s0)]))
      refine g_astore X132 hx 26 (hb hby at_24) rfl (l' := #[.val (.int p0), .val (.int p1), .val (.int (1 : Int32)), .val (.int (0 : Int32)), .val (.ref s1), .val (.ref s0), .unset, .unset]) rfl rfl ?_
      refine g_bipush X132 hx 28 (hb hby at_26) (9 : Int32) rfl rfl ?_
      refine own_newP X132 hx hZ (hw _ (List.mem_of_getElem? (i := 8) rfl)) e132 30 (hb hby at_28) rfl (by decide) 9 (by decide) (by decide) (by decide) (by decide) fun T133 h133 k133 b133 X133 e133 g133 E133 A133 => ?_
      have ne134 : s0 ≠ b133 := Nat.ne_of_lt (Nat.lt_of_lt_of_le E_s0.lt (Nat.le_of_eq g133.symm))
      have ne135 : s1 ≠ b133 := Nat.ne_of_lt (Nat.lt_of_lt_of_le E_s1.lt (Nat.le_of_eq g133.symm))
      have ne136 : s2 ≠ b133 := Nat.ne_of_lt (Nat.lt_of_lt_of_le E_s2.lt (Nat.le_of_eq g133.symm))
      have g_b133 : n0 ≤ b133 := Nat.le_trans Z0 (Nat.le_of_eq g133.symm)
      have sz_b133 : h0.size ≤ b133 := Nat.le_trans (Keep.refl h0 []).1 (Nat.le_of_eq g133.symm)
      have K137 : Keep h0 h133 [] := (Keep.refl h0 []).ext E133
      have z138 : n0 ≤ h133.size := (Nat.le_trans Z0 E133.1)
      have V133 : Arv Z h133 b133 k133 .boolean (9 : Int32) [(.int (0 : Int32)), (.int (0 : Int32)), (.int (0 : Int32)), (.int (0 : Int32)), (.int (0 : Int32)), (.int (0 : Int32)), (.int (0 : Int32)), (.int (0 : Int32)), (.int (0 : Int32))] (.int (0 : Int32)) := (Arv.new A133 (by decide)).pad (pad_rep [] (.int (0 : Int32)) 9)
      refine g_dup X133 hx 31 (hb hby at_30) rfl rfl ?_
      refine g_iconst X133 hx 32 (hb hby at_31) (0 : Int32) rfl rfl ?_
      refine g_iconst X133 hx 33 (hb hby at_32) (1 : Int32) rfl rfl ?_
      obtain ⟨cl139, Ar139, q139, S139, P139, H139, G139⟩ := id V133
      have hin139 := inb_of (j := (0 : Int32)) S139 ⟨by decide, by decide⟩
      refine own_stZ X133 hx hZ e133 Ar139 hin139 34 (hb hby at_33) rfl fun T139 h139 X139 e139 W139 => ?_
      have V139 : Arv Z h139 b133 k133 .boolean (9 : Int32) [(.int (1 : Int32)), (.int (0 : Int32)), (.int (0 : Int32)), (.int (0 : Int32)), (.int (0 : Int32)), (.int (0 : Int32)), (.int (0 : Int32)), (.int (0 : Int32)), (.int (0 : Int32))] (.int (0 : Int32)) := Arv.set Ar139 q139 S139 P139 H139 G139 (v := (.int (1 : Int32))) rfl W139 0 rfl (Nat.le_of_ble_eq_true rfl)
      have N139 := Fr.snoc X139 N132 g_b133
      have z140 : n0 ≤ h139.size := (Nat.le_trans z138 (Keep.of_wr W139).1)
      have K141 : Keep h0 h139 [] := K137.wr W139 (Or.inr sz_b133)
      refine g_dup X139 hx 35 (hb hby at_34) rfl rfl ?_
      refine g_iconst X139 hx 36 (hb hby at_35) (1 : Int32) rfl rfl ?_
      refine g_iconst X139 hx 37 (hb hby at_36) (0 : Int32) rfl rfl ?_
      obtain ⟨cl142, Ar142, q142, S142, P142, H142, G142⟩ := id V139
      have hin142 := inb_of (j := (1 : Int32)) S142 ⟨by decide, by decide⟩
      refine own_stZ X139 hx hZ e139 Ar142 hin142 38 (hb hby at_37) rfl fun T142 h142 X142 e142 W142 => ?_
      have V142 : Arv Z h142 b133 k133 .boolean (9 : Int32) [(.int (1 : Int32)), (.int (0 : Int32)), (.int (0 : Int32)), (.int (0 : Int32)), (.int (0 : Int32)), (.int (0 : Int32)), (.int (0 : Int32)), (.int (0 : Int32)), (.int (0 : Int32))] (.int (0 : Int32)) := Arv.set Ar142 q142 S142 P142 H142 G142 (v := (.int (0 : Int32))) rfl W142 1 rfl (Nat.le_of_ble_eq_true rfl)
      have N142 := Fr.snoc X142 N139 g_b133
      have z143 : n0 ≤ h142.size := (Nat.le_trans z140 (Keep.of_wr W142).1)
      have K144 : Keep h0 h142 [] := K141.wr W142 (Or.inr sz_b133)
      refine g_dup X142 hx 39 (hb hby at_38) rfl rfl ?_
      refine g_iconst X142 hx 40 (hb hby at_39) (2 : Int32) rfl rfl ?_
      refine g_iconst X142 hx 41 (hb hby at_40) (0 : Int32) rfl rfl ?_
      obtain ⟨cl145, Ar145, q145, S145, P145, H145, G145⟩ := id V142
      have hin145 := inb_of (j := (2 : Int32)) S145 ⟨by decide, by decide⟩
      refine own_stZ X142 hx hZ e142 Ar145 hin145 42 (hb hby at_41) rfl fun T145 h145 X145 e145 W145 => ?_
      have V145 : Arv Z h145 b133 k133 .boolean (9 : Int32) [(.int (1 : Int32)), (.int (0 : Int32)), (.int (0 : Int32)), (.int (0 : Int32)), (.int (0 : Int32)), (.int (0 : Int32)), (.int (0 : Int32)), (.int (0 : Int32)), (.int (0 : Int32))] (.int (0 : Int32)) := Arv.set Ar145 q145 S145 P145 H145 G145 (v := (.int (0 : Int32))) rfl W145 2 rfl (Nat.le_of_ble_eq_true rfl)
      have N145 := Fr.snoc X145 N142 g_b133
      have z146 : n0 ≤ h145.size := (Nat.le_trans z143 (Keep.of_wr W145).1)
      have K147 : Keep h0 h145 [] := K144.wr W145 (Or.inr sz_b133)
      refine g_dup X145 hx 43 (hb hby at_42) rfl rfl ?_
      refine g_iconst X145 hx 44 (hb hby at_43) (3 : Int32) rfl rfl ?_
      refine g_iconst X145 hx 45 (hb hby at_44) (1 : Int32) rfl rfl ?_
      obtain ⟨cl148, Ar148, q148, S148, P148, H148, G148⟩ := id V145
      have hin148 := inb_of (j := (3 : Int32)) S148 ⟨by decide, by decide⟩
      refine own_stZ X145 hx hZ e145 Ar148 hin148 46 (hb hby at_45) rfl fun T148 h148 X148 e148 W148 => ?_
      have V148 : Arv Z h148 b133 k133 .boolean (9 : Int32) [(.int (1 : Int32)), (.int (0 : Int32)), (.int (0 : Int32)), (.int (1 : Int32)), (.int (0 : Int32)), (.int (0 : Int32)), (.int (0 : Int32)), (.int (0 : Int32)), (.int (0 : Int32))] (.int (0 : Int32)) := Arv.set Ar148 q148 S148 P148 H148 G148 (v := (.int (1 : Int32))) rfl W148 3 rfl (Nat.le_of_ble_eq_true rfl)
      have N148 := Fr.snoc X148 N145 g_b133
      have z149 : n0 ≤ h148.size := (Nat.le_trans z146 (Keep.of_wr W148).1)
      have K150 : Keep h0 h148 [] := K147.wr W148 (Or.inr sz_b133)
      refine g_dup X148 hx 47 (hb hby at_46) rfl rfl ?_
      refine g_iconst X148 hx 48 (hb hby at_47) (4 : Int32) rfl rfl ?_
      refine g_iconst X148 hx 49 (hb hby at_48) (1 : Int32) rfl rfl ?_
      obtain ⟨cl151, Ar151, q151, S151, P151, H151, G151⟩ := id V148
      have hin151 := inb_of (j := (4 : Int32)) S151 ⟨by decide, by decide⟩
      refine own_stZ X148 hx hZ e148 Ar151 hin151 50 (hb hby at_49) rfl fun T151 h151 X151 e151 W151 => ?_
      have V151 : Arv Z h151 b133 k133 .boolean (9 : Int32) [(.int (1 : Int32)), (.int (0 : Int32)), (.int (0 : Int32)), (.int (1 : Int32)), (.int (1 : Int32)), (.int (0 : Int32)), (.int (0 : Int32)), (.int (0 : Int32)), (.int (0 : Int32))] (.int (0 : Int32)) := Arv.set Ar151 q151 S151 P151 H151 G151 (v := (.int (1 : Int32))) rfl W151 4 rfl (Nat.le_of_ble_eq_true rfl)
      have N151 := Fr.snoc X151 N148 g_b133
      have z152 : n0 ≤ h151.size := (Nat.le_trans z149 (Keep.of_wr W151).1)
      have K153 : Keep h0 h151 [] := K150.wr W151 (Or.inr sz_b133)
      refine g_dup X151 hx 51 (hb hby at_50) rfl rfl ?_
      refine g_iconst X151 hx 52 (hb hby at_51) (5 : Int32) rfl rfl ?_
      refine g_iconst X151 hx 53 (hb hby at_52) (1 : Int32) rfl rfl ?_
      obtain ⟨cl154, Ar154, q154, S154, P154, H154, G154⟩ := id V151
      have hin154 := inb_of (j := (5 : Int32)) S154 ⟨by decide, by decide⟩
      refine own_stZ X151 hx hZ e151 Ar154 hin154 54 (hb hby at_53) rfl fun T154 h154 X154 e154 W154 => ?_
      have V154 : Arv Z h154 b133 k133 .boolean (9 : Int32) [(.int (1 : Int32)), (.int (0 : Int32)), (.int (0 : Int32)), (.int (1 : Int32)), (.int (1 : Int32)), (.int (1 : Int32)), (.int (0 : Int32)), (.int (0 : Int32)), (.int (0 : Int32))] (.int (0 : Int32)) := Arv.set Ar154 q154 S154 P154 H154 G154 (v := (.int (1 : Int32))) rfl W154 5 rfl (Nat.le_of_ble_eq_true rfl)
      have N154 := Fr.snoc X154 N151 g_b133
      have z155 : n0 ≤ h154.size := (Nat.le_trans z152 (Keep.of_wr W154).1)
      have K156 : Keep h0 h154 [] := K153.wr W154 (Or.inr sz_b133)
      refine g_dup X154 hx 55 (hb hby at_54) rfl rfl ?_
      refine g_bipush X154 hx 57 (hb hby at_55) (6 : Int32) rfl rfl ?_
      refine g_iconst X154 hx 58 (hb hby at_57) (0 : Int32) rfl rfl ?_
      obtain ⟨cl157, Ar157, q157, S157, P157, H157, G157⟩ := id V154
      have hin157 := inb_of (j := (6 : Int32)) S157 ⟨by decide, by decide⟩
      refine own_stZ X154 hx hZ e154 Ar157 hin157 59 (hb hby at_58) rfl fun T157 h157 X157 e157 W157 => ?_
      have V157 : Arv Z h157 b133 k133 .boolean (9 : Int32) [(.int (1 : Int32)), (.int (0 : Int32)), (.int (0 : Int32)), (.int (1 : Int32)), (.int (1 : Int32)), (.int (1 : Int32)), (.int (0 : Int32)), (.int (0 : Int32)), (.int (0 : Int32))] (.int (0 : Int32)) := Arv.set Ar157 q157 S157 P157 H157 G157 (v := (.int (0 : Int32))) rfl W157 6 rfl (Nat.le_of_ble_eq_true rfl)
      have N157 := Fr.snoc X157 N154 g_b133
      have z158 : n0 ≤ h157.size := (Nat.le_trans z155 (Keep.of_wr W157).1)
      have K159 : Keep h0 h157 [] := K156.wr W157 (Or.inr sz_b133)
      refine g_dup X157 hx 60 (hb hby at_59) rfl rfl ?_
      refine g_bipush X157 hx 62 (hb hby at_60) (7 : Int32) rfl rfl ?_
      refine g_iconst X157 hx 63 (hb hby at_62) (0 : Int32) rfl rfl ?_
      obtain ⟨cl160, Ar160, q160, S160, P160, H160, G160⟩ := id V157
      have hin160 := inb_of (j := (7 : Int32)) S160 ⟨by decide, by decide⟩
      refine own_stZ X157 hx hZ e157 Ar160 hin160 64 (hb hby at_63) rfl fun T160 h160 X160 e160 W160 => ?_
      have V160 : Arv Z h160 b133 k133 .boolean (9 : Int32) [(.int (1 : Int32)), (.int (0 : Int32)), (.int (0 : Int32)), (.int (1 : Int32)), (.int (1 : Int32)), (.int (1 : Int32)), (.int (0 : Int32)), (.int (0 : Int32)), (.int (0 : Int32))] (.int (0 : Int32)) := Arv.set Ar160 q160 S160 P160 H160 G160 (v := (.int (0 : Int32))) rfl W160 7 rfl (Nat.le_of_ble_eq_true rfl)
      have N160 := Fr.snoc X160 N157 g_b133
      have z161 : n0 ≤ h160.size := (Nat.le_trans z158 (Keep.of_wr W160).1)
      have K162 : Keep h0 h160 [] := K159.wr W160 (Or.inr sz_b133)
      refine g_dup X160 hx 65 (hb hby at_64) rfl rfl ?_
      refine g_bipush X160 hx 67 (hb hby at_65) (8 : Int32) rfl rfl ?_
      refine g_iconst X160 hx 68 (hb hby at_67) (1 : Int32) rfl rfl ?_
      obtain ⟨cl163, Ar163, q163, S163, P163, H163, G163⟩ := id V160
      have hin163 := inb_of (j := (8 : Int32)) S163 ⟨by decide, by decide⟩
      refine own_stZ X160 hx hZ e160 Ar163 hin163 69 (hb hby at_68) rfl fun T163 h163 X163 e163 W163 => ?_
      have V163 : Arv Z h163 b133 k133 .boolean (9 : Int32) [(.int (1 : Int32)), (.int (0 : Int32)), (.int (0 : Int32)), (.int (1 : Int32)), (.int (1 : Int32)), (.int (1 : Int32)), (.int (0 : Int32)), (.int (0 : Int32)), (.int (1 : Int32))] (.int (0 : Int32)) := Arv.set Ar163 q163 S163 P163 H163 G163 (v := (.int (1 : Int32))) rfl W163 8 rfl (Nat.le_of_ble_eq_true rfl)
      have N163 := Fr.snoc X163 N160 g_b133
      have z164 : n0 ≤ h163.size := (Nat.le_trans z161 (Keep.of_wr W163).1)
      have K165 : Keep h0 h163 [] := K162.wr W163 (Or.inr sz_b133)
      refine g_astore X163 hx 71 (hb hby at_69) rfl (l' := #[.val (.int p0), .val (.int p1), .val (.int (1 : Int32)), .val (.int (0 : Int32)), .val (.ref s1), .val (.ref s0), .val (.ref b133), .unset]) rfl rfl ?_
      refine g_aload X163 hx 73 (hb hby at_71) rfl rfl rfl ?_
      refine g_iload_n X163 hx 74 (hb hby at_73) rfl rfl ?_
      refine g_iconst X163 hx 75 (hb hby at_74) (3 : Int32) rfl rfl ?_
      refine g_imul X163 hx 76 (hb hby at_75) rfl ?_
      show own_Go p e below s _ _ _ (T163.setTop (mkF m 76 _ [(.int (3 : Int32)), (.ref b133)]))
      refine g_iload_n X163 hx 77 (hb hby at_76) rfl rfl ?_
      refine g_iadd X163 hx 78 (hb hby at_77) rfl ?_
      show own_Go p e below s _ _ _ (T163.setTop (mkF m 78 _ [(.int (3 : Int32)), (.ref b133)]))
      obtain ⟨cl166, Ar166, q166, S166, P166, H166, G166⟩ := id V163
      have hin166 := inb_of (j := (3 : Int32)) S166 ⟨by decide, by decide⟩
      refine own_baloadZ X163 hx hZ e163 Ar166 (v := (.int (1 : Int32))) hin166 (Has.at H166 hin166 rfl) 79 (hb hby at_78) rfl ?_
      refine g_istore X163 hx 81 (hb hby at_79) (l' := #[.val (.int p0), .val (.int p1), .val (.int (1 : Int32)), .val (.int (0 : Int32)), .val (.ref s1), .val (.ref s0), .val (.ref b133), .val (.int (1 : Int32))]) rfl rfl ?_
      refine g_aload X163 hx 83 (hb hby at_81) rfl rfl rfl ?_
      refine g_aload X163 hx 85 (hb hby at_83) rfl rfl rfl ?_
      have f168 : Sta Z h163 "com/example/grantbook/grantbook/model/Permission" "OAUTH_CLIENT_READ" "Lcom/example/grantbook/grantbook/model/Permission;" (.ref s0) := (own_Sta_keep K165 S_s0 all0)
      have f169 : Sta Z h163 "com/example/grantbook/grantbook/model/Permission" "OAUTH_CLIENT_WRITE" "Lcom/example/grantbook/grantbook/model/Permission;" (.ref s1) := (own_Sta_keep K165 S_s1 all0)
      have f170 : Sta Z h163 "com/example/grantbook/grantbook/model/Permission" "OAUTH_CLIENT_REGISTER" "Lcom/example/grantbook/grantbook/model/Permission;" (.ref s2) := (own_Sta_keep K165 S_s2 all0)
      have f171 : Exa Z h163 s1 "com/example/grantbook/grantbook/model/Permission" := (E_s1.keep K165)
      refine own_callV X163 hx hZ hown (hw _ (List.mem_of_getElem? (i := 9) rfl)) (hw _ (List.mem_of_getElem? (i := 10) rfl)) (own_nf hZ (hw _ (List.mem_of_getElem? (i := 12) rfl))) (hw _ (List.mem_of_getElem? (i := 12) rfl)) (hw _ (List.mem_of_getElem? (i := 11) rfl)) (by decide) (rm_inc10 l Z a0 hw [] s0 s1 s2 h163 n0 z164 f168 f169 f170 ne_s0_s1 ne_s0_s2 ne_s1_s2) (hw _ (List.mem_of_getElem? (i := 13) rfl)) (hw _ (List.mem_of_getElem? (i := 6) rfl)) e163 0 (by decide) (by decide) (by decide) (by decide) f171 [(.ref s0)] [] rfl pd_1 rfl 88 rfl (by rw [hml]; rfl) rfl (hb hby at_85) rfl fun T167 v167 L167 X167 hQ167 => ?_
      obtain ⟨rfl, Nq167, e167⟩ := hQ167
      have N167 := Fr.app N163 Nq167
      show own_Go p e below s _ _ _ (T167.setTop (mkF m 88 _ [(.int (1 : Int32))]))
      refine g_iload X167 hx 90 (hb hby at_88) rfl rfl ?_
      refine g_icmpNo X167 hx 93 (hb hby at_90) (own_ii_ne_f (by decide)) rfl ?_
      refine g_iconst X167 hx 94 (hb hby at_93) (1 : Int32) rfl rfl ?_
      refine g_goto X167 hx 98 (hb hby at_94) (by decide) (by decide) ?_
      refine own_retN X167 hx hlk (t := .boolean) hret (by simp) (hb hby at_98) ?_ (by decide) (by decide)
      rw [e167]
      exact ⟨rfl, N167⟩
    · show own_Go p e below s _ _ _ (T131.setTop (mkF m 20 _ []))
      refine g_iload_n X131 hx 21 (hb hby at_20) rfl rfl ?_
      refine own_callS X131 hx hZ hown (hw _ (List.mem_of_getElem? (i := 1) rfl)) (hw _ (List.mem_of_getElem? (i := 2) rfl)) (by decide) (rm_pick1 l Z a0 hw [] s0 s1 s2 h0 n0 Z0 S_s0 S_s1 S_s2) (hw _ (List.mem_of_getElem? (i := 4) rfl)) (hw _ (List.mem_of_getElem? (i := 3) rfl)) e131 0 (by decide) (by decide) (by decide) (by decide) [(.int (1 : Int32))] [] rfl pd_0 rfl 24 rfl (by rw [hml]; rfl) rfl (hb hby at_21) rfl fun T172 v172 L172 X172 hQ172 => ?_
      obtain ⟨rfl, Nq172, e172⟩ := hQ172
      have N172 := Fr.app N131 Nq172
      show own_Go p e below s _ _ _ (T172.setTop (mkF m 24 _ [(.ref s1)]))
      refine g_astore X172 hx 26 (hb hby at_24) rfl (l' := #[.val (.int p0), .val (.int p1), .val (.int (1 : Int32)), .val (.int (1 : Int32)), .val (.ref s1), .val (.ref s1), .unset, .unset]) rfl rfl ?_
      refine g_bipush X172 hx 28 (hb hby at_26) (9 : Int32) rfl rfl ?_
      refine own_newP X172 hx hZ (hw _ (List.mem_of_getElem? (i := 8) rfl)) e172 30 (hb hby at_28) rfl (by decide) 9 (by decide) (by decide) (by decide) (by decide) fun T173 h173 k173 b173 X173 e173 g173 E173 A173 => ?_
      have ne174 : s0 ≠ b173 := Nat.ne_of_lt (Nat.lt_of_lt_of_le E_s0.lt (Nat.le_of_eq g173.symm))
      have ne175 : s1 ≠ b173 := Nat.ne_of_lt (Nat.lt_of_lt_of_le E_s1.lt (Nat.le_of_eq g173.symm))
      have ne176 : s2 ≠ b173 := Nat.ne_of_lt (Nat.lt_of_lt_of_le E_s2.lt (Nat.le_of_eq g173.symm))
      have g_b173 : n0 ≤ b173 := Nat.le_trans Z0 (Nat.le_of_eq g173.symm)
      have sz_b173 : h0.size ≤ b173 := Nat.le_trans (Keep.refl h0 []).1 (Nat.le_of_eq g173.symm)
      have K177 : Keep h0 h173 [] := (Keep.refl h0 []).ext E173
      have z178 : n0 ≤ h173.size := (Nat.le_trans Z0 E173.1)
      have V173 : Arv Z h173 b173 k173 .boolean (9 : Int32) [(.int (0 : Int32)), (.int (0 : Int32)), (.int (0 : Int32)), (.int (0 : Int32)), (.int (0 : Int32)), (.int (0 : Int32)), (.int (0 : Int32)), (.int (0 : Int32)), (.int (0 : Int32))] (.int (0 : Int32)) := (Arv.new A173 (by decide)).pad (pad_rep [] (.int (0 : Int32)) 9)
      refine g_dup X173 hx 31 (hb hby at_30) rfl rfl ?_
      refine g_iconst X173 hx 32 (hb hby at_31) (0 : Int32) rfl rfl ?_
      refine g_iconst X173 hx 33 (hb hby at_32) (1 : Int32) rfl rfl ?_
      obtain ⟨cl179, Ar179, q179, S179, P179, H179, G179⟩ := id V173
      have hin179 := inb_of (j := (0 : Int32)) S179 ⟨by decide, by decide⟩
      refine own_stZ X173 hx hZ e173 Ar179 hin179 34 (hb hby at_33) rfl fun T179 h179 X179 e179 W179 => ?_
      have V179 : Arv Z h179 b173 k173 .boolean (9 : Int32) [(.int (1 : Int32)), (.int (0 : Int32)), (.int (0 : Int32)), (.int (0 : Int32)), (.int (0 : Int32)), (.int (0 : Int32)), (.int (0 : Int32)), (.int (0 : Int32)), (.int (0 : Int32))] (.int (0 : Int32)) := Arv.set Ar179 q179 S179 P179 H179 G179 (v := (.int (1 : Int32))) rfl W179 0 rfl (Nat.le_of_ble_eq_true rfl)
      have N179 := Fr.snoc X179 N172 g_b173
      have z180 : n0 ≤ h179.size := (Nat.le_trans z178 (Keep.of_wr W179).1)
      have K181 : Keep h0 h179 [] := K177.wr W179 (Or.inr sz_b173)
      refine g_dup X179 hx 35 (hb hby at_34) rfl rfl ?_
      refine g_iconst X179 hx 36 (hb hby at_35) (1 : Int32) rfl rfl ?_
      refine g_iconst X179 hx 37 (hb hby at_36) (0 : Int32) rfl rfl ?_
      obtain ⟨cl182, Ar182, q182, S182, P182, H182, G182⟩ := id V179
      have hin182 := inb_of (j := (1 : Int32)) S182 ⟨by decide, by decide⟩
      refine own_stZ X179 hx hZ e179 Ar182 hin182 38 (hb hby at_37) rfl fun T182 h182 X182 e182 W182 => ?_
      have V182 : Arv Z h182 b173 k173 .boolean (9 : Int32) [(.int (1 : Int32)), (.int (0 : Int32)), (.int (0 : Int32)), (.int (0 : Int32)), (.int (0 : Int32)), (.int (0 : Int32)), (.int (0 : Int32)), (.int (0 : Int32)), (.int (0 : Int32))] (.int (0 : Int32)) := Arv.set Ar182 q182 S182 P182 H182 G182 (v := (.int (0 : Int32))) rfl W182 1 rfl (Nat.le_of_ble_eq_true rfl)
      have N182 := Fr.snoc X182 N179 g_b173
      have z183 : n0 ≤ h182.size := (Nat.le_trans z180 (Keep.of_wr W182).1)
      have K184 : Keep h0 h182 [] := K181.wr W182 (Or.inr sz_b173)
      refine g_dup X182 hx 39 (hb hby at_38) rfl rfl ?_
      refine g_iconst X182 hx 40 (hb hby at_39) (2 : Int32) rfl rfl ?_
      refine g_iconst X182 hx 41 (hb hby at_40) (0 : Int32) rfl rfl ?_
      obtain ⟨cl185, Ar185, q185, S185, P185, H185, G185⟩ := id V182
      have hin185 := inb_of (j := (2 : Int32)) S185 ⟨by decide, by decide⟩
      refine own_stZ X182 hx hZ e182 Ar185 hin185 42 (hb hby at_41) rfl fun T185 h185 X185 e185 W185 => ?_
      have V185 : Arv Z h185 b173 k173 .boolean (9 : Int32) [(.int (1 : Int32)), (.int (0 : Int32)), (.int (0 : Int32)), (.int (0 : Int32)), (.int (0 : Int32)), (.int (0 : Int32)), (.int (0 : Int32)), (.int (0 : Int32)), (.int (0 : Int32))] (.int (0 : Int32)) := Arv.set Ar185 q185 S185 P185 H185 G185 (v := (.int (0 : Int32))) rfl W185 2 rfl (Nat.le_of_ble_eq_true rfl)
      have N185 := Fr.snoc X185 N182 g_b173
      have z186 : n0 ≤ h185.size := (Nat.le_trans z183 (Keep.of_wr W185).1)
      have K187 : Keep h0 h185 [] := K184.wr W185 (Or.inr sz_b173)
      refine g_dup X185 hx 43 (hb hby at_42) rfl rfl ?_
      refine g_iconst X185 hx 44 (hb hby at_43) (3 : Int32) rfl rfl ?_
      refine g_iconst X185 hx 45 (hb hby at_44) (1 : Int32) rfl rfl ?_
      obtain ⟨cl188, Ar188, q188, S188, P188, H188, G188⟩ := id V185
      have hin188 := inb_of (j := (3 : Int32)) S188 ⟨by decide, by decide⟩
      refine own_stZ X185 hx hZ e185 Ar188 hin188 46 (hb hby at_45) rfl fun T188 h188 X188 e188 W188 => ?_
      have V188 : Arv Z h188 b173 k173 .boolean (9 : Int32) [(.int (1 : Int32)), (.int (0 : Int32)), (.int (0 : Int32)), (.int (1 : Int32)), (.int (0 : Int32)), (.int (0 : Int32)), (.int (0 : Int32)), (.int (0 : Int32)), (.int (0 : Int32))] (.int (0 : Int32)) := Arv.set Ar188 q188 S188 P188 H188 G188 (v := (.int (1 : Int32))) rfl W188 3 rfl (Nat.le_of_ble_eq_true rfl)
      have N188 := Fr.snoc X188 N185 g_b173
      have z189 : n0 ≤ h188.size := (Nat.le_trans z186 (Keep.of_wr W188).1)
      have K190 : Keep h0 h188 [] := K187.wr W188 (Or.inr sz_b173)
      refine g_dup X188 hx 47 (hb hby at_46) rfl rfl ?_
      refine g_iconst X188 hx 48 (hb hby at_47) (4 : Int32) rfl rfl ?_
      refine g_iconst X188 hx 49 (hb hby at_48) (1 : Int32) rfl rfl ?_
      obtain ⟨cl191, Ar191, q191, S191, P191, H191, G191⟩ := id V188
      have hin191 := inb_of (j := (4 : Int32)) S191 ⟨by decide, by decide⟩
      refine own_stZ X188 hx hZ e188 Ar191 hin191 50 (hb hby at_49) rfl fun T191 h191 X191 e191 W191 => ?_
      have V191 : Arv Z h191 b173 k173 .boolean (9 : Int32) [(.int (1 : Int32)), (.int (0 : Int32)), (.int (0 : Int32)), (.int (1 : Int32)), (.int (1 : Int32)), (.int (0 : Int32)), (.int (0 : Int32)), (.int (0 : Int32)), (.int (0 : Int32))] (.int (0 : Int32)) := Arv.set Ar191 q191 S191 P191 H191 G191 (v := (.int (1 : Int32))) rfl W191 4 rfl (Nat.le_of_ble_eq_true rfl)
      have N191 := Fr.snoc X191 N188 g_b173
      have z192 : n0 ≤ h191.size := (Nat.le_trans z189 (Keep.of_wr W191).1)
      have K193 : Keep h0 h191 [] := K190.wr W191 (Or.inr sz_b173)
      refine g_dup X191 hx 51 (hb hby at_50) rfl rfl ?_
      refine g_iconst X191 hx 52 (hb hby at_51) (5 : Int32) rfl rfl ?_
      refine g_iconst X191 hx 53 (hb hby at_52) (1 : Int32) rfl rfl ?_
      obtain ⟨cl194, Ar194, q194, S194, P194, H194, G194⟩ := id V191
      have hin194 := inb_of (j := (5 : Int32)) S194 ⟨by decide, by decide⟩
      refine own_stZ X191 hx hZ e191 Ar194 hin194 54 (hb hby at_53) rfl fun T194 h194 X194 e194 W194 => ?_
      have V194 : Arv Z h194 b173 k173 .boolean (9 : Int32) [(.int (1 : Int32)), (.int (0 : Int32)), (.int (0 : Int32)), (.int (1 : Int32)), (.int (1 : Int32)), (.int (1 : Int32)), (.int (0 : Int32)), (.int (0 : Int32)), (.int (0 : Int32))] (.int (0 : Int32)) := Arv.set Ar194 q194 S194 P194 H194 G194 (v := (.int (1 : Int32))) rfl W194 5 rfl (Nat.le_of_ble_eq_true rfl)
      have N194 := Fr.snoc X194 N191 g_b173
      have z195 : n0 ≤ h194.size := (Nat.le_trans z192 (Keep.of_wr W194).1)
      have K196 : Keep h0 h194 [] := K193.wr W194 (Or.inr sz_b173)
      refine g_dup X194 hx 55 (hb hby at_54) rfl rfl ?_
      refine g_bipush X194 hx 57 (hb hby at_55) (6 : Int32) rfl rfl ?_
      refine g_iconst X194 hx 58 (hb hby at_57) (0 : Int32) rfl rfl ?_
      obtain ⟨cl197, Ar197, q197, S197, P197, H197, G197⟩ := id V194
      have hin197 := inb_of (j := (6 : Int32)) S197 ⟨by decide, by decide⟩
      refine own_stZ X194 hx hZ e194 Ar197 hin197 59 (hb hby at_58) rfl fun T197 h197 X197 e197 W197 => ?_
      have V197 : Arv Z h197 b173 k173 .boolean (9 : Int32) [(.int (1 : Int32)), (.int (0 : Int32)), (.int (0 : Int32)), (.int (1 : Int32)), (.int (1 : Int32)), (.int (1 : Int32)), (.int (0 : Int32)), (.int (0 : Int32)), (.int (0 : Int32))] (.int (0 : Int32)) := Arv.set Ar197 q197 S197 P197 H197 G197 (v := (.int (0 : Int32))) rfl W197 6 rfl (Nat.le_of_ble_eq_true rfl)
      have N197 := Fr.snoc X197 N194 g_b173
      have z198 : n0 ≤ h197.size := (Nat.le_trans z195 (Keep.of_wr W197).1)
      have K199 : Keep h0 h197 [] := K196.wr W197 (Or.inr sz_b173)
      refine g_dup X197 hx 60 (hb hby at_59) rfl rfl ?_
      refine g_bipush X197 hx 62 (hb hby at_60) (7 : Int32) rfl rfl ?_
      refine g_iconst X197 hx 63 (hb hby at_62) (0 : Int32) rfl rfl ?_
      obtain ⟨cl200, Ar200, q200, S200, P200, H200, G200⟩ := id V197
      have hin200 := inb_of (j := (7 : Int32)) S200 ⟨by decide, by decide⟩
      refine own_stZ X197 hx hZ e197 Ar200 hin200 64 (hb hby at_63) rfl fun T200 h200 X200 e200 W200 => ?_
      have V200 : Arv Z h200 b173 k173 .boolean (9 : Int32) [(.int (1 : Int32)), (.int (0 : Int32)), (.int (0 : Int32)), (.int (1 : Int32)), (.int (1 : Int32)), (.int (1 : Int32)), (.int (0 : Int32)), (.int (0 : Int32)), (.int (0 : Int32))] (.int (0 : Int32)) := Arv.set Ar200 q200 S200 P200 H200 G200 (v := (.int (0 : Int32))) rfl W200 7 rfl (Nat.le_of_ble_eq_true rfl)
      have N200 := Fr.snoc X200 N197 g_b173
      have z201 : n0 ≤ h200.size := (Nat.le_trans z198 (Keep.of_wr W200).1)
      have K202 : Keep h0 h200 [] := K199.wr W200 (Or.inr sz_b173)
      refine g_dup X200 hx 65 (hb hby at_64) rfl rfl ?_
      refine g_bipush X200 hx 67 (hb hby at_65) (8 : Int32) rfl rfl ?_
      refine g_iconst X200 hx 68 (hb hby at_67) (1 : Int32) rfl rfl ?_
      obtain ⟨cl203, Ar203, q203, S203, P203, H203, G203⟩ := id V200
      have hin203 := inb_of (j := (8 : Int32)) S203 ⟨by decide, by decide⟩
      refine own_stZ X200 hx hZ e200 Ar203 hin203 69 (hb hby at_68) rfl fun T203 h203 X203 e203 W203 => ?_
      have V203 : Arv Z h203 b173 k173 .boolean (9 : Int32) [(.int (1 : Int32)), (.int (0 : Int32)), (.int (0 : Int32)), (.int (1 : Int32)), (.int (1 : Int32)), (.int (1 : Int32)), (.int (0 : Int32)), (.int (0 : Int32)), (.int (1 : Int32))] (.int (0 : Int32)) := Arv.set Ar203 q203 S203 P203 H203 G203 (v := (.int (1 : Int32))) rfl W203 8 rfl (Nat.le_of_ble_eq_true rfl)
      have N203 := Fr.snoc X203 N200 g_b173
      have z204 : n0 ≤ h203.size := (Nat.le_trans z201 (Keep.of_wr W203).1)
      have K205 : Keep h0 h203 [] := K202.wr W203 (Or.inr sz_b173)
      refine g_astore X203 hx 71 (hb hby at_69) rfl (l' := #[.val (.int p0), .val (.int p1), .val (.int (1 : Int32)), .val (.int (1 : Int32)), .val (.ref s1), .val (.ref s1), .val (.ref b173), .unset]) rfl rfl ?_
      refine g_aload X203 hx 73 (hb hby at_71) rfl rfl rfl ?_
      refine g_iload_n X203 hx 74 (hb hby at_73) rfl rfl ?_
      refine g_iconst X203 hx 75 (hb hby at_74) (3 : Int32) rfl rfl ?_
      refine g_imul X203 hx 76 (hb hby at_75) rfl ?_
      show own_Go p e below s _ _ _ (T203.setTop (mkF m 76 _ [(.int (3 : Int32)), (.ref b173)]))
      refine g_iload_n X203 hx 77 (hb hby at_76) rfl rfl ?_
      refine g_iadd X203 hx 78 (hb hby at_77) rfl ?_
      show own_Go p e below s _ _ _ (T203.setTop (mkF m 78 _ [(.int (4 : Int32)), (.ref b173)]))
      obtain ⟨cl206, Ar206, q206, S206, P206, H206, G206⟩ := id V203
      have hin206 := inb_of (j := (4 : Int32)) S206 ⟨by decide, by decide⟩
      refine own_baloadZ X203 hx hZ e203 Ar206 (v := (.int (1 : Int32))) hin206 (Has.at H206 hin206 rfl) 79 (hb hby at_78) rfl ?_
      refine g_istore X203 hx 81 (hb hby at_79) (l' := #[.val (.int p0), .val (.int p1), .val (.int (1 : Int32)), .val (.int (1 : Int32)), .val (.ref s1), .val (.ref s1), .val (.ref b173), .val (.int (1 : Int32))]) rfl rfl ?_
      refine g_aload X203 hx 83 (hb hby at_81) rfl rfl rfl ?_
      refine g_aload X203 hx 85 (hb hby at_83) rfl rfl rfl ?_
      have f208 : Sta Z h203 "com/example/grantbook/grantbook/model/Permission" "OAUTH_CLIENT_READ" "Lcom/example/grantbook/grantbook/model/Permission;" (.ref s0) := (own_Sta_keep K205 S_s0 all0)
      have f209 : Sta Z h203 "com/example/grantbook/grantbook/model/Permission" "OAUTH_CLIENT_WRITE" "Lcom/example/grantbook/grantbook/model/Permission;" (.ref s1) := (own_Sta_keep K205 S_s1 all0)
      have f210 : Sta Z h203 "com/example/grantbook/grantbook/model/Permission" "OAUTH_CLIENT_REGISTER" "Lcom/example/grantbook/grantbook/model/Permission;" (.ref s2) := (own_Sta_keep K205 S_s2 all0)
      have f211 : Exa Z h203 s1 "com/example/grantbook/grantbook/model/Permission" := (E_s1.keep K205)
      refine own_callV X203 hx hZ hown (hw _ (List.mem_of_getElem? (i := 9) rfl)) (hw _ (List.mem_of_getElem? (i := 10) rfl)) (own_nf hZ (hw _ (List.mem_of_getElem? (i := 12) rfl))) (hw _ (List.mem_of_getElem? (i := 12) rfl)) (hw _ (List.mem_of_getElem? (i := 11) rfl)) (by decide) (rm_inc11 l Z a0 hw [] s0 s1 s2 h203 n0 z204 f208 f209 f210 ne_s0_s1 ne_s0_s2 ne_s1_s2) (hw _ (List.mem_of_getElem? (i := 13) rfl)) (hw _ (List.mem_of_getElem? (i := 6) rfl)) e203 0 (by decide) (by decide) (by decide) (by decide) f211 [(.ref s1)] [] rfl pd_1 rfl 88 rfl (by rw [hml]; rfl) rfl (hb hby at_85) rfl fun T207 v207 L207 X207 hQ207 => ?_
      obtain ⟨rfl, Nq207, e207⟩ := hQ207
      have N207 := Fr.app N203 Nq207
      show own_Go p e below s _ _ _ (T207.setTop (mkF m 88 _ [(.int (1 : Int32))]))
      refine g_iload X207 hx 90 (hb hby at_88) rfl rfl ?_
      refine g_icmpNo X207 hx 93 (hb hby at_90) (own_ii_ne_f (by decide)) rfl ?_
      refine g_iconst X207 hx 94 (hb hby at_93) (1 : Int32) rfl rfl ?_
      refine g_goto X207 hx 98 (hb hby at_94) (by decide) (by decide) ?_
      refine own_retN X207 hx hlk (t := .boolean) hret (by simp) (hb hby at_98) ?_ (by decide) (by decide)
      rw [e207]
      exact ⟨rfl, N207⟩
    · show own_Go p e below s _ _ _ (T131.setTop (mkF m 20 _ []))
      refine g_iload_n X131 hx 21 (hb hby at_20) rfl rfl ?_
      refine own_callS X131 hx hZ hown (hw _ (List.mem_of_getElem? (i := 1) rfl)) (hw _ (List.mem_of_getElem? (i := 2) rfl)) (by decide) (rm_pick2 l Z a0 hw [] s0 s1 s2 h0 n0 Z0 S_s0 S_s1 S_s2) (hw _ (List.mem_of_getElem? (i := 4) rfl)) (hw _ (List.mem_of_getElem? (i := 3) rfl)) e131 0 (by decide) (by decide) (by decide) (by decide) [(.int (2 : Int32))] [] rfl pd_0 rfl 24 rfl (by rw [hml]; rfl) rfl (hb hby at_21) rfl fun T212 v212 L212 X212 hQ212 => ?_
      obtain ⟨rfl, Nq212, e212⟩ := hQ212
      have N212 := Fr.app N131 Nq212
      show own_Go p e below s _ _ _ (T212.setTop (mkF m 24 _ [(.ref s2)]))
      refine g_astore X212 hx 26 (hb hby at_24) rfl (l' := #[.val (.int p0), .val (.int p1), .val (.int (1 : Int32)), .val (.int (2 : Int32)), .val (.ref s1), .val (.ref s2), .unset, .unset]) rfl rfl ?_
      refine g_bipush X212 hx 28 (hb hby at_26) (9 : Int32) rfl rfl ?_
      refine own_newP X212 hx hZ (hw _ (List.mem_of_getElem? (i := 8) rfl)) e212 30 (hb hby at_28) rfl (by decide) 9 (by decide) (by decide) (by decide) (by decide) fun T213 h213 k213 b213 X213 e213 g213 E213 A213 => ?_
      have ne214 : s0 ≠ b213 := Nat.ne_of_lt (Nat.lt_of_lt_of_le E_s0.lt (Nat.le_of_eq g213.symm))
      have ne215 : s1 ≠ b213 := Nat.ne_of_lt (Nat.lt_of_lt_of_le E_s1.lt (Nat.le_of_eq g213.symm))
      have ne216 : s2 ≠ b213 := Nat.ne_of_lt (Nat.lt_of_lt_of_le E_s2.lt (Nat.le_of_eq g213.symm))
      have g_b213 : n0 ≤ b213 := Nat.le_trans Z0 (Nat.le_of_eq g213.symm)
      have sz_b213 : h0.size ≤ b213 := Nat.le_trans (Keep.refl h0 []).1 (Nat.le_of_eq g213.symm)
      have K217 : Keep h0 h213 [] := (Keep.refl h0 []).ext E213
      have z218 : n0 ≤ h213.size := (Nat.le_trans Z0 E213.1)
      have V213 : Arv Z h213 b213 k213 .boolean (9 : Int32) [(.int (0 : Int32)), (.int (0 : Int32)), (.int (0 : Int32)), (.int (0 : Int32)), (.int (0 : Int32)), (.int (0 : Int32)), (.int (0 : Int32)), (.int (0 : Int32)), (.int (0 : Int32))] (.int (0 : Int32)) := (Arv.new A213 (by decide)).pad (pad_rep [] (.int (0 : Int32)) 9)
      refine g_dup X213 hx 31 (hb hby at_30) rfl rfl ?_
      refine g_iconst X213 hx 32 (hb hby at_31) (0 : Int32) rfl rfl ?_
      refine g_iconst X213 hx 33 (hb hby at_32) (1 : Int32) rfl rfl ?_
      obtain ⟨cl219, Ar219, q219, S219, P219, H219, G219⟩ := id V213
      have hin219 := inb_of (j := (0 : Int32)) S219 ⟨by decide, by decide⟩
      refine own_stZ X213 hx hZ e213 Ar219 hin219 34 (hb hby at_33) rfl fun T219 h219 X219 e219 W219 => ?_
      have V219 : Arv Z h219 b213 k213 .boolean (9 : Int32) [(.int (1 : Int32)), (.int (0 : Int32)), (.int (0 : Int32)), (.int (0 : Int32)), (.int (0 : Int32)), (.int (0 : Int32)), (.int (0 : Int32)), (.int (0 : Int32)), (.int (0 : Int32))] (.int (0 : Int32)) := Arv.set Ar219 q219 S219 P219 H219 G219 (v := (.int (1 : Int32))) rfl W219 0 rfl (Nat.le_of_ble_eq_true rfl)
      have N219 := Fr.snoc X219 N212 g_b213
      have z220 : n0 ≤ h219.size := (Nat.le_trans z218 (Keep.of_wr W219).1)
      have K221 : Keep h0 h219 [] := K217.wr W219 (Or.inr sz_b213)
      refine g_dup X219 hx 35 (hb hby at_34) rfl rfl ?_
      refine g_iconst X219 hx 36 (hb hby at_35) (1 : Int32) rfl rfl ?_
      refine g_iconst X219 hx 37 (hb hby at_36) (0 : Int32) rfl rfl ?_
      obtain ⟨cl222, Ar222, q222, S222, P222, H222, G222⟩ := id V219
      have hin222 := inb_of (j := (1 : Int32)) S222 ⟨by decide, by decide⟩
      refine own_stZ X219 hx hZ e219 Ar222 hin222 38 (hb hby at_37) rfl fun T222 h222 X222 e222 W222 => ?_
      have V222 : Arv Z h222 b213 k213 .boolean (9 : Int32) [(.int (1 : Int32)), (.int (0 : Int32)), (.int (0 : Int32)), (.int (0 : Int32)), (.int (0 : Int32)), (.int (0 : Int32)), (.int (0 : Int32)), (.int (0 : Int32)), (.int (0 : Int32))] (.int (0 : Int32)) := Arv.set Ar222 q222 S222 P222 H222 G222 (v := (.int (0 : Int32))) rfl W222 1 rfl (Nat.le_of_ble_eq_true rfl)
      have N222 := Fr.snoc X222 N219 g_b213
      have z223 : n0 ≤ h222.size := (Nat.le_trans z220 (Keep.of_wr W222).1)
      have K224 : Keep h0 h222 [] := K221.wr W222 (Or.inr sz_b213)
      refine g_dup X222 hx 39 (hb hby at_38) rfl rfl ?_
      refine g_iconst X222 hx 40 (hb hby at_39) (2 : Int32) rfl rfl ?_
      refine g_iconst X222 hx 41 (hb hby at_40) (0 : Int32) rfl rfl ?_
      obtain ⟨cl225, Ar225, q225, S225, P225, H225, G225⟩ := id V222
      have hin225 := inb_of (j := (2 : Int32)) S225 ⟨by decide, by decide⟩
      refine own_stZ X222 hx hZ e222 Ar225 hin225 42 (hb hby at_41) rfl fun T225 h225 X225 e225 W225 => ?_
      have V225 : Arv Z h225 b213 k213 .boolean (9 : Int32) [(.int (1 : Int32)), (.int (0 : Int32)), (.int (0 : Int32)), (.int (0 : Int32)), (.int (0 : Int32)), (.int (0 : Int32)), (.int (0 : Int32)), (.int (0 : Int32)), (.int (0 : Int32))] (.int (0 : Int32)) := Arv.set Ar225 q225 S225 P225 H225 G225 (v := (.int (0 : Int32))) rfl W225 2 rfl (Nat.le_of_ble_eq_true rfl)
      have N225 := Fr.snoc X225 N222 g_b213
      have z226 : n0 ≤ h225.size := (Nat.le_trans z223 (Keep.of_wr W225).1)
      have K227 : Keep h0 h225 [] := K224.wr W225 (Or.inr sz_b213)
      refine g_dup X225 hx 43 (hb hby at_42) rfl rfl ?_
      refine g_iconst X225 hx 44 (hb hby at_43) (3 : Int32) rfl rfl ?_
      refine g_iconst X225 hx 45 (hb hby at_44) (1 : Int32) rfl rfl ?_
      obtain ⟨cl228, Ar228, q228, S228, P228, H228, G228⟩ := id V225
      have hin228 := inb_of (j := (3 : Int32)) S228 ⟨by decide, by decide⟩
      refine own_stZ X225 hx hZ e225 Ar228 hin228 46 (hb hby at_45) rfl fun T228 h228 X228 e228 W228 => ?_
      have V228 : Arv Z h228 b213 k213 .boolean (9 : Int32) [(.int (1 : Int32)), (.int (0 : Int32)), (.int (0 : Int32)), (.int (1 : Int32)), (.int (0 : Int32)), (.int (0 : Int32)), (.int (0 : Int32)), (.int (0 : Int32)), (.int (0 : Int32))] (.int (0 : Int32)) := Arv.set Ar228 q228 S228 P228 H228 G228 (v := (.int (1 : Int32))) rfl W228 3 rfl (Nat.le_of_ble_eq_true rfl)
      have N228 := Fr.snoc X228 N225 g_b213
      have z229 : n0 ≤ h228.size := (Nat.le_trans z226 (Keep.of_wr W228).1)
      have K230 : Keep h0 h228 [] := K227.wr W228 (Or.inr sz_b213)
      refine g_dup X228 hx 47 (hb hby at_46) rfl rfl ?_
      refine g_iconst X228 hx 48 (hb hby at_47) (4 : Int32) rfl rfl ?_
      refine g_iconst X228 hx 49 (hb hby at_48) (1 : Int32) rfl rfl ?_
      obtain ⟨cl231, Ar231, q231, S231, P231, H231, G231⟩ := id V228
      have hin231 := inb_of (j := (4 : Int32)) S231 ⟨by decide, by decide⟩
      refine own_stZ X228 hx hZ e228 Ar231 hin231 50 (hb hby at_49) rfl fun T231 h231 X231 e231 W231 => ?_
      have V231 : Arv Z h231 b213 k213 .boolean (9 : Int32) [(.int (1 : Int32)), (.int (0 : Int32)), (.int (0 : Int32)), (.int (1 : Int32)), (.int (1 : Int32)), (.int (0 : Int32)), (.int (0 : Int32)), (.int (0 : Int32)), (.int (0 : Int32))] (.int (0 : Int32)) := Arv.set Ar231 q231 S231 P231 H231 G231 (v := (.int (1 : Int32))) rfl W231 4 rfl (Nat.le_of_ble_eq_true rfl)
      have N231 := Fr.snoc X231 N228 g_b213
      have z232 : n0 ≤ h231.size := (Nat.le_trans z229 (Keep.of_wr W231).1)
      have K233 : Keep h0 h231 [] := K230.wr W231 (Or.inr sz_b213)
      refine g_dup X231 hx 51 (hb hby at_50) rfl rfl ?_
      refine g_iconst X231 hx 52 (hb hby at_51) (5 : Int32) rfl rfl ?_
      refine g_iconst X231 hx 53 (hb hby at_52) (1 : Int32) rfl rfl ?_
      obtain ⟨cl234, Ar234, q234, S234, P234, H234, G234⟩ := id V231
      have hin234 := inb_of (j := (5 : Int32)) S234 ⟨by decide, by decide⟩
      refine own_stZ X231 hx hZ e231 Ar234 hin234 54 (hb hby at_53) rfl fun T234 h234 X234 e234 W234 => ?_
      have V234 : Arv Z h234 b213 k213 .boolean (9 : Int32) [(.int (1 : Int32)), (.int (0 : Int32)), (.int (0 : Int32)), (.int (1 : Int32)), (.int (1 : Int32)), (.int (1 : Int32)), (.int (0 : Int32)), (.int (0 : Int32)), (.int (0 : Int32))] (.int (0 : Int32)) := Arv.set Ar234 q234 S234 P234 H234 G234 (v := (.int (1 : Int32))) rfl W234 5 rfl (Nat.le_of_ble_eq_true rfl)
      have N234 := Fr.snoc X234 N231 g_b213
      have z235 : n0 ≤ h234.size := (Nat.le_trans z232 (Keep.of_wr W234).1)
      have K236 : Keep h0 h234 [] := K233.wr W234 (Or.inr sz_b213)
      refine g_dup X234 hx 55 (hb hby at_54) rfl rfl ?_
      refine g_bipush X234 hx 57 (hb hby at_55) (6 : Int32) rfl rfl ?_
      refine g_iconst X234 hx 58 (hb hby at_57) (0 : Int32) rfl rfl ?_
      obtain ⟨cl237, Ar237, q237, S237, P237, H237, G237⟩ := id V234
      have hin237 := inb_of (j := (6 : Int32)) S237 ⟨by decide, by decide⟩
      refine own_stZ X234 hx hZ e234 Ar237 hin237 59 (hb hby at_58) rfl fun T237 h237 X237 e237 W237 => ?_
      have V237 : Arv Z h237 b213 k213 .boolean (9 : Int32) [(.int (1 : Int32)), (.int (0 : Int32)), (.int (0 : Int32)), (.int (1 : Int32)), (.int (1 : Int32)), (.int (1 : Int32)), (.int (0 : Int32)), (.int (0 : Int32)), (.int (0 : Int32))] (.int (0 : Int32)) := Arv.set Ar237 q237 S237 P237 H237 G237 (v := (.int (0 : Int32))) rfl W237 6 rfl (Nat.le_of_ble_eq_true rfl)
      have N237 := Fr.snoc X237 N234 g_b213
      have z238 : n0 ≤ h237.size := (Nat.le_trans z235 (Keep.of_wr W237).1)
      have K239 : Keep h0 h237 [] := K236.wr W237 (Or.inr sz_b213)
      refine g_dup X237 hx 60 (hb hby at_59) rfl rfl ?_
      refine g_bipush X237 hx 62 (hb hby at_60) (7 : Int32) rfl rfl ?_
      refine g_iconst X237 hx 63 (hb hby at_62) (0 : Int32) rfl rfl ?_
      obtain ⟨cl240, Ar240, q240, S240, P240, H240, G240⟩ := id V237
      have hin240 := inb_of (j := (7 : Int32)) S240 ⟨by decide, by decide⟩
      refine own_stZ X237 hx hZ e237 Ar240 hin240 64 (hb hby at_63) rfl fun T240 h240 X240 e240 W240 => ?_
      have V240 : Arv Z h240 b213 k213 .boolean (9 : Int32) [(.int (1 : Int32)), (.int (0 : Int32)), (.int (0 : Int32)), (.int (1 : Int32)), (.int (1 : Int32)), (.int (1 : Int32)), (.int (0 : Int32)), (.int (0 : Int32)), (.int (0 : Int32))] (.int (0 : Int32)) := Arv.set Ar240 q240 S240 P240 H240 G240 (v := (.int (0 : Int32))) rfl W240 7 rfl (Nat.le_of_ble_eq_true rfl)
      have N240 := Fr.snoc X240 N237 g_b213
      have z241 : n0 ≤ h240.size := (Nat.le_trans z238 (Keep.of_wr W240).1)
      have K242 : Keep h0 h240 [] := K239.wr W240 (Or.inr sz_b213)
      refine g_dup X240 hx 65 (hb hby at_64) rfl rfl ?_
      refine g_bipush X240 hx 67 (hb hby at_65) (8 : Int32) rfl rfl ?_
      refine g_iconst X240 hx 68 (hb hby at_67) (1 : Int32) rfl rfl ?_
      obtain ⟨cl243, Ar243, q243, S243, P243, H243, G243⟩ := id V240
      have hin243 := inb_of (j := (8 : Int32)) S243 ⟨by decide, by decide⟩
      refine own_stZ X240 hx hZ e240 Ar243 hin243 69 (hb hby at_68) rfl fun T243 h243 X243 e243 W243 => ?_
      have V243 : Arv Z h243 b213 k213 .boolean (9 : Int32) [(.int (1 : Int32)), (.int (0 : Int32)), (.int (0 : Int32)), (.int (1 : Int32)), (.int (1 : Int32)), (.int (1 : Int32)), (.int (0 : Int32)), (.int (0 : Int32)), (.int (1 : Int32))] (.int (0 : Int32)) := Arv.set Ar243 q243 S243 P243 H243 G243 (v := (.int (1 : Int32))) rfl W243 8 rfl (Nat.le_of_ble_eq_true rfl)
      have N243 := Fr.snoc X243 N240 g_b213
      have z244 : n0 ≤ h243.size := (Nat.le_trans z241 (Keep.of_wr W243).1)
      have K245 : Keep h0 h243 [] := K242.wr W243 (Or.inr sz_b213)
      refine g_astore X243 hx 71 (hb hby at_69) rfl (l' := #[.val (.int p0), .val (.int p1), .val (.int (1 : Int32)), .val (.int (2 : Int32)), .val (.ref s1), .val (.ref s2), .val (.ref b213), .unset]) rfl rfl ?_
      refine g_aload X243 hx 73 (hb hby at_71) rfl rfl rfl ?_
      refine g_iload_n X243 hx 74 (hb hby at_73) rfl rfl ?_
      refine g_iconst X243 hx 75 (hb hby at_74) (3 : Int32) rfl rfl ?_
      refine g_imul X243 hx 76 (hb hby at_75) rfl ?_
      show own_Go p e below s _ _ _ (T243.setTop (mkF m 76 _ [(.int (3 : Int32)), (.ref b213)]))
      refine g_iload_n X243 hx 77 (hb hby at_76) rfl rfl ?_
      refine g_iadd X243 hx 78 (hb hby at_77) rfl ?_
      show own_Go p e below s _ _ _ (T243.setTop (mkF m 78 _ [(.int (5 : Int32)), (.ref b213)]))
      obtain ⟨cl246, Ar246, q246, S246, P246, H246, G246⟩ := id V243
      have hin246 := inb_of (j := (5 : Int32)) S246 ⟨by decide, by decide⟩
      refine own_baloadZ X243 hx hZ e243 Ar246 (v := (.int (1 : Int32))) hin246 (Has.at H246 hin246 rfl) 79 (hb hby at_78) rfl ?_
      refine g_istore X243 hx 81 (hb hby at_79) (l' := #[.val (.int p0), .val (.int p1), .val (.int (1 : Int32)), .val (.int (2 : Int32)), .val (.ref s1), .val (.ref s2), .val (.ref b213), .val (.int (1 : Int32))]) rfl rfl ?_
      refine g_aload X243 hx 83 (hb hby at_81) rfl rfl rfl ?_
      refine g_aload X243 hx 85 (hb hby at_83) rfl rfl rfl ?_
      have f248 : Sta Z h243 "com/example/grantbook/grantbook/model/Permission" "OAUTH_CLIENT_READ" "Lcom/example/grantbook/grantbook/model/Permission;" (.ref s0) := (own_Sta_keep K245 S_s0 all0)
      have f249 : Sta Z h243 "com/example/grantbook/grantbook/model/Permission" "OAUTH_CLIENT_WRITE" "Lcom/example/grantbook/grantbook/model/Permission;" (.ref s1) := (own_Sta_keep K245 S_s1 all0)
      have f250 : Sta Z h243 "com/example/grantbook/grantbook/model/Permission" "OAUTH_CLIENT_REGISTER" "Lcom/example/grantbook/grantbook/model/Permission;" (.ref s2) := (own_Sta_keep K245 S_s2 all0)
      have f251 : Exa Z h243 s1 "com/example/grantbook/grantbook/model/Permission" := (E_s1.keep K245)
      refine own_callV X243 hx hZ hown (hw _ (List.mem_of_getElem? (i := 9) rfl)) (hw _ (List.mem_of_getElem? (i := 10) rfl)) (own_nf hZ (hw _ (List.mem_of_getElem? (i := 12) rfl))) (hw _ (List.mem_of_getElem? (i := 12) rfl)) (hw _ (List.mem_of_getElem? (i := 11) rfl)) (by decide) (rm_inc12 l Z a0 hw [] s0 s1 s2 h243 n0 z244 f248 f249 f250 ne_s0_s1 ne_s0_s2 ne_s1_s2) (hw _ (List.mem_of_getElem? (i := 13) rfl)) (hw _ (List.mem_of_getElem? (i := 6) rfl)) e243 0 (by decide) (by decide) (by decide) (by decide) f251 [(.ref s2)] [] rfl pd_1 rfl 88 rfl (by rw [hml]; rfl) rfl (hb hby at_85) rfl fun T247 v247 L247 X247 hQ247 => ?_
      obtain ⟨rfl, Nq247, e247⟩ := hQ247
      have N247 := Fr.app N243 Nq247
      show own_Go p e below s _ _ _ (T247.setTop (mkF m 88 _ [(.int (1 : Int32))]))
      refine g_iload X247 hx 90 (hb hby at_88) rfl rfl ?_
      refine g_icmpNo X247 hx 93 (hb hby at_90) (own_ii_ne_f (by decide)) rfl ?_
      refine g_iconst X247 hx 94 (hb hby at_93) (1 : Int32) rfl rfl ?_
      refine g_goto X247 hx 98 (hb hby at_94) (by decide) (by decide) ?_
      refine own_retN X247 hx hlk (t := .boolean) hret (by simp) (hb hby at_98) ?_ (by decide) (by decide)
      rw [e247]
      exact ⟨rfl, N247⟩
  · show own_Go p e below s _ _ _ (s₁.setTop (mkF m 14 _ []))
    refine g_iload_n X0 hx 15 (hb hby at_14) rfl rfl ?_
    refine own_callS X0 hx hZ hown (hw _ (List.mem_of_getElem? (i := 1) rfl)) (hw _ (List.mem_of_getElem? (i := 2) rfl)) (by decide) (rm_pick2 l Z a0 hw [] s0 s1 s2 h0 n0 Z0 S_s0 S_s1 S_s2) (hw _ (List.mem_of_getElem? (i := 4) rfl)) (hw _ (List.mem_of_getElem? (i := 3) rfl)) e0 0 (by decide) (by decide) (by decide) (by decide) [(.int (2 : Int32))] [] rfl pd_0 rfl 18 rfl (by rw [hml]; rfl) rfl (hb hby at_15) rfl fun T252 v252 L252 X252 hQ252 => ?_
    obtain ⟨rfl, Nq252, e252⟩ := hQ252
    have N252 := Fr.app N0 Nq252
    show own_Go p e below s _ _ _ (T252.setTop (mkF m 18 _ [(.ref s2)]))
    refine g_astore X252 hx 20 (hb hby at_18) rfl (l' := #[.val (.int p0), .val (.int p1), .val (.int (2 : Int32)), .val (.int j), .val (.ref s2), .unset, .unset, .unset]) rfl rfl ?_
    rcases own_three p1 q_j with rfl | rfl | rfl
    · show own_Go p e below s _ _ _ (T252.setTop (mkF m 20 _ []))
      refine g_iload_n X252 hx 21 (hb hby at_20) rfl rfl ?_
      refine own_callS X252 hx hZ hown (hw _ (List.mem_of_getElem? (i := 1) rfl)) (hw _ (List.mem_of_getElem? (i := 2) rfl)) (by decide) (rm_pick0 l Z a0 hw [] s0 s1 s2 h0 n0 Z0 S_s0 S_s1 S_s2) (hw _ (List.mem_of_getElem? (i := 4) rfl)) (hw _ (List.mem_of_getElem? (i := 3) rfl)) e252 0 (by decide) (by decide) (by decide) (by decide) [(.int (0 : Int32))] [] rfl pd_0 rfl 24 rfl (by rw [hml]; rfl) rfl (hb hby at_21) rfl fun T253 v253 L253 X253 hQ253 => ?_
      obtain ⟨rfl, Nq253, e253⟩ := hQ253
      have N253 := Fr.app N252 Nq253
      show own_Go p e below s _ _ _ (T253.setTop (mkF m 24 _ [(.ref s0)]))
      refine g_astore X253 hx 26 (hb hby at_24) rfl (l' := #[.val (.int p0), .val (.int p1), .val (.int (2 : Int32)), .val (.int (0 : Int32)), .val (.ref s2), .val (.ref s0), .unset, .unset]) rfl rfl ?_
      refine g_bipush X253 hx 28 (hb hby at_26) (9 : Int32) rfl rfl ?_
      refine own_newP X253 hx hZ (hw _ (List.mem_of_getElem? (i := 8) rfl)) e253 30 (hb hby at_28) rfl (by decide) 9 (by decide) (by decide) (by decide) (by decide) fun T254 h254 k254 b254 X254 e254 g254 E254 A254 => ?_
      have ne255 : s0 ≠ b254 := Nat.ne_of_lt (Nat.lt_of_lt_of_le E_s0.lt (Nat.le_of_eq g254.symm))
      have ne256 : s1 ≠ b254 := Nat.ne_of_lt (Nat.lt_of_lt_of_le E_s1.lt (Nat.le_of_eq g254.symm))
      have ne257 : s2 ≠ b254 := Nat.ne_of_lt (Nat.lt_of_lt_of_le E_s2.lt (Nat.le_of_eq g254.symm))
      have g_b254 : n0 ≤ b254 := Nat.le_trans Z0 (Nat.le_of_eq g254.symm)
      have sz_b254 : h0.size ≤ b254 := Nat.le_trans (Keep.refl h0 []).1 (Nat.le_of_eq g254.symm)
      have K258 : Keep h0 h254 [] := (Keep.refl h0 []).ext E254
      have z259 : n0 ≤ h254.size := (Nat.le_trans Z0 E254.1)
      have V254 : Arv Z h254 b254 k254 .boolean (9 : Int32) [(.int (0 : Int32)), (.int (0 : Int32)), (.int (0 : Int32)), (.int (0 : Int32)), (.int (0 : Int32)), (.int (0 : Int32)), (.int (0 : Int32)), (.int (0 : Int32)), (.int (0 : Int32))] (.int (0 : Int32)) := (Arv.new A254 (by decide)).pad (pad_rep [] (.int (0 : Int32)) 9)
      refine g_dup X254 hx 31 (hb hby at_30) rfl rfl ?_
      refine g_iconst X254 hx 32 (hb hby at_31) (0 : Int32) rfl rfl ?_
      refine g_iconst X254 hx 33 (hb hby at_32) (1 : Int32) rfl rfl ?_
      obtain ⟨cl260, Ar260, q260, S260, P260, H260, G260⟩ := id V254
      have hin260 := inb_of (j := (0 : Int32)) S260 ⟨by decide, by decide⟩
      refine own_stZ X254 hx hZ e254 Ar260 hin260 34 (hb hby at_33) rfl fun T260 h260 X260 e260 W260 => ?_
      have V260 : Arv Z h260 b254 k254 .boolean (9 : Int32) [(.int (1 : Int32)), (.int (0 : Int32)), (.int (0 : Int32)), (.int (0 : Int32)), (.int (0 : Int32)), (.int (0 : Int32)), (.int (0 : Int32)), (.int (0 : Int32)), (.int (0 : Int32))] (.int (0 : Int32)) := Arv.set Ar260 q260 S260 P260 H260 G260 (v := (.int (1 : Int32))) rfl W260 0 rfl (Nat.le_of_ble_eq_true rfl)
      have N260 := Fr.snoc X260 N253 g_b254
      have z261 : n0 ≤ h260.size := (Nat.le_trans z259 (Keep.of_wr W260).1)
      have K262 : Keep h0 h260 [] := K258.wr W260 (Or.inr sz_b254)
      refine g_dup X260 hx 35 (hb hby at_34) rfl rfl ?_
      refine g_iconst X260 hx 36 (hb hby at_35) (1 : Int32) rfl rfl ?_
      refine g_iconst X260 hx 37 (hb hby at_36) (0 : Int32) rfl rfl ?_
      obtain ⟨cl263, Ar263, q263, S263, P263, H263, G263⟩ := id V260
      have hin263 := inb_of (j := (1 : Int32)) S263 ⟨by decide, by decide⟩
      refine own_stZ X260 hx hZ e260 Ar263 hin263 38 (hb hby at_37) rfl fun T263 h263 X263 e263 W263 => ?_
      have V263 : Arv Z h263 b254 k254 .boolean (9 : Int32) [(.int (1 : Int32)), (.int (0 : Int32)), (.int (0 : Int32)), (.int (0 : Int32)), (.int (0 : Int32)), (.int (0 : Int32)), (.int (0 : Int32)), (.int (0 : Int32)), (.int (0 : Int32))] (.int (0 : Int32)) := Arv.set Ar263 q263 S263 P263 H263 G263 (v := (.int (0 : Int32))) rfl W263 1 rfl (Nat.le_of_ble_eq_true rfl)
      have N263 := Fr.snoc X263 N260 g_b254
      have z264 : n0 ≤ h263.size := (Nat.le_trans z261 (Keep.of_wr W263).1)
      have K265 : Keep h0 h263 [] := K262.wr W263 (Or.inr sz_b254)
      refine g_dup X263 hx 39 (hb hby at_38) rfl rfl ?_
      refine g_iconst X263 hx 40 (hb hby at_39) (2 : Int32) rfl rfl ?_
      refine g_iconst X263 hx 41 (hb hby at_40) (0 : Int32) rfl rfl ?_
      obtain ⟨cl266, Ar266, q266, S266, P266, H266, G266⟩ := id V263
      have hin266 := inb_of (j := (2 : Int32)) S266 ⟨by decide, by decide⟩
      refine own_stZ X263 hx hZ e263 Ar266 hin266 42 (hb hby at_41) rfl fun T266 h266 X266 e266 W266 => ?_
      have V266 : Arv Z h266 b254 k254 .boolean (9 : Int32) [(.int (1 : Int32)), (.int (0 : Int32)), (.int (0 : Int32)), (.int (0 : Int32)), (.int (0 : Int32)), (.int (0 : Int32)), (.int (0 : Int32)), (.int (0 : Int32)), (.int (0 : Int32))] (.int (0 : Int32)) := Arv.set Ar266 q266 S266 P266 H266 G266 (v := (.int (0 : Int32))) rfl W266 2 rfl (Nat.le_of_ble_eq_true rfl)
      have N266 := Fr.snoc X266 N263 g_b254
      have z267 : n0 ≤ h266.size := (Nat.le_trans z264 (Keep.of_wr W266).1)
      have K268 : Keep h0 h266 [] := K265.wr W266 (Or.inr sz_b254)
      refine g_dup X266 hx 43 (hb hby at_42) rfl rfl ?_
      refine g_iconst X266 hx 44 (hb hby at_43) (3 : Int32) rfl rfl ?_
      refine g_iconst X266 hx 45 (hb hby at_44) (1 : Int32) rfl rfl ?_
      obtain ⟨cl269, Ar269, q269, S269, P269, H269, G269⟩ := id V266
      have hin269 := inb_of (j := (3 : Int32)) S269 ⟨by decide, by decide⟩
      refine own_stZ X266 hx hZ e266 Ar269 hin269 46 (hb hby at_45) rfl fun T269 h269 X269 e269 W269 => ?_
      have V269 : Arv Z h269 b254 k254 .boolean (9 : Int32) [(.int (1 : Int32)), (.int (0 : Int32)), (.int (0 : Int32)), (.int (1 : Int32)), (.int (0 : Int32)), (.int (0 : Int32)), (.int (0 : Int32)), (.int (0 : Int32)), (.int (0 : Int32))] (.int (0 : Int32)) := Arv.set Ar269 q269 S269 P269 H269 G269 (v := (.int (1 : Int32))) rfl W269 3 rfl (Nat.le_of_ble_eq_true rfl)
      have N269 := Fr.snoc X269 N266 g_b254
      have z270 : n0 ≤ h269.size := (Nat.le_trans z267 (Keep.of_wr W269).1)
      have K271 : Keep h0 h269 [] := K268.wr W269 (Or.inr sz_b254)
      refine g_dup X269 hx 47 (hb hby at_46) rfl rfl ?_
      refine g_iconst X269 hx 48 (hb hby at_47) (4 : Int32) rfl rfl ?_
      refine g_iconst X269 hx 49 (hb hby at_48) (1 : Int32) rfl rfl ?_
      obtain ⟨cl272, Ar272, q272, S272, P272, H272, G272⟩ := id V269
      have hin272 := inb_of (j := (4 : Int32)) S272 ⟨by decide, by decide⟩
      refine own_stZ X269 hx hZ e269 Ar272 hin272 50 (hb hby at_49) rfl fun T272 h272 X272 e272 W272 => ?_
      have V272 : Arv Z h272 b254 k254 .boolean (9 : Int32) [(.int (1 : Int32)), (.int (0 : Int32)), (.int (0 : Int32)), (.int (1 : Int32)), (.int (1 : Int32)), (.int (0 : Int32)), (.int (0 : Int32)), (.int (0 : Int32)), (.int (0 : Int32))] (.int (0 : Int32)) := Arv.set Ar272 q272 S272 P272 H272 G272 (v := (.int (1 : Int32))) rfl W272 4 rfl (Nat.le_of_ble_eq_true rfl)
      have N272 := Fr.snoc X272 N269 g_b254
      have z273 : n0 ≤ h272.size := (Nat.le_trans z270 (Keep.of_wr W272).1)
      have K274 : Keep h0 h272 [] := K271.wr W272 (Or.inr sz_b254)
      refine g_dup X272 hx 51 (hb hby at_50) rfl rfl ?_
      refine g_iconst X272 hx 52 (hb hby at_51) (5 : Int32) rfl rfl ?_
      refine g_iconst X272 hx 53 (hb hby at_52) (1 : Int32) rfl rfl ?_
      obtain ⟨cl275, Ar275, q275, S275, P275, H275, G275⟩ := id V272
      have hin275 := inb_of (j := (5 : Int32)) S275 ⟨by decide, by decide⟩
      refine own_stZ X272 hx hZ e272 Ar275 hin275 54 (hb hby at_53) rfl fun T275 h275 X275 e275 W275 => ?_
      have V275 : Arv Z h275 b254 k254 .boolean (9 : Int32) [(.int (1 : Int32)), (.int (0 : Int32)), (.int (0 : Int32)), (.int (1 : Int32)), (.int (1 : Int32)), (.int (1 : Int32)), (.int (0 : Int32)), (.int (0 : Int32)), (.int (0 : Int32))] (.int (0 : Int32)) := Arv.set Ar275 q275 S275 P275 H275 G275 (v := (.int (1 : Int32))) rfl W275 5 rfl (Nat.le_of_ble_eq_true rfl)
      have N275 := Fr.snoc X275 N272 g_b254
      have z276 : n0 ≤ h275.size := (Nat.le_trans z273 (Keep.of_wr W275).1)
      have K277 : Keep h0 h275 [] := K274.wr W275 (Or.inr sz_b254)
      refine g_dup X275 hx 55 (hb hby at_54) rfl rfl ?_
      refine g_bipush X275 hx 57 (hb hby at_55) (6 : Int32) rfl rfl ?_
      refine g_iconst X275 hx 58 (hb hby at_57) (0 : Int32) rfl rfl ?_
      obtain ⟨cl278, Ar278, q278, S278, P278, H278, G278⟩ := id V275
      have hin278 := inb_of (j := (6 : Int32)) S278 ⟨by decide, by decide⟩
      refine own_stZ X275 hx hZ e275 Ar278 hin278 59 (hb hby at_58) rfl fun T278 h278 X278 e278 W278 => ?_
      have V278 : Arv Z h278 b254 k254 .boolean (9 : Int32) [(.int (1 : Int32)), (.int (0 : Int32)), (.int (0 : Int32)), (.int (1 : Int32)), (.int (1 : Int32)), (.int (1 : Int32)), (.int (0 : Int32)), (.int (0 : Int32)), (.int (0 : Int32))] (.int (0 : Int32)) := Arv.set Ar278 q278 S278 P278 H278 G278 (v := (.int (0 : Int32))) rfl W278 6 rfl (Nat.le_of_ble_eq_true rfl)
      have N278 := Fr.snoc X278 N275 g_b254
      have z279 : n0 ≤ h278.size := (Nat.le_trans z276 (Keep.of_wr W278).1)
      have K280 : Keep h0 h278 [] := K277.wr W278 (Or.inr sz_b254)
      refine g_dup X278 hx 60 (hb hby at_59) rfl rfl ?_
      refine g_bipush X278 hx 62 (hb hby at_60) (7 : Int32) rfl rfl ?_
      refine g_iconst X278 hx 63 (hb hby at_62) (0 : Int32) rfl rfl ?_
      obtain ⟨cl281, Ar281, q281, S281, P281, H281, G281⟩ := id V278
      have hin281 := inb_of (j := (7 : Int32)) S281 ⟨by decide, by decide⟩
      refine own_stZ X278 hx hZ e278 Ar281 hin281 64 (hb hby at_63) rfl fun T281 h281 X281 e281 W281 => ?_
      have V281 : Arv Z h281 b254 k254 .boolean (9 : Int32) [(.int (1 : Int32)), (.int (0 : Int32)), (.int (0 : Int32)), (.int (1 : Int32)), (.int (1 : Int32)), (.int (1 : Int32)), (.int (0 : Int32)), (.int (0 : Int32)), (.int (0 : Int32))] (.int (0 : Int32)) := Arv.set Ar281 q281 S281 P281 H281 G281 (v := (.int (0 : Int32))) rfl W281 7 rfl (Nat.le_of_ble_eq_true rfl)
      have N281 := Fr.snoc X281 N278 g_b254
      have z282 : n0 ≤ h281.size := (Nat.le_trans z279 (Keep.of_wr W281).1)
      have K283 : Keep h0 h281 [] := K280.wr W281 (Or.inr sz_b254)
      refine g_dup X281 hx 65 (hb hby at_64) rfl rfl ?_
      refine g_bipush X281 hx 67 (hb hby at_65) (8 : Int32) rfl rfl ?_
      refine g_iconst X281 hx 68 (hb hby at_67) (1 : Int32) rfl rfl ?_
      obtain ⟨cl284, Ar284, q284, S284, P284, H284, G284⟩ := id V281
      have hin284 := inb_of (j := (8 : Int32)) S284 ⟨by decide, by decide⟩
      refine own_stZ X281 hx hZ e281 Ar284 hin284 69 (hb hby at_68) rfl fun T284 h284 X284 e284 W284 => ?_
      have V284 : Arv Z h284 b254 k254 .boolean (9 : Int32) [(.int (1 : Int32)), (.int (0 : Int32)), (.int (0 : Int32)), (.int (1 : Int32)), (.int (1 : Int32)), (.int (1 : Int32)), (.int (0 : Int32)), (.int (0 : Int32)), (.int (1 : Int32))] (.int (0 : Int32)) := Arv.set Ar284 q284 S284 P284 H284 G284 (v := (.int (1 : Int32))) rfl W284 8 rfl (Nat.le_of_ble_eq_true rfl)
      have N284 := Fr.snoc X284 N281 g_b254
      have z285 : n0 ≤ h284.size := (Nat.le_trans z282 (Keep.of_wr W284).1)
      have K286 : Keep h0 h284 [] := K283.wr W284 (Or.inr sz_b254)
      refine g_astore X284 hx 71 (hb hby at_69) rfl (l' := #[.val (.int p0), .val (.int p1), .val (.int (2 : Int32)), .val (.int (0 : Int32)), .val (.ref s2), .val (.ref s0), .val (.ref b254), .unset]) rfl rfl ?_
      refine g_aload X284 hx 73 (hb hby at_71) rfl rfl rfl ?_
      refine g_iload_n X284 hx 74 (hb hby at_73) rfl rfl ?_
      refine g_iconst X284 hx 75 (hb hby at_74) (3 : Int32) rfl rfl ?_
      refine g_imul X284 hx 76 (hb hby at_75) rfl ?_
      show own_Go p e below s _ _ _ (T284.setTop (mkF m 76 _ [(.int (6 : Int32)), (.ref b254)]))
      refine g_iload_n X284 hx 77 (hb hby at_76) rfl rfl ?_
      refine g_iadd X284 hx 78 (hb hby at_77) rfl ?_
      show own_Go p e below s _ _ _ (T284.setTop (mkF m 78 _ [(.int (6 : Int32)), (.ref b254)]))
      obtain ⟨cl287, Ar287, q287, S287, P287, H287, G287⟩ := id V284
      have hin287 := inb_of (j := (6 : Int32)) S287 ⟨by decide, by decide⟩
      refine own_baloadZ X284 hx hZ e284 Ar287 (v := (.int (0 : Int32))) hin287 (Has.at H287 hin287 rfl) 79 (hb hby at_78) rfl ?_
      refine g_istore X284 hx 81 (hb hby at_79) (l' := #[.val (.int p0), .val (.int p1), .val (.int (2 : Int32)), .val (.int (0 : Int32)), .val (.ref s2), .val (.ref s0), .val (.ref b254), .val (.int (0 : Int32))]) rfl rfl ?_
      refine g_aload X284 hx 83 (hb hby at_81) rfl rfl rfl ?_
      refine g_aload X284 hx 85 (hb hby at_83) rfl rfl rfl ?_
      have f289 : Sta Z h284 "com/example/grantbook/grantbook/model/Permission" "OAUTH_CLIENT_READ" "Lcom/example/grantbook/grantbook/model/Permission;" (.ref s0) := (own_Sta_keep K286 S_s0 all0)
      have f290 : Sta Z h284 "com/example/grantbook/grantbook/model/Permission" "OAUTH_CLIENT_WRITE" "Lcom/example/grantbook/grantbook/model/Permission;" (.ref s1) := (own_Sta_keep K286 S_s1 all0)
      have f291 : Sta Z h284 "com/example/grantbook/grantbook/model/Permission" "OAUTH_CLIENT_REGISTER" "Lcom/example/grantbook/grantbook/model/Permission;" (.ref s2) := (own_Sta_keep K286 S_s2 all0)
      have f292 : Exa Z h284 s2 "com/example/grantbook/grantbook/model/Permission" := (E_s2.keep K286)
      refine own_callV X284 hx hZ hown (hw _ (List.mem_of_getElem? (i := 9) rfl)) (hw _ (List.mem_of_getElem? (i := 10) rfl)) (own_nf hZ (hw _ (List.mem_of_getElem? (i := 12) rfl))) (hw _ (List.mem_of_getElem? (i := 12) rfl)) (hw _ (List.mem_of_getElem? (i := 11) rfl)) (by decide) (rm_inc20 l Z a0 hw [] s0 s1 s2 h284 n0 z285 f289 f290 f291 ne_s0_s1 ne_s0_s2 ne_s1_s2) (hw _ (List.mem_of_getElem? (i := 13) rfl)) (hw _ (List.mem_of_getElem? (i := 6) rfl)) e284 0 (by decide) (by decide) (by decide) (by decide) f292 [(.ref s0)] [] rfl pd_1 rfl 88 rfl (by rw [hml]; rfl) rfl (hb hby at_85) rfl fun T288 v288 L288 X288 hQ288 => ?_
      obtain ⟨rfl, Nq288, e288⟩ := hQ288
      have N288 := Fr.app N284 Nq288
      show own_Go p e below s _ _ _ (T288.setTop (mkF m 88 _ [(.int (0 : Int32))]))
      refine g_iload X288 hx 90 (hb hby at_88) rfl rfl ?_
      refine g_icmpNo X288 hx 93 (hb hby at_90) (own_ii_ne_f (by decide)) rfl ?_
      refine g_iconst X288 hx 94 (hb hby at_93) (1 : Int32) rfl rfl ?_
      refine g_goto X288 hx 98 (hb hby at_94) (by decide) (by decide) ?_
      refine own_retN X288 hx hlk (t := .boolean) hret (by simp) (hb hby at_98) ?_ (by decide) (by decide)
      rw [e288]
      exact ⟨rfl, N288⟩
    · show own_Go p e below s _ _ _ (T252.setTop (mkF m 20 _ []))
      refine g_iload_n X252 hx 21 (hb hby at_20) rfl rfl ?_
      refine own_callS X252 hx hZ hown (hw _ (List.mem_of_getElem? (i := 1) rfl)) (hw _ (List.mem_of_getElem? (i := 2) rfl)) (by decide) (rm_pick1 l Z a0 hw [] s0 s1 s2 h0 n0 Z0 S_s0 S_s1 S_s2) (hw _ (List.mem_of_getElem? (i := 4) rfl)) (hw _ (List.mem_of_getElem? (i := 3) rfl)) e252 0 (by decide) (by decide) (by decide) (by decide) [(.int (1 : Int32))] [] rfl pd_0 rfl 24 rfl (by rw [hml]; rfl) rfl (hb hby at_21) rfl fun T293 v293 L293 X293 hQ293 => ?_
      obtain ⟨rfl, Nq293, e293⟩ := hQ293
      have N293 := Fr.app N252 Nq293
      show own_Go p e below s _ _ _ (T293.setTop (mkF m 24 _ [(.ref s1)]))
      refine g_astore X293 hx 26 (hb hby at_24) rfl (l' := #[.val (.int p0), .val (.int p1), .val (.int (2 : Int32)), .val (.int (1 : Int32)), .val (.ref s2), .val (.ref s1), .unset, .unset]) rfl rfl ?_
      refine g_bipush X293 hx 28 (hb hby at_26) (9 : Int32) rfl rfl ?_
      refine own_newP X293 hx hZ (hw _ (List.mem_of_getElem? (i := 8) rfl)) e293 30 (hb hby at_28) rfl (by decide) 9 (by decide) (by decide) (by decide) (by decide) fun T294 h294 k294 b294 X294 e294 g294 E294 A294 => ?_
      have ne295 : s0 ≠ b294 := Nat.ne_of_lt (Nat.lt_of_lt_of_le E_s0.lt (Nat.le_of_eq g294.symm))
      have ne296 : s1 ≠ b294 := Nat.ne_of_lt (Nat.lt_of_lt_of_le E_s1.lt (Nat.le_of_eq g294.symm))
      have ne297 : s2 ≠ b294 := Nat.ne_of_lt (Nat.lt_of_lt_of_le E_s2.lt (Nat.le_of_eq g294.symm))
      have g_b294 : n0 ≤ b294 := Nat.le_trans Z0 (Nat.le_of_eq g294.symm)
      have sz_b294 : h0.size ≤ b294 := Nat.le_trans (Keep.refl h0 []).1 (Nat.le_of_eq g294.symm)
      have K298 : Keep h0 h294 [] := (Keep.refl h0 []).ext E294
      have z299 : n0 ≤ h294.size := (Nat.le_trans Z0 E294.1)
      have V294 : Arv Z h294 b294 k294 .boolean (9 : Int32) [(.int (0 : Int32)), (.int (0 : Int32)), (.int (0 : Int32)), (.int (0 : Int32)), (.int (0 : Int32)), (.int (0 : Int32)), (.int (0 : Int32)), (.int (0 : Int32)), (.int (0 : Int32))] (.int (0 : Int32)) := (Arv.new A294 (by decide)).pad (pad_rep [] (.int (0 : Int32)) 9)
      refine g_dup X294 hx 31 (hb hby at_30) rfl rfl ?_
      refine g_iconst X294 hx 32 (hb hby at_31) (0 : Int32) rfl rfl ?_
      refine g_iconst X294 hx 33 (hb hby at_32) (1 : Int32) rfl rfl ?_
      obtain ⟨cl300, Ar300, q300, S300, P300, H300, G300⟩ := id V294
      have hin300 := inb_of (j := (0 : Int32)) S300 ⟨by decide, by decide⟩
      refine own_stZ X294 hx hZ e294 Ar300 hin300 34 (hb hby at_33) rfl fun T300 h300 X300 e300 W300 => ?_
      have V300 : Arv Z h300 b294 k294 .boolean (9 : Int32) [(.int (1 : Int32)), (.int (0 : Int32)), (.int (0 : Int32)), (.int (0 : Int32)), (.int (0 : Int32)), (.int (0 : Int32)), (.int (0 : Int32)), (.int (0 : Int32)), (.int (0 : Int32))] (.int (0 : Int32)) := Arv.set Ar300 q300 S300 P300 H300 G300 (v := (.int (1 : Int32))) rfl W300 0 rfl (Nat.le_of_ble_eq_true rfl)
      have N300 := Fr.snoc X300 N293 g_b294
      have z301 : n0 ≤ h300.size := (Nat.le_trans z299 (Keep.of_wr W300).1)
      have K302 : Keep h0 h300 [] := K298.wr W300 (Or.inr sz_b294)
      refine g_dup X300 hx 35 (hb hby at_34) rfl rfl ?_
      refine g_iconst X300 hx 36 (hb hby at_35) (1 : Int32) rfl rfl ?_
      refine g_iconst X300 hx 37 (hb hby at_36) (0 : Int32) rfl rfl ?_
      obtain ⟨cl303, Ar303, q303, S303, P303, H303, G303⟩ := id V300
      have hin303 := inb_of (j := (1 : Int32)) S303 ⟨by decide, by decide⟩
      refine own_stZ X300 hx hZ e300 Ar303 hin303 38 (hb hby at_37) rfl fun T303 h303 X303 e303 W303 => ?_
      have V303 : Arv Z h303 b294 k294 .boolean (9 : Int32) [(.int (1 : Int32)), (.int (0 : Int32)), (.int (0 : Int32)), (.int (0 : Int32)), (.int (0 : Int32)), (.int (0 : Int32)), (.int (0 : Int32)), (.int (0 : Int32)), (.int (0 : Int32))] (.int (0 : Int32)) := Arv.set Ar303 q303 S303 P303 H303 G303 (v := (.int (0 : Int32))) rfl W303 1 rfl (Nat.le_of_ble_eq_true rfl)
      have N303 := Fr.snoc X303 N300 g_b294
      have z304 : n0 ≤ h303.size := (Nat.le_trans z301 (Keep.of_wr W303).1)
      have K305 : Keep h0 h303 [] := K302.wr W303 (Or.inr sz_b294)
      refine g_dup X303 hx 39 (hb hby at_38) rfl rfl ?_
      refine g_iconst X303 hx 40 (hb hby at_39) (2 : Int32) rfl rfl ?_
      refine g_iconst X303 hx 41 (hb hby at_40) (0 : Int32) rfl rfl ?_
      obtain ⟨cl306, Ar306, q306, S306, P306, H306, G306⟩ := id V303
      have hin306 := inb_of (j := (2 : Int32)) S306 ⟨by decide, by decide⟩
      refine own_stZ X303 hx hZ e303 Ar306 hin306 42 (hb hby at_41) rfl fun T306 h306 X306 e306 W306 => ?_
      have V306 : Arv Z h306 b294 k294 .boolean (9 : Int32) [(.int (1 : Int32)), (.int (0 : Int32)), (.int (0 : Int32)), (.int (0 : Int32)), (.int (0 : Int32)), (.int (0 : Int32)), (.int (0 : Int32)), (.int (0 : Int32)), (.int (0 : Int32))] (.int (0 : Int32)) := Arv.set Ar306 q306 S306 P306 H306 G306 (v := (.int (0 : Int32))) rfl W306 2 rfl (Nat.le_of_ble_eq_true rfl)
      have N306 := Fr.snoc X306 N303 g_b294
      have z307 : n0 ≤ h306.size := (Nat.le_trans z304 (Keep.of_wr W306).1)
      have K308 : Keep h0 h306 [] := K305.wr W306 (Or.inr sz_b294)
      refine g_dup X306 hx 43 (hb hby at_42) rfl rfl ?_
      refine g_iconst X306 hx 44 (hb hby at_43) (3 : Int32) rfl rfl ?_
      refine g_iconst X306 hx 45 (hb hby at_44) (1 : Int32) rfl rfl ?_
      obtain ⟨cl309, Ar309, q309, S309, P309, H309, G309⟩ := id V306
      have hin309 := inb_of (j := (3 : Int32)) S309 ⟨by decide, by decide⟩
      refine own_stZ X306 hx hZ e306 Ar309 hin309 46 (hb hby at_45) rfl fun T309 h309 X309 e309 W309 => ?_
      have V309 : Arv Z h309 b294 k294 .boolean (9 : Int32) [(.int (1 : Int32)), (.int (0 : Int32)), (.int (0 : Int32)), (.int (1 : Int32)), (.int (0 : Int32)), (.int (0 : Int32)), (.int (0 : Int32)), (.int (0 : Int32)), (.int (0 : Int32))] (.int (0 : Int32)) := Arv.set Ar309 q309 S309 P309 H309 G309 (v := (.int (1 : Int32))) rfl W309 3 rfl (Nat.le_of_ble_eq_true rfl)
      have N309 := Fr.snoc X309 N306 g_b294
      have z310 : n0 ≤ h309.size := (Nat.le_trans z307 (Keep.of_wr W309).1)
      have K311 : Keep h0 h309 [] := K308.wr W309 (Or.inr sz_b294)
      refine g_dup X309 hx 47 (hb hby at_46) rfl rfl ?_
      refine g_iconst X309 hx 48 (hb hby at_47) (4 : Int32) rfl rfl ?_
      refine g_iconst X309 hx 49 (hb hby at_48) (1 : Int32) rfl rfl ?_
      obtain ⟨cl312, Ar312, q312, S312, P312, H312, G312⟩ := id V309
      have hin312 := inb_of (j := (4 : Int32)) S312 ⟨by decide, by decide⟩
      refine own_stZ X309 hx hZ e309 Ar312 hin312 50 (hb hby at_49) rfl fun T312 h312 X312 e312 W312 => ?_
      have V312 : Arv Z h312 b294 k294 .boolean (9 : Int32) [(.int (1 : Int32)), (.int (0 : Int32)), (.int (0 : Int32)), (.int (1 : Int32)), (.int (1 : Int32)), (.int (0 : Int32)), (.int (0 : Int32)), (.int (0 : Int32)), (.int (0 : Int32))] (.int (0 : Int32)) := Arv.set Ar312 q312 S312 P312 H312 G312 (v := (.int (1 : Int32))) rfl W312 4 rfl (Nat.le_of_ble_eq_true rfl)
      have N312 := Fr.snoc X312 N309 g_b294
      have z313 : n0 ≤ h312.size := (Nat.le_trans z310 (Keep.of_wr W312).1)
      have K314 : Keep h0 h312 [] := K311.wr W312 (Or.inr sz_b294)
      refine g_dup X312 hx 51 (hb hby at_50) rfl rfl ?_
      refine g_iconst X312 hx 52 (hb hby at_51) (5 : Int32) rfl rfl ?_
      refine g_iconst X312 hx 53 (hb hby at_52) (1 : Int32) rfl rfl ?_
      obtain ⟨cl315, Ar315, q315, S315, P315, H315, G315⟩ := id V312
      have hin315 := inb_of (j := (5 : Int32)) S315 ⟨by decide, by decide⟩
      refine own_stZ X312 hx hZ e312 Ar315 hin315 54 (hb hby at_53) rfl fun T315 h315 X315 e315 W315 => ?_
      have V315 : Arv Z h315 b294 k294 .boolean (9 : Int32) [(.int (1 : Int32)), (.int (0 : Int32)), (.int (0 : Int32)), (.int (1 : Int32)), (.int (1 : Int32)), (.int (1 : Int32)), (.int (0 : Int32)), (.int (0 : Int32)), (.int (0 : Int32))] (.int (0 : Int32)) := Arv.set Ar315 q315 S315 P315 H315 G315 (v := (.int (1 : Int32))) rfl W315 5 rfl (Nat.le_of_ble_eq_true rfl)
      have N315 := Fr.snoc X315 N312 g_b294
      have z316 : n0 ≤ h315.size := (Nat.le_trans z313 (Keep.of_wr W315).1)
      have K317 : Keep h0 h315 [] := K314.wr W315 (Or.inr sz_b294)
      refine g_dup X315 hx 55 (hb hby at_54) rfl rfl ?_
      refine g_bipush X315 hx 57 (hb hby at_55) (6 : Int32) rfl rfl ?_
      refine g_iconst X315 hx 58 (hb hby at_57) (0 : Int32) rfl rfl ?_
      obtain ⟨cl318, Ar318, q318, S318, P318, H318, G318⟩ := id V315
      have hin318 := inb_of (j := (6 : Int32)) S318 ⟨by decide, by decide⟩
      refine own_stZ X315 hx hZ e315 Ar318 hin318 59 (hb hby at_58) rfl fun T318 h318 X318 e318 W318 => ?_
      have V318 : Arv Z h318 b294 k294 .boolean (9 : Int32) [(.int (1 : Int32)), (.int (0 : Int32)), (.int (0 : Int32)), (.int (1 : Int32)), (.int (1 : Int32)), (.int (1 : Int32)), (.int (0 : Int32)), (.int (0 : Int32)), (.int (0 : Int32))] (.int (0 : Int32)) := Arv.set Ar318 q318 S318 P318 H318 G318 (v := (.int (0 : Int32))) rfl W318 6 rfl (Nat.le_of_ble_eq_true rfl)
      have N318 := Fr.snoc X318 N315 g_b294
      have z319 : n0 ≤ h318.size := (Nat.le_trans z316 (Keep.of_wr W318).1)
      have K320 : Keep h0 h318 [] := K317.wr W318 (Or.inr sz_b294)
      refine g_dup X318 hx 60 (hb hby at_59) rfl rfl ?_
      refine g_bipush X318 hx 62 (hb hby at_60) (7 : Int32) rfl rfl ?_
      refine g_iconst X318 hx 63 (hb hby at_62) (0 : Int32) rfl rfl ?_
      obtain ⟨cl321, Ar321, q321, S321, P321, H321, G321⟩ := id V318
      have hin321 := inb_of (j := (7 : Int32)) S321 ⟨by decide, by decide⟩
      refine own_stZ X318 hx hZ e318 Ar321 hin321 64 (hb hby at_63) rfl fun T321 h321 X321 e321 W321 => ?_
      have V321 : Arv Z h321 b294 k294 .boolean (9 : Int32) [(.int (1 : Int32)), (.int (0 : Int32)), (.int (0 : Int32)), (.int (1 : Int32)), (.int (1 : Int32)), (.int (1 : Int32)), (.int (0 : Int32)), (.int (0 : Int32)), (.int (0 : Int32))] (.int (0 : Int32)) := Arv.set Ar321 q321 S321 P321 H321 G321 (v := (.int (0 : Int32))) rfl W321 7 rfl (Nat.le_of_ble_eq_true rfl)
      have N321 := Fr.snoc X321 N318 g_b294
      have z322 : n0 ≤ h321.size := (Nat.le_trans z319 (Keep.of_wr W321).1)
      have K323 : Keep h0 h321 [] := K320.wr W321 (Or.inr sz_b294)
      refine g_dup X321 hx 65 (hb hby at_64) rfl rfl ?_
      refine g_bipush X321 hx 67 (hb hby at_65) (8 : Int32) rfl rfl ?_
      refine g_iconst X321 hx 68 (hb hby at_67) (1 : Int32) rfl rfl ?_
      obtain ⟨cl324, Ar324, q324, S324, P324, H324, G324⟩ := id V321
      have hin324 := inb_of (j := (8 : Int32)) S324 ⟨by decide, by decide⟩
      refine own_stZ X321 hx hZ e321 Ar324 hin324 69 (hb hby at_68) rfl fun T324 h324 X324 e324 W324 => ?_
      have V324 : Arv Z h324 b294 k294 .boolean (9 : Int32) [(.int (1 : Int32)), (.int (0 : Int32)), (.int (0 : Int32)), (.int (1 : Int32)), (.int (1 : Int32)), (.int (1 : Int32)), (.int (0 : Int32)), (.int (0 : Int32)), (.int (1 : Int32))] (.int (0 : Int32)) := Arv.set Ar324 q324 S324 P324 H324 G324 (v := (.int (1 : Int32))) rfl W324 8 rfl (Nat.le_of_ble_eq_true rfl)
      have N324 := Fr.snoc X324 N321 g_b294
      have z325 : n0 ≤ h324.size := (Nat.le_trans z322 (Keep.of_wr W324).1)
      have K326 : Keep h0 h324 [] := K323.wr W324 (Or.inr sz_b294)
      refine g_astore X324 hx 71 (hb hby at_69) rfl (l' := #[.val (.int p0), .val (.int p1), .val (.int (2 : Int32)), .val (.int (1 : Int32)), .val (.ref s2), .val (.ref s1), .val (.ref b294), .unset]) rfl rfl ?_
      refine g_aload X324 hx 73 (hb hby at_71) rfl rfl rfl ?_
      refine g_iload_n X324 hx 74 (hb hby at_73) rfl rfl ?_
      refine g_iconst X324 hx 75 (hb hby at_74) (3 : Int32) rfl rfl ?_
      refine g_imul X324 hx 76 (hb hby at_75) rfl ?_
      show own_Go p e below s _ _ _ (T324.setTop (mkF m 76 _ [(.int (6 : Int32)), (.ref b294)]))
      refine g_iload_n X324 hx 77 (hb hby at_76) rfl rfl ?_
      refine g_iadd X324 hx 78 (hb hby at_77) rfl ?_
      show own_Go p e below s _ _ _ (T324.setTop (mkF m 78 _ [(.int (7 : Int32)), (.ref b294)]))
      obtain ⟨cl327, Ar327, q327, S327, P327, H327, G327⟩ := id V324
      have hin327 := inb_of (j := (7 : Int32)) S327 ⟨by decide, by decide⟩
      refine own_baloadZ X324 hx hZ e324 Ar327 (v := (.int (0 : Int32))) hin327 (Has.at H327 hin327 rfl) 79 (hb hby at_78) rfl ?_
      refine g_istore X324 hx 81 (hb hby at_79) (l' := #[.val (.int p0), .val (.int p1), .val (.int (2 : Int32)), .val (.int (1 : Int32)), .val (.ref s2), .val (.ref s1), .val (.ref b294), .val (.int (0 : Int32))]) rfl rfl ?_
      refine g_aload X324 hx 83 (hb hby at_81) rfl rfl rfl ?_
      refine g_aload X324 hx 85 (hb hby at_83) rfl rfl rfl ?_
      have f329 : Sta Z h324 "com/example/grantbook/grantbook/model/Permission" "OAUTH_CLIENT_READ" "Lcom/example/grantbook/grantbook/model/Permission;" (.ref s0) := (own_Sta_keep K326 S_s0 all0)
      have f330 : Sta Z h324 "com/example/grantbook/grantbook/model/Permission" "OAUTH_CLIENT_WRITE" "Lcom/example/grantbook/grantbook/model/Permission;" (.ref s1) := (own_Sta_keep K326 S_s1 all0)
      have f331 : Sta Z h324 "com/example/grantbook/grantbook/model/Permission" "OAUTH_CLIENT_REGISTER" "Lcom/example/grantbook/grantbook/model/Permission;" (.ref s2) := (own_Sta_keep K326 S_s2 all0)
      have f332 : Exa Z h324 s2 "com/example/grantbook/grantbook/model/Permission" := (E_s2.keep K326)
      refine own_callV X324 hx hZ hown (hw _ (List.mem_of_getElem? (i := 9) rfl)) (hw _ (List.mem_of_getElem? (i := 10) rfl)) (own_nf hZ (hw _ (List.mem_of_getElem? (i := 12) rfl))) (hw _ (List.mem_of_getElem? (i := 12) rfl)) (hw _ (List.mem_of_getElem? (i := 11) rfl)) (by decide) (rm_inc21 l Z a0 hw [] s0 s1 s2 h324 n0 z325 f329 f330 f331 ne_s0_s1 ne_s0_s2 ne_s1_s2) (hw _ (List.mem_of_getElem? (i := 13) rfl)) (hw _ (List.mem_of_getElem? (i := 6) rfl)) e324 0 (by decide) (by decide) (by decide) (by decide) f332 [(.ref s1)] [] rfl pd_1 rfl 88 rfl (by rw [hml]; rfl) rfl (hb hby at_85) rfl fun T328 v328 L328 X328 hQ328 => ?_
      obtain ⟨rfl, Nq328, e328⟩ := hQ328
      have N328 := Fr.app N324 Nq328
      show own_Go p e below s _ _ _ (T328.setTop (mkF m 88 _ [(.int (0 : Int32))]))
      refine g_iload X328 hx 90 (hb hby at_88) rfl rfl ?_
      refine g_icmpNo X328 hx 93 (hb hby at_90) (own_ii_ne_f (by decide)) rfl ?_
      refine g_iconst X328 hx 94 (hb hby at_93) (1 : Int32) rfl rfl ?_
      refine g_goto X328 hx 98 (hb hby at_94) (by decide) (by decide) ?_
      refine own_retN X328 hx hlk (t := .boolean) hret (by simp) (hb hby at_98) ?_ (by decide) (by decide)
      rw [e328]
      exact ⟨rfl, N328⟩
    · show own_Go p e below s _ _ _ (T252.setTop (mkF m 20 _ []))
      refine g_iload_n X252 hx 21 (hb hby at_20) rfl rfl ?_
      refine own_callS X252 hx hZ hown (hw _ (List.mem_of_getElem? (i := 1) rfl)) (hw _ (List.mem_of_getElem? (i := 2) rfl)) (by decide) (rm_pick2 l Z a0 hw [] s0 s1 s2 h0 n0 Z0 S_s0 S_s1 S_s2) (hw _ (List.mem_of_getElem? (i := 4) rfl)) (hw _ (List.mem_of_getElem? (i := 3) rfl)) e252 0 (by decide) (by decide) (by decide) (by decide) [(.int (2 : Int32))] [] rfl pd_0 rfl 24 rfl (by rw [hml]; rfl) rfl (hb hby at_21) rfl fun T333 v333 L333 X333 hQ333 => ?_
      obtain ⟨rfl, Nq333, e333⟩ := hQ333
      have N333 := Fr.app N252 Nq333
      show own_Go p e below s _ _ _ (T333.setTop (mkF m 24 _ [(.ref s2)]))
      refine g_astore X333 hx 26 (hb hby at_24) rfl (l' := #[.val (.int p0), .val (.int p1), .val (.int (2 : Int32)), .val (.int (2 : Int32)), .val (.ref s2), .val (.ref s2), .unset, .unset]) rfl rfl ?_
      refine g_bipush X333 hx 28 (hb hby at_26) (9 : Int32) rfl rfl ?_
      refine own_newP X333 hx hZ (hw _ (List.mem_of_getElem? (i := 8) rfl)) e333 30 (hb hby at_28) rfl (by decide) 9 (by decide) (by decide) (by decide) (by decide) fun T334 h334 k334 b334 X334 e334 g334 E334 A334 => ?_
      have ne335 : s0 ≠ b334 := Nat.ne_of_lt (Nat.lt_of_lt_of_le E_s0.lt (Nat.le_of_eq g334.symm))
      have ne336 : s1 ≠ b334 := Nat.ne_of_lt (Nat.lt_of_lt_of_le E_s1.lt (Nat.le_of_eq g334.symm))
      have ne337 : s2 ≠ b334 := Nat.ne_of_lt (Nat.lt_of_lt_of_le E_s2.lt (Nat.le_of_eq g334.symm))
      have g_b334 : n0 ≤ b334 := Nat.le_trans Z0 (Nat.le_of_eq g334.symm)
      have sz_b334 : h0.size ≤ b334 := Nat.le_trans (Keep.refl h0 []).1 (Nat.le_of_eq g334.symm)
      have K338 : Keep h0 h334 [] := (Keep.refl h0 []).ext E334
      have z339 : n0 ≤ h334.size := (Nat.le_trans Z0 E334.1)
      have V334 : Arv Z h334 b334 k334 .boolean (9 : Int32) [(.int (0 : Int32)), (.int (0 : Int32)), (.int (0 : Int32)), (.int (0 : Int32)), (.int (0 : Int32)), (.int (0 : Int32)), (.int (0 : Int32)), (.int (0 : Int32)), (.int (0 : Int32))] (.int (0 : Int32)) := (Arv.new A334 (by decide)).pad (pad_rep [] (.int (0 : Int32)) 9)
      refine g_dup X334 hx 31 (hb hby at_30) rfl rfl ?_
      refine g_iconst X334 hx 32 (hb hby at_31) (0 : Int32) rfl rfl ?_
      refine g_iconst X334 hx 33 (hb hby at_32) (1 : Int32) rfl rfl ?_
      obtain ⟨cl340, Ar340, q340, S340, P340, H340, G340⟩ := id V334
      have hin340 := inb_of (j := (0 : Int32)) S340 ⟨by decide, by decide⟩
      refine own_stZ X334 hx hZ e334 Ar340 hin340 34 (hb hby at_33) rfl fun T340 h340 X340 e340 W340 => ?_
      have V340 : Arv Z h340 b334 k334 .boolean (9 : Int32) [(.int (1 : Int32)), (.int (0 : Int32)), (.int (0 : Int32)), (.int (0 : Int32)), (.int (0 : Int32)), (.int (0 : Int32)), (.int (0 : Int32)), (.int (0 : Int32)), (.int (0 : Int32))] (.int (0 : Int32)) := Arv.set Ar340 q340 S340 P340 H340 G340 (v := (.int (1 : Int32))) rfl W340 0 rfl (Nat.le_of_ble_eq_true rfl)
      have N340 := Fr.snoc X340 N333 g_b334
      have z341 : n0 ≤ h340.size := (Nat.le_trans z339 (Keep.of_wr W340).1)
      have K342 : Keep h0 h340 [] := K338.wr W340 (Or.inr sz_b334)
      refine g_dup X340 hx 35 (hb hby at_34) rfl rfl ?_
      refine g_iconst X340 hx 36 (hb hby at_35) (1 : Int32) rfl rfl ?_
      refine g_iconst X340 hx 37 (hb hby at_36) (0 : Int32) rfl rfl ?_
      obtain ⟨cl343, Ar343, q343, S343, P343, H343, G343⟩ := id V340
      have hin343 := inb_of (j := (1 : Int32)) S343 ⟨by decide, by decide⟩
      refine own_stZ X340 hx hZ e340 Ar343 hin343 38 (hb hby at_37) rfl fun T343 h343 X343 e343 W343 => ?_
      have V343 : Arv Z h343 b334 k334 .boolean (9 : Int32) [(.int (1 : Int32)), (.int (0 : Int32)), (.int (0 : Int32)), (.int (0 : Int32)), (.int (0 : Int32)), (.int (0 : Int32)), (.int (0 : Int32)), (.int (0 : Int32)), (.int (0 : Int32))] (.int (0 : Int32)) := Arv.set Ar343 q343 S343 P343 H343 G343 (v := (.int (0 : Int32))) rfl W343 1 rfl (Nat.le_of_ble_eq_true rfl)
      have N343 := Fr.snoc X343 N340 g_b334
      have z344 : n0 ≤ h343.size := (Nat.le_trans z341 (Keep.of_wr W343).1)
      have K345 : Keep h0 h343 [] := K342.wr W343 (Or.inr sz_b334)
      refine g_dup X343 hx 39 (hb hby at_38) rfl rfl ?_
      refine g_iconst X343 hx 40 (hb hby at_39) (2 : Int32) rfl rfl ?_
      refine g_iconst X343 hx 41 (hb hby at_40) (0 : Int32) rfl rfl ?_
      obtain ⟨cl346, Ar346, q346, S346, P346, H346, G346⟩ := id V343
      have hin346 := inb_of (j := (2 : Int32)) S346 ⟨by decide, by decide⟩
      refine own_stZ X343 hx hZ e343 Ar346 hin346 42 (hb hby at_41) rfl fun T346 h346 X346 e346 W346 => ?_
      have V346 : Arv Z h346 b334 k334 .boolean (9 : Int32) [(.int (1 : Int32)), (.int (0 : Int32)), (.int (0 : Int32)), (.int (0 : Int32)), (.int (0 : Int32)), (.int (0 : Int32)), (.int (0 : Int32)), (.int (0 : Int32)), (.int (0 : Int32))] (.int (0 : Int32)) := Arv.set Ar346 q346 S346 P346 H346 G346 (v := (.int (0 : Int32))) rfl W346 2 rfl (Nat.le_of_ble_eq_true rfl)
      have N346 := Fr.snoc X346 N343 g_b334
      have z347 : n0 ≤ h346.size := (Nat.le_trans z344 (Keep.of_wr W346).1)
      have K348 : Keep h0 h346 [] := K345.wr W346 (Or.inr sz_b334)
      refine g_dup X346 hx 43 (hb hby at_42) rfl rfl ?_
      refine g_iconst X346 hx 44 (hb hby at_43) (3 : Int32) rfl rfl ?_
      refine g_iconst X346 hx 45 (hb hby at_44) (1 : Int32) rfl rfl ?_
      obtain ⟨cl349, Ar349, q349, S349, P349, H349, G349⟩ := id V346
      have hin349 := inb_of (j := (3 : Int32)) S349 ⟨by decide, by decide⟩
      refine own_stZ X346 hx hZ e346 Ar349 hin349 46 (hb hby at_45) rfl fun T349 h349 X349 e349 W349 => ?_
      have V349 : Arv Z h349 b334 k334 .boolean (9 : Int32) [(.int (1 : Int32)), (.int (0 : Int32)), (.int (0 : Int32)), (.int (1 : Int32)), (.int (0 : Int32)), (.int (0 : Int32)), (.int (0 : Int32)), (.int (0 : Int32)), (.int (0 : Int32))] (.int (0 : Int32)) := Arv.set Ar349 q349 S349 P349 H349 G349 (v := (.int (1 : Int32))) rfl W349 3 rfl (Nat.le_of_ble_eq_true rfl)
      have N349 := Fr.snoc X349 N346 g_b334
      have z350 : n0 ≤ h349.size := (Nat.le_trans z347 (Keep.of_wr W349).1)
      have K351 : Keep h0 h349 [] := K348.wr W349 (Or.inr sz_b334)
      refine g_dup X349 hx 47 (hb hby at_46) rfl rfl ?_
      refine g_iconst X349 hx 48 (hb hby at_47) (4 : Int32) rfl rfl ?_
      refine g_iconst X349 hx 49 (hb hby at_48) (1 : Int32) rfl rfl ?_
      obtain ⟨cl352, Ar352, q352, S352, P352, H352, G352⟩ := id V349
      have hin352 := inb_of (j := (4 : Int32)) S352 ⟨by decide, by decide⟩
      refine own_stZ X349 hx hZ e349 Ar352 hin352 50 (hb hby at_49) rfl fun T352 h352 X352 e352 W352 => ?_
      have V352 : Arv Z h352 b334 k334 .boolean (9 : Int32) [(.int (1 : Int32)), (.int (0 : Int32)), (.int (0 : Int32)), (.int (1 : Int32)), (.int (1 : Int32)), (.int (0 : Int32)), (.int (0 : Int32)), (.int (0 : Int32)), (.int (0 : Int32))] (.int (0 : Int32)) := Arv.set Ar352 q352 S352 P352 H352 G352 (v := (.int (1 : Int32))) rfl W352 4 rfl (Nat.le_of_ble_eq_true rfl)
      have N352 := Fr.snoc X352 N349 g_b334
      have z353 : n0 ≤ h352.size := (Nat.le_trans z350 (Keep.of_wr W352).1)
      have K354 : Keep h0 h352 [] := K351.wr W352 (Or.inr sz_b334)
      refine g_dup X352 hx 51 (hb hby at_50) rfl rfl ?_
      refine g_iconst X352 hx 52 (hb hby at_51) (5 : Int32) rfl rfl ?_
      refine g_iconst X352 hx 53 (hb hby at_52) (1 : Int32) rfl rfl ?_
      obtain ⟨cl355, Ar355, q355, S355, P355, H355, G355⟩ := id V352
      have hin355 := inb_of (j := (5 : Int32)) S355 ⟨by decide, by decide⟩
      refine own_stZ X352 hx hZ e352 Ar355 hin355 54 (hb hby at_53) rfl fun T355 h355 X355 e355 W355 => ?_
      have V355 : Arv Z h355 b334 k334 .boolean (9 : Int32) [(.int (1 : Int32)), (.int (0 : Int32)), (.int (0 : Int32)), (.int (1 : Int32)), (.int (1 : Int32)), (.int (1 : Int32)), (.int (0 : Int32)), (.int (0 : Int32)), (.int (0 : Int32))] (.int (0 : Int32)) := Arv.set Ar355 q355 S355 P355 H355 G355 (v := (.int (1 : Int32))) rfl W355 5 rfl (Nat.le_of_ble_eq_true rfl)
      have N355 := Fr.snoc X355 N352 g_b334
      have z356 : n0 ≤ h355.size := (Nat.le_trans z353 (Keep.of_wr W355).1)
      have K357 : Keep h0 h355 [] := K354.wr W355 (Or.inr sz_b334)
      refine g_dup X355 hx 55 (hb hby at_54) rfl rfl ?_
      refine g_bipush X355 hx 57 (hb hby at_55) (6 : Int32) rfl rfl ?_
      refine g_iconst X355 hx 58 (hb hby at_57) (0 : Int32) rfl rfl ?_
      obtain ⟨cl358, Ar358, q358, S358, P358, H358, G358⟩ := id V355
      have hin358 := inb_of (j := (6 : Int32)) S358 ⟨by decide, by decide⟩
      refine own_stZ X355 hx hZ e355 Ar358 hin358 59 (hb hby at_58) rfl fun T358 h358 X358 e358 W358 => ?_
      have V358 : Arv Z h358 b334 k334 .boolean (9 : Int32) [(.int (1 : Int32)), (.int (0 : Int32)), (.int (0 : Int32)), (.int (1 : Int32)), (.int (1 : Int32)), (.int (1 : Int32)), (.int (0 : Int32)), (.int (0 : Int32)), (.int (0 : Int32))] (.int (0 : Int32)) := Arv.set Ar358 q358 S358 P358 H358 G358 (v := (.int (0 : Int32))) rfl W358 6 rfl (Nat.le_of_ble_eq_true rfl)
      have N358 := Fr.snoc X358 N355 g_b334
      have z359 : n0 ≤ h358.size := (Nat.le_trans z356 (Keep.of_wr W358).1)
      have K360 : Keep h0 h358 [] := K357.wr W358 (Or.inr sz_b334)
      refine g_dup X358 hx 60 (hb hby at_59) rfl rfl ?_
      refine g_bipush X358 hx 62 (hb hby at_60) (7 : Int32) rfl rfl ?_
      refine g_iconst X358 hx 63 (hb hby at_62) (0 : Int32) rfl rfl ?_
      obtain ⟨cl361, Ar361, q361, S361, P361, H361, G361⟩ := id V358
      have hin361 := inb_of (j := (7 : Int32)) S361 ⟨by decide, by decide⟩
      refine own_stZ X358 hx hZ e358 Ar361 hin361 64 (hb hby at_63) rfl fun T361 h361 X361 e361 W361 => ?_
      have V361 : Arv Z h361 b334 k334 .boolean (9 : Int32) [(.int (1 : Int32)), (.int (0 : Int32)), (.int (0 : Int32)), (.int (1 : Int32)), (.int (1 : Int32)), (.int (1 : Int32)), (.int (0 : Int32)), (.int (0 : Int32)), (.int (0 : Int32))] (.int (0 : Int32)) := Arv.set Ar361 q361 S361 P361 H361 G361 (v := (.int (0 : Int32))) rfl W361 7 rfl (Nat.le_of_ble_eq_true rfl)
      have N361 := Fr.snoc X361 N358 g_b334
      have z362 : n0 ≤ h361.size := (Nat.le_trans z359 (Keep.of_wr W361).1)
      have K363 : Keep h0 h361 [] := K360.wr W361 (Or.inr sz_b334)
      refine g_dup X361 hx 65 (hb hby at_64) rfl rfl ?_
      refine g_bipush X361 hx 67 (hb hby at_65) (8 : Int32) rfl rfl ?_
      refine g_iconst X361 hx 68 (hb hby at_67) (1 : Int32) rfl rfl ?_
      obtain ⟨cl364, Ar364, q364, S364, P364, H364, G364⟩ := id V361
      have hin364 := inb_of (j := (8 : Int32)) S364 ⟨by decide, by decide⟩
      refine own_stZ X361 hx hZ e361 Ar364 hin364 69 (hb hby at_68) rfl fun T364 h364 X364 e364 W364 => ?_
      have V364 : Arv Z h364 b334 k334 .boolean (9 : Int32) [(.int (1 : Int32)), (.int (0 : Int32)), (.int (0 : Int32)), (.int (1 : Int32)), (.int (1 : Int32)), (.int (1 : Int32)), (.int (0 : Int32)), (.int (0 : Int32)), (.int (1 : Int32))] (.int (0 : Int32)) := Arv.set Ar364 q364 S364 P364 H364 G364 (v := (.int (1 : Int32))) rfl W364 8 rfl (Nat.le_of_ble_eq_true rfl)
      have N364 := Fr.snoc X364 N361 g_b334
      have z365 : n0 ≤ h364.size := (Nat.le_trans z362 (Keep.of_wr W364).1)
      have K366 : Keep h0 h364 [] := K363.wr W364 (Or.inr sz_b334)
      refine g_astore X364 hx 71 (hb hby at_69) rfl (l' := #[.val (.int p0), .val (.int p1), .val (.int (2 : Int32)), .val (.int (2 : Int32)), .val (.ref s2), .val (.ref s2), .val (.ref b334), .unset]) rfl rfl ?_
      refine g_aload X364 hx 73 (hb hby at_71) rfl rfl rfl ?_
      refine g_iload_n X364 hx 74 (hb hby at_73) rfl rfl ?_
      refine g_iconst X364 hx 75 (hb hby at_74) (3 : Int32) rfl rfl ?_
      refine g_imul X364 hx 76 (hb hby at_75) rfl ?_
      show own_Go p e below s _ _ _ (T364.setTop (mkF m 76 _ [(.int (6 : Int32)), (.ref b334)]))
      refine g_iload_n X364 hx 77 (hb hby at_76) rfl rfl ?_
      refine g_iadd X364 hx 78 (hb hby at_77) rfl ?_
      show own_Go p e below s _ _ _ (T364.setTop (mkF m 78 _ [(.int (8 : Int32)), (.ref b334)]))
      obtain ⟨cl367, Ar367, q367, S367, P367, H367, G367⟩ := id V364
      have hin367 := inb_of (j := (8 : Int32)) S367 ⟨by decide, by decide⟩
      refine own_baloadZ X364 hx hZ e364 Ar367 (v := (.int (1 : Int32))) hin367 (Has.at H367 hin367 rfl) 79 (hb hby at_78) rfl ?_
      refine g_istore X364 hx 81 (hb hby at_79) (l' := #[.val (.int p0), .val (.int p1), .val (.int (2 : Int32)), .val (.int (2 : Int32)), .val (.ref s2), .val (.ref s2), .val (.ref b334), .val (.int (1 : Int32))]) rfl rfl ?_
      refine g_aload X364 hx 83 (hb hby at_81) rfl rfl rfl ?_
      refine g_aload X364 hx 85 (hb hby at_83) rfl rfl rfl ?_
      have f369 : Sta Z h364 "com/example/grantbook/grantbook/model/Permission" "OAUTH_CLIENT_READ" "Lcom/example/grantbook/grantbook/model/Permission;" (.ref s0) := (own_Sta_keep K366 S_s0 all0)
      have f370 : Sta Z h364 "com/example/grantbook/grantbook/model/Permission" "OAUTH_CLIENT_WRITE" "Lcom/example/grantbook/grantbook/model/Permission;" (.ref s1) := (own_Sta_keep K366 S_s1 all0)
      have f371 : Sta Z h364 "com/example/grantbook/grantbook/model/Permission" "OAUTH_CLIENT_REGISTER" "Lcom/example/grantbook/grantbook/model/Permission;" (.ref s2) := (own_Sta_keep K366 S_s2 all0)
      have f372 : Exa Z h364 s2 "com/example/grantbook/grantbook/model/Permission" := (E_s2.keep K366)
      refine own_callV X364 hx hZ hown (hw _ (List.mem_of_getElem? (i := 9) rfl)) (hw _ (List.mem_of_getElem? (i := 10) rfl)) (own_nf hZ (hw _ (List.mem_of_getElem? (i := 12) rfl))) (hw _ (List.mem_of_getElem? (i := 12) rfl)) (hw _ (List.mem_of_getElem? (i := 11) rfl)) (by decide) (rm_inc22 l Z a0 hw [] s0 s1 s2 h364 n0 z365 f369 f370 f371 ne_s0_s1 ne_s0_s2 ne_s1_s2) (hw _ (List.mem_of_getElem? (i := 13) rfl)) (hw _ (List.mem_of_getElem? (i := 6) rfl)) e364 0 (by decide) (by decide) (by decide) (by decide) f372 [(.ref s2)] [] rfl pd_1 rfl 88 rfl (by rw [hml]; rfl) rfl (hb hby at_85) rfl fun T368 v368 L368 X368 hQ368 => ?_
      obtain ⟨rfl, Nq368, e368⟩ := hQ368
      have N368 := Fr.app N364 Nq368
      show own_Go p e below s _ _ _ (T368.setTop (mkF m 88 _ [(.int (1 : Int32))]))
      refine g_iload X368 hx 90 (hb hby at_88) rfl rfl ?_
      refine g_icmpNo X368 hx 93 (hb hby at_90) (own_ii_ne_f (by decide)) rfl ?_
      refine g_iconst X368 hx 94 (hb hby at_93) (1 : Int32) rfl rfl ?_
      refine g_goto X368 hx 98 (hb hby at_94) (by decide) (by decide) ?_
      refine own_retN X368 hx hlk (t := .boolean) hret (by simp) (hb hby at_98) ?_ (by decide) (by decide)
      rw [e368]
      exact ⟨rfl, N368⟩
set_option maxRecDepth 65536 in
set_option maxHeartbeats 40000000 in
theorem comes_1 {Post : Tables → Env → Array Value → State → Outcome → State → Prop} (hpost : ∀ tb e args s v u, (limb_1_1.after args s (.returned v) u = true ∧ limb_1_2.after args s (.returned v) u = true ∧ True) → FrameEnd s (.returned v) u (Jvm.fieldLocs frame_1_writes args s ++ Jvm.arrayLocs frame_1_arrays args s ++ Jvm.staticLocs frame_1_statics s) 16 128 → Post tb e args s (.returned v) u) :
    ArmFor flags0 classFile x code maxLocals ret World_1 tables_1 room_1 Calls_1 rest_1 Pre_1 Post := by
  intro l hfl _ _ p e ha hc hk s m args below hf hA hF happ hP
  obtain ⟨hcalls, hrest, hpre⟩ := hP
  obtain ⟨-, -, -, hnamed, -, -, -, hat⟩ := (Spec.applies_iff hf).mp happ
  obtain ⟨hg, hn⟩ := and_e (Cond.before_iff.mp (show (Jvm.Cond.and given_1 narrow_1).before args s = true from hpre))
  obtain ⟨gc, q0⟩ := and_e hg
  obtain ⟨ga0, q1⟩ := and_e q0
  have ga1 := q1
  obtain ⟨w0, w1, rfl⟩ : ∃ w0 w1 : Value, args = #[w0, w1] := by
    have hs : args.size = 2 := by simpa [Cond.value, given_1] using gc
    obtain ⟨L⟩ := args
    match L, hs with
    | [w0, w1], _ => exact ⟨w0, w1, rfl⟩
  have hw := fun d (hd : d ∈ tables_1) => atoms_spec (ws := Jvm.Cond.code x code maxLocals ret :: tables_1) hat d (List.mem_cons_of_mem _ hd)
  have hfit : Fit s := fun {y c} hc i hi => by
    obtain ⟨ha, rfl⟩ := Array.getElem?_eq_some_iff.mp hc
    have q := List.all_eq_true.mp ((Array.all_eq_true_iff_forall_mem.mp hF) _ (Array.getElem_mem ha)) i (List.mem_range.mpr hi)
    simpa [Array.getElem?_eq_getElem hi] using q
  obtain ⟨i0, ei0⟩ := is_v ga0
  obtain rfl : w0 = (.int i0) := Option.some.inj ei0
  obtain ⟨i1, ei1⟩ := is_v ga1
  obtain rfl : w1 = (.int i1) := Option.some.inj ei1
  obtain ⟨nn0, nr0⟩ := and_e hn
  obtain ⟨nn1, nr1⟩ := and_e nr0
  obtain ⟨nn2, nr2⟩ := and_e nr1
  obtain ⟨nn3, nr3⟩ := and_e nr2
  obtain ⟨nn4, nr4⟩ := and_e nr3
  have nn5 := nr4
  obtain ⟨s0, v_s0⟩ := exa_v nn0
  obtain ⟨s1, v_s1⟩ := exa_v nn2
  obtain ⟨s2, v_s2⟩ := exa_v nn1
  have F_s0 := own_fld_int v_s0 nn5
  have F_s1 := own_fld_int v_s1 nn4
  have F_s2 := own_fld_int v_s2 nn3
  obtain ⟨n, o, h1, h2, h3, _, L, rfl, ⟨rfl, N⟩, hq⟩ := rm_law l s _ hw tables_1 i0 i1 s0 s1 s2 s.heap s.heap.size (Nat.le_refl _) (Sta.start v_s0 (Or.inr ⟨(hw _ (List.mem_of_getElem? (i := 6) rfl)), (hw _ (List.mem_of_getElem? (i := 7) rfl))⟩)) (Sta.start v_s1 (Or.inr ⟨(hw _ (List.mem_of_getElem? (i := 6) rfl)), (hw _ (List.mem_of_getElem? (i := 17) rfl))⟩)) (Sta.start v_s2 (Or.inr ⟨(hw _ (List.mem_of_getElem? (i := 6) rfl)), (hw _ (List.mem_of_getElem? (i := 15) rfl))⟩)) (Exa.start v_s0 nn0) (Exa.start v_s1 nn2) (Exa.start v_s2 nn1) (F_s0.ne F_s1 (by simp)) (F_s0.ne F_s2 (by simp)) (F_s1.ne F_s2 (by simp)) p e ha hc hk s m _ below hf ((Spec.applies_iff_loose hf).mp happ).1 ⟨rfl, State.Warmed39.refl s, rfl⟩ trivial
  refine ⟨n, _, h1, h2, h3, hpost _ _ _ _ _ _ ⟨Cond.after_iff.mpr rfl, Cond.after_iff.mpr (eq_i res_at (Term.int_eval (1)) rfl), trivial⟩ ⟨hq.1, hq.2.1, (hq.2.2.sift fun y hy => Or.inr (N y hy)).mono (by decide) (by decide)⟩⟩
theorem main_1_1 : Claimed_1_1 := comes_1 fun _ _ _ _ _ _ h hF => ⟨h.1, hF⟩
theorem main_1_2 : Claimed_1_2 := comes_1 fun _ _ _ _ _ _ h hF => ⟨h.2.1, hF⟩
end Jvm.Pilot.@@N@@
namespace Jvm.Pilot.@@N@@
open Jvm Jvm.ClassFile Sem Op Lib Jvm.Free Jvm.Stand Jvm.Pilot.@@N@@.Jvm.D
/-! MADE BY PROGRAM (witnessworld.py) out of the Statement's table words and the real class files: 14 classes; the members and pool entries that the words name. The judged class is class 1, her method 2. -/
namespace start1
open Jvm.ClassFile
def u (s : String) : CpInfo := .utf8 (stringToUtf16 s)
/-- a pool by its gaps: so many unusable entries, then the entry; so many at the end -/
def gap : Nat → List CpInfo → List CpInfo
  | 0, r => r
  | n + 1, r => .unusable :: gap n r
def poolList (es : List (Nat × CpInfo)) (last : Nat) : List CpInfo := es.foldr (fun e r => gap e.1 (e.2 :: r)) (gap last [])
def pool (es : List (Nat × CpInfo)) (last : Nat) : Array CpInfo := ⟨poolList es last⟩
def fileOf (pool : Array CpInfo) (this : Nat) (attrs : Array Attribute := #[]) (ms : Array MethodInfo := #[]) (fl : Nat := 33) (sup : Nat := 0) (ifs : Array Nat := #[]) (fds : Array FieldInfo := #[]) : ClassFile where
  minorVersion := 0
  majorVersion := 65
  constantPool := pool
  accessFlags := fl
  thisClass := this
  superClass := sup
  interfaces := ifs
  fields := fds
  methods := ms
  attributes := attrs
def plain (name : String) (sup : Option ClassId) : Class where
  name := name
  kind := .ordinary
  loader := none
  accessFlags := 33
  super := sup
  interfaces := #[]
  cf := none
  fields := #[]
  methods := #[]
  instanceTypes := #[]
  staticTypes := #[]
  resolved := #[]
  callSites := []
  init := .initialized
  statics := none
  mirror := none

def pool0 : Array CpInfo := pool [(5, u "<init>"), (0, u "()V"), (1, .class_ 10), (1, u "java/lang/Object")] 113

def k0m0 : Method := { name := "<init>", desc := "()V", sig := { parameters := [], returnType := none }, accessFlags := 1, code := none }
/-- java/lang/Object -/
def k0 : Class := { plain "java/lang/Object" none with
  accessFlags := 33
  interfaces := #[]
  cf := some (fileOf pool0 8 #[] #[{ accessFlags := 1, nameIndex := 5, descriptorIndex := 6, attributes := #[] }] 33 0 #[] #[])
  fields := #[]
  methods := #[k0m0]
  instanceTypes := #[]
  staticTypes := #[]
  resolved := Array.replicate 124 none
  statics := none }

def pool1 : Array CpInfo := pool [(2, .class_ 4), (1, u "java/lang/Object"), (0, u "<init>"), (0, u "()V"), (0, .fieldref 8 9), (0, .class_ 10), (0, .nameAndType 11 12), (0, u "com/example/grantbook/grantbook/model/Permission"), (0, u "OAUTH_CLIENT_READ"), (0, u "Lcom/example/grantbook/grantbook/model/Permission;"), (0, .fieldref 8 14), (0, .nameAndType 15 12), (0, u "OAUTH_CLIENT_WRITE"), (0, .fieldref 8 17), (0, .nameAndType 18 12), (0, u "OAUTH_CLIENT_REGISTER"), (0, .integer 2147483647), (0, .methodref 21 22), (0, .class_ 23), (0, .nameAndType 24 25), (0, u "com/example/grantbook/grantbook/model/PermissionIncludesPinLaw"), (0, u "pick"), (0, u "(I)Lcom/example/grantbook/grantbook/model/Permission;"), (0, .methodref 8 27), (0, .nameAndType 28 29), (0, u "includes"), (0, u "(Lcom/example/grantbook/grantbook/model/Permission;)Z"), (3, u "law"), (0, u "(II)Z")] 4

def k1m0 : Method := { name := "<init>", desc := "()V", sig := { parameters := [], returnType := none }, accessFlags := 1, code := none }
def k1c1 : Code := { maxStack := 2, maxLocals := 1, code := method_2_code, exceptionTable := #[], attributes := #[] }
def k1m1 : Method := { name := "pick", desc := "(I)Lcom/example/grantbook/grantbook/model/Permission;", sig := { parameters := [.int], returnType := some (.object "com/example/grantbook/grantbook/model/Permission") }, accessFlags := 10, code := some k1c1 }
def k1c2 : Code := { maxStack := 4, maxLocals := 8, code := code, exceptionTable := #[], attributes := #[] }
def k1m2 : Method := { name := "law", desc := "(II)Z", sig := { parameters := [.int, .int], returnType := some .boolean }, accessFlags := 9, code := some k1c2 }
/-- com/example/grantbook/grantbook/model/PermissionIncludesPinLaw -/
def k1 : Class := { plain "com/example/grantbook/grantbook/model/PermissionIncludesPinLaw" (some 0) with
  accessFlags := 49
  interfaces := #[]
  cf := some (fileOf pool1 21 #[] #[{ accessFlags := 1, nameIndex := 5, descriptorIndex := 6, attributes := #[] }, { accessFlags := 10, nameIndex := 24, descriptorIndex := 25, attributes := #[] }, { accessFlags := 9, nameIndex := 33, descriptorIndex := 34, attributes := #[] }] 49 2 #[] #[])
  fields := #[]
  methods := #[k1m0, k1m1, k1m2]
  instanceTypes := #[]
  staticTypes := #[]
  resolved := Array.replicate 39 none
  statics := none }

def pool2 : Array CpInfo := pool [(1, .class_ 2), (0, u "java/lang/constant/Constable"), (0, .class_ 4), (0, u "java/lang/Object")] 6

/-- java/lang/constant/Constable -/
def k2 : Class := { plain "java/lang/constant/Constable" (some 0) with
  accessFlags := 1537
  interfaces := #[]
  cf := some (fileOf pool2 1 #[] #[] 1537 3 #[] #[])
  fields := #[]
  methods := #[]
  instanceTypes := #[]
  staticTypes := #[]
  resolved := Array.replicate 11 none
  statics := none }

def pool3 : Array CpInfo := pool [(1, .class_ 2), (0, u "java/lang/Comparable"), (0, .class_ 4), (0, u "java/lang/Object")] 7

/-- java/lang/Comparable -/
def k3 : Class := { plain "java/lang/Comparable" (some 0) with
  accessFlags := 1537
  interfaces := #[]
  cf := some (fileOf pool3 1 #[] #[] 1537 3 #[] #[])
  fields := #[]
  methods := #[]
  instanceTypes := #[]
  staticTypes := #[]
  resolved := Array.replicate 12 none
  statics := none }

def pool4 : Array CpInfo := pool [(1, .class_ 2), (0, u "java/io/Serializable"), (0, .class_ 4), (0, u "java/lang/Object")] 2

/-- java/io/Serializable -/
def k4 : Class := { plain "java/io/Serializable" (some 0) with
  accessFlags := 1537
  interfaces := #[]
  cf := some (fileOf pool4 1 #[] #[] 1537 3 #[] #[])
  fields := #[]
  methods := #[]
  instanceTypes := #[]
  staticTypes := #[]
  resolved := Array.replicate 7 none
  statics := none }

def pool5 : Array CpInfo := pool [(2, .class_ 4), (1, u "java/lang/Enum"), (0, u "name"), (0, u "Ljava/lang/String;"), (2, u "ordinal"), (0, u "I"), (1, .class_ 14), (1, u "java/lang/Object"), (4, u "hash"), (86, .class_ 108), (1, u "java/lang/Enum$EnumDesc"), (2, .class_ 112), (0, u "java/lang/constant/Constable"), (0, .class_ 114), (0, u "java/lang/Comparable"), (0, .class_ 116), (0, u "java/io/Serializable")] 87

/-- java/lang/Enum -/
def k5 : Class := { plain "java/lang/Enum" (some 0) with
  accessFlags := 1057
  interfaces := #[2, 3, 4]
  cf := some (fileOf pool5 2 #[.nestMembers #[106]] #[] 1057 12 #[111, 113, 115] #[{ accessFlags := 18, nameIndex := 5, descriptorIndex := 6, attributes := #[] }, { accessFlags := 18, nameIndex := 9, descriptorIndex := 10, attributes := #[] }, { accessFlags := 2, nameIndex := 19, descriptorIndex := 10, attributes := #[] }])
  fields := #[{ name := "name", type := (.object "java/lang/String"), accessFlags := 18, slot := 0, constantValue := 0 }, { name := "ordinal", type := .int, accessFlags := 18, slot := 1, constantValue := 0 }, { name := "hash", type := .int, accessFlags := 2, slot := 2, constantValue := 0 }]
  methods := #[]
  instanceTypes := #[(.object "java/lang/String"), .int, .int]
  staticTypes := #[]
  resolved := Array.replicate 204 none
  statics := none }

def pool6 : Array CpInfo := pool [(1, .class_ 2), (0, u "com/example/grantbook/grantbook/model/Permission"), (2, u "OAUTH_CLIENT_READ"), (0, u "Lcom/example/grantbook/grantbook/model/Permission;"), (0, .fieldref 1 8), (0, .nameAndType 9 6), (0, u "OAUTH_CLIENT_WRITE"), (2, u "OAUTH_CLIENT_REGISTER"), (2, u "$VALUES"), (0, u "[Lcom/example/grantbook/grantbook/model/Permission;"), (6, .class_ 25), (1, u "java/lang/Enum"), (8, u "displayName"), (0, u "Ljava/lang/String;"), (55, u "includes"), (0, u "(Lcom/example/grantbook/grantbook/model/Permission;)Z")] 27

def k6c0 : Code := { maxStack := 2, maxLocals := 2, code := prog_44_method_6_code, exceptionTable := #[], attributes := #[] }
def k6m0 : Method := { name := "includes", desc := "(Lcom/example/grantbook/grantbook/model/Permission;)Z", sig := { parameters := [(.object "com/example/grantbook/grantbook/model/Permission")], returnType := some .boolean }, accessFlags := 1, code := some k6c0 }
/-- com/example/grantbook/grantbook/model/Permission -/
def k6 : Class := { plain "com/example/grantbook/grantbook/model/Permission" (some 5) with
  accessFlags := 16433
  interfaces := #[]
  cf := some (fileOf pool6 1 #[] #[{ accessFlags := 1, nameIndex := 91, descriptorIndex := 92, attributes := #[] }] 16433 23 #[] #[{ accessFlags := 16409, nameIndex := 5, descriptorIndex := 6, attributes := #[] }, { accessFlags := 16409, nameIndex := 9, descriptorIndex := 6, attributes := #[] }, { accessFlags := 16409, nameIndex := 12, descriptorIndex := 6, attributes := #[] }, { accessFlags := 18, nameIndex := 34, descriptorIndex := 35, attributes := #[] }, { accessFlags := 4122, nameIndex := 15, descriptorIndex := 16, attributes := #[] }])
  fields := #[{ name := "OAUTH_CLIENT_READ", type := (.object "com/example/grantbook/grantbook/model/Permission"), accessFlags := 16409, slot := 0, constantValue := 0 }, { name := "OAUTH_CLIENT_WRITE", type := (.object "com/example/grantbook/grantbook/model/Permission"), accessFlags := 16409, slot := 1, constantValue := 0 }, { name := "OAUTH_CLIENT_REGISTER", type := (.object "com/example/grantbook/grantbook/model/Permission"), accessFlags := 16409, slot := 2, constantValue := 0 }, { name := "displayName", type := (.object "java/lang/String"), accessFlags := 18, slot := 3, constantValue := 0 }, { name := "$VALUES", type := (.array (.object "com/example/grantbook/grantbook/model/Permission")), accessFlags := 4122, slot := 3, constantValue := 0 }]
  methods := #[k6m0]
  instanceTypes := #[(.object "java/lang/String"), .int, .int, (.object "java/lang/String")]
  staticTypes := #[(.object "com/example/grantbook/grantbook/model/Permission"), (.object "com/example/grantbook/grantbook/model/Permission"), (.object "com/example/grantbook/grantbook/model/Permission"), (.array (.object "com/example/grantbook/grantbook/model/Permission"))]
  resolved := Array.replicate 120 none
  statics := some 0 }

def pool7 : Array CpInfo := pool [(1, u "java/lang/Cloneable"), (0, .class_ 1), (0, u "java/lang/Object"), (0, .class_ 3)] 3

/-- java/lang/Cloneable -/
def k7 : Class := { plain "java/lang/Cloneable" (some 0) with
  accessFlags := 1537
  interfaces := #[]
  cf := some (fileOf pool7 2 #[] #[] 1537 4 #[] #[])
  fields := #[]
  methods := #[]
  instanceTypes := #[]
  staticTypes := #[]
  resolved := Array.replicate 8 none
  statics := none }

/-- the primitive boolean -/
def k8 : Class := { plain "boolean" none with kind := .primitive 'Z', accessFlags := 0x411 }
/-- [Z -/
def k9 : Class := { plain "[Z" (some 0) with kind := .array 8 .boolean, interfaces := #[7, 4], accessFlags := 1041 }

/-- the primitive byte -/
def k10 : Class := { plain "byte" none with kind := .primitive 'B', accessFlags := 0x411 }
/-- [B -/
def k11 : Class := { plain "[B" (some 0) with kind := .array 10 .byte, interfaces := #[7, 4], accessFlags := 1041 }

/-- the primitive int -/
def k12 : Class := { plain "int" none with kind := .primitive 'I', accessFlags := 0x411 }
/-- [I -/
def k13 : Class := { plain "[I" (some 0) with kind := .array 12 .int, interfaces := #[7, 4], accessFlags := 1041 }

def heap : Heap := #[{ cls := 6, slots := #[.ref 1, .ref 2, .ref 3, .null], vm := .statics 6 },
  { cls := 6, slots := #[.null, .int 0, .int 0, .null], vm := .none },
  { cls := 6, slots := #[.null, .int 1, .int 0, .null], vm := .none },
  { cls := 6, slots := #[.null, .int 2, .int 0, .null], vm := .none }]
def classes : Array Class := #[k0, k1, k2, k3, k4, k5, k6, k7, k8, k9, k10, k11, k12, k13]
def interned : List (Array UInt16 × Addr) := []
def slotsUsed : Nat := 16
def theMethod : MethodId := ⟨1, 2⟩
def args0 : Array Value := #[.int 2, .int 1]
def aboutOver (below : List Frame) : State where
  vm := { classes := classes, interned := interned.toArray }
  heap := heap
  slotsUsed := slotsUsed
  threads := #[{ frames := .invoking theMethod args0 :: below }]
def below0 : List Frame := [.native { method := ⟨0, 0⟩, args := #[] }]
def about1 : State := aboutOver below0
def p0 : Program := .bare "" "" ""
def e0 : Env := launch0.env 0 0 0
theorem w_frames : about1.frames = Frame.invoking theMethod args0 :: below0 := rfl
set_option maxRecDepth 65536 in
theorem w_args : argsFit about1.vm theMethod args0 = true := by decide +kernel
set_option maxRecDepth 65536 in
theorem w_heap : heapFits about1 = true := by decide +kernel
set_option maxRecDepth 65536 in
theorem w_runnable : about1.curStatus? = some .runnable := by decide +kernel
set_option maxRecDepth 65536 in
theorem w_alone : about1.alone = true := by decide +kernel
set_option maxRecDepth 65536 in
theorem w_named : about1.methodNamed? x = some theMethod := by decide +kernel
set_option maxRecDepth 65536 in
theorem w_hears : about1.hears theMethod below0 = true := by decide +kernel
set_option maxRecDepth 65536 in
theorem w_ripe : about1.ripe theMethod args0 below0 = true := by decide +kernel
theorem w_running : about1.status = .running := rfl
set_option maxRecDepth 65536 in
theorem w_room : about1.hasRoom e0.platform room_1 = true :=
  launch0.hasRoom_least _ room_1 (by decide +kernel) (by decide +kernel) (by decide +kernel) (by decide +kernel) (by decide +kernel) (by decide +kernel)
theorem allAtoms_all (ts : List Jvm.Cond) (a : Array Jvm.Value) (st : Jvm.State) : (allAtoms ts).before a st = ts.all (fun c => c.before a st) := by
  induction ts with
  | nil => rfl
  | cons c t ih =>
    show (Jvm.Cond.and c (allAtoms t)).before a st = _
    rw [Jvm.Cond.before_and, ih, List.all_cons]
def words1 : List Jvm.Cond := Jvm.Cond.code x code maxLocals ret :: tables_1
/-- a 'code' word, met by the world's own term for the bytes: nothing is compared byte by byte -/
theorem code_word {y : MethodName} {bytes : ByteArray} {mx : Nat} {rt : Option FieldType} {a : Array Value} {s : State} {m : MethodId} {meth : Method} {c : Code} (h1 : s.methodNamed? y = some m) (h2 : s.vm.method? m = some meth) (h3 : meth.code = some c) (h4 : c.code = bytes)
    (h5 : (c.maxLocals == mx && c.exceptionTable.isEmpty && decide (c.maxStack ≤ mostOperands) && decide (meth.sig.returnType = rt) && !meth.locks && decide (parseMethodDescriptor y.desc = some meth.sig)) = true) : (Jvm.Cond.code y bytes mx rt).before a s = true := by
  simp only [Bool.and_eq_true, beq_iff_eq, Bool.not_eq_true', decide_eq_true_eq] at h5
  obtain ⟨⟨⟨⟨⟨g1, g2⟩, g3⟩, g4⟩, g5⟩, g6⟩ := h5
  simp [Cond.before, Cond.holds, Cond.value, h1, h2, h3, h4, g1, g2, g3, g4, g5, g6]
def isCode : Jvm.Cond → Bool
  | .code _ _ _ _ => true
  | _ => false
theorem all_split {L : List Jvm.Cond} {P : Jvm.Cond → Bool} (h1 : L.all (fun c => isCode c || P c) = true) (h2 : ∀ c ∈ L.filter isCode, P c = true) : L.all P = true := by
  refine List.all_eq_true.mpr fun c hc => ?_
  have h := List.all_eq_true.mp h1 c hc
  rcases Bool.eq_false_or_eq_true (isCode c) with hi | hi
  · exact h2 c (List.mem_filter.mpr ⟨hc, hi⟩)
  · simpa [hi] using h
set_option maxRecDepth 65536 in
theorem w_c0 : (Jvm.Cond.code x code maxLocals ret).before args0 about1 = true := code_word (m := ⟨1, 2⟩) (meth := k1m2) (c := k1c2) (by decide +kernel) rfl rfl rfl (by decide +kernel)
set_option maxRecDepth 65536 in
theorem w_c1 : (Jvm.Cond.code ({ cls := "com/example/grantbook/grantbook/model/PermissionIncludesPinLaw", name := "pick", desc := "(I)Lcom/example/grantbook/grantbook/model/Permission;" } : Jvm.MethodName) method_2_code (1 : Nat) (Option.some (Jvm.ClassFile.FieldType.object "com/example/grantbook/grantbook/model/Permission"))).before args0 about1 = true := code_word (m := ⟨1, 1⟩) (meth := k1m1) (c := k1c1) (by decide +kernel) rfl rfl rfl (by decide +kernel)
set_option maxRecDepth 65536 in
theorem w_c2 : (Jvm.Cond.code ({ cls := "com/example/grantbook/grantbook/model/Permission", name := "includes", desc := "(Lcom/example/grantbook/grantbook/model/Permission;)Z" } : Jvm.MethodName) prog_44_method_6_code (2 : Nat) (Option.some Jvm.ClassFile.FieldType.boolean)).before args0 about1 = true := code_word (m := ⟨6, 0⟩) (meth := k6m0) (c := k6c0) (by decide +kernel) rfl rfl rfl (by decide +kernel)
def codes1 : List Jvm.Cond := [Jvm.Cond.code x code maxLocals ret, Jvm.Cond.code ({ cls := "com/example/grantbook/grantbook/model/PermissionIncludesPinLaw", name := "pick", desc := "(I)Lcom/example/grantbook/grantbook/model/Permission;" } : Jvm.MethodName) method_2_code (1 : Nat) (Option.some (Jvm.ClassFile.FieldType.object "com/example/grantbook/grantbook/model/Permission")), Jvm.Cond.code ({ cls := "com/example/grantbook/grantbook/model/Permission", name := "includes", desc := "(Lcom/example/grantbook/grantbook/model/Permission;)Z" } : Jvm.MethodName) prog_44_method_6_code (2 : Nat) (Option.some Jvm.ClassFile.FieldType.boolean)]
set_option maxRecDepth 65536 in
theorem codes_eq : words1.filter isCode = codes1 := rfl
theorem w_codes : ∀ c ∈ words1.filter isCode, c.before args0 about1 = true := by
  rw [codes_eq]
  intro c hc
  simp only [codes1, List.mem_cons, List.not_mem_nil, or_false] at hc
  rcases hc with rfl | rfl | rfl
  · exact w_c0
  · exact w_c1
  · exact w_c2
set_option maxRecDepth 65536 in
theorem w_t1 : words1.all (fun c => isCode c || c.before args0 about1) = true := by decide +kernel
theorem w_tables : (allAtoms (Jvm.Cond.code x code maxLocals ret :: tables_1)).before args0 about1 = true := by
  rw [allAtoms_all]
  show words1.all (fun c => c.before args0 about1) = true
  refine all_split ?_ w_codes
  rw [w_t1]
set_option maxRecDepth 65536 in
theorem w_case : (Jvm.Cond.and given_1 narrow_1).before args0 about1 = true := by decide +kernel
theorem w_applies : (headSpec (Jvm.Cond.code x code maxLocals ret :: tables_1) room_1).applies x e0.platform about1 = true :=
  (Spec.applies_iff w_frames).mpr ⟨w_running, w_runnable, w_alone, w_named, w_hears, w_ripe, w_room, w_tables⟩
theorem atStart : AtStart classFile x code maxLocals ret World_1 tables_1 room_1 Calls_1 rest_1 Pre_1 launch0 p0 e0 about1 theMethod args0 below0 :=
  ⟨lists_1, trivial, launch0.admits_env _ _ _, launch0.least_env, fairChoices_fair.cas, fairChoices_fair.clock, w_frames, w_args, w_heap, w_applies, trivial, trivial, w_case⟩
end start1
theorem witness_1 : WitnessClaimed_1 := ⟨start1.p0, start1.e0, start1.about1, start1.theMethod, start1.args0, start1.below0, start1.atStart⟩
end Jvm.Pilot.@@N@@
