import JvmDerived
import JvmDerived.Pilot.@@N@@Statement
import JvmDerived.Pilot.@@N@@Code
set_option linter.unusedVariables false
set_option linter.unusedSimpArgs false
namespace Jvm.Pilot.@@N@@
open Jvm Jvm.ClassFile Sem Op Lib Jvm.Free Jvm.Stand Jvm.LawKit Jvm.RoadKit Bundle Jvm.Pilot.@@N@@.Jvm.D
section Own
variable {p : Program} {l : Launch} {e : Env} {R : Room} {s : State} {m : MethodId} {args : Array Value} {below : List Frame} {meth : Method} {c : Code} {T : State} {locs : List Loc} {cells slots : Nat}
/-- from S0 the run ends as Q says, within the frame of k cells and n slots -/
def own_Go (p : Program) (e : Env) (below : List Frame) (s : State) (Q : Option Value → Heap → List Loc → Prop) (k n : Nat) (S0 : State) : Prop :=
  ∃ U o, Steps p.tables e below S0 U ∧ U.status = .running ∧ Ended U below o ∧ ∃ v L, o = .returned v ∧ Q v U.heap L ∧ FrameEnd s o U L k n
variable {Q : Option Value → Heap → List Loc → Prop} {K N : Nat} {S0 S1 : State}
theorem own_step (h : ∀ t, Steps p.tables e below S1 t → Steps p.tables e below S0 t) (G : own_Go p e below s Q K N S1) : own_Go p e below s Q K N S0 := by
  obtain ⟨U, o, h1, r⟩ := G
  exact ⟨U, o, h _ h1, r⟩
theorem own_start {g g' : JFrame} (q : g = g') (G : own_Go p e below s Q K N (T.setTop g')) : own_Go p e below s Q K N (T.setTop g) := q ▸ G
theorem own_end (X : Stand p l e R s m args below meth c T locs cells slots) {v : Option Value} (hv : meth.sig.returnType = none → v = none) (hlk : meth.locks = false) (hq : Q v T.heap locs) (hk : cells ≤ K) (hn : slots ≤ N)
    (go : ∀ fs, (∀ (f : JFrame) (acts : List Action), f.method = m → f.locked = none → f.entered = [] → (doReturn e (T.setTop f) acts v).1 = T.setFrames fs) → Steps p.tables e below S0 (T.setFrames fs)) : own_Go p e below s Q K N S0 := by
  obtain ⟨fs, hr, hrun, hended, hW, hsame⟩ := X.leave (v := v) hv hlk
  exact ⟨_, _, go fs hr, hrun, hended, _, _, rfl, hq, ⟨_, rfl⟩, hW, hsame.mono hk hn⟩
theorem own_retN (X : Stand p l e R s m args below meth c T locs cells slots) (hx : p.tables.exec = Jvm.exec) (hlk : meth.locks = false) {pc : Nat} {Ls : Array Slot} {z : Int32} {t : FieldType} {rest : List Value} (hret : meth.sig.returnType = some t) (ht : t = .boolean ∨ t = .byte ∨ t = .char ∨ t = .short)
    (hd : decode c.code pc = .ok (.ireturn, 1)) (hq : Q (some (.int (nar t z))) T.heap locs) (hk : cells ≤ K) (hn : slots ≤ N) : own_Go p e below s Q K N (T.setTop (mkF m pc Ls (.int z :: rest))) :=
  own_end X (fun h => by rw [hret] at h; cases h) hlk hq hk hn fun fs hr => retN X hx hret ht hd hr
theorem own_retI (X : Stand p l e R s m args below meth c T locs cells slots) (hx : p.tables.exec = Jvm.exec) (hlk : meth.locks = false) {pc : Nat} {Ls : Array Slot} {z : Int32} {rest : List Value} (hret : meth.sig.returnType = some .int)
    (hd : decode c.code pc = .ok (.ireturn, 1)) (hq : Q (some (.int z)) T.heap locs) (hk : cells ≤ K) (hn : slots ≤ N) : own_Go p e below s Q K N (T.setTop (mkF m pc Ls (.int z :: rest))) :=
  own_end X (fun h => by rw [hret] at h; cases h) hlk hq hk hn fun fs hr => retOut X hx hret rfl (Or.inl ⟨rfl, Or.inl rfl, _, rfl⟩) hd hr
theorem own_retJ (X : Stand p l e R s m args below meth c T locs cells slots) (hx : p.tables.exec = Jvm.exec) (hlk : meth.locks = false) {pc : Nat} {Ls : Array Slot} {z : Int64} {rest : List Value} (hret : meth.sig.returnType = some .long)
    (hd : decode c.code pc = .ok (.lreturn, 1)) (hq : Q (some (.long z)) T.heap locs) (hk : cells ≤ K) (hn : slots ≤ N) : own_Go p e below s Q K N (T.setTop (mkF m pc Ls (.long z :: rest))) :=
  own_end X (fun h => by rw [hret] at h; cases h) hlk hq hk hn fun fs hr => retOut X hx hret rfl (Or.inr (Or.inl ⟨rfl, rfl, _, rfl⟩)) hd hr
theorem own_retA (X : Stand p l e R s m args below meth c T locs cells slots) (hx : p.tables.exec = Jvm.exec) (hlk : meth.locks = false) {pc : Nat} {Ls : Array Slot} {w : Value} {t : FieldType} {rest : List Value} (hret : meth.sig.returnType = some t) (ht : t.isReference = true) (hw : w.isRef = true)
    (hd : decode c.code pc = .ok (.areturn, 1)) (hq : Q (some w) T.heap locs) (hk : cells ≤ K) (hn : slots ≤ N) : own_Go p e below s Q K N (T.setTop (mkF m pc Ls (w :: rest))) :=
  own_end X (fun h => by rw [hret] at h; cases h) hlk hq hk hn fun fs hr => retOut X hx hret (by cases t <;> first | (cases ht; done) | (cases w <;> rfl)) (Or.inr (Or.inr (Or.inr (Or.inr ⟨rfl, ht, hw⟩)))) hd hr
theorem own_retV (X : Stand p l e R s m args below meth c T locs cells slots) (hx : p.tables.exec = Jvm.exec) (hlk : meth.locks = false) {pc : Nat} {Ls : Array Slot} (hret : meth.sig.returnType = none)
    (hd : decode c.code pc = .ok (.return_, 1)) (hq : Q none T.heap locs) (hk : cells ≤ K) (hn : slots ≤ N) : own_Go p e below s Q K N (T.setTop (mkF m pc Ls [])) :=
  own_end X (fun _ => rfl) hlk hq hk hn fun fs hr => X.returnOut hx hret hd hr
theorem own_Sta_keep {Z : State} {h h' : Heap} {ws : List Addr} {C n d : String} {w : Value} (Kp : Keep h h' ws) (F : Sta Z h C n d w) (q : ∀ a ∈ ws, ∀ cell : Cell, h[a]? = some cell → cell.vm.isStatics = false) : Sta Z h' C n d w := by
  obtain ⟨cf, i, k, f, st, cell, h1, h2, h3, h4, h5, h6, h7⟩ := F
  exact ⟨cf, i, k, f, st, cell, h1, h2, h3, h4, Kp.2.1 _ _ h5 (fun hm => by rw [q _ hm _ h5] at h6; cases h6), h6, h7⟩
theorem g_iload_n (X : Stand p l e R s m args below meth c T locs cells slots) (hx : p.tables.exec = Jvm.exec) {pc : Nat} (pc' : Nat) {Ls : Array Slot} {k : Fin 4} {v : Int32} {st : List Value} (hd : decode c.code pc = .ok (.iload_n k, 1)) (hl : Ls[k.val]? = some (.val (.int v))) (hp : pc + 1 = pc') (G : own_Go p e below s Q K N (T.setTop (mkF m pc' Ls (.int v :: st)))) : own_Go p e below s Q K N (T.setTop (mkF m pc Ls (st))) := by
  subst hp; exact own_step (fun _ k => XS.iloadN X.here hx rfl hd hl k) G
theorem g_iload (X : Stand p l e R s m args below meth c T locs cells slots) (hx : p.tables.exec = Jvm.exec) {pc : Nat} (pc' : Nat) {Ls : Array Slot} {k : Nat} {v : Int32} {st : List Value} (hd : decode c.code pc = .ok (.iload k, 2)) (hl : Ls[k]? = some (.val (.int v))) (hp : pc + 2 = pc') (G : own_Go p e below s Q K N (T.setTop (mkF m pc' Ls (.int v :: st)))) : own_Go p e below s Q K N (T.setTop (mkF m pc Ls (st))) := by
  subst hp; exact own_step (fun _ k => XS.iload X.here hx rfl hd hl k) G
theorem g_istore_n (X : Stand p l e R s m args below meth c T locs cells slots) (hx : p.tables.exec = Jvm.exec) {pc : Nat} (pc' : Nat) {Ls : Array Slot} {k : Fin 4} {v : Int32} {st : List Value} {l' : Array Slot} (hd : decode c.code pc = .ok (.istore_n k, 1)) (hl : storeLocals Ls k.val (.int v) = some l') (hp : pc + 1 = pc') (G : own_Go p e below s Q K N (T.setTop (mkF m pc' l' (st)))) : own_Go p e below s Q K N (T.setTop (mkF m pc Ls (.int v :: st))) := by
  subst hp; exact own_step (fun _ k => XS.istoreN X.here hx rfl hd rfl hl k) G
theorem g_istore (X : Stand p l e R s m args below meth c T locs cells slots) (hx : p.tables.exec = Jvm.exec) {pc : Nat} (pc' : Nat) {Ls : Array Slot} {k : Nat} {v : Int32} {st : List Value} {l' : Array Slot} (hd : decode c.code pc = .ok (.istore k, 2)) (hl : storeLocals Ls k (.int v) = some l') (hp : pc + 2 = pc') (G : own_Go p e below s Q K N (T.setTop (mkF m pc' l' (st)))) : own_Go p e below s Q K N (T.setTop (mkF m pc Ls (.int v :: st))) := by
  subst hp; exact own_step (fun _ k => XS.istore X.here hx rfl hd rfl hl k) G
theorem g_lload_n (X : Stand p l e R s m args below meth c T locs cells slots) (hx : p.tables.exec = Jvm.exec) {pc : Nat} (pc' : Nat) {Ls : Array Slot} {k : Fin 4} {v : Int64} {st : List Value} (hd : decode c.code pc = .ok (.lload_n k, 1)) (hl : Ls[k.val]? = some (.val (.long v))) (hp : pc + 1 = pc') (G : own_Go p e below s Q K N (T.setTop (mkF m pc' Ls (.long v :: st)))) : own_Go p e below s Q K N (T.setTop (mkF m pc Ls (st))) := by
  subst hp; exact own_step (fun _ k => XS.lloadN X.here hx rfl hd hl k) G
theorem g_lload (X : Stand p l e R s m args below meth c T locs cells slots) (hx : p.tables.exec = Jvm.exec) {pc : Nat} (pc' : Nat) {Ls : Array Slot} {k : Nat} {v : Int64} {st : List Value} (hd : decode c.code pc = .ok (.lload k, 2)) (hl : Ls[k]? = some (.val (.long v))) (hp : pc + 2 = pc') (G : own_Go p e below s Q K N (T.setTop (mkF m pc' Ls (.long v :: st)))) : own_Go p e below s Q K N (T.setTop (mkF m pc Ls (st))) := by
  subst hp; exact own_step (fun _ k => XS.lload X.here hx rfl hd hl k) G
theorem g_lstore_n (X : Stand p l e R s m args below meth c T locs cells slots) (hx : p.tables.exec = Jvm.exec) {pc : Nat} (pc' : Nat) {Ls : Array Slot} {k : Fin 4} {v : Int64} {st : List Value} {l' : Array Slot} (hd : decode c.code pc = .ok (.lstore_n k, 1)) (hl : storeLocals Ls k.val (.long v) = some l') (hp : pc + 1 = pc') (G : own_Go p e below s Q K N (T.setTop (mkF m pc' l' (st)))) : own_Go p e below s Q K N (T.setTop (mkF m pc Ls (.long v :: st))) := by
  subst hp; exact own_step (fun _ k => XS.lstoreN X.here hx rfl hd rfl hl k) G
theorem g_lstore (X : Stand p l e R s m args below meth c T locs cells slots) (hx : p.tables.exec = Jvm.exec) {pc : Nat} (pc' : Nat) {Ls : Array Slot} {k : Nat} {v : Int64} {st : List Value} {l' : Array Slot} (hd : decode c.code pc = .ok (.lstore k, 2)) (hl : storeLocals Ls k (.long v) = some l') (hp : pc + 2 = pc') (G : own_Go p e below s Q K N (T.setTop (mkF m pc' l' (st)))) : own_Go p e below s Q K N (T.setTop (mkF m pc Ls (.long v :: st))) := by
  subst hp; exact own_step (fun _ k => XS.lstore X.here hx rfl hd rfl hl k) G
theorem g_aload_n (X : Stand p l e R s m args below meth c T locs cells slots) (hx : p.tables.exec = Jvm.exec) {pc : Nat} (pc' : Nat) {Ls : Array Slot} {k : Fin 4} {v : Value} {st : List Value} (hd : decode c.code pc = .ok (.aload_n k, 1)) (hl : Ls[k.val]? = some (.val v)) (hv : v.isRef = true) (hp : pc + 1 = pc') (G : own_Go p e below s Q K N (T.setTop (mkF m pc' Ls (v :: st)))) : own_Go p e below s Q K N (T.setTop (mkF m pc Ls (st))) := by
  subst hp; exact own_step (fun _ k => XS.aloadN X.here hx rfl hd hl hv k) G
theorem g_aload (X : Stand p l e R s m args below meth c T locs cells slots) (hx : p.tables.exec = Jvm.exec) {pc : Nat} (pc' : Nat) {Ls : Array Slot} {k : Nat} {v : Value} {st : List Value} (hd : decode c.code pc = .ok (.aload k, 2)) (hl : Ls[k]? = some (.val v)) (hv : v.isRef = true) (hp : pc + 2 = pc') (G : own_Go p e below s Q K N (T.setTop (mkF m pc' Ls (v :: st)))) : own_Go p e below s Q K N (T.setTop (mkF m pc Ls (st))) := by
  subst hp; exact own_step (fun _ k => XS.aload X.here hx rfl hd hl hv k) G
theorem g_astore_n (X : Stand p l e R s m args below meth c T locs cells slots) (hx : p.tables.exec = Jvm.exec) {pc : Nat} (pc' : Nat) {Ls : Array Slot} {k : Fin 4} {v : Value} {st : List Value} {l' : Array Slot} (hd : decode c.code pc = .ok (.astore_n k, 1)) (hv : v.isRef = true) (hl : storeLocals Ls k.val v = some l') (hp : pc + 1 = pc') (G : own_Go p e below s Q K N (T.setTop (mkF m pc' l' (st)))) : own_Go p e below s Q K N (T.setTop (mkF m pc Ls (v :: st))) := by
  subst hp; exact own_step (fun _ k => XS.astoreN X.here hx rfl hd rfl hv hl k) G
theorem g_astore (X : Stand p l e R s m args below meth c T locs cells slots) (hx : p.tables.exec = Jvm.exec) {pc : Nat} (pc' : Nat) {Ls : Array Slot} {k : Nat} {v : Value} {st : List Value} {l' : Array Slot} (hd : decode c.code pc = .ok (.astore k, 2)) (hv : v.isRef = true) (hl : storeLocals Ls k v = some l') (hp : pc + 2 = pc') (G : own_Go p e below s Q K N (T.setTop (mkF m pc' l' (st)))) : own_Go p e below s Q K N (T.setTop (mkF m pc Ls (v :: st))) := by
  subst hp; exact own_step (fun _ k => XS.astore X.here hx rfl hd rfl hv hl k) G
theorem g_iconst (X : Stand p l e R s m args below meth c T locs cells slots) (hx : p.tables.exec = Jvm.exec) {pc : Nat} (pc' : Nat) {Ls : Array Slot} {i : Int} {st : List Value} (hd : decode c.code pc = .ok (.iconst i, 1)) (z : Int32) (hz : Int32.ofInt i = z) (hp : pc + 1 = pc') (G : own_Go p e below s Q K N (T.setTop (mkF m pc' Ls (.int z :: st)))) : own_Go p e below s Q K N (T.setTop (mkF m pc Ls st)) := by
  subst hp hz; exact own_step (fun _ k => XS.iconst X.here hx rfl hd k) G
theorem g_bipush (X : Stand p l e R s m args below meth c T locs cells slots) (hx : p.tables.exec = Jvm.exec) {pc : Nat} (pc' : Nat) {Ls : Array Slot} {i : Int} {st : List Value} (hd : decode c.code pc = .ok (.bipush i, 2)) (z : Int32) (hz : (Int8.ofInt i).toInt32 = z) (hp : pc + 2 = pc') (G : own_Go p e below s Q K N (T.setTop (mkF m pc' Ls (.int z :: st)))) : own_Go p e below s Q K N (T.setTop (mkF m pc Ls st)) := by
  subst hp hz; exact own_step (fun _ k => XS.bipush X.here hx rfl hd k) G
theorem g_sipush (X : Stand p l e R s m args below meth c T locs cells slots) (hx : p.tables.exec = Jvm.exec) {pc : Nat} (pc' : Nat) {Ls : Array Slot} {i : Int} {st : List Value} (hd : decode c.code pc = .ok (.sipush i, 3)) (z : Int32) (hz : (Int16.ofInt i).toInt32 = z) (hp : pc + 3 = pc') (G : own_Go p e below s Q K N (T.setTop (mkF m pc' Ls (.int z :: st)))) : own_Go p e below s Q K N (T.setTop (mkF m pc Ls st)) := by
  subst hp hz; exact own_step (fun _ k => XS.sipush X.here hx rfl hd k) G
theorem g_lconst (X : Stand p l e R s m args below meth c T locs cells slots) (hx : p.tables.exec = Jvm.exec) {pc : Nat} (pc' : Nat) {Ls : Array Slot} {i : Fin 2} {st : List Value} (hd : decode c.code pc = .ok (.lconst i, 1)) (z : Int64) (hz : Int64.ofNat i.val = z) (hp : pc + 1 = pc') (G : own_Go p e below s Q K N (T.setTop (mkF m pc' Ls (.long z :: st)))) : own_Go p e below s Q K N (T.setTop (mkF m pc Ls st)) := by
  subst hp hz; exact own_step (fun _ k => XS.lconst X.here hx rfl hd k) G
theorem g_aconst_null (X : Stand p l e R s m args below meth c T locs cells slots) (hx : p.tables.exec = Jvm.exec) {pc : Nat} (pc' : Nat) {Ls : Array Slot} {st : List Value} (hd : decode c.code pc = .ok (.aconst_null, 1))  (hp : pc + 1 = pc') (G : own_Go p e below s Q K N (T.setTop (mkF m pc' Ls (.null :: st)))) : own_Go p e below s Q K N (T.setTop (mkF m pc Ls (st))) := by
  subst hp; exact own_step (fun _ k => XS.aconstNull X.here hx rfl hd k) G
theorem g_iadd (X : Stand p l e R s m args below meth c T locs cells slots) (hx : p.tables.exec = Jvm.exec) {pc : Nat} (pc' : Nat) {Ls : Array Slot} {x y : Int32} {st : List Value} (hd : decode c.code pc = .ok (.iadd, 1))  (hp : pc + 1 = pc') (G : own_Go p e below s Q K N (T.setTop (mkF m pc' Ls (.int (x + y) :: st)))) : own_Go p e below s Q K N (T.setTop (mkF m pc Ls (.int y :: .int x :: st))) := by
  subst hp; exact own_step (fun _ k => XS.iadd X.here hx rfl hd rfl k) G
theorem g_ladd (X : Stand p l e R s m args below meth c T locs cells slots) (hx : p.tables.exec = Jvm.exec) {pc : Nat} (pc' : Nat) {Ls : Array Slot} {x y : Int64} {st : List Value} (hd : decode c.code pc = .ok (.ladd, 1))  (hp : pc + 1 = pc') (G : own_Go p e below s Q K N (T.setTop (mkF m pc' Ls (.long (x + y) :: st)))) : own_Go p e below s Q K N (T.setTop (mkF m pc Ls (.long y :: .long x :: st))) := by
  subst hp; exact own_step (fun _ k => XS.ladd X.here hx rfl hd rfl k) G
theorem g_isub (X : Stand p l e R s m args below meth c T locs cells slots) (hx : p.tables.exec = Jvm.exec) {pc : Nat} (pc' : Nat) {Ls : Array Slot} {x y : Int32} {st : List Value} (hd : decode c.code pc = .ok (.isub, 1))  (hp : pc + 1 = pc') (G : own_Go p e below s Q K N (T.setTop (mkF m pc' Ls (.int (x - y) :: st)))) : own_Go p e below s Q K N (T.setTop (mkF m pc Ls (.int y :: .int x :: st))) := by
  subst hp; exact own_step (fun _ k => XS.isub X.here hx rfl hd rfl k) G
theorem g_lsub (X : Stand p l e R s m args below meth c T locs cells slots) (hx : p.tables.exec = Jvm.exec) {pc : Nat} (pc' : Nat) {Ls : Array Slot} {x y : Int64} {st : List Value} (hd : decode c.code pc = .ok (.lsub, 1))  (hp : pc + 1 = pc') (G : own_Go p e below s Q K N (T.setTop (mkF m pc' Ls (.long (x - y) :: st)))) : own_Go p e below s Q K N (T.setTop (mkF m pc Ls (.long y :: .long x :: st))) := by
  subst hp; exact own_step (fun _ k => XS.lsub X.here hx rfl hd rfl k) G
theorem g_imul (X : Stand p l e R s m args below meth c T locs cells slots) (hx : p.tables.exec = Jvm.exec) {pc : Nat} (pc' : Nat) {Ls : Array Slot} {x y : Int32} {st : List Value} (hd : decode c.code pc = .ok (.imul, 1))  (hp : pc + 1 = pc') (G : own_Go p e below s Q K N (T.setTop (mkF m pc' Ls (.int (x * y) :: st)))) : own_Go p e below s Q K N (T.setTop (mkF m pc Ls (.int y :: .int x :: st))) := by
  subst hp; exact own_step (fun _ k => XS.imul X.here hx rfl hd rfl k) G
theorem g_lmul (X : Stand p l e R s m args below meth c T locs cells slots) (hx : p.tables.exec = Jvm.exec) {pc : Nat} (pc' : Nat) {Ls : Array Slot} {x y : Int64} {st : List Value} (hd : decode c.code pc = .ok (.lmul, 1))  (hp : pc + 1 = pc') (G : own_Go p e below s Q K N (T.setTop (mkF m pc' Ls (.long (x * y) :: st)))) : own_Go p e below s Q K N (T.setTop (mkF m pc Ls (.long y :: .long x :: st))) := by
  subst hp; exact own_step (fun _ k => XS.lmul X.here hx rfl hd rfl k) G
theorem g_iand (X : Stand p l e R s m args below meth c T locs cells slots) (hx : p.tables.exec = Jvm.exec) {pc : Nat} (pc' : Nat) {Ls : Array Slot} {x y : Int32} {st : List Value} (hd : decode c.code pc = .ok (.iand, 1))  (hp : pc + 1 = pc') (G : own_Go p e below s Q K N (T.setTop (mkF m pc' Ls (.int (x &&& y) :: st)))) : own_Go p e below s Q K N (T.setTop (mkF m pc Ls (.int y :: .int x :: st))) := by
  subst hp; exact own_step (fun _ k => XS.iand X.here hx rfl hd rfl k) G
theorem g_land (X : Stand p l e R s m args below meth c T locs cells slots) (hx : p.tables.exec = Jvm.exec) {pc : Nat} (pc' : Nat) {Ls : Array Slot} {x y : Int64} {st : List Value} (hd : decode c.code pc = .ok (.land, 1))  (hp : pc + 1 = pc') (G : own_Go p e below s Q K N (T.setTop (mkF m pc' Ls (.long (x &&& y) :: st)))) : own_Go p e below s Q K N (T.setTop (mkF m pc Ls (.long y :: .long x :: st))) := by
  subst hp; exact own_step (fun _ k => XS.land X.here hx rfl hd rfl k) G
theorem g_ior (X : Stand p l e R s m args below meth c T locs cells slots) (hx : p.tables.exec = Jvm.exec) {pc : Nat} (pc' : Nat) {Ls : Array Slot} {x y : Int32} {st : List Value} (hd : decode c.code pc = .ok (.ior, 1))  (hp : pc + 1 = pc') (G : own_Go p e below s Q K N (T.setTop (mkF m pc' Ls (.int (x ||| y) :: st)))) : own_Go p e below s Q K N (T.setTop (mkF m pc Ls (.int y :: .int x :: st))) := by
  subst hp; exact own_step (fun _ k => XS.ior X.here hx rfl hd rfl k) G
theorem g_lor (X : Stand p l e R s m args below meth c T locs cells slots) (hx : p.tables.exec = Jvm.exec) {pc : Nat} (pc' : Nat) {Ls : Array Slot} {x y : Int64} {st : List Value} (hd : decode c.code pc = .ok (.lor, 1))  (hp : pc + 1 = pc') (G : own_Go p e below s Q K N (T.setTop (mkF m pc' Ls (.long (x ||| y) :: st)))) : own_Go p e below s Q K N (T.setTop (mkF m pc Ls (.long y :: .long x :: st))) := by
  subst hp; exact own_step (fun _ k => XS.lor X.here hx rfl hd rfl k) G
theorem g_ixor (X : Stand p l e R s m args below meth c T locs cells slots) (hx : p.tables.exec = Jvm.exec) {pc : Nat} (pc' : Nat) {Ls : Array Slot} {x y : Int32} {st : List Value} (hd : decode c.code pc = .ok (.ixor, 1))  (hp : pc + 1 = pc') (G : own_Go p e below s Q K N (T.setTop (mkF m pc' Ls (.int (x ^^^ y) :: st)))) : own_Go p e below s Q K N (T.setTop (mkF m pc Ls (.int y :: .int x :: st))) := by
  subst hp; exact own_step (fun _ k => XS.ixor X.here hx rfl hd rfl k) G
theorem g_lxor (X : Stand p l e R s m args below meth c T locs cells slots) (hx : p.tables.exec = Jvm.exec) {pc : Nat} (pc' : Nat) {Ls : Array Slot} {x y : Int64} {st : List Value} (hd : decode c.code pc = .ok (.lxor, 1))  (hp : pc + 1 = pc') (G : own_Go p e below s Q K N (T.setTop (mkF m pc' Ls (.long (x ^^^ y) :: st)))) : own_Go p e below s Q K N (T.setTop (mkF m pc Ls (.long y :: .long x :: st))) := by
  subst hp; exact own_step (fun _ k => XS.lxor X.here hx rfl hd rfl k) G
theorem g_ineg (X : Stand p l e R s m args below meth c T locs cells slots) (hx : p.tables.exec = Jvm.exec) {pc : Nat} (pc' : Nat) {Ls : Array Slot} {x : Int32} {st : List Value} (hd : decode c.code pc = .ok (.ineg, 1))  (hp : pc + 1 = pc') (G : own_Go p e below s Q K N (T.setTop (mkF m pc' Ls (.int (-x) :: st)))) : own_Go p e below s Q K N (T.setTop (mkF m pc Ls (.int x :: st))) := by
  subst hp; exact own_step (fun _ k => XS.ineg X.here hx rfl hd rfl k) G
theorem g_lneg (X : Stand p l e R s m args below meth c T locs cells slots) (hx : p.tables.exec = Jvm.exec) {pc : Nat} (pc' : Nat) {Ls : Array Slot} {x : Int64} {st : List Value} (hd : decode c.code pc = .ok (.lneg, 1))  (hp : pc + 1 = pc') (G : own_Go p e below s Q K N (T.setTop (mkF m pc' Ls (.long (-x) :: st)))) : own_Go p e below s Q K N (T.setTop (mkF m pc Ls (.long x :: st))) := by
  subst hp; exact own_step (fun _ k => XS.lneg X.here hx rfl hd rfl k) G
theorem g_i2l (X : Stand p l e R s m args below meth c T locs cells slots) (hx : p.tables.exec = Jvm.exec) {pc : Nat} (pc' : Nat) {Ls : Array Slot} {x : Int32} {st : List Value} (hd : decode c.code pc = .ok (.i2l, 1))  (hp : pc + 1 = pc') (G : own_Go p e below s Q K N (T.setTop (mkF m pc' Ls (.long (x.toInt64) :: st)))) : own_Go p e below s Q K N (T.setTop (mkF m pc Ls (.int x :: st))) := by
  subst hp; exact own_step (fun _ k => XS.i2l X.here hx rfl hd rfl k) G
theorem g_l2i (X : Stand p l e R s m args below meth c T locs cells slots) (hx : p.tables.exec = Jvm.exec) {pc : Nat} (pc' : Nat) {Ls : Array Slot} {x : Int64} {st : List Value} (hd : decode c.code pc = .ok (.l2i, 1))  (hp : pc + 1 = pc') (G : own_Go p e below s Q K N (T.setTop (mkF m pc' Ls (.int (x.toInt32) :: st)))) : own_Go p e below s Q K N (T.setTop (mkF m pc Ls (.long x :: st))) := by
  subst hp; exact own_step (fun _ k => XS.l2i X.here hx rfl hd rfl k) G
theorem g_i2b (X : Stand p l e R s m args below meth c T locs cells slots) (hx : p.tables.exec = Jvm.exec) {pc : Nat} (pc' : Nat) {Ls : Array Slot} {x : Int32} {st : List Value} (hd : decode c.code pc = .ok (.i2b, 1))  (hp : pc + 1 = pc') (G : own_Go p e below s Q K N (T.setTop (mkF m pc' Ls (.int (x.toInt8.toInt32) :: st)))) : own_Go p e below s Q K N (T.setTop (mkF m pc Ls (.int x :: st))) := by
  subst hp; exact own_step (fun _ k => XS.i2b X.here hx rfl hd rfl k) G
theorem g_i2s (X : Stand p l e R s m args below meth c T locs cells slots) (hx : p.tables.exec = Jvm.exec) {pc : Nat} (pc' : Nat) {Ls : Array Slot} {x : Int32} {st : List Value} (hd : decode c.code pc = .ok (.i2s, 1))  (hp : pc + 1 = pc') (G : own_Go p e below s Q K N (T.setTop (mkF m pc' Ls (.int (x.toInt16.toInt32) :: st)))) : own_Go p e below s Q K N (T.setTop (mkF m pc Ls (.int x :: st))) := by
  subst hp; exact own_step (fun _ k => XS.i2s X.here hx rfl hd rfl k) G
theorem g_i2c (X : Stand p l e R s m args below meth c T locs cells slots) (hx : p.tables.exec = Jvm.exec) {pc : Nat} (pc' : Nat) {Ls : Array Slot} {x : Int32} {st : List Value} (hd : decode c.code pc = .ok (.i2c, 1))  (hp : pc + 1 = pc') (G : own_Go p e below s Q K N (T.setTop (mkF m pc' Ls (.int (x.toUInt32.toUInt16.toUInt32.toInt32) :: st)))) : own_Go p e below s Q K N (T.setTop (mkF m pc Ls (.int x :: st))) := by
  subst hp; exact own_step (fun _ k => XS.i2c X.here hx rfl hd rfl k) G
theorem g_ishl (X : Stand p l e R s m args below meth c T locs cells slots) (hx : p.tables.exec = Jvm.exec) {pc : Nat} (pc' : Nat) {Ls : Array Slot} {x : Int32} {y : Int32} {st : List Value} (hd : decode c.code pc = .ok (.ishl, 1))  (hp : pc + 1 = pc') (G : own_Go p e below s Q K N (T.setTop (mkF m pc' Ls (.int (x <<< (y &&& 31)) :: st)))) : own_Go p e below s Q K N (T.setTop (mkF m pc Ls (.int y :: .int x :: st))) := by
  subst hp; exact own_step (fun _ k => XS.ishl X.here hx rfl hd rfl k) G
theorem g_ishr (X : Stand p l e R s m args below meth c T locs cells slots) (hx : p.tables.exec = Jvm.exec) {pc : Nat} (pc' : Nat) {Ls : Array Slot} {x : Int32} {y : Int32} {st : List Value} (hd : decode c.code pc = .ok (.ishr, 1))  (hp : pc + 1 = pc') (G : own_Go p e below s Q K N (T.setTop (mkF m pc' Ls (.int (x >>> (y &&& 31)) :: st)))) : own_Go p e below s Q K N (T.setTop (mkF m pc Ls (.int y :: .int x :: st))) := by
  subst hp; exact own_step (fun _ k => XS.ishr X.here hx rfl hd rfl k) G
theorem g_iushr (X : Stand p l e R s m args below meth c T locs cells slots) (hx : p.tables.exec = Jvm.exec) {pc : Nat} (pc' : Nat) {Ls : Array Slot} {x : Int32} {y : Int32} {st : List Value} (hd : decode c.code pc = .ok (.iushr, 1))  (hp : pc + 1 = pc') (G : own_Go p e below s Q K N (T.setTop (mkF m pc' Ls (.int ((x.toUInt32 >>> (y &&& 31).toUInt32).toInt32) :: st)))) : own_Go p e below s Q K N (T.setTop (mkF m pc Ls (.int y :: .int x :: st))) := by
  subst hp; exact own_step (fun _ k => XS.iushr X.here hx rfl hd rfl k) G
theorem g_lshl (X : Stand p l e R s m args below meth c T locs cells slots) (hx : p.tables.exec = Jvm.exec) {pc : Nat} (pc' : Nat) {Ls : Array Slot} {x : Int64} {y : Int32} {st : List Value} (hd : decode c.code pc = .ok (.lshl, 1))  (hp : pc + 1 = pc') (G : own_Go p e below s Q K N (T.setTop (mkF m pc' Ls (.long (x <<< (y &&& 0x3f).toInt64) :: st)))) : own_Go p e below s Q K N (T.setTop (mkF m pc Ls (.int y :: .long x :: st))) := by
  subst hp; exact own_step (fun _ k => XS.lshl X.here hx rfl hd rfl k) G
theorem g_lshr (X : Stand p l e R s m args below meth c T locs cells slots) (hx : p.tables.exec = Jvm.exec) {pc : Nat} (pc' : Nat) {Ls : Array Slot} {x : Int64} {y : Int32} {st : List Value} (hd : decode c.code pc = .ok (.lshr, 1))  (hp : pc + 1 = pc') (G : own_Go p e below s Q K N (T.setTop (mkF m pc' Ls (.long (x >>> (y &&& 0x3f).toInt64) :: st)))) : own_Go p e below s Q K N (T.setTop (mkF m pc Ls (.int y :: .long x :: st))) := by
  subst hp; exact own_step (fun _ k => XS.lshr X.here hx rfl hd rfl k) G
theorem g_lushr (X : Stand p l e R s m args below meth c T locs cells slots) (hx : p.tables.exec = Jvm.exec) {pc : Nat} (pc' : Nat) {Ls : Array Slot} {x : Int64} {y : Int32} {st : List Value} (hd : decode c.code pc = .ok (.lushr, 1))  (hp : pc + 1 = pc') (G : own_Go p e below s Q K N (T.setTop (mkF m pc' Ls (.long ((x.toUInt64 >>> (y &&& 0x3f).toInt64.toUInt64).toInt64) :: st)))) : own_Go p e below s Q K N (T.setTop (mkF m pc Ls (.int y :: .long x :: st))) := by
  subst hp; exact own_step (fun _ k => XS.lushr X.here hx rfl hd rfl k) G
theorem g_lcmp (X : Stand p l e R s m args below meth c T locs cells slots) (hx : p.tables.exec = Jvm.exec) {pc : Nat} (pc' : Nat) {Ls : Array Slot} {x y : Int64} {st : List Value} (hd : decode c.code pc = .ok (.lcmp, 1))  (hp : pc + 1 = pc') (G : own_Go p e below s Q K N (T.setTop (mkF m pc' Ls (.int (lcmpW x y) :: st)))) : own_Go p e below s Q K N (T.setTop (mkF m pc Ls (.long y :: .long x :: st))) := by
  subst hp; exact own_step (fun _ k => XS.lcmp X.here hx rfl hd rfl k) G
theorem g_idiv (X : Stand p l e R s m args below meth c T locs cells slots) (hx : p.tables.exec = Jvm.exec) {pc : Nat} (pc' : Nat) {Ls : Array Slot} {x y : Int32} {st : List Value} (hd : decode c.code pc = .ok (.idiv, 1)) (hp : pc + 1 = pc') (hy : y ≠ 0) (G : own_Go p e below s Q K N (T.setTop (mkF m pc' Ls (.int (x / y) :: st)))) : own_Go p e below s Q K N (T.setTop (mkF m pc Ls (.int y :: .int x :: st))) := by
  subst hp; exact own_step (fun _ k => XS.idiv X.here hx rfl hd rfl hy k) G
theorem g_ldiv (X : Stand p l e R s m args below meth c T locs cells slots) (hx : p.tables.exec = Jvm.exec) {pc : Nat} (pc' : Nat) {Ls : Array Slot} {x y : Int64} {st : List Value} (hd : decode c.code pc = .ok (.ldiv, 1)) (hp : pc + 1 = pc') (hy : y ≠ 0) (G : own_Go p e below s Q K N (T.setTop (mkF m pc' Ls (.long (x / y) :: st)))) : own_Go p e below s Q K N (T.setTop (mkF m pc Ls (.long y :: .long x :: st))) := by
  subst hp; exact own_step (fun _ k => XS.ldiv X.here hx rfl hd rfl hy k) G
theorem g_irem (X : Stand p l e R s m args below meth c T locs cells slots) (hx : p.tables.exec = Jvm.exec) {pc : Nat} (pc' : Nat) {Ls : Array Slot} {x y : Int32} {st : List Value} (hd : decode c.code pc = .ok (.irem, 1)) (hp : pc + 1 = pc') (hy : y ≠ 0) (G : own_Go p e below s Q K N (T.setTop (mkF m pc' Ls (.int (x % y) :: st)))) : own_Go p e below s Q K N (T.setTop (mkF m pc Ls (.int y :: .int x :: st))) := by
  subst hp; exact own_step (fun _ k => iremM X hx rfl hd rfl hy k) G
theorem g_lrem (X : Stand p l e R s m args below meth c T locs cells slots) (hx : p.tables.exec = Jvm.exec) {pc : Nat} (pc' : Nat) {Ls : Array Slot} {x y : Int64} {st : List Value} (hd : decode c.code pc = .ok (.lrem, 1)) (hp : pc + 1 = pc') (hy : y ≠ 0) (G : own_Go p e below s Q K N (T.setTop (mkF m pc' Ls (.long (x % y) :: st)))) : own_Go p e below s Q K N (T.setTop (mkF m pc Ls (.long y :: .long x :: st))) := by
  subst hp; rw [← lrem_mod] at G; exact own_step (fun _ k => XS.lrem X.here hx rfl hd rfl hy k) G
theorem g_iinc (X : Stand p l e R s m args below meth c T locs cells slots) (hx : p.tables.exec = Jvm.exec) {pc : Nat} (pc' : Nat) {Ls : Array Slot} {k : Nat} {cst : Int} {x z : Int32} {l' : Array Slot} {st : List Value} (hd : decode c.code pc = .ok (.iinc k cst, 3)) (hl : Ls[k]? = some (.val (.int x))) (hz : x + Int32.ofInt cst = z) (hl' : storeLocals Ls k (.int z) = some l') (hp : pc + 3 = pc') (G : own_Go p e below s Q K N (T.setTop (mkF m pc' l' st))) : own_Go p e below s Q K N (T.setTop (mkF m pc Ls st)) := by
  subst hp hz; exact own_step (fun _ k => XS.iinc X.here hx rfl hd hl hl' k) G
theorem g_dup (X : Stand p l e R s m args below meth c T locs cells slots) (hx : p.tables.exec = Jvm.exec) {pc : Nat} (pc' : Nat) {Ls : Array Slot} {x : Value} {st : List Value} (hd : decode c.code pc = .ok (.dup, 1)) (hc : x.category = 1) (hp : pc + 1 = pc') (G : own_Go p e below s Q K N (T.setTop (mkF m pc' Ls (x :: x :: st)))) : own_Go p e below s Q K N (T.setTop (mkF m pc Ls (x :: st))) := by
  subst hp; exact own_step (fun _ k => XS.dup X.here hx rfl hd rfl hc k) G
theorem g_pop (X : Stand p l e R s m args below meth c T locs cells slots) (hx : p.tables.exec = Jvm.exec) {pc : Nat} (pc' : Nat) {Ls : Array Slot} {x : Value} {st : List Value} (hd : decode c.code pc = .ok (.pop, 1)) (hc : x.category = 1) (hp : pc + 1 = pc') (G : own_Go p e below s Q K N (T.setTop (mkF m pc' Ls (st)))) : own_Go p e below s Q K N (T.setTop (mkF m pc Ls (x :: st))) := by
  subst hp; exact own_step (fun _ k => XS.pop X.here hx rfl hd rfl hc k) G
theorem g_dup_x1 (X : Stand p l e R s m args below meth c T locs cells slots) (hx : p.tables.exec = Jvm.exec) {pc : Nat} (pc' : Nat) {Ls : Array Slot} {x y : Value} {st : List Value} (hd : decode c.code pc = .ok (.dup_x1, 1)) (hc : x.category = 1) (hc' : y.category = 1) (hp : pc + 1 = pc') (G : own_Go p e below s Q K N (T.setTop (mkF m pc' Ls (x :: y :: x :: st)))) : own_Go p e below s Q K N (T.setTop (mkF m pc Ls (x :: y :: st))) := by
  subst hp; exact own_step (fun _ k => XS.dupX1 X.here hx rfl hd rfl hc hc' k) G
theorem g_dup2 (X : Stand p l e R s m args below meth c T locs cells slots) (hx : p.tables.exec = Jvm.exec) {pc : Nat} (pc' : Nat) {Ls : Array Slot} {x y : Value} {st : List Value} (hd : decode c.code pc = .ok (.dup2, 1)) (hc : x.category = 1) (hc' : y.category = 1) (hp : pc + 1 = pc') (G : own_Go p e below s Q K N (T.setTop (mkF m pc' Ls (x :: y :: x :: y :: st)))) : own_Go p e below s Q K N (T.setTop (mkF m pc Ls (x :: y :: st))) := by
  subst hp; exact own_step (fun _ k => XT.dup2 X.here hx rfl hd rfl hc hc' k) G
theorem g_dup2L (X : Stand p l e R s m args below meth c T locs cells slots) (hx : p.tables.exec = Jvm.exec) {pc : Nat} (pc' : Nat) {Ls : Array Slot} {x : Int64} {st : List Value} (hd : decode c.code pc = .ok (.dup2, 1))  (hp : pc + 1 = pc') (G : own_Go p e below s Q K N (T.setTop (mkF m pc' Ls (.long x :: .long x :: st)))) : own_Go p e below s Q K N (T.setTop (mkF m pc Ls (.long x :: st))) := by
  subst hp; exact own_step (fun _ k => XT.dup2L X.here hx rfl hd rfl k) G
theorem g_goto (X : Stand p l e R s m args below meth c T locs cells slots) (hx : p.tables.exec = Jvm.exec) {pc : Nat} (pc' : Nat) {Ls : Array Slot} {o : Int} {st : List Value} (hd : decode c.code pc = .ok (.goto o, 3)) (ho : 0 ≤ (pc : Int) + o) (hp : ((pc : Int) + o).toNat = pc') (G : own_Go p e below s Q K N (T.setTop (mkF m pc' Ls st))) : own_Go p e below s Q K N (T.setTop (mkF m pc Ls st)) :=
  own_step (fun _ k => XS.goto X.here hx rfl rfl hd ho hp k) G
theorem g_ifYes (X : Stand p l e R s m args below meth c T locs cells slots) (hx : p.tables.exec = Jvm.exec) {pc : Nat} (pc' : Nat) {Ls : Array Slot} {cd : ClassFile.Cond} {x : Int32} {o : Int} {st : List Value} (hd : decode c.code pc = .ok (.ifCond cd o, 3)) (hc : ifCond.holds cd x = true) (ho : 0 ≤ (pc : Int) + o) (hp : ((pc : Int) + o).toNat = pc') (G : own_Go p e below s Q K N (T.setTop (mkF m pc' Ls st))) : own_Go p e below s Q K N (T.setTop (mkF m pc Ls (.int x :: st))) :=
  own_step (fun _ k => XS.ifYes X.here hx rfl rfl hd rfl hc ho hp k) G
theorem g_ifNo (X : Stand p l e R s m args below meth c T locs cells slots) (hx : p.tables.exec = Jvm.exec) {pc : Nat} (pc' : Nat) {Ls : Array Slot} {cd : ClassFile.Cond} {x : Int32} {o : Int} {st : List Value} (hd : decode c.code pc = .ok (.ifCond cd o, 3)) (hc : ifCond.holds cd x = false) (hp : pc + 3 = pc') (G : own_Go p e below s Q K N (T.setTop (mkF m pc' Ls st))) : own_Go p e below s Q K N (T.setTop (mkF m pc Ls (.int x :: st))) := by
  subst hp; exact own_step (fun _ k => XS.ifNo X.here hx rfl hd rfl hc k) G
theorem g_icmpYes (X : Stand p l e R s m args below meth c T locs cells slots) (hx : p.tables.exec = Jvm.exec) {pc : Nat} (pc' : Nat) {Ls : Array Slot} {cd : ClassFile.Cond} {x y : Int32} {o : Int} {st : List Value} (hd : decode c.code pc = .ok (.if_icmp cd o, 3)) (hc : if_icmp.holds cd x y = true) (ho : 0 ≤ (pc : Int) + o) (hp : ((pc : Int) + o).toNat = pc') (G : own_Go p e below s Q K N (T.setTop (mkF m pc' Ls st))) : own_Go p e below s Q K N (T.setTop (mkF m pc Ls (.int y :: .int x :: st))) :=
  own_step (fun _ k => XS.icmpYes X.here hx rfl rfl hd rfl hc ho hp k) G
theorem g_icmpNo (X : Stand p l e R s m args below meth c T locs cells slots) (hx : p.tables.exec = Jvm.exec) {pc : Nat} (pc' : Nat) {Ls : Array Slot} {cd : ClassFile.Cond} {x y : Int32} {o : Int} {st : List Value} (hd : decode c.code pc = .ok (.if_icmp cd o, 3)) (hc : if_icmp.holds cd x y = false) (hp : pc + 3 = pc') (G : own_Go p e below s Q K N (T.setTop (mkF m pc' Ls st))) : own_Go p e below s Q K N (T.setTop (mkF m pc Ls (.int y :: .int x :: st))) := by
  subst hp; exact own_step (fun _ k => XS.icmpNo X.here hx rfl hd rfl hc k) G
theorem g_ifnullYes (X : Stand p l e R s m args below meth c T locs cells slots) (hx : p.tables.exec = Jvm.exec) {pc : Nat} (pc' : Nat) {Ls : Array Slot} {o : Int} {st : List Value} (hd : decode c.code pc = .ok (.ifnull o, 3)) (ho : 0 ≤ (pc : Int) + o) (hp : ((pc : Int) + o).toNat = pc') (G : own_Go p e below s Q K N (T.setTop (mkF m pc' Ls st))) : own_Go p e below s Q K N (T.setTop (mkF m pc Ls (.null :: st))) :=
  own_step (fun _ k => XS.ifnullYes X.here hx rfl rfl hd rfl ho hp k) G
theorem g_ifnullNo (X : Stand p l e R s m args below meth c T locs cells slots) (hx : p.tables.exec = Jvm.exec) {pc : Nat} (pc' : Nat) {Ls : Array Slot} {b : Addr} {o : Int} {st : List Value} (hd : decode c.code pc = .ok (.ifnull o, 3)) (hp : pc + 3 = pc') (G : own_Go p e below s Q K N (T.setTop (mkF m pc' Ls st))) : own_Go p e below s Q K N (T.setTop (mkF m pc Ls (.ref b :: st))) := by
  subst hp; exact own_step (fun _ k => XS.ifnullNo X.here hx rfl hd rfl k) G
theorem g_ifnonnullYes (X : Stand p l e R s m args below meth c T locs cells slots) (hx : p.tables.exec = Jvm.exec) {pc : Nat} (pc' : Nat) {Ls : Array Slot} {b : Addr} {o : Int} {st : List Value} (hd : decode c.code pc = .ok (.ifnonnull o, 3)) (ho : 0 ≤ (pc : Int) + o) (hp : ((pc : Int) + o).toNat = pc') (G : own_Go p e below s Q K N (T.setTop (mkF m pc' Ls st))) : own_Go p e below s Q K N (T.setTop (mkF m pc Ls (.ref b :: st))) :=
  own_step (fun _ k => XS.ifnonnullYes X.here hx rfl rfl hd rfl ho hp k) G
theorem g_ifnonnullNo (X : Stand p l e R s m args below meth c T locs cells slots) (hx : p.tables.exec = Jvm.exec) {pc : Nat} (pc' : Nat) {Ls : Array Slot} {o : Int} {st : List Value} (hd : decode c.code pc = .ok (.ifnonnull o, 3)) (hp : pc + 3 = pc') (G : own_Go p e below s Q K N (T.setTop (mkF m pc' Ls st))) : own_Go p e below s Q K N (T.setTop (mkF m pc Ls (.null :: st))) := by
  subst hp; exact own_step (fun _ k => XS.ifnonnullNo X.here hx rfl hd rfl k) G
theorem g_acmp (X : Stand p l e R s m args below meth c T locs cells slots) (hx : p.tables.exec = Jvm.exec) {pc : Nat} {Ls : Array Slot} {cd : ACond} {x y : Value} {o : Int} {st : List Value} {same : Bool} (pc' : Nat) (hd : decode c.code pc = .ok (.if_acmp cd o, 3)) (h1 : x.isRef = true) (h2 : y.isRef = true) (hq : decide (x = y) = same) (ho : 0 ≤ (pc : Int) + o) (hp : pc' = if acV cd same = true then ((pc : Int) + o).toNat else pc + 3) (G : own_Go p e below s Q K N (T.setTop (mkF m pc' Ls st))) : own_Go p e below s Q K N (T.setTop (mkF m pc Ls (y :: x :: st))) :=
  own_step (fun _ k => Jvm.RoadKit.acmp X hx rfl h1 h2 rfl hd rfl hq ho hp k) G
theorem g_ldc (X : Stand p l e R s m args below meth c T locs cells slots) (hx : p.tables.exec = Jvm.exec) {own : String} (hown : s.vm.findClass own = some m.cls) {pc : Nat} (pc' : Nat) {Ls : Array Slot} {i : Nat} {z : Int32} {st : List Value} (hw : (Jvm.Cond.constant own i z).before args s = true) (hd : decode c.code pc = .ok (.ldc i, 2)) (hp : pc + 2 = pc') (G : own_Go p e below s Q K N (T.setTop (mkF m pc' Ls (.int z :: st)))) : own_Go p e below s Q K N (T.setTop (mkF m pc Ls st)) := by
  subst hp; exact own_step (fun _ k => X.ldcInt hx hown hw (g := mkF m pc Ls st) rfl hd _ k) G
theorem g_ldc_w (X : Stand p l e R s m args below meth c T locs cells slots) (hx : p.tables.exec = Jvm.exec) {own : String} (hown : s.vm.findClass own = some m.cls) {pc : Nat} (pc' : Nat) {Ls : Array Slot} {i : Nat} {z : Int32} {st : List Value} (hw : (Jvm.Cond.constant own i z).before args s = true) (hd : decode c.code pc = .ok (.ldc_w i, 3)) (hp : pc + 3 = pc') (G : own_Go p e below s Q K N (T.setTop (mkF m pc' Ls (.int z :: st)))) : own_Go p e below s Q K N (T.setTop (mkF m pc Ls st)) := by
  subst hp; exact own_step (fun _ k => X.ldcwInt hx hown hw (g := mkF m pc Ls st) rfl hd _ k) G
theorem g_ldc2_w (X : Stand p l e R s m args below meth c T locs cells slots) (hx : p.tables.exec = Jvm.exec) {own : String} (hown : s.vm.findClass own = some m.cls) {pc : Nat} (pc' : Nat) {Ls : Array Slot} {i : Nat} {z : Int64} {st : List Value} (hw : (Jvm.Cond.constantLong own i z).before args s = true) (hd : decode c.code pc = .ok (.ldc2_w i, 3)) (hp : pc + 3 = pc') (G : own_Go p e below s Q K N (T.setTop (mkF m pc' Ls (.long z :: st)))) : own_Go p e below s Q K N (T.setTop (mkF m pc Ls st)) := by
  subst hp; exact own_step (fun _ k => X.ldc2Long hx hown hw (g := mkF m pc Ls st) rfl hd _ k) G
theorem g_tswIn (X : Stand p l e R s m args below meth c T locs cells slots) (hx : p.tables.exec = Jvm.exec) {pc : Nat} (pc' : Nat) {Ls : Array Slot} {dflt low high : Int} {offs : Array Int} {len : Nat} {o : Int} {i : Int32} {st : List Value} (hd : decode c.code pc = .ok (.tableswitch dflt low high offs, len)) (hin : ¬ (i.toInt < low ∨ i.toInt > high)) (hoff : offs[(i.toInt - low).toNat]? = some o) (ho : 0 ≤ (pc : Int) + o) (hp : ((pc : Int) + o).toNat = pc') (G : own_Go p e below s Q K N (T.setTop (mkF m pc' Ls st))) : own_Go p e below s Q K N (T.setTop (mkF m pc Ls (.int i :: st))) :=
  own_step (fun _ k => XS.tswIn X.here hx rfl rfl hd rfl hin hoff ho hp k) G
theorem g_tswOut (X : Stand p l e R s m args below meth c T locs cells slots) (hx : p.tables.exec = Jvm.exec) {pc : Nat} (pc' : Nat) {Ls : Array Slot} {dflt low high : Int} {offs : Array Int} {len : Nat} {i : Int32} {st : List Value} (hd : decode c.code pc = .ok (.tableswitch dflt low high offs, len)) (hout : i.toInt < low ∨ i.toInt > high) (ho : 0 ≤ (pc : Int) + dflt) (hp : ((pc : Int) + dflt).toNat = pc') (G : own_Go p e below s Q K N (T.setTop (mkF m pc' Ls st))) : own_Go p e below s Q K N (T.setTop (mkF m pc Ls (.int i :: st))) :=
  own_step (fun _ k => XS.tswOut X.here hx rfl rfl hd rfl hout ho hp k) G
theorem own_ii_eq_t {x y : Int32} (h : x = y) : if_icmp.holds .eq x y = true := XT.ii_eq_t h
theorem own_i0_eq_t {x : Int32} (h : x = 0) : ifCond.holds .eq x = true := XT.i0_eq_t h
theorem own_ll_eq_t {x y : Int64} (h : x = y) : ifCond.holds .eq (lcmpW x y) = true := XT.ll_eq_t h
theorem own_ii_eq_f {x y : Int32} (h : ¬ (x = y)) : if_icmp.holds .eq x y = false := XT.ii_eq_f h
theorem own_i0_eq_f {x : Int32} (h : ¬ (x = 0)) : ifCond.holds .eq x = false := XT.i0_eq_f h
theorem own_ll_eq_f {x y : Int64} (h : ¬ (x = y)) : ifCond.holds .eq (lcmpW x y) = false := XT.ll_eq_f h
theorem own_ii_ne_t {x y : Int32} (h : ¬ (x = y)) : if_icmp.holds .ne x y = true := XT.ii_ne_t h
theorem own_i0_ne_t {x : Int32} (h : ¬ (x = 0)) : ifCond.holds .ne x = true := XT.i0_ne_t h
theorem own_ll_ne_t {x y : Int64} (h : ¬ (x = y)) : ifCond.holds .ne (lcmpW x y) = true := XT.ll_ne_t h
theorem own_ii_ne_f {x y : Int32} (h : x = y) : if_icmp.holds .ne x y = false := XT.ii_ne_f h
theorem own_i0_ne_f {x : Int32} (h : x = 0) : ifCond.holds .ne x = false := XT.i0_ne_f h
theorem own_ll_ne_f {x y : Int64} (h : x = y) : ifCond.holds .ne (lcmpW x y) = false := XT.ll_ne_f h
theorem own_ii_lt_t {x y : Int32} (h : x < y) : if_icmp.holds .lt x y = true := XT.ii_lt_t h
theorem own_i0_lt_t {x : Int32} (h : x < 0) : ifCond.holds .lt x = true := XT.i0_lt_t h
theorem own_ll_lt_t {x y : Int64} (h : x < y) : ifCond.holds .lt (lcmpW x y) = true := XT.ll_lt_t h
theorem own_ii_lt_f {x y : Int32} (h : ¬ (x < y)) : if_icmp.holds .lt x y = false := XT.ii_lt_f h
theorem own_i0_lt_f {x : Int32} (h : ¬ (x < 0)) : ifCond.holds .lt x = false := XT.i0_lt_f h
theorem own_ll_lt_f {x y : Int64} (h : ¬ (x < y)) : ifCond.holds .lt (lcmpW x y) = false := XT.ll_lt_f h
theorem own_ii_ge_t {x y : Int32} (h : ¬ (x < y)) : if_icmp.holds .ge x y = true := XT.ii_ge_t h
theorem own_i0_ge_t {x : Int32} (h : ¬ (x < 0)) : ifCond.holds .ge x = true := XT.i0_ge_t h
theorem own_ll_ge_t {x y : Int64} (h : ¬ (x < y)) : ifCond.holds .ge (lcmpW x y) = true := XT.ll_ge_t h
theorem own_ii_ge_f {x y : Int32} (h : x < y) : if_icmp.holds .ge x y = false := XT.ii_ge_f h
theorem own_i0_ge_f {x : Int32} (h : x < 0) : ifCond.holds .ge x = false := XT.i0_ge_f h
theorem own_ll_ge_f {x y : Int64} (h : x < y) : ifCond.holds .ge (lcmpW x y) = false := XT.ll_ge_f h
theorem own_ii_gt_t {x y : Int32} (h : y < x) : if_icmp.holds .gt x y = true := XT.ii_gt_t h
theorem own_i0_gt_t {x : Int32} (h : 0 < x) : ifCond.holds .gt x = true := XT.i0_gt_t h
theorem own_ll_gt_t {x y : Int64} (h : y < x) : ifCond.holds .gt (lcmpW x y) = true := XT.ll_gt_t h
theorem own_ii_gt_f {x y : Int32} (h : ¬ (y < x)) : if_icmp.holds .gt x y = false := XT.ii_gt_f h
theorem own_i0_gt_f {x : Int32} (h : ¬ (0 < x)) : ifCond.holds .gt x = false := XT.i0_gt_f h
theorem own_ll_gt_f {x y : Int64} (h : ¬ (y < x)) : ifCond.holds .gt (lcmpW x y) = false := XT.ll_gt_f h
theorem own_ii_le_t {x y : Int32} (h : ¬ (y < x)) : if_icmp.holds .le x y = true := XT.ii_le_t h
theorem own_i0_le_t {x : Int32} (h : ¬ (0 < x)) : ifCond.holds .le x = true := XT.i0_le_t h
theorem own_ll_le_t {x y : Int64} (h : ¬ (y < x)) : ifCond.holds .le (lcmpW x y) = true := XT.ll_le_t h
theorem own_ii_le_f {x y : Int32} (h : y < x) : if_icmp.holds .le x y = false := XT.ii_le_f h
theorem own_i0_le_f {x : Int32} (h : 0 < x) : ifCond.holds .le x = false := XT.i0_le_f h
theorem own_ll_le_f {x y : Int64} (h : y < x) : ifCond.holds .le (lcmpW x y) = false := XT.ll_le_f h
theorem own_getF (X : Stand p l e R s m args below meth c T locs cells slots) (hx : p.tables.exec = Jvm.exec) {Z : State} {a0 : Array Value} {h : Heap} (hZ : Z.Warmed39 s.vm) {own : String} (hown : s.vm.findClass own = some m.cls) {R0 O n d host : String} {index : Nat} (w : (Jvm.Cond.fieldLink own index R0 n d).before a0 Z = true ∨ (Jvm.Cond.fieldLinkNest own index R0 n d host).before a0 Z = true) (via : Via Z R0 O n d) (eT : T.heap = h) {a : Addr} {v : Value} (F : Fld Z h a O n d v) {pc : Nat} (pc' : Nat) {Ls : Array Slot} {rest : List Value} (hd : decode c.code pc = .ok (.getfield index, 3)) (hp : pc + 3 = pc') (k : ∀ T', Stand p l e R s m args below meth c T' locs cells slots → T'.heap = h → own_Go p e below s Q K N (T'.setTop (mkF m pc' Ls (v :: rest)))) : own_Go p e below s Q K N (T.setTop (mkF m pc Ls (.ref a :: rest))) := by
  subst hp
  obtain ⟨T', X', e', st⟩ := getF X hx hZ hown w via eT F (g := mkF m pc Ls (.ref a :: rest)) rfl rfl hd
  exact own_step st (k T' X' e')
theorem own_getS (X : Stand p l e R s m args below meth c T locs cells slots) (hx : p.tables.exec = Jvm.exec) {Z : State} {a0 : Array Value} {h : Heap} (hZ : Z.Warmed39 s.vm) {own : String} (hown : s.vm.findClass own = some m.cls) {R0 O n d host : String} {index : Nat} (w : (Jvm.Cond.fieldLink own index R0 n d).before a0 Z = true ∨ (Jvm.Cond.fieldLinkNest own index R0 n d host).before a0 Z = true) (via : Via Z R0 O n d) (eT : T.heap = h) {v : Value} (F : Sta Z h O n d v) {pc : Nat} (pc' : Nat) {Ls : Array Slot} {rest : List Value} (hd : decode c.code pc = .ok (.getstatic index, 3)) (hp : pc + 3 = pc') (k : ∀ T', Stand p l e R s m args below meth c T' locs cells slots → T'.heap = h → own_Go p e below s Q K N (T'.setTop (mkF m pc' Ls (v :: rest)))) : own_Go p e below s Q K N (T.setTop (mkF m pc Ls rest)) := by
  subst hp
  obtain ⟨T', X', e', st⟩ := getS2 X hx hZ hown w via eT F (g := mkF m pc Ls rest) rfl hd
  exact own_step st (k T' X' e')
theorem own_putF (X : Stand p l e R s m args below meth c T locs cells slots) (hx : p.tables.exec = Jvm.exec) {Z : State} {a0 : Array Value} {h : Heap} (hZ : Z.Warmed39 s.vm) {own : String} (hown : s.vm.findClass own = some m.cls) {R0 O n d host : String} {index : Nat} (w : (Jvm.Cond.fieldLink own index R0 n d).before a0 Z = true ∨ (Jvm.Cond.fieldLinkNest own index R0 n d host).before a0 Z = true) (via : Via Z R0 O n d) (eT : T.heap = h) {a : Addr} {v old : Value} (F : Fld Z h a O n d old) {C : String} {kk : Nat} {ty : FieldType} (E : Exa Z h a C) (L : (Jvm.Cond.lays C O n d).before a0 Z = true ∨ ((Jvm.Cond.laysFinal C O n d).before a0 Z = true ∧ own = O ∧ meth.name = "<init>")) (wi : (Jvm.Cond.instantiable C kk).before a0 Z = true) (hty : parseFieldDescriptor d = some ty) (hn : narrow ty v = v) (hf : fits ty v = true) {pc : Nat} (pc' : Nat) {Ls : Array Slot} {rest : List Value} (hd : decode c.code pc = .ok (.putfield index, 3)) (hp : pc + 3 = pc') (k : ∀ T' h', Stand p l e R s m args below meth c T' (locs ++ [⟨a, Jvm.RoadKit.slotOf Z O n d⟩]) cells slots → T'.heap = h' → Wr h h' a (Jvm.RoadKit.slotOf Z O n d) v → own_Go p e below s Q K N (T'.setTop (mkF m pc' Ls rest))) : own_Go p e below s Q K N (T.setTop (mkF m pc Ls (v :: .ref a :: rest))) := by
  subst hp
  obtain ⟨T', h', X', e', W', st⟩ := putF X hx hZ hown w via eT F E L wi hty hn hf (g := mkF m pc Ls (v :: .ref a :: rest)) rfl rfl hd
  exact own_step st (k T' h' X' e' W')
theorem own_putFN (X : Stand p l e R s m args below meth c T locs cells slots) (hx : p.tables.exec = Jvm.exec) {Z : State} {a0 : Array Value} {h : Heap} (hZ : Z.Warmed39 s.vm) {own : String} (hown : s.vm.findClass own = some m.cls) {R0 O n d : String} {index : Nat} (w : (Jvm.Cond.fieldLink own index R0 n d).before a0 Z = true) (via : Via Z R0 O n d) (eT : T.heap = h) {a : Addr} {v old : Value} (v' : Value) (F : Fld Z h a O n d old) {C : String} {kk : Nat} {ty : FieldType} (E : Exa Z h a C) (L : (Jvm.Cond.lays C O n d).before a0 Z = true ∨ ((Jvm.Cond.laysFinal C O n d).before a0 Z = true ∧ own = O ∧ meth.name = "<init>")) (wi : (Jvm.Cond.instantiable C kk).before a0 Z = true) (hty : parseFieldDescriptor d = some ty) (hn : narrow ty v = v') (hf : fits ty v' = true) {pc : Nat} (pc' : Nat) {Ls : Array Slot} {rest : List Value} (hd : decode c.code pc = .ok (.putfield index, 3)) (hp : pc + 3 = pc') (k : ∀ T' h', Stand p l e R s m args below meth c T' (locs ++ [⟨a, Jvm.RoadKit.slotOf Z O n d⟩]) cells slots → T'.heap = h' → Wr h h' a (Jvm.RoadKit.slotOf Z O n d) v' → own_Go p e below s Q K N (T'.setTop (mkF m pc' Ls rest))) : own_Go p e below s Q K N (T.setTop (mkF m pc Ls (v :: .ref a :: rest))) := by
  subst hp
  obtain ⟨T', h', X', e', W', st⟩ := putFN X hx hZ hown w via eT F E L wi hty hn hf (g := mkF m pc Ls (v :: .ref a :: rest)) rfl rfl hd
  exact own_step st (k T' h' X' e' W')
theorem own_newO (X : Stand p l e R s m args below meth c T locs cells slots) (hx : p.tables.exec = Jvm.exec) {Z : State} {a0 : Array Value} {h : Heap} (hZ : Z.Warmed39 s.vm) {own : String} (hown : s.vm.findClass own = some m.cls) {C : String} {index n : Nat} (w : (Jvm.Cond.classLink own index C).before a0 Z = true) (wi : (Jvm.Cond.instantiable C n).before a0 Z = true) (wz : (Jvm.Cond.initialized C).before a0 Z = true) (eT : T.heap = h) {pc : Nat} (pc' : Nat) {Ls : Array Slot} {rest : List Value} (hd : decode c.code pc = .ok (.new index, 3)) (hp : pc + 3 = pc') (hc : cells + 1 ≤ R.cells) (hl : slots + n ≤ R.slots)
    (k : ∀ T' h' b, Stand p l e R s m args below meth c T' locs (cells + 1) (slots + n) → T'.heap = h' → b = h.size → Ext h h' → Exa Z h' b C → (∀ {O nm d : String} {ty : FieldType}, Laid Z a0 C O nm d → parseFieldDescriptor d = some ty → Fld Z h' b O nm d (defaultValue ty)) → own_Go p e below s Q K N (T'.setTop (mkF m pc' Ls (.ref b :: rest)))) : own_Go p e below s Q K N (T.setTop (mkF m pc Ls rest)) := by
  subst hp
  obtain ⟨T', h', X', e', E', A', D', -, st⟩ := newO X hx hZ hown w wi wz eT (g := mkF m pc Ls rest) rfl hd hc hl
  exact own_step st (k T' h' _ X' e' rfl E' A' D')
theorem own_newP (X : Stand p l e R s m args below meth c T locs cells slots) (hx : p.tables.exec = Jvm.exec) {Z : State} {a0 : Array Value} {h : Heap} (hZ : Z.Warmed39 s.vm) {aty : ArrayType} (w : (Jvm.Cond.arrayClass (newarray.typeOf aty)).before a0 Z = true) (eT : T.heap = h) {n : Int32} {pc : Nat} (pc' : Nat) {Ls : Array Slot} {rest : List Value} (hd : decode c.code pc = .ok (.newarray aty, 2)) (hp : pc + 2 = pc') (hn : ¬ n < 0) (cap : Nat) (hcap : n.toNatClampNeg ≤ cap) (hb : cap * 8 ≤ 536870912) (hc : cells + 1 ≤ R.cells) (hl : slots + cap ≤ R.slots)
    (k : ∀ T' h' cA b, Stand p l e R s m args below meth c T' locs (cells + 1) (slots + cap) → T'.heap = h' → b = h.size → Ext h h' → Arr Z h' b (newA cA (newarray.typeOf aty) n) (newarray.typeOf aty) → own_Go p e below s Q K N (T'.setTop (mkF m pc' Ls (.ref b :: rest)))) : own_Go p e below s Q K N (T.setTop (mkF m pc Ls (.int n :: rest))) := by
  subst hp
  obtain ⟨T', h', cA, X', e', E', A', st⟩ := newP X hx hZ w eT (g := mkF m pc Ls (.int n :: rest)) rfl hd rfl hn hcap hb hc hl
  exact own_step st (k T' h' cA _ X' e' rfl E' A')
theorem own_newR (X : Stand p l e R s m args below meth c T locs cells slots) (hx : p.tables.exec = Jvm.exec) {Z : State} {a0 : Array Value} {h : Heap} (hZ : Z.Warmed39 s.vm) {own : String} (hown : s.vm.findClass own = some m.cls) {C : String} {index : Nat} (w1 : (Jvm.Cond.classLink own index C).before a0 Z = true) (w2 : (Jvm.Cond.arrayOver (.object C)).before a0 Z = true) (eT : T.heap = h) {n : Int32} {pc : Nat} (pc' : Nat) {Ls : Array Slot} {rest : List Value} (hd : decode c.code pc = .ok (.anewarray index, 3)) (hp : pc + 3 = pc') (hn : ¬ n < 0) (cap : Nat) (hcap : n.toNatClampNeg ≤ cap) (hb : cap * 8 ≤ 536870912) (hc : cells + 1 ≤ R.cells) (hl : slots + cap ≤ R.slots)
    (k : ∀ T' h' cA b, Stand p l e R s m args below meth c T' locs (cells + 1) (slots + cap) → T'.heap = h' → b = h.size → Ext h h' → Arr Z h' b (newA cA (.object C) n) (.object C) → Ovr Z cA C → own_Go p e below s Q K N (T'.setTop (mkF m pc' Ls (.ref b :: rest)))) : own_Go p e below s Q K N (T.setTop (mkF m pc Ls (.int n :: rest))) := by
  subst hp
  obtain ⟨T', h', cA, X', e', E', A', O', st⟩ := newR X hx hZ hown w1 w2 eT (g := mkF m pc Ls (.int n :: rest)) rfl hd rfl hn hcap hb hc hl
  exact own_step st (k T' h' cA _ X' e' rfl E' A' O')
theorem own_stI (X : Stand p l e R s m args below meth c T locs cells slots) (hx : p.tables.exec = Jvm.exec) {Z : State} {h : Heap} (hZ : Z.Warmed39 s.vm) (eT : T.heap = h) {a : Addr} {cl : Cell} (A : Arr Z h a cl .int) {j : Int32} {x : Int32} (hj : ¬ (j < 0 ∨ cl.slots.size ≤ j.toNatClampNeg)) {pc : Nat} (pc' : Nat) {Ls : Array Slot} {rest : List Value} (hd : decode c.code pc = .ok (.iastore, 1)) (hp : pc + 1 = pc') (k : ∀ T' h', Stand p l e R s m args below meth c T' (locs ++ [⟨a, j.toNatClampNeg⟩]) cells slots → T'.heap = h' → Wr h h' a j.toNatClampNeg (.int x) → own_Go p e below s Q K N (T'.setTop (mkF m pc' Ls rest))) : own_Go p e below s Q K N (T.setTop (mkF m pc Ls (.int x :: .int j :: .ref a :: rest))) := by
  subst hp
  obtain ⟨T', h', X', e', W', st⟩ := stI X hx hZ eT A hj (g := mkF m pc Ls (.int x :: .int j :: .ref a :: rest)) rfl rfl hd
  exact own_step st (k T' h' X' e' W')
theorem own_stC (X : Stand p l e R s m args below meth c T locs cells slots) (hx : p.tables.exec = Jvm.exec) {Z : State} {h : Heap} (hZ : Z.Warmed39 s.vm) (eT : T.heap = h) {a : Addr} {cl : Cell} (A : Arr Z h a cl .char) {j : Int32} {x : Int32} (hj : ¬ (j < 0 ∨ cl.slots.size ≤ j.toNatClampNeg)) {pc : Nat} (pc' : Nat) {Ls : Array Slot} {rest : List Value} (hd : decode c.code pc = .ok (.castore, 1)) (hp : pc + 1 = pc') (k : ∀ T' h', Stand p l e R s m args below meth c T' (locs ++ [⟨a, j.toNatClampNeg⟩]) cells slots → T'.heap = h' → Wr h h' a j.toNatClampNeg (.int (nar .char x)) → own_Go p e below s Q K N (T'.setTop (mkF m pc' Ls rest))) : own_Go p e below s Q K N (T.setTop (mkF m pc Ls (.int x :: .int j :: .ref a :: rest))) := by
  subst hp
  obtain ⟨T', h', X', e', W', st⟩ := stC X hx hZ eT A hj (g := mkF m pc Ls (.int x :: .int j :: .ref a :: rest)) rfl rfl hd
  exact own_step st (k T' h' X' e' W')
theorem own_stZ (X : Stand p l e R s m args below meth c T locs cells slots) (hx : p.tables.exec = Jvm.exec) {Z : State} {h : Heap} (hZ : Z.Warmed39 s.vm) (eT : T.heap = h) {a : Addr} {cl : Cell} (A : Arr Z h a cl .boolean) {j : Int32} {x : Int32} (hj : ¬ (j < 0 ∨ cl.slots.size ≤ j.toNatClampNeg)) {pc : Nat} (pc' : Nat) {Ls : Array Slot} {rest : List Value} (hd : decode c.code pc = .ok (.bastore, 1)) (hp : pc + 1 = pc') (k : ∀ T' h', Stand p l e R s m args below meth c T' (locs ++ [⟨a, j.toNatClampNeg⟩]) cells slots → T'.heap = h' → Wr h h' a j.toNatClampNeg (.int (nar .boolean x)) → own_Go p e below s Q K N (T'.setTop (mkF m pc' Ls rest))) : own_Go p e below s Q K N (T.setTop (mkF m pc Ls (.int x :: .int j :: .ref a :: rest))) := by
  subst hp
  obtain ⟨T', h', X', e', W', st⟩ := stZ X hx hZ eT A hj (g := mkF m pc Ls (.int x :: .int j :: .ref a :: rest)) rfl rfl hd
  exact own_step st (k T' h' X' e' W')
theorem own_stB (X : Stand p l e R s m args below meth c T locs cells slots) (hx : p.tables.exec = Jvm.exec) {Z : State} {h : Heap} (hZ : Z.Warmed39 s.vm) (eT : T.heap = h) {a : Addr} {cl : Cell} (A : Arr Z h a cl .byte) {j : Int32} {x : Int32} (hj : ¬ (j < 0 ∨ cl.slots.size ≤ j.toNatClampNeg)) {pc : Nat} (pc' : Nat) {Ls : Array Slot} {rest : List Value} (hd : decode c.code pc = .ok (.bastore, 1)) (hp : pc + 1 = pc') (k : ∀ T' h', Stand p l e R s m args below meth c T' (locs ++ [⟨a, j.toNatClampNeg⟩]) cells slots → T'.heap = h' → Wr h h' a j.toNatClampNeg (.int (nar .byte x)) → own_Go p e below s Q K N (T'.setTop (mkF m pc' Ls rest))) : own_Go p e below s Q K N (T.setTop (mkF m pc Ls (.int x :: .int j :: .ref a :: rest))) := by
  subst hp
  obtain ⟨T', h', X', e', W', st⟩ := stB X hx hZ eT A hj (g := mkF m pc Ls (.int x :: .int j :: .ref a :: rest)) rfl rfl hd
  exact own_step st (k T' h' X' e' W')
theorem own_stS (X : Stand p l e R s m args below meth c T locs cells slots) (hx : p.tables.exec = Jvm.exec) {Z : State} {h : Heap} (hZ : Z.Warmed39 s.vm) (eT : T.heap = h) {a : Addr} {cl : Cell} (A : Arr Z h a cl .short) {j : Int32} {x : Int32} (hj : ¬ (j < 0 ∨ cl.slots.size ≤ j.toNatClampNeg)) {pc : Nat} (pc' : Nat) {Ls : Array Slot} {rest : List Value} (hd : decode c.code pc = .ok (.sastore, 1)) (hp : pc + 1 = pc') (k : ∀ T' h', Stand p l e R s m args below meth c T' (locs ++ [⟨a, j.toNatClampNeg⟩]) cells slots → T'.heap = h' → Wr h h' a j.toNatClampNeg (.int (nar .short x)) → own_Go p e below s Q K N (T'.setTop (mkF m pc' Ls rest))) : own_Go p e below s Q K N (T.setTop (mkF m pc Ls (.int x :: .int j :: .ref a :: rest))) := by
  subst hp
  obtain ⟨T', h', X', e', W', st⟩ := stS X hx hZ eT A hj (g := mkF m pc Ls (.int x :: .int j :: .ref a :: rest)) rfl rfl hd
  exact own_step st (k T' h' X' e' W')
theorem own_stJ (X : Stand p l e R s m args below meth c T locs cells slots) (hx : p.tables.exec = Jvm.exec) {Z : State} {h : Heap} (hZ : Z.Warmed39 s.vm) (eT : T.heap = h) {a : Addr} {cl : Cell} (A : Arr Z h a cl .long) {j : Int32} {x : Int64} (hj : ¬ (j < 0 ∨ cl.slots.size ≤ j.toNatClampNeg)) {pc : Nat} (pc' : Nat) {Ls : Array Slot} {rest : List Value} (hd : decode c.code pc = .ok (.lastore, 1)) (hp : pc + 1 = pc') (k : ∀ T' h', Stand p l e R s m args below meth c T' (locs ++ [⟨a, j.toNatClampNeg⟩]) cells slots → T'.heap = h' → Wr h h' a j.toNatClampNeg (.long x) → own_Go p e below s Q K N (T'.setTop (mkF m pc' Ls rest))) : own_Go p e below s Q K N (T.setTop (mkF m pc Ls (.long x :: .int j :: .ref a :: rest))) := by
  subst hp
  obtain ⟨T', h', X', e', W', st⟩ := stJ X hx hZ eT A hj (g := mkF m pc Ls (.long x :: .int j :: .ref a :: rest)) rfl rfl hd
  exact own_step st (k T' h' X' e' W')
theorem own_stR (X : Stand p l e R s m args below meth c T locs cells slots) (hx : p.tables.exec = Jvm.exec) {Z : State} {h : Heap} (hZ : Z.Warmed39 s.vm) (eT : T.heap = h) {a : Addr} {cl : Cell} {ty : FieldType} (A : Arr Z h a cl ty) {j : Int32} {v : Value} (hj : ¬ (j < 0 ∨ cl.slots.size ≤ j.toNatClampNeg)) (hty : ty.isReference = true) (F : Sto Z h a v) {pc : Nat} (pc' : Nat) {Ls : Array Slot} {rest : List Value} (hd : decode c.code pc = .ok (.aastore, 1)) (hp : pc + 1 = pc') (k : ∀ T' h', Stand p l e R s m args below meth c T' (locs ++ [⟨a, j.toNatClampNeg⟩]) cells slots → T'.heap = h' → Wr h h' a j.toNatClampNeg v → own_Go p e below s Q K N (T'.setTop (mkF m pc' Ls rest))) : own_Go p e below s Q K N (T.setTop (mkF m pc Ls (v :: .int j :: .ref a :: rest))) := by
  subst hp
  obtain ⟨T', h', X', e', W', st⟩ := stR X hx hZ eT A hj hty F (g := mkF m pc Ls (v :: .int j :: .ref a :: rest)) rfl rfl hd
  exact own_step st (k T' h' X' e' W')
theorem own_iaload (X : Stand p l e R s m args below meth c T locs cells slots) (hx : p.tables.exec = Jvm.exec) {Z : State} {h : Heap} (hZ : Z.Warmed39 s.vm) (eT : T.heap = h) {a : Addr} {cl : Cell} (A : Arr Z h a cl .int) {j : Int32} {v : Value} (hj : ¬ (j < 0 ∨ cl.slots.size ≤ j.toNatClampNeg)) (hv : cl.slots[j.toNatClampNeg]? = some v) {pc : Nat} (pc' : Nat) {Ls : Array Slot} {rest : List Value} (hd : decode c.code pc = .ok (.iaload, 1)) (hp : pc + 1 = pc') (G : own_Go p e below s Q K N (T.setTop (mkF m pc' Ls (v :: rest)))) : own_Go p e below s Q K N (T.setTop (mkF m pc Ls (.int j :: .ref a :: rest))) := by
  subst hp eT
  exact own_step (X.iaload hx (j := j) (v := v) A.1 (State.isArrayOf_alike hZ.alike A.2.1) A.2.2 hj hv (g := mkF m pc Ls (.int j :: .ref a :: rest)) rfl rfl hd) G
theorem own_caload (X : Stand p l e R s m args below meth c T locs cells slots) (hx : p.tables.exec = Jvm.exec) {Z : State} {h : Heap} (hZ : Z.Warmed39 s.vm) (eT : T.heap = h) {a : Addr} {cl : Cell} (A : Arr Z h a cl .char) {j : Int32} {v : Value} (hj : ¬ (j < 0 ∨ cl.slots.size ≤ j.toNatClampNeg)) (hv : cl.slots[j.toNatClampNeg]? = some v) {pc : Nat} (pc' : Nat) {Ls : Array Slot} {rest : List Value} (hd : decode c.code pc = .ok (.caload, 1)) (hp : pc + 1 = pc') (G : own_Go p e below s Q K N (T.setTop (mkF m pc' Ls (v :: rest)))) : own_Go p e below s Q K N (T.setTop (mkF m pc Ls (.int j :: .ref a :: rest))) := by
  subst hp eT
  exact own_step (X.caload hx (j := j) (v := v) A.1 (State.isArrayOf_alike hZ.alike A.2.1) A.2.2 hj hv (g := mkF m pc Ls (.int j :: .ref a :: rest)) rfl rfl hd) G
theorem own_laload (X : Stand p l e R s m args below meth c T locs cells slots) (hx : p.tables.exec = Jvm.exec) {Z : State} {h : Heap} (hZ : Z.Warmed39 s.vm) (eT : T.heap = h) {a : Addr} {cl : Cell} (A : Arr Z h a cl .long) {j : Int32} {v : Value} (hj : ¬ (j < 0 ∨ cl.slots.size ≤ j.toNatClampNeg)) (hv : cl.slots[j.toNatClampNeg]? = some v) {pc : Nat} (pc' : Nat) {Ls : Array Slot} {rest : List Value} (hd : decode c.code pc = .ok (.laload, 1)) (hp : pc + 1 = pc') (G : own_Go p e below s Q K N (T.setTop (mkF m pc' Ls (v :: rest)))) : own_Go p e below s Q K N (T.setTop (mkF m pc Ls (.int j :: .ref a :: rest))) := by
  subst hp eT
  exact own_step (X.laload hx (j := j) (v := v) A.1 (State.isArrayOf_alike hZ.alike A.2.1) A.2.2 hj hv (g := mkF m pc Ls (.int j :: .ref a :: rest)) rfl rfl hd) G
theorem own_baloadB (X : Stand p l e R s m args below meth c T locs cells slots) (hx : p.tables.exec = Jvm.exec) {Z : State} {h : Heap} (hZ : Z.Warmed39 s.vm) (eT : T.heap = h) {a : Addr} {cl : Cell} (A : Arr Z h a cl .byte) {j : Int32} {v : Value} (hj : ¬ (j < 0 ∨ cl.slots.size ≤ j.toNatClampNeg)) (hv : cl.slots[j.toNatClampNeg]? = some v) {pc : Nat} (pc' : Nat) {Ls : Array Slot} {rest : List Value} (hd : decode c.code pc = .ok (.baload, 1)) (hp : pc + 1 = pc') (G : own_Go p e below s Q K N (T.setTop (mkF m pc' Ls (v :: rest)))) : own_Go p e below s Q K N (T.setTop (mkF m pc Ls (.int j :: .ref a :: rest))) := by
  subst hp eT
  exact own_step (X.baloadBytes hx (j := j) (v := v) A.1 (State.isArrayOf_alike hZ.alike A.2.1) A.2.2 hj hv (g := mkF m pc Ls (.int j :: .ref a :: rest)) rfl rfl hd) G
theorem own_baloadZ (X : Stand p l e R s m args below meth c T locs cells slots) (hx : p.tables.exec = Jvm.exec) {Z : State} {h : Heap} (hZ : Z.Warmed39 s.vm) (eT : T.heap = h) {a : Addr} {cl : Cell} (A : Arr Z h a cl .boolean) {j : Int32} {v : Value} (hj : ¬ (j < 0 ∨ cl.slots.size ≤ j.toNatClampNeg)) (hv : cl.slots[j.toNatClampNeg]? = some v) {pc : Nat} (pc' : Nat) {Ls : Array Slot} {rest : List Value} (hd : decode c.code pc = .ok (.baload, 1)) (hp : pc + 1 = pc') (G : own_Go p e below s Q K N (T.setTop (mkF m pc' Ls (v :: rest)))) : own_Go p e below s Q K N (T.setTop (mkF m pc Ls (.int j :: .ref a :: rest))) := by
  subst hp eT
  exact own_step (X.baloadBooleans hx (j := j) (v := v) A.1 (State.isArrayOf_alike hZ.alike A.2.1) A.2.2 hj hv (g := mkF m pc Ls (.int j :: .ref a :: rest)) rfl rfl hd) G
theorem own_aaload (X : Stand p l e R s m args below meth c T locs cells slots) (hx : p.tables.exec = Jvm.exec) {Z : State} {h : Heap} (hZ : Z.Warmed39 s.vm) (eT : T.heap = h) {a : Addr} {cl : Cell} {ty : FieldType} (hty : ty.isReference = true) (A : Arr Z h a cl ty) {j : Int32} {v : Value} (hj : ¬ (j < 0 ∨ cl.slots.size ≤ j.toNatClampNeg)) (hv : cl.slots[j.toNatClampNeg]? = some v) {pc : Nat} (pc' : Nat) {Ls : Array Slot} {rest : List Value} (hd : decode c.code pc = .ok (.aaload, 1)) (hp : pc + 1 = pc') (G : own_Go p e below s Q K N (T.setTop (mkF m pc' Ls (v :: rest)))) : own_Go p e below s Q K N (T.setTop (mkF m pc Ls (.int j :: .ref a :: rest))) := by
  subst hp eT
  exact own_step (X.aaload hx (j := j) (v := v) A.1 (State.isArrayOf_alike hZ.alike A.2.1) hty A.2.2 hj hv (g := mkF m pc Ls (.int j :: .ref a :: rest)) rfl rfl hd) G
theorem own_arraylength (X : Stand p l e R s m args below meth c T locs cells slots) (hx : p.tables.exec = Jvm.exec) {Z : State} {h : Heap} (hZ : Z.Warmed39 s.vm) (eT : T.heap = h) {a : Addr} {cl : Cell} {ty : FieldType} (A : Arr Z h a cl ty) {z : Int32} (hz : cl.slots.size = z.toNatClampNeg) (h0 : ¬ z < 0) {pc : Nat} (pc' : Nat) {Ls : Array Slot} {rest : List Value} (hd : decode c.code pc = .ok (.arraylength, 1)) (hp : pc + 1 = pc') (G : own_Go p e below s Q K N (T.setTop (mkF m pc' Ls (.int z :: rest)))) : own_Go p e below s Q K N (T.setTop (mkF m pc Ls (.ref a :: rest))) := by
  subst hp eT
  refine own_step (X.arraylength hx A.1 (State.isArrayOf_alike hZ.alike A.2.1) (g := mkF m pc Ls (.ref a :: rest)) rfl rfl hd) ?_
  rw [len_of hz h0]
  exact G
theorem own_initO (X : Stand p l e R s m args below meth c T locs cells slots) (hx : p.tables.exec = Jvm.exec) {Z : State} {a0 : Array Value} {h : Heap} (hZ : Z.Warmed39 s.vm) {own : String} (hown : s.vm.findClass own = some m.cls) {idx : Nat} (w1 : (Jvm.Cond.methodLink own idx Lib.objectInit).before a0 Z = true) (w2 : (Jvm.Cond.instanceMethod Lib.objectInit).before a0 Z = true) (w3 : (Jvm.Cond.code Lib.objectInit ⟨#[0xb1]⟩ 1 none).before a0 Z = true) (eT : T.heap = h) {a : Addr} {pc : Nat} (pc' : Nat) {Ls : Array Slot} {rest : List Value} (hsize : Ls.size = c.maxLocals) (hd : decode c.code pc = .ok (.invokespecial idx, 3)) (hp : pc + 3 = pc') (hf : 1 ≤ R.frames) (W : Nat) (hW : (rest.map fun v => v.category).sum = W) (hl : W + 12 ≤ R.locals) (k : ∀ T', Stand p l e R s m args below meth c T' locs cells slots → T'.heap = h → own_Go p e below s Q K N (T'.setTop (mkF m pc' Ls rest))) : own_Go p e below s Q K N (T.setTop (mkF m pc Ls (.ref a :: rest))) := by
  subst hp
  obtain ⟨T', X', e', st⟩ := initO X hx hZ hown w1 w2 w3 eT (g := mkF m pc Ls (.ref a :: rest)) rfl hsize rfl hd hf (W := W) (by show 2 * 0 + _ ≤ _; omega) hl
  exact own_step st (k T' X' e')
theorem own_callS (X : Stand p l e R s m args below meth c T locs cells slots) (hx : p.tables.exec = Jvm.exec) {Z : State} {a0 : Array Value} {h : Heap} (hZ : Z.Warmed39 s.vm) {own : String} (hown : s.vm.findClass own = some m.cls) {index : Nat} {y : MethodName} {bytes : ByteArray} {maxL : Nat} {ret : Option FieldType} {rm : Room} {as' : Array Value} {Q' : Option Value → Heap → List Loc → Prop} (w1 : (Jvm.Cond.methodLink own index y).before a0 Z = true) (w2 : (Jvm.Cond.static y).before a0 Z = true) (hy : y.cls ≠ "java/lang/invoke/MethodHandle" ∧ y.cls ≠ "java/lang/invoke/VarHandle") (hM : MetFree l y (head1 [Jvm.Cond.code y bytes maxL ret] rm) (fun a U => a = as' ∧ Z.Warmed39 U.vm ∧ U.heap = h) (fun _ _ _ _ _ => True) (fun _ U o U' => ∃ v L, o = .returned v ∧ Q' v U'.heap L ∧ FrameEnd U o U' L rm.cells rm.slots)) (wc : (Jvm.Cond.code y bytes maxL ret).before a0 Z = true) (wz : (Jvm.Cond.initialized y.cls).before a0 Z = true) (eT : T.heap = h) (W : Nat) (hf : rm.frames + 1 ≤ R.frames) (hl : W + (maxL + 11) + rm.locals ≤ R.locals) (hc : cells + rm.cells ≤ R.cells) (hs : slots + rm.slots ≤ R.slots) (argsL rest : List Value) (has : argsL.toArray = as') {ps : List FieldType} {rr : Option FieldType} (hpd : parseMethodDescriptor y.desc = some ⟨ps, rr⟩) (hlen : argsL.length = ps.length) {pc : Nat} (pc' : Nat) {Ls : Array Slot} {stk : List Value} (hstk : stk = argsL.reverse ++ rest) (hsize : Ls.size = c.maxLocals) (hW : (rest.map fun v => v.category).sum = W) (hd : decode c.code pc = .ok (.invokestatic index, 3)) (hp : pc + 3 = pc') (k : ∀ T' v L, Stand p l e R s m args below meth c T' (locs ++ L) (cells + rm.cells) (slots + rm.slots) → Q' v T'.heap L → own_Go p e below s Q K N (T'.setTop (mkF m pc' Ls (v.toList ++ rest)))) : own_Go p e below s Q K N (T.setTop (mkF m pc Ls stk)) := by
  subst hp hstk
  obtain ⟨v', _, ⟨T', L', k', n'⟩, -, X', ⟨Lc', hQ', l', y', z'⟩, st'⟩ := Jvm.LawKit.callS X hx (y := y) hown (mvT hZ w1) (mvT hZ w2) (mvT hZ wz) (mvT hZ wc) hy (backOf (W := W) hM hZ wc wz hf hl) (g := mkF m pc Ls (argsL.reverse ++ rest)) rfl hsize (argsL := argsL) (rest := rest) (lenOf hpd hlen) rfl (by show 2 * 0 + _ ≤ _; omega) hd (fun _ _ => ⟨has, eT, hc, hs⟩)
  dsimp only [Pt.U, Pt.locs, Pt.cells, Pt.slots] at X' l' y' z' st' hQ'
  subst l' y' z'
  exact own_step (fun t kk => st' _ kk) (k T' v' _ X' hQ')
theorem own_callI (X : Stand p l e R s m args below meth c T locs cells slots) (hx : p.tables.exec = Jvm.exec) {Z : State} {a0 : Array Value} {h : Heap} (hZ : Z.Warmed39 s.vm) {own : String} (hown : s.vm.findClass own = some m.cls) {index : Nat} {y : MethodName} {bytes : ByteArray} {maxL : Nat} {rm : Room} {as' : Array Value} {Q' : Option Value → Heap → List Loc → Prop} (hy1 : y.name = "<init>") (w1 : (Jvm.Cond.methodLink own index y).before a0 Z = true) (w2 : (Jvm.Cond.instanceMethod y).before a0 Z = true) (hy : y.cls ≠ "java/lang/invoke/MethodHandle" ∧ y.cls ≠ "java/lang/invoke/VarHandle") (hM : MetFree l y (head1 [Jvm.Cond.code y bytes maxL none] rm) (fun a U => a = as' ∧ Z.Warmed39 U.vm ∧ U.heap = h) (fun _ _ _ _ _ => True) (fun _ U o U' => ∃ v L, o = .returned v ∧ Q' v U'.heap L ∧ FrameEnd U o U' L rm.cells rm.slots)) (wc : (Jvm.Cond.code y bytes maxL none).before a0 Z = true) (wz : (Jvm.Cond.initialized y.cls).before a0 Z = true) (eT : T.heap = h) (W : Nat) (hf : rm.frames + 1 ≤ R.frames) (hl : W + (maxL + 11) + rm.locals ≤ R.locals) (hc : cells + rm.cells ≤ R.cells) (hs : slots + rm.slots ≤ R.slots) (a : Addr) (argsL rest : List Value) (has : (.ref a :: argsL).toArray = as') {ps : List FieldType} {rr : Option FieldType} (hpd : parseMethodDescriptor y.desc = some ⟨ps, rr⟩) (hlen : argsL.length = ps.length) {pc : Nat} (pc' : Nat) {Ls : Array Slot} {stk : List Value} (hstk : stk = argsL.reverse ++ .ref a :: rest) (hsize : Ls.size = c.maxLocals) (hW : (rest.map fun v => v.category).sum = W) (hd : decode c.code pc = .ok (.invokespecial index, 3)) (hp : pc + 3 = pc') (k : ∀ T' v L, Stand p l e R s m args below meth c T' (locs ++ L) (cells + rm.cells) (slots + rm.slots) → Q' v T'.heap L → own_Go p e below s Q K N (T'.setTop (mkF m pc' Ls (v.toList ++ rest)))) : own_Go p e below s Q K N (T.setTop (mkF m pc Ls stk)) := by
  subst hp hstk
  obtain ⟨v', _, ⟨T', L', k', n'⟩, -, X', ⟨Lc', hQ', l', y', z'⟩, st'⟩ := X.specialBack hx (y := y) hy1 hown (mvT hZ w1) (mvT hZ w2) (mvT hZ wc) hy (backOf (W := W) hM hZ wc wz hf hl) (g := mkF m pc Ls (argsL.reverse ++ .ref a :: rest)) rfl hsize (Steps.refl _) (a := a) (argsL := argsL) (rest := rest) (lenOf hpd hlen) rfl (by show 2 * 0 + _ ≤ _; omega) hd (fun _ _ => ⟨has, eT, hc, hs⟩)
  dsimp only [Pt.U, Pt.locs, Pt.cells, Pt.slots] at X' l' y' z' st' hQ'
  subst l' y' z'
  exact own_step (fun t kk => st'.trans kk) (k T' v' _ X' hQ')
theorem own_callV (X : Stand p l e R s m args below meth c T locs cells slots) (hx : p.tables.exec = Jvm.exec) {Z : State} {a0 : Array Value} {h : Heap} (hZ : Z.Warmed39 s.vm) {own : String} (hown : s.vm.findClass own = some m.cls) {C : String} {index : Nat} {y z : MethodName} {bytes : ByteArray} {maxL : Nat} {ret : Option FieldType} {rm : Room} {as' : Array Value} {Q' : Option Value → Heap → List Loc → Prop} (w1 : (Jvm.Cond.methodLink own index y).before a0 Z = true) (w2 : (Jvm.Cond.declares y).before a0 Z = true) (hnf : NotFace s y) (w3 : (Jvm.Cond.selects C y z).before a0 Z = true) (w4 : (Jvm.Cond.instanceMethod z).before a0 Z = true) (hy : y.cls ≠ "java/lang/invoke/MethodHandle" ∧ y.cls ≠ "java/lang/invoke/VarHandle") (hM : MetFree l z (head1 [Jvm.Cond.code z bytes maxL ret] rm) (fun a U => a = as' ∧ Z.Warmed39 U.vm ∧ U.heap = h) (fun _ _ _ _ _ => True) (fun _ U o U' => ∃ v L, o = .returned v ∧ Q' v U'.heap L ∧ FrameEnd U o U' L rm.cells rm.slots)) (wc : (Jvm.Cond.code z bytes maxL ret).before a0 Z = true) (wz : (Jvm.Cond.initialized z.cls).before a0 Z = true) (eT : T.heap = h) (W : Nat) (hf : rm.frames + 1 ≤ R.frames) (hl : W + (maxL + 11) + rm.locals ≤ R.locals) (hc : cells + rm.cells ≤ R.cells) (hs : slots + rm.slots ≤ R.slots) {a : Addr} (E : Exa Z h a C) (argsL rest : List Value) (has : (.ref a :: argsL).toArray = as') {ps : List FieldType} {rr : Option FieldType} (hpd : parseMethodDescriptor y.desc = some ⟨ps, rr⟩) (hlen : argsL.length = ps.length) {pc : Nat} (pc' : Nat) {Ls : Array Slot} {stk : List Value} (hstk : stk = argsL.reverse ++ .ref a :: rest) (hsize : Ls.size = c.maxLocals) (hW : (rest.map fun v => v.category).sum = W) (hd : decode c.code pc = .ok (.invokevirtual index, 3)) (hp : pc + 3 = pc') (k : ∀ T' v L, Stand p l e R s m args below meth c T' (locs ++ L) (cells + rm.cells) (slots + rm.slots) → Q' v T'.heap L → own_Go p e below s Q K N (T'.setTop (mkF m pc' Ls (v.toList ++ rest)))) : own_Go p e below s Q K N (T.setTop (mkF m pc Ls stk)) := by
  subst hp hstk
  obtain ⟨cq, kq, qa, qb, qc⟩ := isOf hZ eT E
  obtain ⟨v', _, ⟨T', L', k', n'⟩, -, X', ⟨Lc', hQ', l', y', z'⟩, st'⟩ := X.virtualBack hx (y := y) (z := z) hown (mvT hZ w1) (mvT hZ w2) hnf (mvT hZ w3) (mvT hZ w4) hy (backOf (W := W) hM hZ wc wz hf hl) qa qc (g := mkF m pc Ls (argsL.reverse ++ .ref a :: rest)) rfl hsize (Steps.refl _) (argsL := argsL) (rest := rest) (lenOf hpd hlen) rfl (by show 2 * 0 + _ ≤ _; omega) hd (fun _ _ => ⟨has, eT, hc, hs⟩)
  dsimp only [Pt.U, Pt.locs, Pt.cells, Pt.slots] at X' l' y' z' st' hQ'
  subst l' y' z'
  exact own_step (fun t kk => st'.trans kk) (k T' v' _ X' hQ')
theorem own_callU (X : Stand p l e R s m args below meth c T locs cells slots) (hx : p.tables.exec = Jvm.exec) {Z : State} {a0 : Array Value} {h : Heap} (hZ : Z.Warmed39 s.vm) {own : String} (hown : s.vm.findClass own = some m.cls) {C owner : String} {index : Nat} {y z : MethodName} {bytes : ByteArray} {maxL : Nat} {ret : Option FieldType} {rm : Room} {as' : Array Value} {Q' : Option Value → Heap → List Loc → Prop} (w1 : (Jvm.Cond.methodLink own index y).before a0 Z = true) (w5 : (Jvm.Cond.sameMethod y.cls owner y.name y.desc).before a0 Z = true) (w2 : (Jvm.Cond.declares ⟨owner, y.name, y.desc⟩).before a0 Z = true) (ho : owner ≠ "java/lang/invoke/MethodHandle" ∧ owner ≠ "java/lang/invoke/VarHandle") (w3 : (Jvm.Cond.selects C y z).before a0 Z = true) (w4 : (Jvm.Cond.instanceMethod z).before a0 Z = true) (hM : MetFree l z (head1 [Jvm.Cond.code z bytes maxL ret] rm) (fun a U => a = as' ∧ Z.Warmed39 U.vm ∧ U.heap = h) (fun _ _ _ _ _ => True) (fun _ U o U' => ∃ v L, o = .returned v ∧ Q' v U'.heap L ∧ FrameEnd U o U' L rm.cells rm.slots)) (wc : (Jvm.Cond.code z bytes maxL ret).before a0 Z = true) (wz : (Jvm.Cond.initialized z.cls).before a0 Z = true) (eT : T.heap = h) (W : Nat) (hf : rm.frames + 1 ≤ R.frames) (hl : W + (maxL + 11) + rm.locals ≤ R.locals) (hc : cells + rm.cells ≤ R.cells) (hs : slots + rm.slots ≤ R.slots) {a : Addr} (E : Exa Z h a C) (argsL rest : List Value) (has : (.ref a :: argsL).toArray = as') {ps : List FieldType} {rr : Option FieldType} (hpd : parseMethodDescriptor y.desc = some ⟨ps, rr⟩) (hlen : argsL.length = ps.length) {pc : Nat} (pc' : Nat) {Ls : Array Slot} {stk : List Value} (hstk : stk = argsL.reverse ++ .ref a :: rest) (hsize : Ls.size = c.maxLocals) (hW : (rest.map fun v => v.category).sum = W) (hd : decode c.code pc = .ok (.invokevirtual index, 3)) (hp : pc + 3 = pc') (k : ∀ T' v L, Stand p l e R s m args below meth c T' (locs ++ L) (cells + rm.cells) (slots + rm.slots) → Q' v T'.heap L → own_Go p e below s Q K N (T'.setTop (mkF m pc' Ls (v.toList ++ rest)))) : own_Go p e below s Q K N (T.setTop (mkF m pc Ls stk)) := by
  subst hp hstk
  obtain ⟨cq, kq, qa, qb, qc⟩ := isOf hZ eT E
  obtain ⟨v', _, ⟨T', L', k', n'⟩, -, X', ⟨Lc', hQ', l', y', z'⟩, st'⟩ := X.virtualBackUp hx (owner := owner) (x := y) (y := z) hown (mvT hZ w1) (mvT hZ w5) (mvT hZ w2) ho (mvT hZ w3) (mvT hZ w4) (backOf (W := W) hM hZ wc wz hf hl) qa qc (g := mkF m pc Ls (argsL.reverse ++ .ref a :: rest)) rfl hsize (Steps.refl _) (argsL := argsL) (rest := rest) (lenOf hpd hlen) rfl (by show 2 * 0 + _ ≤ _; omega) hd (fun _ _ => ⟨has, eT, hc, hs⟩)
  dsimp only [Pt.U, Pt.locs, Pt.cells, Pt.slots] at X' l' y' z' st' hQ'
  subst l' y' z'
  exact own_step (fun t kk => st'.trans kk) (k T' v' _ X' hQ')
theorem own_nf {C : String} {y : MethodName} {Z : State} {a0 : Array Value} (hZ : Z.Warmed39 s.vm) (w : (Jvm.Cond.selects C y y).before a0 Z = true) : NotFace s y := notFace_of_selects (args := #[]) (mvT hZ w)
theorem own_selfsel {K : String} {y y' : MethodName} (w : (Jvm.Cond.selects K y' y').before args s = true) (hK : y'.cls = y.cls) (hp : s.PrivateAt y) (hi : (Jvm.Cond.instanceMethod y).before args s = true) (hy : y.cls ≠ "java/lang/invoke/MethodHandle" ∧ y.cls ≠ "java/lang/invoke/VarHandle") : (Jvm.Cond.selects y.cls y y).before args s = true := by
  obtain ⟨c2, r2, m2, -, -, q3, -, kP, hkP, hkPi⟩ := Cond.selects_spec w
  exact selects_self_of_private (by rw [← hK]; exact findClass_of_methodNamed q3) hkP hkPi hp hi hy
theorem own_callP (X : Stand p l e R s m args below meth c T locs cells slots) (hx : p.tables.exec = Jvm.exec) {Z : State} {a0 : Array Value} {h : Heap} (hZ : Z.Warmed39 s.vm) {own : String} (hown : s.vm.findClass own = some m.cls) {C K' : String} {index : Nat} {y y' : MethodName} {bytes : ByteArray} {maxL : Nat} {ret : Option FieldType} {rm : Room} {as' : Array Value} {Q' : Option Value → Heap → List Loc → Prop} (w1 : (Jvm.Cond.methodLink own index y).before a0 Z = true) (w2 : (Jvm.Cond.instanceMethod y).before a0 Z = true) (w3 : (Jvm.Cond.selects K' y' y').before a0 Z = true) (hK : y'.cls = y.cls) (w4 : (Jvm.Cond.privateMethod y).before a0 Z = true) (hy : y.cls ≠ "java/lang/invoke/MethodHandle" ∧ y.cls ≠ "java/lang/invoke/VarHandle") (hM : MetFree l y (head1 [Jvm.Cond.code y bytes maxL ret] rm) (fun a U => a = as' ∧ Z.Warmed39 U.vm ∧ U.heap = h) (fun _ _ _ _ _ => True) (fun _ U o U' => ∃ v L, o = .returned v ∧ Q' v U'.heap L ∧ FrameEnd U o U' L rm.cells rm.slots)) (wc : (Jvm.Cond.code y bytes maxL ret).before a0 Z = true) (wz : (Jvm.Cond.initialized y.cls).before a0 Z = true) (eT : T.heap = h) (W : Nat) (hf : rm.frames + 1 ≤ R.frames) (hl : W + (maxL + 11) + rm.locals ≤ R.locals) (hc : cells + rm.cells ≤ R.cells) (hs : slots + rm.slots ≤ R.slots) {a : Addr} (E : Exa Z h a C) (argsL rest : List Value) (has : (.ref a :: argsL).toArray = as') {ps : List FieldType} {rr : Option FieldType} (hpd : parseMethodDescriptor y.desc = some ⟨ps, rr⟩) (hlen : argsL.length = ps.length) {pc : Nat} (pc' : Nat) {Ls : Array Slot} {stk : List Value} (hstk : stk = argsL.reverse ++ .ref a :: rest) (hsize : Ls.size = c.maxLocals) (hW : (rest.map fun v => v.category).sum = W) (hd : decode c.code pc = .ok (.invokevirtual index, 3)) (hp : pc + 3 = pc') (k : ∀ T' v L, Stand p l e R s m args below meth c T' (locs ++ L) (cells + rm.cells) (slots + rm.slots) → Q' v T'.heap L → own_Go p e below s Q K N (T'.setTop (mkF m pc' Ls (v.toList ++ rest)))) : own_Go p e below s Q K N (T.setTop (mkF m pc Ls stk)) := by
  subst hp hstk
  obtain ⟨cq, qa, qb⟩ := E.cell
  have hpr := Cond.privateMethod_at (mvP hZ w4 (args := args))
  obtain ⟨v', _, ⟨T', L', k', n'⟩, -, X', ⟨Lc', hQ', l', y', z'⟩, st'⟩ := X.privateBack hx (y := y) hown (mvT hZ w1) (mvT hZ w2) (own_selfsel (mvT hZ w3) hK hpr (mvT hZ w2) hy) hpr (mvT hZ wc) hy (backOf (W := W) hM hZ wc wz hf hl) (g := mkF m pc Ls (argsL.reverse ++ .ref a :: rest)) rfl hsize (Steps.refl _) (a := a) (by rw [eT]; exact qa) qb (argsL := argsL) (rest := rest) (lenOf hpd hlen) rfl (by show 2 * 0 + _ ≤ _; omega) hd (fun _ _ => ⟨has, eT, hc, hs⟩)
  dsimp only [Pt.U, Pt.locs, Pt.cells, Pt.slots] at X' l' y' z' st' hQ'
  subst l' y' z'
  exact own_step (fun t kk => st'.trans kk) (k T' v' _ X' hQ')
theorem own_cpA (X : Stand p l e R s m args below meth c T locs cells slots) (hx : p.tables.exec = Jvm.exec) {Z : State} {a0 : Array Value} {h : Heap} (hZ : Z.Warmed39 s.vm) {own : String} (hown : s.vm.findClass own = some m.cls) {index : Nat} (w1 : (Jvm.Cond.methodLink own index Jvm.Stand.acN).before a0 Z = true) (w2 : (Jvm.Cond.native Jvm.Stand.acN).before a0 Z = true) (w3 : (Jvm.Cond.static Jvm.Stand.acN).before a0 Z = true) (w4 : (Jvm.Cond.initialized "java/lang/System").before a0 Z = true) (eT : T.heap = h)
    {a b : Addr} {k k' : ClassId} {ty ty' : FieldType} {z z' sp dp nn : Int32} {vs vd : List Value} {dv dd : Value} (us : List Value) (A : Arv Z h a k ty z vs dv) (B : Arv Z h b k' ty' z' vd dd) (hty : (ty = ty' ∧ refKind ty = false) ∨ (refKind ty = true ∧ refKind ty' = true ∧ StoL Z h b us))
    (h1 : ¬ sp < 0) (h2 : ¬ dp < 0) (h3 : ¬ nn < 0) (h4 : sp.toNatClampNeg + nn.toNatClampNeg ≤ z.toNatClampNeg) (h5 : dp.toNatClampNeg + nn.toNatClampNeg ≤ z'.toNatClampNeg) (hus : us = (List.range nn.toNatClampNeg).map fun i => vs.getD (sp.toNatClampNeg + i) dv) (hl : dp.toNatClampNeg + nn.toNatClampNeg ≤ vd.length) {n0 : Nat} (Nf : Fr n0 locs) (ge : n0 ≤ b)
    {pc : Nat} (pc' : Nat) {Ls : Array Slot} {rest : List Value} (hsize : Ls.size = c.maxLocals) (hd : decode c.code pc = .ok (.invokestatic index, 3)) (hp : pc + 3 = pc') (hf : 1 ≤ R.frames) (W : Nat) (hW : (rest.map fun v => v.category).sum = W) (hlo : W + (nativeFrameWords "java/lang/System" "arraycopy" 5 + 11) ≤ R.locals)
    (kk : ∀ T' h' L, Stand p l e R s m args below meth c T' L cells slots → T'.heap = h' → Fr n0 L → Keep h h' [b] → Arv Z h' b k' ty' z' (vd.take dp.toNatClampNeg ++ us ++ vd.drop (dp.toNatClampNeg + nn.toNatClampNeg)) dd → own_Go p e below s Q K N (T'.setTop (mkF m pc' Ls rest))) : own_Go p e below s Q K N (T.setTop (mkF m pc Ls (.int nn :: .int dp :: .ref b :: .int sp :: .ref a :: rest))) := by
  subst hp
  obtain ⟨T', h', L', X', e', N', K', B', st⟩ := cpA X hx hZ hown w1 w2 w3 w4 eT A B hty h1 h2 h3 h4 h5 hus hl Nf ge (g := mkF m pc Ls (.int nn :: .int dp :: .ref b :: .int sp :: .ref a :: rest)) rfl hsize rfl hd hf (W := W) (by show 2 * 0 + _ ≤ _; omega) hlo
  exact own_step st (kk T' h' L' X' e' N' K' B')
theorem own_plainE {Z : State} {h : Heap} {a : Addr} {C : String} (E : Exa Z h a C) : ∀ cell : Cell, h[a]? = some cell → cell.vm.isStatics = false := fun cell hc => by
  obtain ⟨c', k', h1, -, -, h2, -⟩ := E
  cases h1.symm.trans hc; exact h2
theorem own_plainA {Z : State} {h : Heap} {a : Addr} {k : ClassId} {ty : FieldType} {z : Int32} {vs : List Value} {dv : Value} (V : Arv Z h a k ty z vs dv) : ∀ cell : Cell, h[a]? = some cell → cell.vm.isStatics = false := fun cell hc => by
  obtain ⟨c', A, -⟩ := V
  cases A.1.symm.trans hc; exact A.plain
theorem own_castY (X : Stand p l e R s m args below meth c T locs cells slots) (hx : p.tables.exec = Jvm.exec) {Z : State} {a0 : Array Value} {h : Heap} (hZ : Z.Warmed39 s.vm) {own : String} (hown : s.vm.findClass own = some m.cls) {K' : String} {index : Nat} (w : (Jvm.Cond.classLink own index K').before a0 Z = true) (eT : T.heap = h) {a : Addr} (F : Ins Z h a K' true) {pc : Nat} (pc' : Nat) {Ls : Array Slot} {rest : List Value} (hd : decode c.code pc = .ok (.checkcast index, 3)) (hp : pc + 3 = pc') (k : ∀ T', Stand p l e R s m args below meth c T' locs cells slots → T'.heap = h → own_Go p e below s Q K N (T'.setTop (mkF m pc' Ls (.ref a :: rest)))) : own_Go p e below s Q K N (T.setTop (mkF m pc Ls (.ref a :: rest))) := by
  subst hp
  obtain ⟨T', X', e', st⟩ := castY X hx hZ hown w eT F (g := mkF m pc Ls (.ref a :: rest)) rfl rfl hd
  exact own_step st (k T' X' e')
theorem own_instY (X : Stand p l e R s m args below meth c T locs cells slots) (hx : p.tables.exec = Jvm.exec) {Z : State} {a0 : Array Value} {h : Heap} (hZ : Z.Warmed39 s.vm) {own : String} (hown : s.vm.findClass own = some m.cls) {K' : String} {index : Nat} (w : (Jvm.Cond.classLink own index K').before a0 Z = true) (eT : T.heap = h) {a : Addr} (F : Ins Z h a K' true) {pc : Nat} (pc' : Nat) {Ls : Array Slot} {rest : List Value} (hd : decode c.code pc = .ok (.instanceof index, 3)) (hp : pc + 3 = pc') (k : ∀ T', Stand p l e R s m args below meth c T' locs cells slots → T'.heap = h → own_Go p e below s Q K N (T'.setTop (mkF m pc' Ls (.int 1 :: rest)))) : own_Go p e below s Q K N (T.setTop (mkF m pc Ls (.ref a :: rest))) := by
  subst hp
  obtain ⟨T', X', e', st⟩ := instY X hx hZ hown w eT F (g := mkF m pc Ls (.ref a :: rest)) rfl rfl hd
  exact own_step st (k T' X' e')
theorem own_instNo (X : Stand p l e R s m args below meth c T locs cells slots) (hx : p.tables.exec = Jvm.exec) {Z : State} {a0 : Array Value} {h : Heap} (hZ : Z.Warmed39 s.vm) {own : String} (hown : s.vm.findClass own = some m.cls) {K' : String} {index : Nat} (w : (Jvm.Cond.classLink own index K').before a0 Z = true) (eT : T.heap = h) {a : Addr} {C : String} (E : Exa Z h a C) (F : ∃ c t, Z.vm.findClass C = some c ∧ Z.vm.findClass K' = some t ∧ Z.vm.assignable c t = false) {pc : Nat} (pc' : Nat) {Ls : Array Slot} {rest : List Value} (hd : decode c.code pc = .ok (.instanceof index, 3)) (hp : pc + 3 = pc') (k : ∀ T', Stand p l e R s m args below meth c T' locs cells slots → T'.heap = h → own_Go p e below s Q K N (T'.setTop (mkF m pc' Ls (.int 0 :: rest)))) : own_Go p e below s Q K N (T.setTop (mkF m pc Ls (.ref a :: rest))) := by
  subst hp
  obtain ⟨T', X', e', st⟩ := instNo X hx hZ hown w eT E F (g := mkF m pc Ls (.ref a :: rest)) rfl rfl hd
  exact own_step st (k T' X' e')
theorem own_instNull (X : Stand p l e R s m args below meth c T locs cells slots) (hx : p.tables.exec = Jvm.exec) {index : Nat} {pc : Nat} (pc' : Nat) {Ls : Array Slot} {rest : List Value} (hd : decode c.code pc = .ok (.instanceof index, 3)) (hp : pc + 3 = pc') (G : own_Go p e below s Q K N (T.setTop (mkF m pc' Ls (.int 0 :: rest)))) : own_Go p e below s Q K N (T.setTop (mkF m pc Ls (.null :: rest))) := by
  subst hp
  exact own_step (X.instanceofNull hx (g := mkF m pc Ls (.null :: rest)) rfl rfl hd) G
theorem own_irr (x : Int32) : ¬ x < x := by rw [Int32.lt_iff_toInt_lt]; omega
theorem own_fldV {Z : State} {h : Heap} {a : Addr} {C n d : String} {v w : Value} (F : Fld Z h a C n d v) (q : v = w) : Fld Z h a C n d w := q ▸ F
theorem own_arvL {Z : State} {h : Heap} {a : Addr} {k : ClassId} {ty : FieldType} {z : Int32} {vs ws : List Value} {dv : Value} (F : Arv Z h a k ty z vs dv) (q : ws = vs) : Arv Z h a k ty z ws dv := q ▸ F
end Own
theorem own_sub1 (n : Int64) (h : 1 ≤ n.toInt) : (n - 1).toInt = n.toInt - 1 := by
  have a := c_lsub n 1
  have b := rng64 (n - 1)
  have d := rng64 n
  have h1 : (1 : Int64).toInt = 1 := rfl
  omega
theorem own_mul (m : Int64) (k : Int32) (h0 : 0 ≤ m.toInt) (h1 : m.toInt ≤ 9007199254740991) (h2 : 1 ≤ k.toInt) (h3 : k.toInt ≤ 100) :
    (m * k.toInt64).toInt = m.toInt * k.toInt ∧ 0 ≤ m.toInt * k.toInt := by
  have a := c_lmul m k.toInt64
  have b := rng64 (m * k.toInt64)
  rw [c_i2l] at a
  have p0 : 0 ≤ m.toInt * k.toInt := Int.mul_nonneg h0 (by omega)
  have p1 : m.toInt * k.toInt ≤ 9007199254740991 * 100 := Int.mul_le_mul h1 h3 (by omega) (by omega)
  generalize m.toInt * k.toInt = z at *
  omega
theorem own_k (k : Int32) (h2 : 1 ≤ k.toInt) : k.toInt64 ≠ 0 ∧ k.toInt64 ≠ -1 := by
  constructor <;> intro e
  · have := congrArg Int64.toInt e; rw [c_i2l] at this; have h : (0 : Int64).toInt = 0 := rfl; omega
  · have := congrArg Int64.toInt e; rw [c_i2l] at this; have h : (-1 : Int64).toInt = -1 := rfl; omega
theorem own_rem (m : Int64) (k : Int32) (h0 : 0 ≤ m.toInt) (h1 : m.toInt ≤ 9007199254740991) (h2 : 1 ≤ k.toInt) (h3 : k.toInt ≤ 100) : (m * k.toInt64) % k.toInt64 = 0 := by
  apply Int64.toInt_inj.mp
  rw [Int64.toInt_mod, (own_mul m k h0 h1 h2 h3).1, c_i2l, Int.mul_tmod_left]
  rfl
theorem own_div (m : Int64) (k : Int32) (h0 : 0 ≤ m.toInt) (h1 : m.toInt ≤ 9007199254740991) (h2 : 1 ≤ k.toInt) (h3 : k.toInt ≤ 100) : (m * k.toInt64) / k.toInt64 = m := by
  apply Int64.toInt_inj.mp
  rw [Int64.toInt_div_of_ne_right _ _ (own_k k h2).2, (own_mul m k h0 h1 h2 h3).1, c_i2l, Int.mul_tdiv_cancel _ (by omega)]
theorem own_next (n z : Int64) : ((n - 1) - 1) * z + z = (n - 1) * z := by
  rw [show ((n - 1) - 1) * z = (n - 1) * z - 1 * z from Int64.sub_mul, Int64.one_mul, Int64.sub_add_cancel]
theorem own_zero (n z : Int64) (h : 1 ≤ n.toInt) (h' : ¬ (1 : Int64) < n) : (n - 1) * z = 0 := by
  have e : n = 1 := by
    apply Int64.toInt_inj.mp
    rw [Int64.lt_iff_toInt_lt] at h'
    have h1 : (1 : Int64).toInt = 1 := rfl
    omega
  subst e
  simp
theorem own_neg (n : Int64) (k : Int32) (h0 : 1 ≤ n.toInt) (h1 : n.toInt ≤ 9007199254740991) (h2 : 1 ≤ k.toInt) (h3 : k.toInt ≤ 100) : ¬ ((n - 1) * k.toInt64 < 0) := by
  have a := own_sub1 n h0
  have b := own_mul (n - 1) k (by omega) (by omega) h2 h3
  rw [Int64.lt_iff_toInt_lt, b.1]
  have h : (0 : Int64).toInt = 0 := rfl
  omega
theorem own_num (p : Int64) : 1 ≤ (((p &&& (9223372036854775807 : Int64)) % (9007199254740991 : Int64)) + (1 : Int64)).toInt ∧ (((p &&& (9223372036854775807 : Int64)) % (9007199254740991 : Int64)) + (1 : Int64)).toInt ≤ 9007199254740991 := by
  have a := c_maskL p 9223372036854775807 63 (by decide) (by decide)
  generalize (p &&& (9223372036854775807 : Int64)) = z at *
  have b : (z % (9007199254740991 : Int64)).toInt = z.toInt % 9007199254740991 := by
    rw [Int64.toInt_mod, show (9007199254740991 : Int64).toInt = 9007199254740991 from rfl]
    exact (tr z.toInt _).1 (by omega)
  have d := c_ladd (z % (9007199254740991 : Int64)) 1
  have r := rng64 ((z % (9007199254740991 : Int64)) + 1)
  have h1 : (1 : Int64).toInt = 1 := rfl
  omega
theorem own_size (p : Int32) : 1 ≤ (((p &&& (2147483647 : Int32)) % (100 : Int32)) + (1 : Int32)).toInt ∧ (((p &&& (2147483647 : Int32)) % (100 : Int32)) + (1 : Int32)).toInt ≤ 100 := by
  have a := c_mask p 2147483647 31 (by decide) (by decide)
  generalize (p &&& (2147483647 : Int32)) = z at *
  have b := (c_irem z 100 100 rfl).1 (by omega)
  have d := c_iadd (z % (100 : Int32)) 1
  have r := rng32 ((z % (100 : Int32)) + 1)
  have h1 : (1 : Int32).toInt = 1 := rfl
  omega
theorem own_nlt {n : Int64} (h : 1 ≤ n.toInt) : ¬ (n < (1 : Int64)) := by
  rw [Int64.lt_iff_toInt_lt]; have h1 : (1 : Int64).toInt = 1 := rfl; omega
theorem own_ngt {n : Int64} (h : n.toInt ≤ 9007199254740991) : ¬ ((9007199254740991 : Int64) < n) := by
  rw [Int64.lt_iff_toInt_lt]; have h1 : (9007199254740991 : Int64).toInt = 9007199254740991 := rfl; omega
theorem own_slt {n : Int32} (h : 1 ≤ n.toInt) : ¬ (n < (1 : Int32)) := by
  rw [Int32.lt_iff_toInt_lt]; have h1 : (1 : Int32).toInt = 1 := rfl; omega
theorem own_sgt {n : Int32} (h : n.toInt ≤ 100) : ¬ ((100 : Int32) < n) := by
  rw [Int32.lt_iff_toInt_lt]; have h1 : (100 : Int32).toInt = 100 := rfl; omega
theorem own_gt1 {n : Int64} (h : (1 : Int64) < n) : 2 ≤ n.toInt := by
  rw [Int64.lt_iff_toInt_lt] at h; have h1 : (1 : Int64).toInt = 1 := rfl; omega
theorem d_jdk_30_method_1_0 : decode jdk_30_method_1_code 0 = .ok (.aload_n 0, 1) := by decide +kernel
theorem d_jdk_30_method_1_1 : decode jdk_30_method_1_code 1 = .ok (.invokespecial 1, 3) := by decide +kernel
theorem d_jdk_30_method_1_4 : decode jdk_30_method_1_code 4 = .ok (.return_, 1) := by decide +kernel
theorem ef_0 (m : MethodId) (x0 : Addr) : entryFrame m #[(.ref x0)] 1 = mkF m 0 #[.val (.ref x0)] [] := by first | (simp [entryFrame, mkF, argsToLocals, Value.category]; done) | rfl
theorem pn_0 : plainName "java/lang/Record" = true := by first | (simp [plainName, overriddenIn]; done) | decide +kernel
def Q_rec (Z : State) (a : Addr) (h0 : Heap) (n0 : Nat) (v : Option Value) (h : Heap) (L : List Loc) : Prop := v = none ∧ Fr n0 L ∧ h = h0
set_option maxRecDepth 65536 in
set_option maxHeartbeats 40000000 in
theorem rm_rec (l : Launch) (Z : State) (a0 : Array Value) (hw : ∀ d ∈ tables_1, d.before a0 Z = true) (ws : List Jvm.Cond) (a : Addr) (h0 : Heap) (n0 : Nat) (Z0 : n0 ≤ h0.size) :
    MetFree l (⟨"java/lang/Record", "<init>", "()V"⟩ : MethodName) (head1 (Jvm.Cond.code (⟨"java/lang/Record", "<init>", "()V"⟩ : MethodName) jdk_30_method_1_code 1 none :: ws) ({ frames := 1, cells := 0, slots := 0, locals := 12 } : Room)) (fun aA U => aA = #[(.ref a)] ∧ Z.Warmed39 U.vm ∧ U.heap = h0) (fun _ _ _ _ _ => True) (fun _ U oO U' => ∃ vV LL, oO = .returned vV ∧ Q_rec Z a h0 n0 vV U'.heap LL ∧ FrameEnd U oO U' LL ({ frames := 1, cells := 0, slots := 0, locals := 12 } : Room).cells ({ frames := 1, cells := 0, slots := 0, locals := 12 } : Room).slots) := by
  refine MetFree.of_bodySF (plainFor_of_name pn_0) hisR ?_
  intro p e s m args below meth c s₁ Bd hml0 hP hK
  obtain ⟨rfl, hZ, hh⟩ := hP
  have hx := Bd.exec
  have hby := Bd.bytes
  have hml : c.maxLocals = 1 := hml0
  have hown : s.vm.findClass "java/lang/Record" = some m.cls := findClass_of_methodNamed Bd.named
  have hnm := (name_of_methodNamed Bd.named Bd.method).1
  have X0 : Stand p l e ({ frames := 1, cells := 0, slots := 0, locals := 12 } : Room) s m #[(.ref a)] below meth c s₁ [] 0 0 := Stand.of_body Bd
  have e0 : s₁.heap = h0 := by rw [← hh, Bd.state]; rfl
  have N0 := Fr.nil n0
  have hret := Bd.returns
  have hlk : meth.locks = false := Bd.notSynchronized
  refine own_start (ef_0 m a) ?_
  show own_Go p e below s (Q_rec Z a h0 n0) ({ frames := 1, cells := 0, slots := 0, locals := 12 } : Room).cells ({ frames := 1, cells := 0, slots := 0, locals := 12 } : Room).slots (s₁.setTop (mkF m 0 #[.val (.ref a)] []))
  refine g_aload_n X0 hx 1 (hb hby d_jdk_30_method_1_0) rfl rfl rfl ?_
  refine own_initO X0 hx hZ hown (hw _ (List.mem_of_getElem? (i := 14) rfl)) (hw _ (List.mem_of_getElem? (i := 15) rfl)) (hw _ (List.mem_of_getElem? (i := 16) rfl)) e0 4 (by rw [hml]; rfl) (hb hby d_jdk_30_method_1_1) rfl (by decide) 0 rfl (by decide) fun T1 X1 e1 => ?_
  refine own_retV X1 hx hlk hret (hb hby d_jdk_30_method_1_4) ?_ (by decide) (by decide)
  rw [e1]
  exact ⟨rfl, N0, rfl⟩
theorem d_prog_43_method_1_0 : decode prog_43_method_1_code 0 = .ok (.aload_n 0, 1) := by decide +kernel
theorem d_prog_43_method_1_1 : decode prog_43_method_1_code 1 = .ok (.invokespecial 1, 3) := by decide +kernel
theorem pd_0 : parseMethodDescriptor "()V" = some ⟨[], none⟩ := by decide +kernel
theorem d_prog_43_method_1_4 : decode prog_43_method_1_code 4 = .ok (.lload_n 1, 1) := by decide +kernel
theorem d_prog_43_method_1_5 : decode prog_43_method_1_code 5 = .ok (.lconst 1, 1) := by decide +kernel
theorem d_prog_43_method_1_6 : decode prog_43_method_1_code 6 = .ok (.lcmp, 1) := by decide +kernel
theorem d_prog_43_method_1_7 : decode prog_43_method_1_code 7 = .ok (.ifCond .lt 11, 3) := by decide +kernel
theorem d_prog_43_method_1_10 : decode prog_43_method_1_code 10 = .ok (.lload_n 1, 1) := by decide +kernel
theorem d_prog_43_method_1_11 : decode prog_43_method_1_code 11 = .ok (.ldc2_w 9, 3) := by decide +kernel
theorem d_prog_43_method_1_14 : decode prog_43_method_1_code 14 = .ok (.lcmp, 1) := by decide +kernel
theorem d_prog_43_method_1_15 : decode prog_43_method_1_code 15 = .ok (.ifCond .le 17, 3) := by decide +kernel
theorem d_prog_43_method_1_32 : decode prog_43_method_1_code 32 = .ok (.iload_n 3, 1) := by decide +kernel
theorem d_prog_43_method_1_33 : decode prog_43_method_1_code 33 = .ok (.iconst 1, 1) := by decide +kernel
theorem d_prog_43_method_1_34 : decode prog_43_method_1_code 34 = .ok (.if_icmp .lt 9, 3) := by decide +kernel
theorem d_prog_43_method_1_37 : decode prog_43_method_1_code 37 = .ok (.iload_n 3, 1) := by decide +kernel
theorem d_prog_43_method_1_38 : decode prog_43_method_1_code 38 = .ok (.bipush 100, 2) := by decide +kernel
theorem d_prog_43_method_1_40 : decode prog_43_method_1_code 40 = .ok (.if_icmp .le 17, 3) := by decide +kernel
theorem d_prog_43_method_1_57 : decode prog_43_method_1_code 57 = .ok (.aload_n 0, 1) := by decide +kernel
theorem d_prog_43_method_1_58 : decode prog_43_method_1_code 58 = .ok (.lload_n 1, 1) := by decide +kernel
theorem d_prog_43_method_1_59 : decode prog_43_method_1_code 59 = .ok (.putfield 23, 3) := by decide +kernel
theorem d_prog_43_method_1_62 : decode prog_43_method_1_code 62 = .ok (.aload_n 0, 1) := by decide +kernel
theorem d_prog_43_method_1_63 : decode prog_43_method_1_code 63 = .ok (.iload_n 3, 1) := by decide +kernel
theorem d_prog_43_method_1_64 : decode prog_43_method_1_code 64 = .ok (.putfield 27, 3) := by decide +kernel
theorem d_prog_43_method_1_67 : decode prog_43_method_1_code 67 = .ok (.return_, 1) := by decide +kernel
theorem ef_1 (m : MethodId) (x0 : Addr) (x1 : Int64) (x2 : Int32) : entryFrame m #[(.ref x0), (.long x1), (.int x2)] 4 = mkF m 0 #[.val (.ref x0), .val (.long x1), .second, .val (.int x2)] [] := by first | (simp [entryFrame, mkF, argsToLocals, Value.category]; done) | rfl
theorem pn_1 : plainName "com/example/grantbook/grantbook/model/PageRequest" = true := by first | (simp [plainName, overriddenIn]; done) | decide +kernel
def Q_init (Z : State) (a : Addr) (x : Int64) (y : Int32) (h0 : Heap) (n0 : Nat) (v : Option Value) (h : Heap) (L : List Loc) : Prop := v = none ∧ Fr n0 L ∧ Keep h0 h [a] ∧ Fld Z h a "com/example/grantbook/grantbook/model/PageRequest" "number" "J" (.long x) ∧ Fld Z h a "com/example/grantbook/grantbook/model/PageRequest" "size" "I" (.int y)
set_option maxRecDepth 65536 in
set_option maxHeartbeats 40000000 in
theorem rm_init (l : Launch) (Z : State) (a0 : Array Value) (hw : ∀ d ∈ tables_1, d.before a0 Z = true) (ws : List Jvm.Cond) (a : Addr) (x : Int64) (y : Int32) (h0 : Heap) (n0 : Nat) (Z0 : n0 ≤ h0.size) (E_a : Exa Z h0 a "com/example/grantbook/grantbook/model/PageRequest") (F_a_number : Fld Z h0 a "com/example/grantbook/grantbook/model/PageRequest" "number" "J" (.long (0 : Int64))) (F_a_size : Fld Z h0 a "com/example/grantbook/grantbook/model/PageRequest" "size" "I" (.int (0 : Int32))) (g_a : n0 ≤ a) (hc1 : ¬ (x < (1 : Int64))) (hc2 : ¬ ((9007199254740991 : Int64) < x)) (hc3 : ¬ (y < (1 : Int32))) (hc4 : ¬ ((100 : Int32) < y)) :
    MetFree l (⟨"com/example/grantbook/grantbook/model/PageRequest", "<init>", "(JI)V"⟩ : MethodName) (head1 (Jvm.Cond.code (⟨"com/example/grantbook/grantbook/model/PageRequest", "<init>", "(JI)V"⟩ : MethodName) prog_43_method_1_code 4 none :: ws) ({ frames := 2, cells := 0, slots := 0, locals := 24 } : Room)) (fun aA U => aA = #[(.ref a), (.long x), (.int y)] ∧ Z.Warmed39 U.vm ∧ U.heap = h0) (fun _ _ _ _ _ => True) (fun _ U oO U' => ∃ vV LL, oO = .returned vV ∧ Q_init Z a x y h0 n0 vV U'.heap LL ∧ FrameEnd U oO U' LL ({ frames := 2, cells := 0, slots := 0, locals := 24 } : Room).cells ({ frames := 2, cells := 0, slots := 0, locals := 24 } : Room).slots) := by
  refine MetFree.of_bodySF (plainFor_of_name pn_1) hisR ?_
  intro p e s m args below meth c s₁ Bd hml0 hP hK
  obtain ⟨rfl, hZ, hh⟩ := hP
  have hx := Bd.exec
  have hby := Bd.bytes
  have hml : c.maxLocals = 4 := hml0
  have hown : s.vm.findClass "com/example/grantbook/grantbook/model/PageRequest" = some m.cls := findClass_of_methodNamed Bd.named
  have hnm := (name_of_methodNamed Bd.named Bd.method).1
  have X0 : Stand p l e ({ frames := 2, cells := 0, slots := 0, locals := 24 } : Room) s m #[(.ref a), (.long x), (.int y)] below meth c s₁ [] 0 0 := Stand.of_body Bd
  have e0 : s₁.heap = h0 := by rw [← hh, Bd.state]; rfl
  have N0 := Fr.nil n0
  have hret := Bd.returns
  have hlk : meth.locks = false := Bd.notSynchronized
  refine own_start (ef_1 m a x y) ?_
  show own_Go p e below s (Q_init Z a x y h0 n0) ({ frames := 2, cells := 0, slots := 0, locals := 24 } : Room).cells ({ frames := 2, cells := 0, slots := 0, locals := 24 } : Room).slots (s₁.setTop (mkF m 0 #[.val (.ref a), .val (.long x), .second, .val (.int y)] []))
  refine g_aload_n X0 hx 1 (hb hby d_prog_43_method_1_0) rfl rfl rfl ?_
  refine own_callI X0 hx hZ hown rfl (hw _ (List.mem_of_getElem? (i := 9) rfl)) (hw _ (List.mem_of_getElem? (i := 10) rfl)) (by decide) (rm_rec l Z a0 hw [] a h0 n0 Z0 ) (hw _ (List.mem_of_getElem? (i := 13) rfl)) (hw _ (List.mem_of_getElem? (i := 12) rfl)) e0 0 (by decide) (by decide) (by decide) (by decide) a [] [] rfl pd_0 rfl 4 rfl (by rw [hml]; rfl) rfl (hb hby d_prog_43_method_1_1) rfl fun T2 v2 L2 X2 hQ2 => ?_
  obtain ⟨rfl, Nq2, e2⟩ := hQ2
  have N2 := Fr.app N0 Nq2
  show own_Go p e below s _ _ _ (T2.setTop (mkF m 4 _ []))
  refine g_lload_n X2 hx 5 (hb hby d_prog_43_method_1_4) rfl rfl ?_
  refine g_lconst X2 hx 6 (hb hby d_prog_43_method_1_5) (1 : Int64) rfl rfl ?_
  refine g_lcmp X2 hx 7 (hb hby d_prog_43_method_1_6) rfl ?_
  refine g_ifNo X2 hx 10 (hb hby d_prog_43_method_1_7) (own_ll_lt_f hc1) rfl ?_
  refine g_lload_n X2 hx 11 (hb hby d_prog_43_method_1_10) rfl rfl ?_
  refine g_ldc2_w X2 hx hown 14 (z := (9007199254740991 : Int64)) (mvT hZ (hw _ (List.mem_of_getElem? (i := 17) rfl))) (hb hby d_prog_43_method_1_11) rfl ?_
  refine g_lcmp X2 hx 15 (hb hby d_prog_43_method_1_14) rfl ?_
  refine g_ifYes X2 hx 32 (hb hby d_prog_43_method_1_15) (own_ll_le_t hc2) (by decide) (by decide) ?_
  refine g_iload_n X2 hx 33 (hb hby d_prog_43_method_1_32) rfl rfl ?_
  refine g_iconst X2 hx 34 (hb hby d_prog_43_method_1_33) (1 : Int32) rfl rfl ?_
  refine g_icmpNo X2 hx 37 (hb hby d_prog_43_method_1_34) (own_ii_lt_f hc3) rfl ?_
  refine g_iload_n X2 hx 38 (hb hby d_prog_43_method_1_37) rfl rfl ?_
  refine g_bipush X2 hx 40 (hb hby d_prog_43_method_1_38) (100 : Int32) rfl rfl ?_
  refine g_icmpYes X2 hx 57 (hb hby d_prog_43_method_1_40) (own_ii_le_t hc4) (by decide) (by decide) ?_
  refine g_aload_n X2 hx 58 (hb hby d_prog_43_method_1_57) rfl rfl rfl ?_
  refine g_lload_n X2 hx 59 (hb hby d_prog_43_method_1_58) rfl rfl ?_
  refine own_putF X2 hx hZ hown (host := "") (Or.inl (hw _ (List.mem_of_getElem? (i := 18) rfl))) Via.refl e2 F_a_number E_a (Or.inr ⟨(hw _ (List.mem_of_getElem? (i := 19) rfl)), rfl, hnm⟩) (hw _ (List.mem_of_getElem? (i := 4) rfl)) (ty := .long) (by decide) rfl rfl 62 (hb hby d_prog_43_method_1_59) rfl fun T7 h7 X7 e7 W7 => ?_
  have f7 : Fld Z h7 a "com/example/grantbook/grantbook/model/PageRequest" "number" "J" (.long x) := Fld.same W7 F_a_number
  have N7 := Fr.snoc X7 N2 g_a
  have z8 : n0 ≤ h7.size := (Nat.le_trans Z0 (Keep.of_wr W7).1)
  have K9 : Keep h0 h7 [a] := (Keep.refl h0 [a]).wr W7 (Or.inl (List.mem_of_getElem? (i := 0) rfl))
  refine g_aload_n X7 hx 63 (hb hby d_prog_43_method_1_62) rfl rfl rfl ?_
  refine g_iload_n X7 hx 64 (hb hby d_prog_43_method_1_63) rfl rfl ?_
  have f10 : Exa Z h7 a "com/example/grantbook/grantbook/model/PageRequest" := (Exa.wr W7 E_a)
  have f11 : Fld Z h7 a "com/example/grantbook/grantbook/model/PageRequest" "size" "I" (.int (0 : Int32)) := (Fld.other W7 F_a_size (Or.inr (slot_ne (Or.inr (hw _ (List.mem_of_getElem? (i := 21) rfl))) (Or.inr (hw _ (List.mem_of_getElem? (i := 19) rfl))) (by decide) (t := .int) (t' := .long) (by decide) (by decide))))
  refine own_putF X7 hx hZ hown (host := "") (Or.inl (hw _ (List.mem_of_getElem? (i := 20) rfl))) Via.refl e7 f11 f10 (Or.inr ⟨(hw _ (List.mem_of_getElem? (i := 21) rfl)), rfl, hnm⟩) (hw _ (List.mem_of_getElem? (i := 4) rfl)) (ty := .int) (by decide) rfl rfl 67 (hb hby d_prog_43_method_1_64) rfl fun T12 h12 X12 e12 W12 => ?_
  have f12 : Fld Z h12 a "com/example/grantbook/grantbook/model/PageRequest" "size" "I" (.int y) := Fld.same W12 f11
  have N12 := Fr.snoc X12 N7 g_a
  have z13 : n0 ≤ h12.size := (Nat.le_trans z8 (Keep.of_wr W12).1)
  have K14 : Keep h0 h12 [a] := K9.wr W12 (Or.inl (List.mem_of_getElem? (i := 0) rfl))
  have f15 : Fld Z h12 a "com/example/grantbook/grantbook/model/PageRequest" "number" "J" (.long x) := (Fld.other W12 f7 (Or.inr (slot_ne (Or.inr (hw _ (List.mem_of_getElem? (i := 19) rfl))) (Or.inr (hw _ (List.mem_of_getElem? (i := 21) rfl))) (by decide) (t := .long) (t' := .int) (by decide) (by decide))))
  refine own_retV X12 hx hlk hret (hb hby d_prog_43_method_1_67) ?_ (by decide) (by decide)
  rw [e12]
  exact ⟨rfl, N12, K14, f15, f12⟩
theorem d_prog_43_method_2_0 : decode prog_43_method_2_code 0 = .ok (.aload_n 0, 1) := by decide +kernel
theorem d_prog_43_method_2_1 : decode prog_43_method_2_code 1 = .ok (.getfield 23, 3) := by decide +kernel
theorem d_prog_43_method_2_4 : decode prog_43_method_2_code 4 = .ok (.lconst 1, 1) := by decide +kernel
theorem d_prog_43_method_2_5 : decode prog_43_method_2_code 5 = .ok (.lsub, 1) := by decide +kernel
theorem d_prog_43_method_2_6 : decode prog_43_method_2_code 6 = .ok (.aload_n 0, 1) := by decide +kernel
theorem d_prog_43_method_2_7 : decode prog_43_method_2_code 7 = .ok (.getfield 27, 3) := by decide +kernel
theorem d_prog_43_method_2_10 : decode prog_43_method_2_code 10 = .ok (.i2l, 1) := by decide +kernel
theorem d_prog_43_method_2_11 : decode prog_43_method_2_code 11 = .ok (.lmul, 1) := by decide +kernel
theorem d_prog_43_method_2_12 : decode prog_43_method_2_code 12 = .ok (.lreturn, 1) := by decide +kernel
def Q_off (Z : State) (a : Addr) (x : Int64) (y : Int32) (h0 : Heap) (n0 : Nat) (v : Option Value) (h : Heap) (L : List Loc) : Prop := v = some (.long ((x - (1 : Int64)) * (y.toInt64))) ∧ Fr n0 L ∧ h = h0
set_option maxRecDepth 65536 in
set_option maxHeartbeats 40000000 in
theorem rm_off (l : Launch) (Z : State) (a0 : Array Value) (hw : ∀ d ∈ tables_1, d.before a0 Z = true) (ws : List Jvm.Cond) (a : Addr) (x : Int64) (y : Int32) (h0 : Heap) (n0 : Nat) (Z0 : n0 ≤ h0.size) (F_a_number : Fld Z h0 a "com/example/grantbook/grantbook/model/PageRequest" "number" "J" (.long x)) (F_a_size : Fld Z h0 a "com/example/grantbook/grantbook/model/PageRequest" "size" "I" (.int y)) :
    MetFree l (⟨"com/example/grantbook/grantbook/model/PageRequest", "offset", "()J"⟩ : MethodName) (head1 (Jvm.Cond.code (⟨"com/example/grantbook/grantbook/model/PageRequest", "offset", "()J"⟩ : MethodName) prog_43_method_2_code 1 (some .long) :: ws) ({ frames := 0, cells := 0, slots := 0, locals := 0 } : Room)) (fun aA U => aA = #[(.ref a)] ∧ Z.Warmed39 U.vm ∧ U.heap = h0) (fun _ _ _ _ _ => True) (fun _ U oO U' => ∃ vV LL, oO = .returned vV ∧ Q_off Z a x y h0 n0 vV U'.heap LL ∧ FrameEnd U oO U' LL ({ frames := 0, cells := 0, slots := 0, locals := 0 } : Room).cells ({ frames := 0, cells := 0, slots := 0, locals := 0 } : Room).slots) := by
  refine MetFree.of_bodySF (plainFor_of_name pn_1) hisR ?_
  intro p e s m args below meth c s₁ Bd hml0 hP hK
  obtain ⟨rfl, hZ, hh⟩ := hP
  have hx := Bd.exec
  have hby := Bd.bytes
  have hml : c.maxLocals = 1 := hml0
  have hown : s.vm.findClass "com/example/grantbook/grantbook/model/PageRequest" = some m.cls := findClass_of_methodNamed Bd.named
  have hnm := (name_of_methodNamed Bd.named Bd.method).1
  have X0 : Stand p l e ({ frames := 0, cells := 0, slots := 0, locals := 0 } : Room) s m #[(.ref a)] below meth c s₁ [] 0 0 := Stand.of_body Bd
  have e0 : s₁.heap = h0 := by rw [← hh, Bd.state]; rfl
  have N0 := Fr.nil n0
  have hret := Bd.returns
  have hlk : meth.locks = false := Bd.notSynchronized
  refine own_start (ef_0 m a) ?_
  show own_Go p e below s (Q_off Z a x y h0 n0) ({ frames := 0, cells := 0, slots := 0, locals := 0 } : Room).cells ({ frames := 0, cells := 0, slots := 0, locals := 0 } : Room).slots (s₁.setTop (mkF m 0 #[.val (.ref a)] []))
  refine g_aload_n X0 hx 1 (hb hby d_prog_43_method_2_0) rfl rfl rfl ?_
  refine own_getF X0 hx hZ hown (host := "") (Or.inl (hw _ (List.mem_of_getElem? (i := 18) rfl))) Via.refl e0 F_a_number 4 (hb hby d_prog_43_method_2_1) rfl fun T16 X16 e16 => ?_
  refine g_lconst X16 hx 5 (hb hby d_prog_43_method_2_4) (1 : Int64) rfl rfl ?_
  refine g_lsub X16 hx 6 (hb hby d_prog_43_method_2_5) rfl ?_
  refine g_aload_n X16 hx 7 (hb hby d_prog_43_method_2_6) rfl rfl rfl ?_
  refine own_getF X16 hx hZ hown (host := "") (Or.inl (hw _ (List.mem_of_getElem? (i := 20) rfl))) Via.refl e16 F_a_size 10 (hb hby d_prog_43_method_2_7) rfl fun T17 X17 e17 => ?_
  refine g_i2l X17 hx 11 (hb hby d_prog_43_method_2_10) rfl ?_
  refine g_lmul X17 hx 12 (hb hby d_prog_43_method_2_11) rfl ?_
  refine own_retJ X17 hx hlk hret (hb hby d_prog_43_method_2_12) ?_ (by decide) (by decide)
  rw [e17]
  exact ⟨rfl, N0, rfl⟩
theorem pd_1 : parseMethodDescriptor "(JI)V" = some ⟨[.long, .int], none⟩ := by decide +kernel
theorem pd_2 : parseMethodDescriptor "()J" = some ⟨[], some .long⟩ := by decide +kernel
theorem ef_2 (m : MethodId) (x0 : Int64) (x1 : Int32) : entryFrame m #[(.long x0), (.int x1)] maxLocals = mkF m 0 #[.val (.long x0), .second, .val (.int x1), .unset, .unset, .unset, .unset, .unset, .unset, .unset] [] := by first | (simp [entryFrame, mkF, argsToLocals, Value.category, maxLocals]; done) | rfl
theorem pn_2 : plainName "com/example/grantbook/grantbook/model/PageRequestOffsetPinLaw" = true := by first | (simp [plainName, overriddenIn]; done) | decide +kernel
def Q_law (Z : State) (p0 : Int64) (p1 : Int32) (h0 : Heap) (n0 : Nat) (v : Option Value) (h : Heap) (L : List Loc) : Prop := v = some (.int 1) ∧ Fr n0 L
set_option maxRecDepth 65536 in
set_option maxHeartbeats 40000000 in
theorem rm_law (l : Launch) (Z : State) (a0 : Array Value) (hw : ∀ d ∈ tables_1, d.before a0 Z = true) (ws : List Jvm.Cond) (p0 : Int64) (p1 : Int32) (h0 : Heap) (n0 : Nat) (Z0 : n0 ≤ h0.size) :
    MetFree l x (head1 (Jvm.Cond.code x code maxLocals ret :: ws) room_1) (fun aA U => aA = #[(.long p0), (.int p1)] ∧ Z.Warmed39 U.vm ∧ U.heap = h0) (fun _ _ _ _ _ => True) (fun _ U oO U' => ∃ vV LL, oO = .returned vV ∧ Q_law Z p0 p1 h0 n0 vV U'.heap LL ∧ FrameEnd U oO U' LL room_1.cells room_1.slots) := by
  refine MetFree.of_bodySF (plainFor_of_name pn_2) hisR ?_
  intro p e s m args below meth c s₁ Bd hml0 hP hK
  obtain ⟨rfl, hZ, hh⟩ := hP
  have hx := Bd.exec
  have hby := Bd.bytes
  have hml : c.maxLocals = 10 := hml0
  have hown : s.vm.findClass "com/example/grantbook/grantbook/model/PageRequestOffsetPinLaw" = some m.cls := findClass_of_methodNamed Bd.named
  have hnm := (name_of_methodNamed Bd.named Bd.method).1
  have X0 : Stand p l e room_1 s m #[(.long p0), (.int p1)] below meth c s₁ [] 0 0 := Stand.of_body Bd
  have e0 : s₁.heap = h0 := by rw [← hh, Bd.state]; rfl
  have N0 := Fr.nil n0
  have hret := Bd.returns
  have hlk : meth.locks = false := Bd.notSynchronized
  refine own_start (ef_2 m p0 p1) ?_
  show own_Go p e below s (Q_law Z p0 p1 h0 n0) room_1.cells room_1.slots (s₁.setTop (mkF m 0 #[.val (.long p0), .second, .val (.int p1), .unset, .unset, .unset, .unset, .unset, .unset, .unset] []))
  refine g_lload_n X0 hx 1 (hb hby at_0) rfl rfl ?_
  refine g_ldc2_w X0 hx hown 4 (z := (9223372036854775807 : Int64)) (mvT hZ (hw _ (List.mem_of_getElem? (i := 0) rfl))) (hb hby at_1) rfl ?_
  refine g_land X0 hx 5 (hb hby at_4) rfl ?_
  refine g_ldc2_w X0 hx hown 8 (z := (9007199254740991 : Int64)) (mvT hZ (hw _ (List.mem_of_getElem? (i := 1) rfl))) (hb hby at_5) rfl ?_
  refine g_lrem X0 hx 9 (hb hby at_8) rfl (by decide) ?_
  refine g_lconst X0 hx 10 (hb hby at_9) (1 : Int64) rfl rfl ?_
  refine g_ladd X0 hx 11 (hb hby at_10) rfl ?_
  obtain ⟨num, q_num⟩ : ∃ z, z = (((p0 &&& (9223372036854775807 : Int64)) % (9007199254740991 : Int64)) + (1 : Int64)) := ⟨_, rfl⟩
  have hn1 : 1 ≤ num.toInt := by rw [q_num]; exact (own_num p0).1
  have hn2 : num.toInt ≤ 9007199254740991 := by rw [q_num]; exact (own_num p0).2
  rw [← q_num]
  refine g_lstore_n X0 hx 12 (hb hby at_11) (l' := #[.val (.long p0), .second, .val (.int p1), .val (.long num), .second, .unset, .unset, .unset, .unset, .unset]) rfl rfl ?_
  refine g_iload_n X0 hx 13 (hb hby at_12) rfl rfl ?_
  refine g_ldc X0 hx hown 15 (z := (2147483647 : Int32)) (mvT hZ (hw _ (List.mem_of_getElem? (i := 2) rfl))) (hb hby at_13) rfl ?_
  refine g_iand X0 hx 16 (hb hby at_15) rfl ?_
  refine g_bipush X0 hx 18 (hb hby at_16) (100 : Int32) rfl rfl ?_
  refine g_irem X0 hx 19 (hb hby at_18) rfl (by decide) ?_
  refine g_iconst X0 hx 20 (hb hby at_19) (1 : Int32) rfl rfl ?_
  refine g_iadd X0 hx 21 (hb hby at_20) rfl ?_
  obtain ⟨sz, q_sz⟩ : ∃ z, z = (((p1 &&& (2147483647 : Int32)) % (100 : Int32)) + (1 : Int32)) := ⟨_, rfl⟩
  have hz1 : 1 ≤ sz.toInt := by rw [q_sz]; exact (own_size p1).1
  have hz2 : sz.toInt ≤ 100 := by rw [q_sz]; exact (own_size p1).2
  rw [← q_sz]
  refine g_istore X0 hx 23 (hb hby at_21) (l' := #[.val (.long p0), .second, .val (.int p1), .val (.long num), .second, .val (.int sz), .unset, .unset, .unset, .unset]) rfl rfl ?_
  refine own_newO X0 hx hZ hown (hw _ (List.mem_of_getElem? (i := 3) rfl)) (hw _ (List.mem_of_getElem? (i := 4) rfl)) (hw _ (List.mem_of_getElem? (i := 5) rfl)) e0 26 (hb hby at_23) rfl (by decide) (by decide) fun T18 h18 b18 X18 e18 g18 E18 A18 D18 => ?_
  have g_b18 : n0 ≤ b18 := Nat.le_trans Z0 (Nat.le_of_eq g18.symm)
  have sz_b18 : h0.size ≤ b18 := Nat.le_trans (Keep.refl h0 []).1 (Nat.le_of_eq g18.symm)
  have K19 : Keep h0 h18 [] := (Keep.refl h0 []).ext E18
  have z20 : n0 ≤ h18.size := (Nat.le_trans Z0 E18.1)
  have f21 : Fld Z h18 b18 "com/example/grantbook/grantbook/model/PageRequest" "number" "J" (.long (0 : Int64)) := D18 (Or.inr (hw _ (List.mem_of_getElem? (i := 19) rfl))) (ty := .long) (by decide)
  have f22 : Fld Z h18 b18 "com/example/grantbook/grantbook/model/PageRequest" "size" "I" (.int (0 : Int32)) := D18 (Or.inr (hw _ (List.mem_of_getElem? (i := 21) rfl))) (ty := .int) (by decide)
  refine g_dup X18 hx 27 (hb hby at_26) rfl rfl ?_
  refine g_lload_n X18 hx 28 (hb hby at_27) rfl rfl ?_
  refine g_iload X18 hx 30 (hb hby at_28) rfl rfl ?_
  refine own_callI X18 hx hZ hown rfl (hw _ (List.mem_of_getElem? (i := 6) rfl)) (hw _ (List.mem_of_getElem? (i := 7) rfl)) (by decide) (rm_init l Z a0 hw [] b18 num sz h18 n0 z20 A18 f21 f22 g_b18 (own_nlt hn1) (own_ngt hn2) (own_slt hz1) (own_sgt hz2)) (hw _ (List.mem_of_getElem? (i := 8) rfl)) (hw _ (List.mem_of_getElem? (i := 5) rfl)) e18 1 (by decide) (by decide) (by decide) (by decide) b18 [(.long num), (.int sz)] [(.ref b18)] rfl pd_1 rfl 33 rfl (by rw [hml]; rfl) rfl (hb hby at_30) rfl fun T23 v23 L23 X23 hQ23 => ?_
  obtain ⟨rfl, Nq23, Kq23, f23_0, f23_1⟩ := hQ23
  have N23 := Fr.app N0 Nq23
  have K24 : Keep h0 T23.heap [] := K19.trans Kq23 (allS (Or.inr sz_b18) all0)
  have z25 : n0 ≤ T23.heap.size := (Nat.le_trans z20 Kq23.1)
  show own_Go p e below s _ _ _ (T23.setTop (mkF m 33 _ [(.ref b18)]))
  refine g_astore X23 hx 35 (hb hby at_33) rfl (l' := #[.val (.long p0), .second, .val (.int p1), .val (.long num), .second, .val (.int sz), .val (.ref b18), .unset, .unset, .unset]) rfl rfl ?_
  refine g_aload X23 hx 37 (hb hby at_35) rfl rfl rfl ?_
  have f27 : Exa Z T23.heap b18 "com/example/grantbook/grantbook/model/PageRequest" := (A18.keep Kq23)
  refine own_callV X23 hx hZ hown (hw _ (List.mem_of_getElem? (i := 22) rfl)) (hw _ (List.mem_of_getElem? (i := 23) rfl)) (own_nf hZ (hw _ (List.mem_of_getElem? (i := 25) rfl))) (hw _ (List.mem_of_getElem? (i := 25) rfl)) (hw _ (List.mem_of_getElem? (i := 24) rfl)) (by decide) (rm_off l Z a0 hw [] b18 num sz T23.heap n0 z25 f23_0 f23_1) (hw _ (List.mem_of_getElem? (i := 26) rfl)) (hw _ (List.mem_of_getElem? (i := 5) rfl)) rfl 0 (by decide) (by decide) (by decide) (by decide) f27 [] [] rfl pd_2 rfl 40 rfl (by rw [hml]; rfl) rfl (hb hby at_37) rfl fun T26 v26 L26 X26 hQ26 => ?_
  obtain ⟨rfl, Nq26, e26⟩ := hQ26
  have N26 := Fr.app N23 Nq26
  show own_Go p e below s _ _ _ (T26.setTop (mkF m 40 _ [(.long ((num - (1 : Int64)) * (sz.toInt64)))]))
  refine g_lstore X26 hx 42 (hb hby at_40) (l' := #[.val (.long p0), .second, .val (.int p1), .val (.long num), .second, .val (.int sz), .val (.ref b18), .val (.long ((num - (1 : Int64)) * (sz.toInt64))), .second, .unset]) rfl rfl ?_
  refine g_lload X26 hx 44 (hb hby at_42) rfl rfl ?_
  refine g_lconst X26 hx 45 (hb hby at_44) (0 : Int64) rfl rfl ?_
  refine g_lcmp X26 hx 46 (hb hby at_45) rfl ?_
  have c28 : ¬ (((num - (1 : Int64)) * (sz.toInt64)) < (0 : Int64)) := own_neg num sz hn1 hn2 hz1 hz2
  refine g_ifYes X26 hx 51 (hb hby at_46) (own_ll_ge_t c28) (by decide) (by decide) ?_
  refine g_lload X26 hx 53 (hb hby at_51) rfl rfl ?_
  refine g_iload X26 hx 55 (hb hby at_53) rfl rfl ?_
  refine g_i2l X26 hx 56 (hb hby at_55) rfl ?_
  refine g_lrem X26 hx 57 (hb hby at_56) rfl (own_k sz hz1).1 ?_
  refine g_lconst X26 hx 58 (hb hby at_57) (0 : Int64) rfl rfl ?_
  refine g_lcmp X26 hx 59 (hb hby at_58) rfl ?_
  have c29 : (((num - (1 : Int64)) * (sz.toInt64)) % (sz.toInt64)) = (0 : Int64) := own_rem (num - 1) sz (by rw [own_sub1 num hn1]; omega) (by rw [own_sub1 num hn1]; omega) hz1 hz2
  refine g_ifYes X26 hx 64 (hb hby at_59) (own_ll_eq_t c29) (by decide) (by decide) ?_
  refine g_lload X26 hx 66 (hb hby at_64) rfl rfl ?_
  refine g_iload X26 hx 68 (hb hby at_66) rfl rfl ?_
  refine g_i2l X26 hx 69 (hb hby at_68) rfl ?_
  refine g_ldiv X26 hx 70 (hb hby at_69) rfl (own_k sz hz1).1 ?_
  refine g_lload_n X26 hx 71 (hb hby at_70) rfl rfl ?_
  refine g_lconst X26 hx 72 (hb hby at_71) (1 : Int64) rfl rfl ?_
  refine g_lsub X26 hx 73 (hb hby at_72) rfl ?_
  refine g_lcmp X26 hx 74 (hb hby at_73) rfl ?_
  have c30 : (((num - (1 : Int64)) * (sz.toInt64)) / (sz.toInt64)) = (num - (1 : Int64)) := own_div (num - 1) sz (by rw [own_sub1 num hn1]; omega) (by rw [own_sub1 num hn1]; omega) hz1 hz2
  refine g_ifYes X26 hx 79 (hb hby at_74) (own_ll_eq_t c30) (by decide) (by decide) ?_
  refine g_lload_n X26 hx 80 (hb hby at_79) rfl rfl ?_
  refine g_lconst X26 hx 81 (hb hby at_80) (1 : Int64) rfl rfl ?_
  refine g_lcmp X26 hx 82 (hb hby at_81) rfl ?_
  by_cases c31 : (1 : Int64) < num
  · have hgt := c31
    refine g_ifNo X26 hx 85 (hb hby at_82) (own_ll_le_f c31) rfl ?_
    refine own_newO X26 hx hZ hown (hw _ (List.mem_of_getElem? (i := 3) rfl)) (hw _ (List.mem_of_getElem? (i := 4) rfl)) (hw _ (List.mem_of_getElem? (i := 5) rfl)) e26 88 (hb hby at_85) rfl (by decide) (by decide) fun T32 h32 b32 X32 e32 g32 E32 A32 D32 => ?_
    have ne33 : b18 ≠ b32 := Nat.ne_of_lt (Nat.lt_of_lt_of_le f27.lt (Nat.le_of_eq g32.symm))
    have g_b32 : n0 ≤ b32 := Nat.le_trans z25 (Nat.le_of_eq g32.symm)
    have sz_b32 : h0.size ≤ b32 := Nat.le_trans K24.1 (Nat.le_of_eq g32.symm)
    have K34 : Keep h0 h32 [] := K24.ext E32
    have z35 : n0 ≤ h32.size := (Nat.le_trans z25 E32.1)
    have f36 : Fld Z h32 b32 "com/example/grantbook/grantbook/model/PageRequest" "number" "J" (.long (0 : Int64)) := D32 (Or.inr (hw _ (List.mem_of_getElem? (i := 19) rfl))) (ty := .long) (by decide)
    have f37 : Fld Z h32 b32 "com/example/grantbook/grantbook/model/PageRequest" "size" "I" (.int (0 : Int32)) := D32 (Or.inr (hw _ (List.mem_of_getElem? (i := 21) rfl))) (ty := .int) (by decide)
    refine g_dup X32 hx 89 (hb hby at_88) rfl rfl ?_
    refine g_lload_n X32 hx 90 (hb hby at_89) rfl rfl ?_
    refine g_lconst X32 hx 91 (hb hby at_90) (1 : Int64) rfl rfl ?_
    refine g_lsub X32 hx 92 (hb hby at_91) rfl ?_
    refine g_iload X32 hx 94 (hb hby at_92) rfl rfl ?_
    refine own_callI X32 hx hZ hown rfl (hw _ (List.mem_of_getElem? (i := 6) rfl)) (hw _ (List.mem_of_getElem? (i := 7) rfl)) (by decide) (rm_init l Z a0 hw [] b32 (num - (1 : Int64)) sz h32 n0 z35 A32 f36 f37 g_b32 (own_nlt (by rw [own_sub1 num hn1]; have := own_gt1 hgt; omega)) (own_ngt (by rw [own_sub1 num hn1]; omega)) (own_slt hz1) (own_sgt hz2)) (hw _ (List.mem_of_getElem? (i := 8) rfl)) (hw _ (List.mem_of_getElem? (i := 5) rfl)) e32 1 (by decide) (by decide) (by decide) (by decide) b32 [(.long (num - (1 : Int64))), (.int sz)] [(.ref b32)] rfl pd_1 rfl 97 rfl (by rw [hml]; rfl) rfl (hb hby at_94) rfl fun T38 v38 L38 X38 hQ38 => ?_
    obtain ⟨rfl, Nq38, Kq38, f38_0, f38_1⟩ := hQ38
    have N38 := Fr.app N26 Nq38
    have K39 : Keep h0 T38.heap [] := K34.trans Kq38 (allS (Or.inr sz_b32) all0)
    have z40 : n0 ≤ T38.heap.size := (Nat.le_trans z35 Kq38.1)
    show own_Go p e below s _ _ _ (T38.setTop (mkF m 97 _ [(.ref b32)]))
    refine g_astore X38 hx 99 (hb hby at_97) rfl (l' := #[.val (.long p0), .second, .val (.int p1), .val (.long num), .second, .val (.int sz), .val (.ref b18), .val (.long ((num - (1 : Int64)) * (sz.toInt64))), .second, .val (.ref b32)]) rfl rfl ?_
    refine g_aload X38 hx 101 (hb hby at_99) rfl rfl rfl ?_
    have f42 : Exa Z T38.heap b32 "com/example/grantbook/grantbook/model/PageRequest" := (A32.keep Kq38)
    refine own_callV X38 hx hZ hown (hw _ (List.mem_of_getElem? (i := 22) rfl)) (hw _ (List.mem_of_getElem? (i := 23) rfl)) (own_nf hZ (hw _ (List.mem_of_getElem? (i := 25) rfl))) (hw _ (List.mem_of_getElem? (i := 25) rfl)) (hw _ (List.mem_of_getElem? (i := 24) rfl)) (by decide) (rm_off l Z a0 hw [] b32 (num - (1 : Int64)) sz T38.heap n0 z40 f38_0 f38_1) (hw _ (List.mem_of_getElem? (i := 26) rfl)) (hw _ (List.mem_of_getElem? (i := 5) rfl)) rfl 0 (by decide) (by decide) (by decide) (by decide) f42 [] [] rfl pd_2 rfl 104 rfl (by rw [hml]; rfl) rfl (hb hby at_101) rfl fun T41 v41 L41 X41 hQ41 => ?_
    obtain ⟨rfl, Nq41, e41⟩ := hQ41
    have N41 := Fr.app N38 Nq41
    show own_Go p e below s _ _ _ (T41.setTop (mkF m 104 _ [(.long (((num - (1 : Int64)) - (1 : Int64)) * (sz.toInt64)))]))
    refine g_iload X41 hx 106 (hb hby at_104) rfl rfl ?_
    refine g_i2l X41 hx 107 (hb hby at_106) rfl ?_
    refine g_ladd X41 hx 108 (hb hby at_107) rfl ?_
    refine g_lload X41 hx 110 (hb hby at_108) rfl rfl ?_
    refine g_lcmp X41 hx 111 (hb hby at_110) rfl ?_
    have c43 : ((((num - (1 : Int64)) - (1 : Int64)) * (sz.toInt64)) + (sz.toInt64)) = ((num - (1 : Int64)) * (sz.toInt64)) := own_next num _
    refine g_ifYes X41 hx 116 (hb hby at_111) (own_ll_eq_t c43) (by decide) (by decide) ?_
    refine g_goto X41 hx 128 (hb hby at_116) (by decide) (by decide) ?_
    refine g_iconst X41 hx 129 (hb hby at_128) (1 : Int32) rfl rfl ?_
    refine own_retN X41 hx hlk (t := .boolean) hret (by simp) (hb hby at_129) ?_ (by decide) (by decide)
    rw [e41]
    exact ⟨rfl, N41⟩
  · have hle := c31
    refine g_ifYes X26 hx 119 (hb hby at_82) (own_ll_le_t c31) (by decide) (by decide) ?_
    refine g_lload X26 hx 121 (hb hby at_119) rfl rfl ?_
    refine g_lconst X26 hx 122 (hb hby at_121) (0 : Int64) rfl rfl ?_
    refine g_lcmp X26 hx 123 (hb hby at_122) rfl ?_
    have c44 : ((num - (1 : Int64)) * (sz.toInt64)) = (0 : Int64) := own_zero num _ hn1 hle
    refine g_ifYes X26 hx 128 (hb hby at_123) (own_ll_eq_t c44) (by decide) (by decide) ?_
    refine g_iconst X26 hx 129 (hb hby at_128) (1 : Int32) rfl rfl ?_
    refine own_retN X26 hx hlk (t := .boolean) hret (by simp) (hb hby at_129) ?_ (by decide) (by decide)
    rw [e26]
    exact ⟨rfl, N26⟩
set_option maxRecDepth 65536 in
set_option maxHeartbeats 40000000 in
theorem comes_1 {Post : Tables → Env → Array Value → State → Outcome → State → Prop} (hpost : ∀ tb e args s v u, (limb_1_1.after args s (.returned v) u = true ∧ limb_1_2.after args s (.returned v) u = true ∧ True) → FrameEnd s (.returned v) u (Jvm.fieldLocs frame_1_writes args s ++ Jvm.arrayLocs frame_1_arrays args s ++ Jvm.staticLocs frame_1_statics s) 16 128 → Post tb e args s (.returned v) u) :
    ArmFor flags0 classFile x code maxLocals ret World_1 tables_1 room_1 Calls_1 rest_1 Pre_1 Post := by
  intro l hfl _ _ p e ha hc hk s m args below hf hA hF happ hP
  obtain ⟨hcalls, hrest, hpre⟩ := hP
  obtain ⟨-, -, -, hnamed, -, -, -, hat⟩ := (Spec.applies_iff hf).mp happ
  obtain ⟨hg, hn⟩ := and_e (Cond.before_iff.mp (show (Jvm.Cond.and given_1 narrow_1).before args s = true from hpre))
  obtain ⟨gc, q0⟩ := and_e hg
  obtain ⟨ga0, q1⟩ := and_e q0
  have ga1 := q1
  obtain ⟨w0, w1, rfl⟩ : ∃ w0 w1 : Value, args = #[w0, w1] := by
    have hs : args.size = 2 := by simpa [Cond.value, given_1] using gc
    obtain ⟨L⟩ := args
    match L, hs with
    | [w0, w1], _ => exact ⟨w0, w1, rfl⟩
  have hw := fun d (hd : d ∈ tables_1) => atoms_spec (ws := Jvm.Cond.code x code maxLocals ret :: tables_1) hat d (List.mem_cons_of_mem _ hd)
  have hfit : Fit s := fun {y c} hc i hi => by
    obtain ⟨ha, rfl⟩ := Array.getElem?_eq_some_iff.mp hc
    have q := List.all_eq_true.mp ((Array.all_eq_true_iff_forall_mem.mp hF) _ (Array.getElem_mem ha)) i (List.mem_range.mpr hi)
    simpa [Array.getElem?_eq_getElem hi] using q
  obtain ⟨i0, ei0⟩ := isL_v ga0
  obtain rfl : w0 = (.long i0) := Option.some.inj ei0
  obtain ⟨i1, ei1⟩ := is_v ga1
  obtain rfl : w1 = (.int i1) := Option.some.inj ei1
  obtain ⟨n, o, h1, h2, h3, _, L, rfl, ⟨rfl, N⟩, hq⟩ := rm_law l s _ hw tables_1 i0 i1  s.heap s.heap.size (Nat.le_refl _)  p e ha hc hk s m _ below hf ((Spec.applies_iff_loose hf).mp happ).1 ⟨rfl, State.Warmed39.refl s, rfl⟩ trivial
  refine ⟨n, _, h1, h2, h3, hpost _ _ _ _ _ _ ⟨Cond.after_iff.mpr rfl, Cond.after_iff.mpr (eq_i res_at (Term.int_eval (1)) rfl), trivial⟩ ⟨hq.1, hq.2.1, (hq.2.2.sift fun y hy => Or.inr (N y hy)).mono (by decide) (by decide)⟩⟩
theorem main_1_1 : Claimed_1_1 := comes_1 fun _ _ _ _ _ _ h hF => ⟨h.1, hF⟩
theorem main_1_2 : Claimed_1_2 := comes_1 fun _ _ _ _ _ _ h hF => ⟨h.2.1, hF⟩
end Jvm.Pilot.@@N@@
namespace Jvm.Pilot.@@N@@
open Jvm Jvm.ClassFile Sem Op Lib Jvm.Free Jvm.Stand Jvm.Pilot.@@N@@.Jvm.D
/-! MADE BY PROGRAM (witnessworld.py) out of the Statement's table words and the real class files: 10 classes; the members and pool entries that the words name. The judged class is class 1, her method 1. -/
namespace start1
open Jvm.ClassFile
def u (s : String) : CpInfo := .utf8 (stringToUtf16 s)
/-- a pool by its gaps: so many unusable entries, then the entry; so many at the end -/
def gap : Nat → List CpInfo → List CpInfo
  | 0, r => r
  | n + 1, r => .unusable :: gap n r
def poolList (es : List (Nat × CpInfo)) (last : Nat) : List CpInfo := es.foldr (fun e r => gap e.1 (e.2 :: r)) (gap last [])
def pool (es : List (Nat × CpInfo)) (last : Nat) : Array CpInfo := ⟨poolList es last⟩
def fileOf (pool : Array CpInfo) (this : Nat) (attrs : Array Attribute := #[]) (ms : Array MethodInfo := #[]) (fl : Nat := 33) (sup : Nat := 0) (ifs : Array Nat := #[]) (fds : Array FieldInfo := #[]) : ClassFile where
  minorVersion := 0
  majorVersion := 65
  constantPool := pool
  accessFlags := fl
  thisClass := this
  superClass := sup
  interfaces := ifs
  fields := fds
  methods := ms
  attributes := attrs
def plain (name : String) (sup : Option ClassId) : Class where
  name := name
  kind := .ordinary
  loader := none
  accessFlags := 33
  super := sup
  interfaces := #[]
  cf := none
  fields := #[]
  methods := #[]
  instanceTypes := #[]
  staticTypes := #[]
  resolved := #[]
  callSites := []
  init := .initialized
  statics := none
  mirror := none

def pool0 : Array CpInfo := pool [(5, u "<init>"), (0, u "()V"), (1, .class_ 10), (1, u "java/lang/Object")] 113

def k0c0 : Code := { maxStack := 0, maxLocals := 1, code := object_method_1_code, exceptionTable := #[], attributes := #[] }
def k0m0 : Method := { name := "<init>", desc := "()V", sig := { parameters := [], returnType := none }, accessFlags := 1, code := some k0c0 }
/-- java/lang/Object -/
def k0 : Class := { plain "java/lang/Object" none with
  accessFlags := 33
  interfaces := #[]
  cf := some (fileOf pool0 8 #[] #[{ accessFlags := 1, nameIndex := 5, descriptorIndex := 6, attributes := #[] }] 33 0 #[] #[])
  fields := #[]
  methods := #[k0m0]
  instanceTypes := #[]
  staticTypes := #[]
  resolved := Array.replicate 124 none
  statics := none }

def pool1 : Array CpInfo := pool [(2, .class_ 4), (1, u "java/lang/Object"), (0, u "<init>"), (0, u "()V"), (2, .long 9223372036854775807), (1, .class_ 12), (0, u "com/example/grantbook/grantbook/model/PageRequest"), (0, .long 9007199254740991), (1, .integer 2147483647), (0, .methodref 11 17), (0, .nameAndType 5 18), (0, u "(JI)V"), (0, .methodref 11 20), (0, .nameAndType 21 22), (0, u "offset"), (0, u "()J"), (0, .class_ 24), (0, u "com/example/grantbook/grantbook/model/PageRequestOffsetPinLaw"), (2, u "law"), (0, u "(JI)Z")] 3

def k1m0 : Method := { name := "<init>", desc := "()V", sig := { parameters := [], returnType := none }, accessFlags := 1, code := none }
def k1c1 : Code := { maxStack := 6, maxLocals := 10, code := code, exceptionTable := #[], attributes := #[] }
def k1m1 : Method := { name := "law", desc := "(JI)Z", sig := { parameters := [.long, .int], returnType := some .boolean }, accessFlags := 9, code := some k1c1 }
/-- com/example/grantbook/grantbook/model/PageRequestOffsetPinLaw -/
def k1 : Class := { plain "com/example/grantbook/grantbook/model/PageRequestOffsetPinLaw" (some 0) with
  accessFlags := 49
  interfaces := #[]
  cf := some (fileOf pool1 23 #[] #[{ accessFlags := 1, nameIndex := 5, descriptorIndex := 6, attributes := #[] }, { accessFlags := 9, nameIndex := 27, descriptorIndex := 28, attributes := #[] }] 49 2 #[] #[])
  fields := #[]
  methods := #[k1m0, k1m1]
  instanceTypes := #[]
  staticTypes := #[]
  resolved := Array.replicate 32 none
  statics := none }

def pool2 : Array CpInfo := pool [(1, .methodref 2 3), (0, .class_ 4), (0, .nameAndType 5 6), (0, u "java/lang/Object"), (0, u "<init>"), (0, u "()V"), (0, .class_ 8), (0, u "java/lang/Record")] 13

def k2c0 : Code := { maxStack := 1, maxLocals := 1, code := jdk_30_method_1_code, exceptionTable := #[], attributes := #[] }
def k2m0 : Method := { name := "<init>", desc := "()V", sig := { parameters := [], returnType := none }, accessFlags := 4, code := some k2c0 }
/-- java/lang/Record -/
def k2 : Class := { plain "java/lang/Record" (some 0) with
  accessFlags := 1057
  interfaces := #[]
  cf := some (fileOf pool2 7 #[] #[{ accessFlags := 4, nameIndex := 5, descriptorIndex := 6, attributes := #[] }] 1057 2 #[] #[])
  fields := #[]
  methods := #[k2m0]
  instanceTypes := #[]
  staticTypes := #[]
  resolved := Array.replicate 22 none
  statics := none }

def pool3 : Array CpInfo := pool [(1, .methodref 2 3), (0, .class_ 4), (0, .nameAndType 5 6), (0, u "java/lang/Record"), (0, u "<init>"), (0, u "()V"), (0, .class_ 8), (0, u "com/example/grantbook/grantbook/model/PageRequest"), (0, .long 9007199254740991), (13, .fieldref 7 24), (0, .nameAndType 25 26), (0, u "number"), (0, u "J"), (0, .fieldref 7 28), (0, .nameAndType 29 30), (0, u "size"), (0, u "I"), (12, u "MAX_NUMBER"), (1, u "DEFAULT_SIZE"), (1, u "MAX_SIZE"), (1, u "(JI)V"), (4, u "offset"), (0, u "()J")] 34

def k3c0 : Code := { maxStack := 4, maxLocals := 4, code := prog_43_method_1_code, exceptionTable := #[], attributes := #[] }
def k3m0 : Method := { name := "<init>", desc := "(JI)V", sig := { parameters := [.long, .int], returnType := none }, accessFlags := 1, code := some k3c0 }
def k3c1 : Code := { maxStack := 4, maxLocals := 1, code := prog_43_method_2_code, exceptionTable := #[], attributes := #[] }
def k3m1 : Method := { name := "offset", desc := "()J", sig := { parameters := [], returnType := some .long }, accessFlags := 1, code := some k3c1 }
/-- com/example/grantbook/grantbook/model/PageRequest -/
def k3 : Class := { plain "com/example/grantbook/grantbook/model/PageRequest" (some 2) with
  accessFlags := 49
  interfaces := #[]
  cf := some (fileOf pool3 7 #[] #[{ accessFlags := 1, nameIndex := 5, descriptorIndex := 49, attributes := #[] }, { accessFlags := 1, nameIndex := 54, descriptorIndex := 55, attributes := #[] }] 49 2 #[] #[{ accessFlags := 18, nameIndex := 25, descriptorIndex := 26, attributes := #[] }, { accessFlags := 18, nameIndex := 29, descriptorIndex := 30, attributes := #[] }, { accessFlags := 25, nameIndex := 43, descriptorIndex := 26, attributes := #[] }, { accessFlags := 25, nameIndex := 45, descriptorIndex := 30, attributes := #[] }, { accessFlags := 25, nameIndex := 47, descriptorIndex := 30, attributes := #[] }])
  fields := #[{ name := "number", type := .long, accessFlags := 18, slot := 0, constantValue := 0 }, { name := "size", type := .int, accessFlags := 18, slot := 1, constantValue := 0 }, { name := "MAX_NUMBER", type := .long, accessFlags := 25, slot := 0, constantValue := 0 }, { name := "DEFAULT_SIZE", type := .int, accessFlags := 25, slot := 1, constantValue := 0 }, { name := "MAX_SIZE", type := .int, accessFlags := 25, slot := 2, constantValue := 0 }]
  methods := #[k3m0, k3m1]
  instanceTypes := #[.long, .int]
  staticTypes := #[.long, .int, .int]
  resolved := Array.replicate 90 none
  statics := none }

def pool4 : Array CpInfo := pool [(1, u "java/lang/Cloneable"), (0, .class_ 1), (0, u "java/lang/Object"), (0, .class_ 3)] 3

/-- java/lang/Cloneable -/
def k4 : Class := { plain "java/lang/Cloneable" (some 0) with
  accessFlags := 1537
  interfaces := #[]
  cf := some (fileOf pool4 2 #[] #[] 1537 4 #[] #[])
  fields := #[]
  methods := #[]
  instanceTypes := #[]
  staticTypes := #[]
  resolved := Array.replicate 8 none
  statics := none }

def pool5 : Array CpInfo := pool [(1, u "java/io/Serializable"), (0, .class_ 1), (0, u "java/lang/Object"), (0, .class_ 3)] 3

/-- java/io/Serializable -/
def k5 : Class := { plain "java/io/Serializable" (some 0) with
  accessFlags := 1537
  interfaces := #[]
  cf := some (fileOf pool5 2 #[] #[] 1537 4 #[] #[])
  fields := #[]
  methods := #[]
  instanceTypes := #[]
  staticTypes := #[]
  resolved := Array.replicate 8 none
  statics := none }

/-- the primitive byte -/
def k6 : Class := { plain "byte" none with kind := .primitive 'B', accessFlags := 0x411 }
/-- [B -/
def k7 : Class := { plain "[B" (some 0) with kind := .array 6 .byte, interfaces := #[4, 5], accessFlags := 1041 }

/-- the primitive int -/
def k8 : Class := { plain "int" none with kind := .primitive 'I', accessFlags := 0x411 }
/-- [I -/
def k9 : Class := { plain "[I" (some 0) with kind := .array 8 .int, interfaces := #[4, 5], accessFlags := 1041 }

def heap : Heap := #[]
def classes : Array Class := #[k0, k1, k2, k3, k4, k5, k6, k7, k8, k9]
def interned : List (Array UInt16 × Addr) := []
def slotsUsed : Nat := 0
def theMethod : MethodId := ⟨1, 1⟩
def args0 : Array Value := #[.long 5, .int 7]
def aboutOver (below : List Frame) : State where
  vm := { classes := classes, interned := interned.toArray }
  heap := heap
  slotsUsed := slotsUsed
  threads := #[{ frames := .invoking theMethod args0 :: below }]
def below0 : List Frame := [.native { method := ⟨0, 0⟩, args := #[] }]
def about1 : State := aboutOver below0
def p0 : Program := .bare "" "" ""
def e0 : Env := launch0.env 0 0 0
theorem w_frames : about1.frames = Frame.invoking theMethod args0 :: below0 := rfl
set_option maxRecDepth 65536 in
theorem w_args : argsFit about1.vm theMethod args0 = true := by decide +kernel
set_option maxRecDepth 65536 in
theorem w_heap : heapFits about1 = true := by decide +kernel
set_option maxRecDepth 65536 in
theorem w_runnable : about1.curStatus? = some .runnable := by decide +kernel
set_option maxRecDepth 65536 in
theorem w_alone : about1.alone = true := by decide +kernel
set_option maxRecDepth 65536 in
theorem w_named : about1.methodNamed? x = some theMethod := by decide +kernel
set_option maxRecDepth 65536 in
theorem w_hears : about1.hears theMethod below0 = true := by decide +kernel
set_option maxRecDepth 65536 in
theorem w_ripe : about1.ripe theMethod args0 below0 = true := by decide +kernel
theorem w_running : about1.status = .running := rfl
set_option maxRecDepth 65536 in
theorem w_room : about1.hasRoom e0.platform room_1 = true :=
  launch0.hasRoom_least _ room_1 (by decide +kernel) (by decide +kernel) (by decide +kernel) (by decide +kernel) (by decide +kernel) (by decide +kernel)
theorem allAtoms_all (ts : List Jvm.Cond) (a : Array Jvm.Value) (st : Jvm.State) : (allAtoms ts).before a st = ts.all (fun c => c.before a st) := by
  induction ts with
  | nil => rfl
  | cons c t ih =>
    show (Jvm.Cond.and c (allAtoms t)).before a st = _
    rw [Jvm.Cond.before_and, ih, List.all_cons]
def words1 : List Jvm.Cond := Jvm.Cond.code x code maxLocals ret :: tables_1
/-- a 'code' word, met by the world's own term for the bytes: nothing is compared byte by byte -/
theorem code_word {y : MethodName} {bytes : ByteArray} {mx : Nat} {rt : Option FieldType} {a : Array Value} {s : State} {m : MethodId} {meth : Method} {c : Code} (h1 : s.methodNamed? y = some m) (h2 : s.vm.method? m = some meth) (h3 : meth.code = some c) (h4 : c.code = bytes)
    (h5 : (c.maxLocals == mx && c.exceptionTable.isEmpty && decide (c.maxStack ≤ mostOperands) && decide (meth.sig.returnType = rt) && !meth.locks && decide (parseMethodDescriptor y.desc = some meth.sig)) = true) : (Jvm.Cond.code y bytes mx rt).before a s = true := by
  simp only [Bool.and_eq_true, beq_iff_eq, Bool.not_eq_true', decide_eq_true_eq] at h5
  obtain ⟨⟨⟨⟨⟨g1, g2⟩, g3⟩, g4⟩, g5⟩, g6⟩ := h5
  simp [Cond.before, Cond.holds, Cond.value, h1, h2, h3, h4, g1, g2, g3, g4, g5, g6]
def isCode : Jvm.Cond → Bool
  | .code _ _ _ _ => true
  | _ => false
theorem all_split {L : List Jvm.Cond} {P : Jvm.Cond → Bool} (h1 : L.all (fun c => isCode c || P c) = true) (h2 : ∀ c ∈ L.filter isCode, P c = true) : L.all P = true := by
  refine List.all_eq_true.mpr fun c hc => ?_
  have h := List.all_eq_true.mp h1 c hc
  rcases Bool.eq_false_or_eq_true (isCode c) with hi | hi
  · exact h2 c (List.mem_filter.mpr ⟨hc, hi⟩)
  · simpa [hi] using h
set_option maxRecDepth 65536 in
theorem w_c0 : (Jvm.Cond.code x code maxLocals ret).before args0 about1 = true := code_word (m := ⟨1, 1⟩) (meth := k1m1) (c := k1c1) (by decide +kernel) rfl rfl rfl (by decide +kernel)
set_option maxRecDepth 65536 in
theorem w_c1 : (Jvm.Cond.code ({ cls := "com/example/grantbook/grantbook/model/PageRequest", name := "<init>", desc := "(JI)V" } : Jvm.MethodName) prog_43_method_1_code (4 : Nat) (Option.none : Option Jvm.ClassFile.FieldType)).before args0 about1 = true := code_word (m := ⟨3, 0⟩) (meth := k3m0) (c := k3c0) (by decide +kernel) rfl rfl rfl (by decide +kernel)
set_option maxRecDepth 65536 in
theorem w_c2 : (Jvm.Cond.code ({ cls := "java/lang/Record", name := "<init>", desc := "()V" } : Jvm.MethodName) jdk_30_method_1_code (1 : Nat) (Option.none : Option Jvm.ClassFile.FieldType)).before args0 about1 = true := code_word (m := ⟨2, 0⟩) (meth := k2m0) (c := k2c0) (by decide +kernel) rfl rfl rfl (by decide +kernel)
set_option maxRecDepth 65536 in
theorem w_c3 : (Jvm.Cond.code ({ cls := "java/lang/Object", name := "<init>", desc := "()V" } : Jvm.MethodName) object_method_1_code (1 : Nat) (Option.none : Option Jvm.ClassFile.FieldType)).before args0 about1 = true := code_word (m := ⟨0, 0⟩) (meth := k0m0) (c := k0c0) (by decide +kernel) rfl rfl rfl (by decide +kernel)
set_option maxRecDepth 65536 in
theorem w_c4 : (Jvm.Cond.code ({ cls := "com/example/grantbook/grantbook/model/PageRequest", name := "offset", desc := "()J" } : Jvm.MethodName) prog_43_method_2_code (1 : Nat) (Option.some Jvm.ClassFile.FieldType.long)).before args0 about1 = true := code_word (m := ⟨3, 1⟩) (meth := k3m1) (c := k3c1) (by decide +kernel) rfl rfl rfl (by decide +kernel)
def codes1 : List Jvm.Cond := [Jvm.Cond.code x code maxLocals ret, Jvm.Cond.code ({ cls := "com/example/grantbook/grantbook/model/PageRequest", name := "<init>", desc := "(JI)V" } : Jvm.MethodName) prog_43_method_1_code (4 : Nat) (Option.none : Option Jvm.ClassFile.FieldType), Jvm.Cond.code ({ cls := "java/lang/Record", name := "<init>", desc := "()V" } : Jvm.MethodName) jdk_30_method_1_code (1 : Nat) (Option.none : Option Jvm.ClassFile.FieldType), Jvm.Cond.code ({ cls := "java/lang/Object", name := "<init>", desc := "()V" } : Jvm.MethodName) object_method_1_code (1 : Nat) (Option.none : Option Jvm.ClassFile.FieldType), Jvm.Cond.code ({ cls := "com/example/grantbook/grantbook/model/PageRequest", name := "offset", desc := "()J" } : Jvm.MethodName) prog_43_method_2_code (1 : Nat) (Option.some Jvm.ClassFile.FieldType.long)]
set_option maxRecDepth 65536 in
theorem codes_eq : words1.filter isCode = codes1 := rfl
theorem w_codes : ∀ c ∈ words1.filter isCode, c.before args0 about1 = true := by
  rw [codes_eq]
  intro c hc
  simp only [codes1, List.mem_cons, List.not_mem_nil, or_false] at hc
  rcases hc with rfl | rfl | rfl | rfl | rfl
  · exact w_c0
  · exact w_c1
  · exact w_c2
  · exact w_c3
  · exact w_c4
set_option maxRecDepth 65536 in
theorem w_t1 : (words1.take 24).all (fun c => isCode c || c.before args0 about1) = true := by decide +kernel
set_option maxRecDepth 65536 in
theorem w_t2 : (words1.drop 24).all (fun c => isCode c || c.before args0 about1) = true := by decide +kernel
theorem w_tables : (allAtoms (Jvm.Cond.code x code maxLocals ret :: tables_1)).before args0 about1 = true := by
  rw [allAtoms_all]
  show words1.all (fun c => c.before args0 about1) = true
  refine all_split ?_ w_codes
  rw [← List.take_append_drop 24 words1, List.all_append, w_t1, w_t2]
  rfl
set_option maxRecDepth 65536 in
theorem w_case : (Jvm.Cond.and given_1 narrow_1).before args0 about1 = true := by decide +kernel
theorem w_applies : (headSpec (Jvm.Cond.code x code maxLocals ret :: tables_1) room_1).applies x e0.platform about1 = true :=
  (Spec.applies_iff w_frames).mpr ⟨w_running, w_runnable, w_alone, w_named, w_hears, w_ripe, w_room, w_tables⟩
theorem atStart : AtStart classFile x code maxLocals ret World_1 tables_1 room_1 Calls_1 rest_1 Pre_1 launch0 p0 e0 about1 theMethod args0 below0 :=
  ⟨lists_1, trivial, launch0.admits_env _ _ _, launch0.least_env, fairChoices_fair.cas, fairChoices_fair.clock, w_frames, w_args, w_heap, w_applies, trivial, trivial, w_case⟩
end start1
theorem witness_1 : WitnessClaimed_1 := ⟨start1.p0, start1.e0, start1.about1, start1.theMethod, start1.args0, start1.below0, start1.atStart⟩
end Jvm.Pilot.@@N@@
