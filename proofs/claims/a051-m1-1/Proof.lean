import JvmDerived
import JvmDerived.Pilot.@@N@@Statement
import JvmDerived.Pilot.@@N@@Code
set_option linter.unusedVariables false
set_option linter.unusedSimpArgs false
namespace Jvm.Pilot.@@N@@
open Jvm Jvm.ClassFile Sem Op Lib Jvm.Free Jvm.Stand Jvm.LawKit Jvm.RoadKit Bundle Jvm.Pilot.@@N@@.Jvm.D
section Own
variable {p : Program} {l : Launch} {e : Env} {R : Room} {s : State} {m : MethodId} {args : Array Value} {below : List Frame} {meth : Method} {c : Code} {T : State} {locs : List Loc} {cells slots : Nat}
/-- from S0 the run ends as Q says, within the frame of k cells and n slots -/
def own_Go (p : Program) (e : Env) (below : List Frame) (s : State) (Q : Option Value → Heap → List Loc → Prop) (k n : Nat) (S0 : State) : Prop :=
  ∃ U o, Steps p.tables e below S0 U ∧ U.status = .running ∧ Ended U below o ∧ ∃ v L, o = .returned v ∧ Q v U.heap L ∧ FrameEnd s o U L k n
variable {Q : Option Value → Heap → List Loc → Prop} {K N : Nat} {S0 S1 : State}
theorem own_step (h : ∀ t, Steps p.tables e below S1 t → Steps p.tables e below S0 t) (G : own_Go p e below s Q K N S1) : own_Go p e below s Q K N S0 := by
  obtain ⟨U, o, h1, r⟩ := G
  exact ⟨U, o, h _ h1, r⟩
theorem own_start {g g' : JFrame} (q : g = g') (G : own_Go p e below s Q K N (T.setTop g')) : own_Go p e below s Q K N (T.setTop g) := q ▸ G
theorem own_end (X : Stand p l e R s m args below meth c T locs cells slots) {v : Option Value} (hv : meth.sig.returnType = none → v = none) (hlk : meth.locks = false) (hq : Q v T.heap locs) (hk : cells ≤ K) (hn : slots ≤ N)
    (go : ∀ fs, (∀ (f : JFrame) (acts : List Action), f.method = m → f.locked = none → f.entered = [] → (doReturn e (T.setTop f) acts v).1 = T.setFrames fs) → Steps p.tables e below S0 (T.setFrames fs)) : own_Go p e below s Q K N S0 := by
  obtain ⟨fs, hr, hrun, hended, hW, hsame⟩ := X.leave (v := v) hv hlk
  exact ⟨_, _, go fs hr, hrun, hended, _, _, rfl, hq, ⟨_, rfl⟩, hW, hsame.mono hk hn⟩
theorem own_retN (X : Stand p l e R s m args below meth c T locs cells slots) (hx : p.tables.exec = Jvm.exec) (hlk : meth.locks = false) {pc : Nat} {Ls : Array Slot} {z : Int32} {t : FieldType} {rest : List Value} (hret : meth.sig.returnType = some t) (ht : t = .boolean ∨ t = .byte ∨ t = .char ∨ t = .short)
    (hd : decode c.code pc = .ok (.ireturn, 1)) (hq : Q (some (.int (nar t z))) T.heap locs) (hk : cells ≤ K) (hn : slots ≤ N) : own_Go p e below s Q K N (T.setTop (mkF m pc Ls (.int z :: rest))) :=
  own_end X (fun h => by rw [hret] at h; cases h) hlk hq hk hn fun fs hr => retN X hx hret ht hd hr
theorem own_retI (X : Stand p l e R s m args below meth c T locs cells slots) (hx : p.tables.exec = Jvm.exec) (hlk : meth.locks = false) {pc : Nat} {Ls : Array Slot} {z : Int32} {rest : List Value} (hret : meth.sig.returnType = some .int)
    (hd : decode c.code pc = .ok (.ireturn, 1)) (hq : Q (some (.int z)) T.heap locs) (hk : cells ≤ K) (hn : slots ≤ N) : own_Go p e below s Q K N (T.setTop (mkF m pc Ls (.int z :: rest))) :=
  own_end X (fun h => by rw [hret] at h; cases h) hlk hq hk hn fun fs hr => retOut X hx hret rfl (Or.inl ⟨rfl, Or.inl rfl, _, rfl⟩) hd hr
theorem own_retJ (X : Stand p l e R s m args below meth c T locs cells slots) (hx : p.tables.exec = Jvm.exec) (hlk : meth.locks = false) {pc : Nat} {Ls : Array Slot} {z : Int64} {rest : List Value} (hret : meth.sig.returnType = some .long)
    (hd : decode c.code pc = .ok (.lreturn, 1)) (hq : Q (some (.long z)) T.heap locs) (hk : cells ≤ K) (hn : slots ≤ N) : own_Go p e below s Q K N (T.setTop (mkF m pc Ls (.long z :: rest))) :=
  own_end X (fun h => by rw [hret] at h; cases h) hlk hq hk hn fun fs hr => retOut X hx hret rfl (Or.inr (Or.inl ⟨rfl, rfl, _, rfl⟩)) hd hr
theorem own_retA (X : Stand p l e R s m args below meth c T locs cells slots) (hx : p.tables.exec = Jvm.exec) (hlk : meth.locks = false) {pc : Nat} {Ls : Array Slot} {w : Value} {t : FieldType} {rest : List Value} (hret : meth.sig.returnType = some t) (ht : t.isReference = true) (hw : w.isRef = true)
    (hd : decode c.code pc = .ok (.areturn, 1)) (hq : Q (some w) T.heap locs) (hk : cells ≤ K) (hn : slots ≤ N) : own_Go p e below s Q K N (T.setTop (mkF m pc Ls (w :: rest))) :=
  own_end X (fun h => by rw [hret] at h; cases h) hlk hq hk hn fun fs hr => retOut X hx hret (by cases t <;> first | (cases ht; done) | (cases w <;> rfl)) (Or.inr (Or.inr (Or.inr (Or.inr ⟨rfl, ht, hw⟩)))) hd hr
theorem own_retV (X : Stand p l e R s m args below meth c T locs cells slots) (hx : p.tables.exec = Jvm.exec) (hlk : meth.locks = false) {pc : Nat} {Ls : Array Slot} (hret : meth.sig.returnType = none)
    (hd : decode c.code pc = .ok (.return_, 1)) (hq : Q none T.heap locs) (hk : cells ≤ K) (hn : slots ≤ N) : own_Go p e below s Q K N (T.setTop (mkF m pc Ls [])) :=
  own_end X (fun _ => rfl) hlk hq hk hn fun fs hr => X.returnOut hx hret hd hr
theorem own_Sta_keep {Z : State} {h h' : Heap} {ws : List Addr} {C n d : String} {w : Value} (Kp : Keep h h' ws) (F : Sta Z h C n d w) (q : ∀ a ∈ ws, ∀ cell : Cell, h[a]? = some cell → cell.vm.isStatics = false) : Sta Z h' C n d w := by
  obtain ⟨cf, i, k, f, st, cell, h1, h2, h3, h4, h5, h6, h7⟩ := F
  exact ⟨cf, i, k, f, st, cell, h1, h2, h3, h4, Kp.2.1 _ _ h5 (fun hm => by rw [q _ hm _ h5] at h6; cases h6), h6, h7⟩
theorem g_iload_n (X : Stand p l e R s m args below meth c T locs cells slots) (hx : p.tables.exec = Jvm.exec) {pc : Nat} (pc' : Nat) {Ls : Array Slot} {k : Fin 4} {v : Int32} {st : List Value} (hd : decode c.code pc = .ok (.iload_n k, 1)) (hl : Ls[k.val]? = some (.val (.int v))) (hp : pc + 1 = pc') (G : own_Go p e below s Q K N (T.setTop (mkF m pc' Ls (.int v :: st)))) : own_Go p e below s Q K N (T.setTop (mkF m pc Ls (st))) := by
  subst hp; exact own_step (fun _ k => XS.iloadN X.here hx rfl hd hl k) G
theorem g_iload (X : Stand p l e R s m args below meth c T locs cells slots) (hx : p.tables.exec = Jvm.exec) {pc : Nat} (pc' : Nat) {Ls : Array Slot} {k : Nat} {v : Int32} {st : List Value} (hd : decode c.code pc = .ok (.iload k, 2)) (hl : Ls[k]? = some (.val (.int v))) (hp : pc + 2 = pc') (G : own_Go p e below s Q K N (T.setTop (mkF m pc' Ls (.int v :: st)))) : own_Go p e below s Q K N (T.setTop (mkF m pc Ls (st))) := by
  subst hp; exact own_step (fun _ k => XS.iload X.here hx rfl hd hl k) G
theorem g_istore_n (X : Stand p l e R s m args below meth c T locs cells slots) (hx : p.tables.exec = Jvm.exec) {pc : Nat} (pc' : Nat) {Ls : Array Slot} {k : Fin 4} {v : Int32} {st : List Value} {l' : Array Slot} (hd : decode c.code pc = .ok (.istore_n k, 1)) (hl : storeLocals Ls k.val (.int v) = some l') (hp : pc + 1 = pc') (G : own_Go p e below s Q K N (T.setTop (mkF m pc' l' (st)))) : own_Go p e below s Q K N (T.setTop (mkF m pc Ls (.int v :: st))) := by
  subst hp; exact own_step (fun _ k => XS.istoreN X.here hx rfl hd rfl hl k) G
theorem g_istore (X : Stand p l e R s m args below meth c T locs cells slots) (hx : p.tables.exec = Jvm.exec) {pc : Nat} (pc' : Nat) {Ls : Array Slot} {k : Nat} {v : Int32} {st : List Value} {l' : Array Slot} (hd : decode c.code pc = .ok (.istore k, 2)) (hl : storeLocals Ls k (.int v) = some l') (hp : pc + 2 = pc') (G : own_Go p e below s Q K N (T.setTop (mkF m pc' l' (st)))) : own_Go p e below s Q K N (T.setTop (mkF m pc Ls (.int v :: st))) := by
  subst hp; exact own_step (fun _ k => XS.istore X.here hx rfl hd rfl hl k) G
theorem g_lload_n (X : Stand p l e R s m args below meth c T locs cells slots) (hx : p.tables.exec = Jvm.exec) {pc : Nat} (pc' : Nat) {Ls : Array Slot} {k : Fin 4} {v : Int64} {st : List Value} (hd : decode c.code pc = .ok (.lload_n k, 1)) (hl : Ls[k.val]? = some (.val (.long v))) (hp : pc + 1 = pc') (G : own_Go p e below s Q K N (T.setTop (mkF m pc' Ls (.long v :: st)))) : own_Go p e below s Q K N (T.setTop (mkF m pc Ls (st))) := by
  subst hp; exact own_step (fun _ k => XS.lloadN X.here hx rfl hd hl k) G
theorem g_lload (X : Stand p l e R s m args below meth c T locs cells slots) (hx : p.tables.exec = Jvm.exec) {pc : Nat} (pc' : Nat) {Ls : Array Slot} {k : Nat} {v : Int64} {st : List Value} (hd : decode c.code pc = .ok (.lload k, 2)) (hl : Ls[k]? = some (.val (.long v))) (hp : pc + 2 = pc') (G : own_Go p e below s Q K N (T.setTop (mkF m pc' Ls (.long v :: st)))) : own_Go p e below s Q K N (T.setTop (mkF m pc Ls (st))) := by
  subst hp; exact own_step (fun _ k => XS.lload X.here hx rfl hd hl k) G
theorem g_lstore_n (X : Stand p l e R s m args below meth c T locs cells slots) (hx : p.tables.exec = Jvm.exec) {pc : Nat} (pc' : Nat) {Ls : Array Slot} {k : Fin 4} {v : Int64} {st : List Value} {l' : Array Slot} (hd : decode c.code pc = .ok (.lstore_n k, 1)) (hl : storeLocals Ls k.val (.long v) = some l') (hp : pc + 1 = pc') (G : own_Go p e below s Q K N (T.setTop (mkF m pc' l' (st)))) : own_Go p e below s Q K N (T.setTop (mkF m pc Ls (.long v :: st))) := by
  subst hp; exact own_step (fun _ k => XS.lstoreN X.here hx rfl hd rfl hl k) G
theorem g_lstore (X : Stand p l e R s m args below meth c T locs cells slots) (hx : p.tables.exec = Jvm.exec) {pc : Nat} (pc' : Nat) {Ls : Array Slot} {k : Nat} {v : Int64} {st : List Value} {l' : Array Slot} (hd : decode c.code pc = .ok (.lstore k, 2)) (hl : storeLocals Ls k (.long v) = some l') (hp : pc + 2 = pc') (G : own_Go p e below s Q K N (T.setTop (mkF m pc' l' (st)))) : own_Go p e below s Q K N (T.setTop (mkF m pc Ls (.long v :: st))) := by
  subst hp; exact own_step (fun _ k => XS.lstore X.here hx rfl hd rfl hl k) G
theorem g_aload_n (X : Stand p l e R s m args below meth c T locs cells slots) (hx : p.tables.exec = Jvm.exec) {pc : Nat} (pc' : Nat) {Ls : Array Slot} {k : Fin 4} {v : Value} {st : List Value} (hd : decode c.code pc = .ok (.aload_n k, 1)) (hl : Ls[k.val]? = some (.val v)) (hv : v.isRef = true) (hp : pc + 1 = pc') (G : own_Go p e below s Q K N (T.setTop (mkF m pc' Ls (v :: st)))) : own_Go p e below s Q K N (T.setTop (mkF m pc Ls (st))) := by
  subst hp; exact own_step (fun _ k => XS.aloadN X.here hx rfl hd hl hv k) G
theorem g_aload (X : Stand p l e R s m args below meth c T locs cells slots) (hx : p.tables.exec = Jvm.exec) {pc : Nat} (pc' : Nat) {Ls : Array Slot} {k : Nat} {v : Value} {st : List Value} (hd : decode c.code pc = .ok (.aload k, 2)) (hl : Ls[k]? = some (.val v)) (hv : v.isRef = true) (hp : pc + 2 = pc') (G : own_Go p e below s Q K N (T.setTop (mkF m pc' Ls (v :: st)))) : own_Go p e below s Q K N (T.setTop (mkF m pc Ls (st))) := by
  subst hp; exact own_step (fun _ k => XS.aload X.here hx rfl hd hl hv k) G
theorem g_astore_n (X : Stand p l e R s m args below meth c T locs cells slots) (hx : p.tables.exec = Jvm.exec) {pc : Nat} (pc' : Nat) {Ls : Array Slot} {k : Fin 4} {v : Value} {st : List Value} {l' : Array Slot} (hd : decode c.code pc = .ok (.astore_n k, 1)) (hv : v.isRef = true) (hl : storeLocals Ls k.val v = some l') (hp : pc + 1 = pc') (G : own_Go p e below s Q K N (T.setTop (mkF m pc' l' (st)))) : own_Go p e below s Q K N (T.setTop (mkF m pc Ls (v :: st))) := by
  subst hp; exact own_step (fun _ k => XS.astoreN X.here hx rfl hd rfl hv hl k) G
theorem g_astore (X : Stand p l e R s m args below meth c T locs cells slots) (hx : p.tables.exec = Jvm.exec) {pc : Nat} (pc' : Nat) {Ls : Array Slot} {k : Nat} {v : Value} {st : List Value} {l' : Array Slot} (hd : decode c.code pc = .ok (.astore k, 2)) (hv : v.isRef = true) (hl : storeLocals Ls k v = some l') (hp : pc + 2 = pc') (G : own_Go p e below s Q K N (T.setTop (mkF m pc' l' (st)))) : own_Go p e below s Q K N (T.setTop (mkF m pc Ls (v :: st))) := by
  subst hp; exact own_step (fun _ k => XS.astore X.here hx rfl hd rfl hv hl k) G
theorem g_iconst (X : Stand p l e R s m args below meth c T locs cells slots) (hx : p.tables.exec = Jvm.exec) {pc : Nat} (pc' : Nat) {Ls : Array Slot} {i : Int} {st : List Value} (hd : decode c.code pc = .ok (.iconst i, 1)) (z : Int32) (hz : Int32.ofInt i = z) (hp : pc + 1 = pc') (G : own_Go p e below s Q K N (T.setTop (mkF m pc' Ls (.int z :: st)))) : own_Go p e below s Q K N (T.setTop (mkF m pc Ls st)) := by
  subst hp hz; exact own_step (fun _ k => XS.iconst X.here hx rfl hd k) G
theorem g_bipush (X : Stand p l e R s m args below meth c T locs cells slots) (hx : p.tables.exec = Jvm.exec) {pc : Nat} (pc' : Nat) {Ls : Array Slot} {i : Int} {st : List Value} (hd : decode c.code pc = .ok (.bipush i, 2)) (z : Int32) (hz : (Int8.ofInt i).toInt32 = z) (hp : pc + 2 = pc') (G : own_Go p e below s Q K N (T.setTop (mkF m pc' Ls (.int z :: st)))) : own_Go p e below s Q K N (T.setTop (mkF m pc Ls st)) := by
  subst hp hz; exact own_step (fun _ k => XS.bipush X.here hx rfl hd k) G
theorem g_sipush (X : Stand p l e R s m args below meth c T locs cells slots) (hx : p.tables.exec = Jvm.exec) {pc : Nat} (pc' : Nat) {Ls : Array Slot} {i : Int} {st : List Value} (hd : decode c.code pc = .ok (.sipush i, 3)) (z : Int32) (hz : (Int16.ofInt i).toInt32 = z) (hp : pc + 3 = pc') (G : own_Go p e below s Q K N (T.setTop (mkF m pc' Ls (.int z :: st)))) : own_Go p e below s Q K N (T.setTop (mkF m pc Ls st)) := by
  subst hp hz; exact own_step (fun _ k => XS.sipush X.here hx rfl hd k) G
theorem g_lconst (X : Stand p l e R s m args below meth c T locs cells slots) (hx : p.tables.exec = Jvm.exec) {pc : Nat} (pc' : Nat) {Ls : Array Slot} {i : Fin 2} {st : List Value} (hd : decode c.code pc = .ok (.lconst i, 1)) (z : Int64) (hz : Int64.ofNat i.val = z) (hp : pc + 1 = pc') (G : own_Go p e below s Q K N (T.setTop (mkF m pc' Ls (.long z :: st)))) : own_Go p e below s Q K N (T.setTop (mkF m pc Ls st)) := by
  subst hp hz; exact own_step (fun _ k => XS.lconst X.here hx rfl hd k) G
theorem g_aconst_null (X : Stand p l e R s m args below meth c T locs cells slots) (hx : p.tables.exec = Jvm.exec) {pc : Nat} (pc' : Nat) {Ls : Array Slot} {st : List Value} (hd : decode c.code pc = .ok (.aconst_null, 1))  (hp : pc + 1 = pc') (G : own_Go p e below s Q K N (T.setTop (mkF m pc' Ls (.null :: st)))) : own_Go p e below s Q K N (T.setTop (mkF m pc Ls (st))) := by
  subst hp; exact own_step (fun _ k => XS.aconstNull X.here hx rfl hd k) G
theorem g_iadd (X : Stand p l e R s m args below meth c T locs cells slots) (hx : p.tables.exec = Jvm.exec) {pc : Nat} (pc' : Nat) {Ls : Array Slot} {x y : Int32} {st : List Value} (hd : decode c.code pc = .ok (.iadd, 1))  (hp : pc + 1 = pc') (G : own_Go p e below s Q K N (T.setTop (mkF m pc' Ls (.int (x + y) :: st)))) : own_Go p e below s Q K N (T.setTop (mkF m pc Ls (.int y :: .int x :: st))) := by
  subst hp; exact own_step (fun _ k => XS.iadd X.here hx rfl hd rfl k) G
theorem g_ladd (X : Stand p l e R s m args below meth c T locs cells slots) (hx : p.tables.exec = Jvm.exec) {pc : Nat} (pc' : Nat) {Ls : Array Slot} {x y : Int64} {st : List Value} (hd : decode c.code pc = .ok (.ladd, 1))  (hp : pc + 1 = pc') (G : own_Go p e below s Q K N (T.setTop (mkF m pc' Ls (.long (x + y) :: st)))) : own_Go p e below s Q K N (T.setTop (mkF m pc Ls (.long y :: .long x :: st))) := by
  subst hp; exact own_step (fun _ k => XS.ladd X.here hx rfl hd rfl k) G
theorem g_isub (X : Stand p l e R s m args below meth c T locs cells slots) (hx : p.tables.exec = Jvm.exec) {pc : Nat} (pc' : Nat) {Ls : Array Slot} {x y : Int32} {st : List Value} (hd : decode c.code pc = .ok (.isub, 1))  (hp : pc + 1 = pc') (G : own_Go p e below s Q K N (T.setTop (mkF m pc' Ls (.int (x - y) :: st)))) : own_Go p e below s Q K N (T.setTop (mkF m pc Ls (.int y :: .int x :: st))) := by
  subst hp; exact own_step (fun _ k => XS.isub X.here hx rfl hd rfl k) G
theorem g_lsub (X : Stand p l e R s m args below meth c T locs cells slots) (hx : p.tables.exec = Jvm.exec) {pc : Nat} (pc' : Nat) {Ls : Array Slot} {x y : Int64} {st : List Value} (hd : decode c.code pc = .ok (.lsub, 1))  (hp : pc + 1 = pc') (G : own_Go p e below s Q K N (T.setTop (mkF m pc' Ls (.long (x - y) :: st)))) : own_Go p e below s Q K N (T.setTop (mkF m pc Ls (.long y :: .long x :: st))) := by
  subst hp; exact own_step (fun _ k => XS.lsub X.here hx rfl hd rfl k) G
theorem g_imul (X : Stand p l e R s m args below meth c T locs cells slots) (hx : p.tables.exec = Jvm.exec) {pc : Nat} (pc' : Nat) {Ls : Array Slot} {x y : Int32} {st : List Value} (hd : decode c.code pc = .ok (.imul, 1))  (hp : pc + 1 = pc') (G : own_Go p e below s Q K N (T.setTop (mkF m pc' Ls (.int (x * y) :: st)))) : own_Go p e below s Q K N (T.setTop (mkF m pc Ls (.int y :: .int x :: st))) := by
  subst hp; exact own_step (fun _ k => XS.imul X.here hx rfl hd rfl k) G
theorem g_lmul (X : Stand p l e R s m args below meth c T locs cells slots) (hx : p.tables.exec = Jvm.exec) {pc : Nat} (pc' : Nat) {Ls : Array Slot} {x y : Int64} {st : List Value} (hd : decode c.code pc = .ok (.lmul, 1))  (hp : pc + 1 = pc') (G : own_Go p e below s Q K N (T.setTop (mkF m pc' Ls (.long (x * y) :: st)))) : own_Go p e below s Q K N (T.setTop (mkF m pc Ls (.long y :: .long x :: st))) := by
  subst hp; exact own_step (fun _ k => XS.lmul X.here hx rfl hd rfl k) G
theorem g_iand (X : Stand p l e R s m args below meth c T locs cells slots) (hx : p.tables.exec = Jvm.exec) {pc : Nat} (pc' : Nat) {Ls : Array Slot} {x y : Int32} {st : List Value} (hd : decode c.code pc = .ok (.iand, 1))  (hp : pc + 1 = pc') (G : own_Go p e below s Q K N (T.setTop (mkF m pc' Ls (.int (x &&& y) :: st)))) : own_Go p e below s Q K N (T.setTop (mkF m pc Ls (.int y :: .int x :: st))) := by
  subst hp; exact own_step (fun _ k => XS.iand X.here hx rfl hd rfl k) G
theorem g_land (X : Stand p l e R s m args below meth c T locs cells slots) (hx : p.tables.exec = Jvm.exec) {pc : Nat} (pc' : Nat) {Ls : Array Slot} {x y : Int64} {st : List Value} (hd : decode c.code pc = .ok (.land, 1))  (hp : pc + 1 = pc') (G : own_Go p e below s Q K N (T.setTop (mkF m pc' Ls (.long (x &&& y) :: st)))) : own_Go p e below s Q K N (T.setTop (mkF m pc Ls (.long y :: .long x :: st))) := by
  subst hp; exact own_step (fun _ k => XS.land X.here hx rfl hd rfl k) G
theorem g_ior (X : Stand p l e R s m args below meth c T locs cells slots) (hx : p.tables.exec = Jvm.exec) {pc : Nat} (pc' : Nat) {Ls : Array Slot} {x y : Int32} {st : List Value} (hd : decode c.code pc = .ok (.ior, 1))  (hp : pc + 1 = pc') (G : own_Go p e below s Q K N (T.setTop (mkF m pc' Ls (.int (x ||| y) :: st)))) : own_Go p e below s Q K N (T.setTop (mkF m pc Ls (.int y :: .int x :: st))) := by
  subst hp; exact own_step (fun _ k => XS.ior X.here hx rfl hd rfl k) G
theorem g_lor (X : Stand p l e R s m args below meth c T locs cells slots) (hx : p.tables.exec = Jvm.exec) {pc : Nat} (pc' : Nat) {Ls : Array Slot} {x y : Int64} {st : List Value} (hd : decode c.code pc = .ok (.lor, 1))  (hp : pc + 1 = pc') (G : own_Go p e below s Q K N (T.setTop (mkF m pc' Ls (.long (x ||| y) :: st)))) : own_Go p e below s Q K N (T.setTop (mkF m pc Ls (.long y :: .long x :: st))) := by
  subst hp; exact own_step (fun _ k => XS.lor X.here hx rfl hd rfl k) G
theorem g_ixor (X : Stand p l e R s m args below meth c T locs cells slots) (hx : p.tables.exec = Jvm.exec) {pc : Nat} (pc' : Nat) {Ls : Array Slot} {x y : Int32} {st : List Value} (hd : decode c.code pc = .ok (.ixor, 1))  (hp : pc + 1 = pc') (G : own_Go p e below s Q K N (T.setTop (mkF m pc' Ls (.int (x ^^^ y) :: st)))) : own_Go p e below s Q K N (T.setTop (mkF m pc Ls (.int y :: .int x :: st))) := by
  subst hp; exact own_step (fun _ k => XS.ixor X.here hx rfl hd rfl k) G
theorem g_lxor (X : Stand p l e R s m args below meth c T locs cells slots) (hx : p.tables.exec = Jvm.exec) {pc : Nat} (pc' : Nat) {Ls : Array Slot} {x y : Int64} {st : List Value} (hd : decode c.code pc = .ok (.lxor, 1))  (hp : pc + 1 = pc') (G : own_Go p e below s Q K N (T.setTop (mkF m pc' Ls (.long (x ^^^ y) :: st)))) : own_Go p e below s Q K N (T.setTop (mkF m pc Ls (.long y :: .long x :: st))) := by
  subst hp; exact own_step (fun _ k => XS.lxor X.here hx rfl hd rfl k) G
theorem g_ineg (X : Stand p l e R s m args below meth c T locs cells slots) (hx : p.tables.exec = Jvm.exec) {pc : Nat} (pc' : Nat) {Ls : Array Slot} {x : Int32} {st : List Value} (hd : decode c.code pc = .ok (.ineg, 1))  (hp : pc + 1 = pc') (G : own_Go p e below s Q K N (T.setTop (mkF m pc' Ls (.int (-x) :: st)))) : own_Go p e below s Q K N (T.setTop (mkF m pc Ls (.int x :: st))) := by
  subst hp; exact own_step (fun _ k => XS.ineg X.here hx rfl hd rfl k) G
theorem g_lneg (X : Stand p l e R s m args below meth c T locs cells slots) (hx : p.tables.exec = Jvm.exec) {pc : Nat} (pc' : Nat) {Ls : Array Slot} {x : Int64} {st : List Value} (hd : decode c.code pc = .ok (.lneg, 1))  (hp : pc + 1 = pc') (G : own_Go p e below s Q K N (T.setTop (mkF m pc' Ls (.long (-x) :: st)))) : own_Go p e below s Q K N (T.setTop (mkF m pc Ls (.long x :: st))) := by
  subst hp; exact own_step (fun _ k => XS.lneg X.here hx rfl hd rfl k) G
theorem g_i2l (X : Stand p l e R s m args below meth c T locs cells slots) (hx : p.tables.exec = Jvm.exec) {pc : Nat} (pc' : Nat) {Ls : Array Slot} {x : Int32} {st : List Value} (hd : decode c.code pc = .ok (.i2l, 1))  (hp : pc + 1 = pc') (G : own_Go p e below s Q K N (T.setTop (mkF m pc' Ls (.long (x.toInt64) :: st)))) : own_Go p e below s Q K N (T.setTop (mkF m pc Ls (.int x :: st))) := by
  subst hp; exact own_step (fun _ k => XS.i2l X.here hx rfl hd rfl k) G
theorem g_l2i (X : Stand p l e R s m args below meth c T locs cells slots) (hx : p.tables.exec = Jvm.exec) {pc : Nat} (pc' : Nat) {Ls : Array Slot} {x : Int64} {st : List Value} (hd : decode c.code pc = .ok (.l2i, 1))  (hp : pc + 1 = pc') (G : own_Go p e below s Q K N (T.setTop (mkF m pc' Ls (.int (x.toInt32) :: st)))) : own_Go p e below s Q K N (T.setTop (mkF m pc Ls (.long x :: st))) := by
  subst hp; exact own_step (fun _ k => XS.l2i X.here hx rfl hd rfl k) G
theorem g_i2b (X : Stand p l e R s m args below meth c T locs cells slots) (hx : p.tables.exec = Jvm.exec) {pc : Nat} (pc' : Nat) {Ls : Array Slot} {x : Int32} {st : List Value} (hd : decode c.code pc = .ok (.i2b, 1))  (hp : pc + 1 = pc') (G : own_Go p e below s Q K N (T.setTop (mkF m pc' Ls (.int (x.toInt8.toInt32) :: st)))) : own_Go p e below s Q K N (T.setTop (mkF m pc Ls (.int x :: st))) := by
  subst hp; exact own_step (fun _ k => XS.i2b X.here hx rfl hd rfl k) G
theorem g_i2s (X : Stand p l e R s m args below meth c T locs cells slots) (hx : p.tables.exec = Jvm.exec) {pc : Nat} (pc' : Nat) {Ls : Array Slot} {x : Int32} {st : List Value} (hd : decode c.code pc = .ok (.i2s, 1))  (hp : pc + 1 = pc') (G : own_Go p e below s Q K N (T.setTop (mkF m pc' Ls (.int (x.toInt16.toInt32) :: st)))) : own_Go p e below s Q K N (T.setTop (mkF m pc Ls (.int x :: st))) := by
  subst hp; exact own_step (fun _ k => XS.i2s X.here hx rfl hd rfl k) G
theorem g_i2c (X : Stand p l e R s m args below meth c T locs cells slots) (hx : p.tables.exec = Jvm.exec) {pc : Nat} (pc' : Nat) {Ls : Array Slot} {x : Int32} {st : List Value} (hd : decode c.code pc = .ok (.i2c, 1))  (hp : pc + 1 = pc') (G : own_Go p e below s Q K N (T.setTop (mkF m pc' Ls (.int (x.toUInt32.toUInt16.toUInt32.toInt32) :: st)))) : own_Go p e below s Q K N (T.setTop (mkF m pc Ls (.int x :: st))) := by
  subst hp; exact own_step (fun _ k => XS.i2c X.here hx rfl hd rfl k) G
theorem g_ishl (X : Stand p l e R s m args below meth c T locs cells slots) (hx : p.tables.exec = Jvm.exec) {pc : Nat} (pc' : Nat) {Ls : Array Slot} {x : Int32} {y : Int32} {st : List Value} (hd : decode c.code pc = .ok (.ishl, 1))  (hp : pc + 1 = pc') (G : own_Go p e below s Q K N (T.setTop (mkF m pc' Ls (.int (x <<< (y &&& 31)) :: st)))) : own_Go p e below s Q K N (T.setTop (mkF m pc Ls (.int y :: .int x :: st))) := by
  subst hp; exact own_step (fun _ k => XS.ishl X.here hx rfl hd rfl k) G
theorem g_ishr (X : Stand p l e R s m args below meth c T locs cells slots) (hx : p.tables.exec = Jvm.exec) {pc : Nat} (pc' : Nat) {Ls : Array Slot} {x : Int32} {y : Int32} {st : List Value} (hd : decode c.code pc = .ok (.ishr, 1))  (hp : pc + 1 = pc') (G : own_Go p e below s Q K N (T.setTop (mkF m pc' Ls (.int (x >>> (y &&& 31)) :: st)))) : own_Go p e below s Q K N (T.setTop (mkF m pc Ls (.int y :: .int x :: st))) := by
  subst hp; exact own_step (fun _ k => XS.ishr X.here hx rfl hd rfl k) G
theorem g_iushr (X : Stand p l e R s m args below meth c T locs cells slots) (hx : p.tables.exec = Jvm.exec) {pc : Nat} (pc' : Nat) {Ls : Array Slot} {x : Int32} {y : Int32} {st : List Value} (hd : decode c.code pc = .ok (.iushr, 1))  (hp : pc + 1 = pc') (G : own_Go p e below s Q K N (T.setTop (mkF m pc' Ls (.int ((x.toUInt32 >>> (y &&& 31).toUInt32).toInt32) :: st)))) : own_Go p e below s Q K N (T.setTop (mkF m pc Ls (.int y :: .int x :: st))) := by
  subst hp; exact own_step (fun _ k => XS.iushr X.here hx rfl hd rfl k) G
theorem g_lshl (X : Stand p l e R s m args below meth c T locs cells slots) (hx : p.tables.exec = Jvm.exec) {pc : Nat} (pc' : Nat) {Ls : Array Slot} {x : Int64} {y : Int32} {st : List Value} (hd : decode c.code pc = .ok (.lshl, 1))  (hp : pc + 1 = pc') (G : own_Go p e below s Q K N (T.setTop (mkF m pc' Ls (.long (x <<< (y &&& 0x3f).toInt64) :: st)))) : own_Go p e below s Q K N (T.setTop (mkF m pc Ls (.int y :: .long x :: st))) := by
  subst hp; exact own_step (fun _ k => XS.lshl X.here hx rfl hd rfl k) G
theorem g_lshr (X : Stand p l e R s m args below meth c T locs cells slots) (hx : p.tables.exec = Jvm.exec) {pc : Nat} (pc' : Nat) {Ls : Array Slot} {x : Int64} {y : Int32} {st : List Value} (hd : decode c.code pc = .ok (.lshr, 1))  (hp : pc + 1 = pc') (G : own_Go p e below s Q K N (T.setTop (mkF m pc' Ls (.long (x >>> (y &&& 0x3f).toInt64) :: st)))) : own_Go p e below s Q K N (T.setTop (mkF m pc Ls (.int y :: .long x :: st))) := by
  subst hp; exact own_step (fun _ k => XS.lshr X.here hx rfl hd rfl k) G
theorem g_lushr (X : Stand p l e R s m args below meth c T locs cells slots) (hx : p.tables.exec = Jvm.exec) {pc : Nat} (pc' : Nat) {Ls : Array Slot} {x : Int64} {y : Int32} {st : List Value} (hd : decode c.code pc = .ok (.lushr, 1))  (hp : pc + 1 = pc') (G : own_Go p e below s Q K N (T.setTop (mkF m pc' Ls (.long ((x.toUInt64 >>> (y &&& 0x3f).toInt64.toUInt64).toInt64) :: st)))) : own_Go p e below s Q K N (T.setTop (mkF m pc Ls (.int y :: .long x :: st))) := by
  subst hp; exact own_step (fun _ k => XS.lushr X.here hx rfl hd rfl k) G
theorem g_lcmp (X : Stand p l e R s m args below meth c T locs cells slots) (hx : p.tables.exec = Jvm.exec) {pc : Nat} (pc' : Nat) {Ls : Array Slot} {x y : Int64} {st : List Value} (hd : decode c.code pc = .ok (.lcmp, 1))  (hp : pc + 1 = pc') (G : own_Go p e below s Q K N (T.setTop (mkF m pc' Ls (.int (lcmpW x y) :: st)))) : own_Go p e below s Q K N (T.setTop (mkF m pc Ls (.long y :: .long x :: st))) := by
  subst hp; exact own_step (fun _ k => XS.lcmp X.here hx rfl hd rfl k) G
theorem g_idiv (X : Stand p l e R s m args below meth c T locs cells slots) (hx : p.tables.exec = Jvm.exec) {pc : Nat} (pc' : Nat) {Ls : Array Slot} {x y : Int32} {st : List Value} (hd : decode c.code pc = .ok (.idiv, 1)) (hp : pc + 1 = pc') (hy : y ≠ 0) (G : own_Go p e below s Q K N (T.setTop (mkF m pc' Ls (.int (x / y) :: st)))) : own_Go p e below s Q K N (T.setTop (mkF m pc Ls (.int y :: .int x :: st))) := by
  subst hp; exact own_step (fun _ k => XS.idiv X.here hx rfl hd rfl hy k) G
theorem g_ldiv (X : Stand p l e R s m args below meth c T locs cells slots) (hx : p.tables.exec = Jvm.exec) {pc : Nat} (pc' : Nat) {Ls : Array Slot} {x y : Int64} {st : List Value} (hd : decode c.code pc = .ok (.ldiv, 1)) (hp : pc + 1 = pc') (hy : y ≠ 0) (G : own_Go p e below s Q K N (T.setTop (mkF m pc' Ls (.long (x / y) :: st)))) : own_Go p e below s Q K N (T.setTop (mkF m pc Ls (.long y :: .long x :: st))) := by
  subst hp; exact own_step (fun _ k => XS.ldiv X.here hx rfl hd rfl hy k) G
theorem g_irem (X : Stand p l e R s m args below meth c T locs cells slots) (hx : p.tables.exec = Jvm.exec) {pc : Nat} (pc' : Nat) {Ls : Array Slot} {x y : Int32} {st : List Value} (hd : decode c.code pc = .ok (.irem, 1)) (hp : pc + 1 = pc') (hy : y ≠ 0) (G : own_Go p e below s Q K N (T.setTop (mkF m pc' Ls (.int (x % y) :: st)))) : own_Go p e below s Q K N (T.setTop (mkF m pc Ls (.int y :: .int x :: st))) := by
  subst hp; exact own_step (fun _ k => iremM X hx rfl hd rfl hy k) G
theorem g_lrem (X : Stand p l e R s m args below meth c T locs cells slots) (hx : p.tables.exec = Jvm.exec) {pc : Nat} (pc' : Nat) {Ls : Array Slot} {x y : Int64} {st : List Value} (hd : decode c.code pc = .ok (.lrem, 1)) (hp : pc + 1 = pc') (hy : y ≠ 0) (G : own_Go p e below s Q K N (T.setTop (mkF m pc' Ls (.long (x % y) :: st)))) : own_Go p e below s Q K N (T.setTop (mkF m pc Ls (.long y :: .long x :: st))) := by
  subst hp; rw [← lrem_mod] at G; exact own_step (fun _ k => XS.lrem X.here hx rfl hd rfl hy k) G
theorem g_iinc (X : Stand p l e R s m args below meth c T locs cells slots) (hx : p.tables.exec = Jvm.exec) {pc : Nat} (pc' : Nat) {Ls : Array Slot} {k : Nat} {cst : Int} {x z : Int32} {l' : Array Slot} {st : List Value} (hd : decode c.code pc = .ok (.iinc k cst, 3)) (hl : Ls[k]? = some (.val (.int x))) (hz : x + Int32.ofInt cst = z) (hl' : storeLocals Ls k (.int z) = some l') (hp : pc + 3 = pc') (G : own_Go p e below s Q K N (T.setTop (mkF m pc' l' st))) : own_Go p e below s Q K N (T.setTop (mkF m pc Ls st)) := by
  subst hp hz; exact own_step (fun _ k => XS.iinc X.here hx rfl hd hl hl' k) G
theorem g_dup (X : Stand p l e R s m args below meth c T locs cells slots) (hx : p.tables.exec = Jvm.exec) {pc : Nat} (pc' : Nat) {Ls : Array Slot} {x : Value} {st : List Value} (hd : decode c.code pc = .ok (.dup, 1)) (hc : x.category = 1) (hp : pc + 1 = pc') (G : own_Go p e below s Q K N (T.setTop (mkF m pc' Ls (x :: x :: st)))) : own_Go p e below s Q K N (T.setTop (mkF m pc Ls (x :: st))) := by
  subst hp; exact own_step (fun _ k => XS.dup X.here hx rfl hd rfl hc k) G
theorem g_pop (X : Stand p l e R s m args below meth c T locs cells slots) (hx : p.tables.exec = Jvm.exec) {pc : Nat} (pc' : Nat) {Ls : Array Slot} {x : Value} {st : List Value} (hd : decode c.code pc = .ok (.pop, 1)) (hc : x.category = 1) (hp : pc + 1 = pc') (G : own_Go p e below s Q K N (T.setTop (mkF m pc' Ls (st)))) : own_Go p e below s Q K N (T.setTop (mkF m pc Ls (x :: st))) := by
  subst hp; exact own_step (fun _ k => XS.pop X.here hx rfl hd rfl hc k) G
theorem g_dup_x1 (X : Stand p l e R s m args below meth c T locs cells slots) (hx : p.tables.exec = Jvm.exec) {pc : Nat} (pc' : Nat) {Ls : Array Slot} {x y : Value} {st : List Value} (hd : decode c.code pc = .ok (.dup_x1, 1)) (hc : x.category = 1) (hc' : y.category = 1) (hp : pc + 1 = pc') (G : own_Go p e below s Q K N (T.setTop (mkF m pc' Ls (x :: y :: x :: st)))) : own_Go p e below s Q K N (T.setTop (mkF m pc Ls (x :: y :: st))) := by
  subst hp; exact own_step (fun _ k => XS.dupX1 X.here hx rfl hd rfl hc hc' k) G
theorem g_dup2 (X : Stand p l e R s m args below meth c T locs cells slots) (hx : p.tables.exec = Jvm.exec) {pc : Nat} (pc' : Nat) {Ls : Array Slot} {x y : Value} {st : List Value} (hd : decode c.code pc = .ok (.dup2, 1)) (hc : x.category = 1) (hc' : y.category = 1) (hp : pc + 1 = pc') (G : own_Go p e below s Q K N (T.setTop (mkF m pc' Ls (x :: y :: x :: y :: st)))) : own_Go p e below s Q K N (T.setTop (mkF m pc Ls (x :: y :: st))) := by
  subst hp; exact own_step (fun _ k => XT.dup2 X.here hx rfl hd rfl hc hc' k) G
theorem g_dup2L (X : Stand p l e R s m args below meth c T locs cells slots) (hx : p.tables.exec = Jvm.exec) {pc : Nat} (pc' : Nat) {Ls : Array Slot} {x : Int64} {st : List Value} (hd : decode c.code pc = .ok (.dup2, 1))  (hp : pc + 1 = pc') (G : own_Go p e below s Q K N (T.setTop (mkF m pc' Ls (.long x :: .long x :: st)))) : own_Go p e below s Q K N (T.setTop (mkF m pc Ls (.long x :: st))) := by
  subst hp; exact own_step (fun _ k => XT.dup2L X.here hx rfl hd rfl k) G
theorem g_goto (X : Stand p l e R s m args below meth c T locs cells slots) (hx : p.tables.exec = Jvm.exec) {pc : Nat} (pc' : Nat) {Ls : Array Slot} {o : Int} {st : List Value} (hd : decode c.code pc = .ok (.goto o, 3)) (ho : 0 ≤ (pc : Int) + o) (hp : ((pc : Int) + o).toNat = pc') (G : own_Go p e below s Q K N (T.setTop (mkF m pc' Ls st))) : own_Go p e below s Q K N (T.setTop (mkF m pc Ls st)) :=
  own_step (fun _ k => XS.goto X.here hx rfl rfl hd ho hp k) G
theorem g_ifYes (X : Stand p l e R s m args below meth c T locs cells slots) (hx : p.tables.exec = Jvm.exec) {pc : Nat} (pc' : Nat) {Ls : Array Slot} {cd : ClassFile.Cond} {x : Int32} {o : Int} {st : List Value} (hd : decode c.code pc = .ok (.ifCond cd o, 3)) (hc : ifCond.holds cd x = true) (ho : 0 ≤ (pc : Int) + o) (hp : ((pc : Int) + o).toNat = pc') (G : own_Go p e below s Q K N (T.setTop (mkF m pc' Ls st))) : own_Go p e below s Q K N (T.setTop (mkF m pc Ls (.int x :: st))) :=
  own_step (fun _ k => XS.ifYes X.here hx rfl rfl hd rfl hc ho hp k) G
theorem g_ifNo (X : Stand p l e R s m args below meth c T locs cells slots) (hx : p.tables.exec = Jvm.exec) {pc : Nat} (pc' : Nat) {Ls : Array Slot} {cd : ClassFile.Cond} {x : Int32} {o : Int} {st : List Value} (hd : decode c.code pc = .ok (.ifCond cd o, 3)) (hc : ifCond.holds cd x = false) (hp : pc + 3 = pc') (G : own_Go p e below s Q K N (T.setTop (mkF m pc' Ls st))) : own_Go p e below s Q K N (T.setTop (mkF m pc Ls (.int x :: st))) := by
  subst hp; exact own_step (fun _ k => XS.ifNo X.here hx rfl hd rfl hc k) G
theorem g_icmpYes (X : Stand p l e R s m args below meth c T locs cells slots) (hx : p.tables.exec = Jvm.exec) {pc : Nat} (pc' : Nat) {Ls : Array Slot} {cd : ClassFile.Cond} {x y : Int32} {o : Int} {st : List Value} (hd : decode c.code pc = .ok (.if_icmp cd o, 3)) (hc : if_icmp.holds cd x y = true) (ho : 0 ≤ (pc : Int) + o) (hp : ((pc : Int) + o).toNat = pc') (G : own_Go p e below s Q K N (T.setTop (mkF m pc' Ls st))) : own_Go p e below s Q K N (T.setTop (mkF m pc Ls (.int y :: .int x :: st))) :=
  own_step (fun _ k => XS.icmpYes X.here hx rfl rfl hd rfl hc ho hp k) G
theorem g_icmpNo (X : Stand p l e R s m args below meth c T locs cells slots) (hx : p.tables.exec = Jvm.exec) {pc : Nat} (pc' : Nat) {Ls : Array Slot} {cd : ClassFile.Cond} {x y : Int32} {o : Int} {st : List Value} (hd : decode c.code pc = .ok (.if_icmp cd o, 3)) (hc : if_icmp.holds cd x y = false) (hp : pc + 3 = pc') (G : own_Go p e below s Q K N (T.setTop (mkF m pc' Ls st))) : own_Go p e below s Q K N (T.setTop (mkF m pc Ls (.int y :: .int x :: st))) := by
  subst hp; exact own_step (fun _ k => XS.icmpNo X.here hx rfl hd rfl hc k) G
theorem g_ifnullYes (X : Stand p l e R s m args below meth c T locs cells slots) (hx : p.tables.exec = Jvm.exec) {pc : Nat} (pc' : Nat) {Ls : Array Slot} {o : Int} {st : List Value} (hd : decode c.code pc = .ok (.ifnull o, 3)) (ho : 0 ≤ (pc : Int) + o) (hp : ((pc : Int) + o).toNat = pc') (G : own_Go p e below s Q K N (T.setTop (mkF m pc' Ls st))) : own_Go p e below s Q K N (T.setTop (mkF m pc Ls (.null :: st))) :=
  own_step (fun _ k => XS.ifnullYes X.here hx rfl rfl hd rfl ho hp k) G
theorem g_ifnullNo (X : Stand p l e R s m args below meth c T locs cells slots) (hx : p.tables.exec = Jvm.exec) {pc : Nat} (pc' : Nat) {Ls : Array Slot} {b : Addr} {o : Int} {st : List Value} (hd : decode c.code pc = .ok (.ifnull o, 3)) (hp : pc + 3 = pc') (G : own_Go p e below s Q K N (T.setTop (mkF m pc' Ls st))) : own_Go p e below s Q K N (T.setTop (mkF m pc Ls (.ref b :: st))) := by
  subst hp; exact own_step (fun _ k => XS.ifnullNo X.here hx rfl hd rfl k) G
theorem g_ifnonnullYes (X : Stand p l e R s m args below meth c T locs cells slots) (hx : p.tables.exec = Jvm.exec) {pc : Nat} (pc' : Nat) {Ls : Array Slot} {b : Addr} {o : Int} {st : List Value} (hd : decode c.code pc = .ok (.ifnonnull o, 3)) (ho : 0 ≤ (pc : Int) + o) (hp : ((pc : Int) + o).toNat = pc') (G : own_Go p e below s Q K N (T.setTop (mkF m pc' Ls st))) : own_Go p e below s Q K N (T.setTop (mkF m pc Ls (.ref b :: st))) :=
  own_step (fun _ k => XS.ifnonnullYes X.here hx rfl rfl hd rfl ho hp k) G
theorem g_ifnonnullNo (X : Stand p l e R s m args below meth c T locs cells slots) (hx : p.tables.exec = Jvm.exec) {pc : Nat} (pc' : Nat) {Ls : Array Slot} {o : Int} {st : List Value} (hd : decode c.code pc = .ok (.ifnonnull o, 3)) (hp : pc + 3 = pc') (G : own_Go p e below s Q K N (T.setTop (mkF m pc' Ls st))) : own_Go p e below s Q K N (T.setTop (mkF m pc Ls (.null :: st))) := by
  subst hp; exact own_step (fun _ k => XS.ifnonnullNo X.here hx rfl hd rfl k) G
theorem g_acmp (X : Stand p l e R s m args below meth c T locs cells slots) (hx : p.tables.exec = Jvm.exec) {pc : Nat} {Ls : Array Slot} {cd : ACond} {x y : Value} {o : Int} {st : List Value} {same : Bool} (pc' : Nat) (hd : decode c.code pc = .ok (.if_acmp cd o, 3)) (h1 : x.isRef = true) (h2 : y.isRef = true) (hq : decide (x = y) = same) (ho : 0 ≤ (pc : Int) + o) (hp : pc' = if acV cd same = true then ((pc : Int) + o).toNat else pc + 3) (G : own_Go p e below s Q K N (T.setTop (mkF m pc' Ls st))) : own_Go p e below s Q K N (T.setTop (mkF m pc Ls (y :: x :: st))) :=
  own_step (fun _ k => Jvm.RoadKit.acmp X hx rfl h1 h2 rfl hd rfl hq ho hp k) G
theorem g_ldc (X : Stand p l e R s m args below meth c T locs cells slots) (hx : p.tables.exec = Jvm.exec) {own : String} (hown : s.vm.findClass own = some m.cls) {pc : Nat} (pc' : Nat) {Ls : Array Slot} {i : Nat} {z : Int32} {st : List Value} (hw : (Jvm.Cond.constant own i z).before args s = true) (hd : decode c.code pc = .ok (.ldc i, 2)) (hp : pc + 2 = pc') (G : own_Go p e below s Q K N (T.setTop (mkF m pc' Ls (.int z :: st)))) : own_Go p e below s Q K N (T.setTop (mkF m pc Ls st)) := by
  subst hp; exact own_step (fun _ k => X.ldcInt hx hown hw (g := mkF m pc Ls st) rfl hd _ k) G
theorem g_ldc_w (X : Stand p l e R s m args below meth c T locs cells slots) (hx : p.tables.exec = Jvm.exec) {own : String} (hown : s.vm.findClass own = some m.cls) {pc : Nat} (pc' : Nat) {Ls : Array Slot} {i : Nat} {z : Int32} {st : List Value} (hw : (Jvm.Cond.constant own i z).before args s = true) (hd : decode c.code pc = .ok (.ldc_w i, 3)) (hp : pc + 3 = pc') (G : own_Go p e below s Q K N (T.setTop (mkF m pc' Ls (.int z :: st)))) : own_Go p e below s Q K N (T.setTop (mkF m pc Ls st)) := by
  subst hp; exact own_step (fun _ k => X.ldcwInt hx hown hw (g := mkF m pc Ls st) rfl hd _ k) G
theorem g_ldc2_w (X : Stand p l e R s m args below meth c T locs cells slots) (hx : p.tables.exec = Jvm.exec) {own : String} (hown : s.vm.findClass own = some m.cls) {pc : Nat} (pc' : Nat) {Ls : Array Slot} {i : Nat} {z : Int64} {st : List Value} (hw : (Jvm.Cond.constantLong own i z).before args s = true) (hd : decode c.code pc = .ok (.ldc2_w i, 3)) (hp : pc + 3 = pc') (G : own_Go p e below s Q K N (T.setTop (mkF m pc' Ls (.long z :: st)))) : own_Go p e below s Q K N (T.setTop (mkF m pc Ls st)) := by
  subst hp; exact own_step (fun _ k => X.ldc2Long hx hown hw (g := mkF m pc Ls st) rfl hd _ k) G
theorem g_tswIn (X : Stand p l e R s m args below meth c T locs cells slots) (hx : p.tables.exec = Jvm.exec) {pc : Nat} (pc' : Nat) {Ls : Array Slot} {dflt low high : Int} {offs : Array Int} {len : Nat} {o : Int} {i : Int32} {st : List Value} (hd : decode c.code pc = .ok (.tableswitch dflt low high offs, len)) (hin : ¬ (i.toInt < low ∨ i.toInt > high)) (hoff : offs[(i.toInt - low).toNat]? = some o) (ho : 0 ≤ (pc : Int) + o) (hp : ((pc : Int) + o).toNat = pc') (G : own_Go p e below s Q K N (T.setTop (mkF m pc' Ls st))) : own_Go p e below s Q K N (T.setTop (mkF m pc Ls (.int i :: st))) :=
  own_step (fun _ k => XS.tswIn X.here hx rfl rfl hd rfl hin hoff ho hp k) G
theorem g_tswOut (X : Stand p l e R s m args below meth c T locs cells slots) (hx : p.tables.exec = Jvm.exec) {pc : Nat} (pc' : Nat) {Ls : Array Slot} {dflt low high : Int} {offs : Array Int} {len : Nat} {i : Int32} {st : List Value} (hd : decode c.code pc = .ok (.tableswitch dflt low high offs, len)) (hout : i.toInt < low ∨ i.toInt > high) (ho : 0 ≤ (pc : Int) + dflt) (hp : ((pc : Int) + dflt).toNat = pc') (G : own_Go p e below s Q K N (T.setTop (mkF m pc' Ls st))) : own_Go p e below s Q K N (T.setTop (mkF m pc Ls (.int i :: st))) :=
  own_step (fun _ k => XS.tswOut X.here hx rfl rfl hd rfl hout ho hp k) G
theorem own_ii_eq_t {x y : Int32} (h : x = y) : if_icmp.holds .eq x y = true := XT.ii_eq_t h
theorem own_i0_eq_t {x : Int32} (h : x = 0) : ifCond.holds .eq x = true := XT.i0_eq_t h
theorem own_ll_eq_t {x y : Int64} (h : x = y) : ifCond.holds .eq (lcmpW x y) = true := XT.ll_eq_t h
theorem own_ii_eq_f {x y : Int32} (h : ¬ (x = y)) : if_icmp.holds .eq x y = false := XT.ii_eq_f h
theorem own_i0_eq_f {x : Int32} (h : ¬ (x = 0)) : ifCond.holds .eq x = false := XT.i0_eq_f h
theorem own_ll_eq_f {x y : Int64} (h : ¬ (x = y)) : ifCond.holds .eq (lcmpW x y) = false := XT.ll_eq_f h
theorem own_ii_ne_t {x y : Int32} (h : ¬ (x = y)) : if_icmp.holds .ne x y = true := XT.ii_ne_t h
theorem own_i0_ne_t {x : Int32} (h : ¬ (x = 0)) : ifCond.holds .ne x = true := XT.i0_ne_t h
theorem own_ll_ne_t {x y : Int64} (h : ¬ (x = y)) : ifCond.holds .ne (lcmpW x y) = true := XT.ll_ne_t h
theorem own_ii_ne_f {x y : Int32} (h : x = y) : if_icmp.holds .ne x y = false := XT.ii_ne_f h
theorem own_i0_ne_f {x : Int32} (h : x = 0) : ifCond.holds .ne x = false := XT.i0_ne_f h
theorem own_ll_ne_f {x y : Int64} (h : x = y) : ifCond.holds .ne (lcmpW x y) = false := XT.ll_ne_f h
theorem own_ii_lt_t {x y : Int32} (h : x < y) : if_icmp.holds .lt x y = true := XT.ii_lt_t h
theorem own_i0_lt_t {x : Int32} (h : x < 0) : ifCond.holds .lt x = true := XT.i0_lt_t h
theorem own_ll_lt_t {x y : Int64} (h : x < y) : ifCond.holds .lt (lcmpW x y) = true := XT.ll_lt_t h
theorem own_ii_lt_f {x y : Int32} (h : ¬ (x < y)) : if_icmp.holds .lt x y = false := XT.ii_lt_f h
theorem own_i0_lt_f {x : Int32} (h : ¬ (x < 0)) : ifCond.holds .lt x = false := XT.i0_lt_f h
theorem own_ll_lt_f {x y : Int64} (h : ¬ (x < y)) : ifCond.holds .lt (lcmpW x y) = false := XT.ll_lt_f h
theorem own_ii_ge_t {x y : Int32} (h : ¬ (x < y)) : if_icmp.holds .ge x y = true := XT.ii_ge_t h
theorem own_i0_ge_t {x : Int32} (h : ¬ (x < 0)) : ifCond.holds .ge x = true := XT.i0_ge_t h
theorem own_ll_ge_t {x y : Int64} (h : ¬ (x < y)) : ifCond.holds .ge (lcmpW x y) = true := XT.ll_ge_t h
theorem own_ii_ge_f {x y : Int32} (h : x < y) : if_icmp.holds .ge x y = false := XT.ii_ge_f h
theorem own_i0_ge_f {x : Int32} (h : x < 0) : ifCond.holds .ge x = false := XT.i0_ge_f h
theorem own_ll_ge_f {x y : Int64} (h : x < y) : ifCond.holds .ge (lcmpW x y) = false := XT.ll_ge_f h
theorem own_ii_gt_t {x y : Int32} (h : y < x) : if_icmp.holds .gt x y = true := XT.ii_gt_t h
theorem own_i0_gt_t {x : Int32} (h : 0 < x) : ifCond.holds .gt x = true := XT.i0_gt_t h
theorem own_ll_gt_t {x y : Int64} (h : y < x) : ifCond.holds .gt (lcmpW x y) = true := XT.ll_gt_t h
theorem own_ii_gt_f {x y : Int32} (h : ¬ (y < x)) : if_icmp.holds .gt x y = false := XT.ii_gt_f h
theorem own_i0_gt_f {x : Int32} (h : ¬ (0 < x)) : ifCond.holds .gt x = false := XT.i0_gt_f h
theorem own_ll_gt_f {x y : Int64} (h : ¬ (y < x)) : ifCond.holds .gt (lcmpW x y) = false := XT.ll_gt_f h
theorem own_ii_le_t {x y : Int32} (h : ¬ (y < x)) : if_icmp.holds .le x y = true := XT.ii_le_t h
theorem own_i0_le_t {x : Int32} (h : ¬ (0 < x)) : ifCond.holds .le x = true := XT.i0_le_t h
theorem own_ll_le_t {x y : Int64} (h : ¬ (y < x)) : ifCond.holds .le (lcmpW x y) = true := XT.ll_le_t h
theorem own_ii_le_f {x y : Int32} (h : y < x) : if_icmp.holds .le x y = false := XT.ii_le_f h
theorem own_i0_le_f {x : Int32} (h : 0 < x) : ifCond.holds .le x = false := XT.i0_le_f h
theorem own_ll_le_f {x y : Int64} (h : y < x) : ifCond.holds .le (lcmpW x y) = false := XT.ll_le_f h
theorem own_getF (X : Stand p l e R s m args below meth c T locs cells slots) (hx : p.tables.exec = Jvm.exec) {Z : State} {a0 : Array Value} {h : Heap} (hZ : Z.Warmed39 s.vm) {own : String} (hown : s.vm.findClass own = some m.cls) {R0 O n d host : String} {index : Nat} (w : (Jvm.Cond.fieldLink own index R0 n d).before a0 Z = true ∨ (Jvm.Cond.fieldLinkNest own index R0 n d host).before a0 Z = true) (via : Via Z R0 O n d) (eT : T.heap = h) {a : Addr} {v : Value} (F : Fld Z h a O n d v) {pc : Nat} (pc' : Nat) {Ls : Array Slot} {rest : List Value} (hd : decode c.code pc = .ok (.getfield index, 3)) (hp : pc + 3 = pc') (k : ∀ T', Stand p l e R s m args below meth c T' locs cells slots → T'.heap = h → own_Go p e below s Q K N (T'.setTop (mkF m pc' Ls (v :: rest)))) : own_Go p e below s Q K N (T.setTop (mkF m pc Ls (.ref a :: rest))) := by
  subst hp
  obtain ⟨T', X', e', st⟩ := getF X hx hZ hown w via eT F (g := mkF m pc Ls (.ref a :: rest)) rfl rfl hd
  exact own_step st (k T' X' e')
theorem own_getS (X : Stand p l e R s m args below meth c T locs cells slots) (hx : p.tables.exec = Jvm.exec) {Z : State} {a0 : Array Value} {h : Heap} (hZ : Z.Warmed39 s.vm) {own : String} (hown : s.vm.findClass own = some m.cls) {R0 O n d host : String} {index : Nat} (w : (Jvm.Cond.fieldLink own index R0 n d).before a0 Z = true ∨ (Jvm.Cond.fieldLinkNest own index R0 n d host).before a0 Z = true) (via : Via Z R0 O n d) (eT : T.heap = h) {v : Value} (F : Sta Z h O n d v) {pc : Nat} (pc' : Nat) {Ls : Array Slot} {rest : List Value} (hd : decode c.code pc = .ok (.getstatic index, 3)) (hp : pc + 3 = pc') (k : ∀ T', Stand p l e R s m args below meth c T' locs cells slots → T'.heap = h → own_Go p e below s Q K N (T'.setTop (mkF m pc' Ls (v :: rest)))) : own_Go p e below s Q K N (T.setTop (mkF m pc Ls rest)) := by
  subst hp
  obtain ⟨T', X', e', st⟩ := getS2 X hx hZ hown w via eT F (g := mkF m pc Ls rest) rfl hd
  exact own_step st (k T' X' e')
theorem own_putF (X : Stand p l e R s m args below meth c T locs cells slots) (hx : p.tables.exec = Jvm.exec) {Z : State} {a0 : Array Value} {h : Heap} (hZ : Z.Warmed39 s.vm) {own : String} (hown : s.vm.findClass own = some m.cls) {R0 O n d host : String} {index : Nat} (w : (Jvm.Cond.fieldLink own index R0 n d).before a0 Z = true ∨ (Jvm.Cond.fieldLinkNest own index R0 n d host).before a0 Z = true) (via : Via Z R0 O n d) (eT : T.heap = h) {a : Addr} {v old : Value} (F : Fld Z h a O n d old) {C : String} {kk : Nat} {ty : FieldType} (E : Exa Z h a C) (L : (Jvm.Cond.lays C O n d).before a0 Z = true ∨ ((Jvm.Cond.laysFinal C O n d).before a0 Z = true ∧ own = O ∧ meth.name = "<init>")) (wi : (Jvm.Cond.instantiable C kk).before a0 Z = true) (hty : parseFieldDescriptor d = some ty) (hn : narrow ty v = v) (hf : fits ty v = true) {pc : Nat} (pc' : Nat) {Ls : Array Slot} {rest : List Value} (hd : decode c.code pc = .ok (.putfield index, 3)) (hp : pc + 3 = pc') (k : ∀ T' h', Stand p l e R s m args below meth c T' (locs ++ [⟨a, Jvm.RoadKit.slotOf Z O n d⟩]) cells slots → T'.heap = h' → Wr h h' a (Jvm.RoadKit.slotOf Z O n d) v → own_Go p e below s Q K N (T'.setTop (mkF m pc' Ls rest))) : own_Go p e below s Q K N (T.setTop (mkF m pc Ls (v :: .ref a :: rest))) := by
  subst hp
  obtain ⟨T', h', X', e', W', st⟩ := putF X hx hZ hown w via eT F E L wi hty hn hf (g := mkF m pc Ls (v :: .ref a :: rest)) rfl rfl hd
  exact own_step st (k T' h' X' e' W')
theorem own_putFN (X : Stand p l e R s m args below meth c T locs cells slots) (hx : p.tables.exec = Jvm.exec) {Z : State} {a0 : Array Value} {h : Heap} (hZ : Z.Warmed39 s.vm) {own : String} (hown : s.vm.findClass own = some m.cls) {R0 O n d : String} {index : Nat} (w : (Jvm.Cond.fieldLink own index R0 n d).before a0 Z = true) (via : Via Z R0 O n d) (eT : T.heap = h) {a : Addr} {v old : Value} (v' : Value) (F : Fld Z h a O n d old) {C : String} {kk : Nat} {ty : FieldType} (E : Exa Z h a C) (L : (Jvm.Cond.lays C O n d).before a0 Z = true ∨ ((Jvm.Cond.laysFinal C O n d).before a0 Z = true ∧ own = O ∧ meth.name = "<init>")) (wi : (Jvm.Cond.instantiable C kk).before a0 Z = true) (hty : parseFieldDescriptor d = some ty) (hn : narrow ty v = v') (hf : fits ty v' = true) {pc : Nat} (pc' : Nat) {Ls : Array Slot} {rest : List Value} (hd : decode c.code pc = .ok (.putfield index, 3)) (hp : pc + 3 = pc') (k : ∀ T' h', Stand p l e R s m args below meth c T' (locs ++ [⟨a, Jvm.RoadKit.slotOf Z O n d⟩]) cells slots → T'.heap = h' → Wr h h' a (Jvm.RoadKit.slotOf Z O n d) v' → own_Go p e below s Q K N (T'.setTop (mkF m pc' Ls rest))) : own_Go p e below s Q K N (T.setTop (mkF m pc Ls (v :: .ref a :: rest))) := by
  subst hp
  obtain ⟨T', h', X', e', W', st⟩ := putFN X hx hZ hown w via eT F E L wi hty hn hf (g := mkF m pc Ls (v :: .ref a :: rest)) rfl rfl hd
  exact own_step st (k T' h' X' e' W')
theorem own_newO (X : Stand p l e R s m args below meth c T locs cells slots) (hx : p.tables.exec = Jvm.exec) {Z : State} {a0 : Array Value} {h : Heap} (hZ : Z.Warmed39 s.vm) {own : String} (hown : s.vm.findClass own = some m.cls) {C : String} {index n : Nat} (w : (Jvm.Cond.classLink own index C).before a0 Z = true) (wi : (Jvm.Cond.instantiable C n).before a0 Z = true) (wz : (Jvm.Cond.initialized C).before a0 Z = true) (eT : T.heap = h) {pc : Nat} (pc' : Nat) {Ls : Array Slot} {rest : List Value} (hd : decode c.code pc = .ok (.new index, 3)) (hp : pc + 3 = pc') (hc : cells + 1 ≤ R.cells) (hl : slots + n ≤ R.slots)
    (k : ∀ T' h' b, Stand p l e R s m args below meth c T' locs (cells + 1) (slots + n) → T'.heap = h' → b = h.size → Ext h h' → Exa Z h' b C → (∀ {O nm d : String} {ty : FieldType}, Laid Z a0 C O nm d → parseFieldDescriptor d = some ty → Fld Z h' b O nm d (defaultValue ty)) → own_Go p e below s Q K N (T'.setTop (mkF m pc' Ls (.ref b :: rest)))) : own_Go p e below s Q K N (T.setTop (mkF m pc Ls rest)) := by
  subst hp
  obtain ⟨T', h', X', e', E', A', D', -, st⟩ := newO X hx hZ hown w wi wz eT (g := mkF m pc Ls rest) rfl hd hc hl
  exact own_step st (k T' h' _ X' e' rfl E' A' D')
theorem own_newP (X : Stand p l e R s m args below meth c T locs cells slots) (hx : p.tables.exec = Jvm.exec) {Z : State} {a0 : Array Value} {h : Heap} (hZ : Z.Warmed39 s.vm) {aty : ArrayType} (w : (Jvm.Cond.arrayClass (newarray.typeOf aty)).before a0 Z = true) (eT : T.heap = h) {n : Int32} {pc : Nat} (pc' : Nat) {Ls : Array Slot} {rest : List Value} (hd : decode c.code pc = .ok (.newarray aty, 2)) (hp : pc + 2 = pc') (hn : ¬ n < 0) (cap : Nat) (hcap : n.toNatClampNeg ≤ cap) (hb : cap * 8 ≤ 536870912) (hc : cells + 1 ≤ R.cells) (hl : slots + cap ≤ R.slots)
    (k : ∀ T' h' cA b, Stand p l e R s m args below meth c T' locs (cells + 1) (slots + cap) → T'.heap = h' → b = h.size → Ext h h' → Arr Z h' b (newA cA (newarray.typeOf aty) n) (newarray.typeOf aty) → own_Go p e below s Q K N (T'.setTop (mkF m pc' Ls (.ref b :: rest)))) : own_Go p e below s Q K N (T.setTop (mkF m pc Ls (.int n :: rest))) := by
  subst hp
  obtain ⟨T', h', cA, X', e', E', A', st⟩ := newP X hx hZ w eT (g := mkF m pc Ls (.int n :: rest)) rfl hd rfl hn hcap hb hc hl
  exact own_step st (k T' h' cA _ X' e' rfl E' A')
theorem own_newR (X : Stand p l e R s m args below meth c T locs cells slots) (hx : p.tables.exec = Jvm.exec) {Z : State} {a0 : Array Value} {h : Heap} (hZ : Z.Warmed39 s.vm) {own : String} (hown : s.vm.findClass own = some m.cls) {C : String} {index : Nat} (w1 : (Jvm.Cond.classLink own index C).before a0 Z = true) (w2 : (Jvm.Cond.arrayOver (.object C)).before a0 Z = true) (eT : T.heap = h) {n : Int32} {pc : Nat} (pc' : Nat) {Ls : Array Slot} {rest : List Value} (hd : decode c.code pc = .ok (.anewarray index, 3)) (hp : pc + 3 = pc') (hn : ¬ n < 0) (cap : Nat) (hcap : n.toNatClampNeg ≤ cap) (hb : cap * 8 ≤ 536870912) (hc : cells + 1 ≤ R.cells) (hl : slots + cap ≤ R.slots)
    (k : ∀ T' h' cA b, Stand p l e R s m args below meth c T' locs (cells + 1) (slots + cap) → T'.heap = h' → b = h.size → Ext h h' → Arr Z h' b (newA cA (.object C) n) (.object C) → Ovr Z cA C → own_Go p e below s Q K N (T'.setTop (mkF m pc' Ls (.ref b :: rest)))) : own_Go p e below s Q K N (T.setTop (mkF m pc Ls (.int n :: rest))) := by
  subst hp
  obtain ⟨T', h', cA, X', e', E', A', O', st⟩ := newR X hx hZ hown w1 w2 eT (g := mkF m pc Ls (.int n :: rest)) rfl hd rfl hn hcap hb hc hl
  exact own_step st (k T' h' cA _ X' e' rfl E' A' O')
theorem own_stI (X : Stand p l e R s m args below meth c T locs cells slots) (hx : p.tables.exec = Jvm.exec) {Z : State} {h : Heap} (hZ : Z.Warmed39 s.vm) (eT : T.heap = h) {a : Addr} {cl : Cell} (A : Arr Z h a cl .int) {j : Int32} {x : Int32} (hj : ¬ (j < 0 ∨ cl.slots.size ≤ j.toNatClampNeg)) {pc : Nat} (pc' : Nat) {Ls : Array Slot} {rest : List Value} (hd : decode c.code pc = .ok (.iastore, 1)) (hp : pc + 1 = pc') (k : ∀ T' h', Stand p l e R s m args below meth c T' (locs ++ [⟨a, j.toNatClampNeg⟩]) cells slots → T'.heap = h' → Wr h h' a j.toNatClampNeg (.int x) → own_Go p e below s Q K N (T'.setTop (mkF m pc' Ls rest))) : own_Go p e below s Q K N (T.setTop (mkF m pc Ls (.int x :: .int j :: .ref a :: rest))) := by
  subst hp
  obtain ⟨T', h', X', e', W', st⟩ := stI X hx hZ eT A hj (g := mkF m pc Ls (.int x :: .int j :: .ref a :: rest)) rfl rfl hd
  exact own_step st (k T' h' X' e' W')
theorem own_stC (X : Stand p l e R s m args below meth c T locs cells slots) (hx : p.tables.exec = Jvm.exec) {Z : State} {h : Heap} (hZ : Z.Warmed39 s.vm) (eT : T.heap = h) {a : Addr} {cl : Cell} (A : Arr Z h a cl .char) {j : Int32} {x : Int32} (hj : ¬ (j < 0 ∨ cl.slots.size ≤ j.toNatClampNeg)) {pc : Nat} (pc' : Nat) {Ls : Array Slot} {rest : List Value} (hd : decode c.code pc = .ok (.castore, 1)) (hp : pc + 1 = pc') (k : ∀ T' h', Stand p l e R s m args below meth c T' (locs ++ [⟨a, j.toNatClampNeg⟩]) cells slots → T'.heap = h' → Wr h h' a j.toNatClampNeg (.int (nar .char x)) → own_Go p e below s Q K N (T'.setTop (mkF m pc' Ls rest))) : own_Go p e below s Q K N (T.setTop (mkF m pc Ls (.int x :: .int j :: .ref a :: rest))) := by
  subst hp
  obtain ⟨T', h', X', e', W', st⟩ := stC X hx hZ eT A hj (g := mkF m pc Ls (.int x :: .int j :: .ref a :: rest)) rfl rfl hd
  exact own_step st (k T' h' X' e' W')
theorem own_stZ (X : Stand p l e R s m args below meth c T locs cells slots) (hx : p.tables.exec = Jvm.exec) {Z : State} {h : Heap} (hZ : Z.Warmed39 s.vm) (eT : T.heap = h) {a : Addr} {cl : Cell} (A : Arr Z h a cl .boolean) {j : Int32} {x : Int32} (hj : ¬ (j < 0 ∨ cl.slots.size ≤ j.toNatClampNeg)) {pc : Nat} (pc' : Nat) {Ls : Array Slot} {rest : List Value} (hd : decode c.code pc = .ok (.bastore, 1)) (hp : pc + 1 = pc') (k : ∀ T' h', Stand p l e R s m args below meth c T' (locs ++ [⟨a, j.toNatClampNeg⟩]) cells slots → T'.heap = h' → Wr h h' a j.toNatClampNeg (.int (nar .boolean x)) → own_Go p e below s Q K N (T'.setTop (mkF m pc' Ls rest))) : own_Go p e below s Q K N (T.setTop (mkF m pc Ls (.int x :: .int j :: .ref a :: rest))) := by
  subst hp
  obtain ⟨T', h', X', e', W', st⟩ := stZ X hx hZ eT A hj (g := mkF m pc Ls (.int x :: .int j :: .ref a :: rest)) rfl rfl hd
  exact own_step st (k T' h' X' e' W')
theorem own_stB (X : Stand p l e R s m args below meth c T locs cells slots) (hx : p.tables.exec = Jvm.exec) {Z : State} {h : Heap} (hZ : Z.Warmed39 s.vm) (eT : T.heap = h) {a : Addr} {cl : Cell} (A : Arr Z h a cl .byte) {j : Int32} {x : Int32} (hj : ¬ (j < 0 ∨ cl.slots.size ≤ j.toNatClampNeg)) {pc : Nat} (pc' : Nat) {Ls : Array Slot} {rest : List Value} (hd : decode c.code pc = .ok (.bastore, 1)) (hp : pc + 1 = pc') (k : ∀ T' h', Stand p l e R s m args below meth c T' (locs ++ [⟨a, j.toNatClampNeg⟩]) cells slots → T'.heap = h' → Wr h h' a j.toNatClampNeg (.int (nar .byte x)) → own_Go p e below s Q K N (T'.setTop (mkF m pc' Ls rest))) : own_Go p e below s Q K N (T.setTop (mkF m pc Ls (.int x :: .int j :: .ref a :: rest))) := by
  subst hp
  obtain ⟨T', h', X', e', W', st⟩ := stB X hx hZ eT A hj (g := mkF m pc Ls (.int x :: .int j :: .ref a :: rest)) rfl rfl hd
  exact own_step st (k T' h' X' e' W')
theorem own_stS (X : Stand p l e R s m args below meth c T locs cells slots) (hx : p.tables.exec = Jvm.exec) {Z : State} {h : Heap} (hZ : Z.Warmed39 s.vm) (eT : T.heap = h) {a : Addr} {cl : Cell} (A : Arr Z h a cl .short) {j : Int32} {x : Int32} (hj : ¬ (j < 0 ∨ cl.slots.size ≤ j.toNatClampNeg)) {pc : Nat} (pc' : Nat) {Ls : Array Slot} {rest : List Value} (hd : decode c.code pc = .ok (.sastore, 1)) (hp : pc + 1 = pc') (k : ∀ T' h', Stand p l e R s m args below meth c T' (locs ++ [⟨a, j.toNatClampNeg⟩]) cells slots → T'.heap = h' → Wr h h' a j.toNatClampNeg (.int (nar .short x)) → own_Go p e below s Q K N (T'.setTop (mkF m pc' Ls rest))) : own_Go p e below s Q K N (T.setTop (mkF m pc Ls (.int x :: .int j :: .ref a :: rest))) := by
  subst hp
  obtain ⟨T', h', X', e', W', st⟩ := stS X hx hZ eT A hj (g := mkF m pc Ls (.int x :: .int j :: .ref a :: rest)) rfl rfl hd
  exact own_step st (k T' h' X' e' W')
theorem own_stJ (X : Stand p l e R s m args below meth c T locs cells slots) (hx : p.tables.exec = Jvm.exec) {Z : State} {h : Heap} (hZ : Z.Warmed39 s.vm) (eT : T.heap = h) {a : Addr} {cl : Cell} (A : Arr Z h a cl .long) {j : Int32} {x : Int64} (hj : ¬ (j < 0 ∨ cl.slots.size ≤ j.toNatClampNeg)) {pc : Nat} (pc' : Nat) {Ls : Array Slot} {rest : List Value} (hd : decode c.code pc = .ok (.lastore, 1)) (hp : pc + 1 = pc') (k : ∀ T' h', Stand p l e R s m args below meth c T' (locs ++ [⟨a, j.toNatClampNeg⟩]) cells slots → T'.heap = h' → Wr h h' a j.toNatClampNeg (.long x) → own_Go p e below s Q K N (T'.setTop (mkF m pc' Ls rest))) : own_Go p e below s Q K N (T.setTop (mkF m pc Ls (.long x :: .int j :: .ref a :: rest))) := by
  subst hp
  obtain ⟨T', h', X', e', W', st⟩ := stJ X hx hZ eT A hj (g := mkF m pc Ls (.long x :: .int j :: .ref a :: rest)) rfl rfl hd
  exact own_step st (k T' h' X' e' W')
theorem own_stR (X : Stand p l e R s m args below meth c T locs cells slots) (hx : p.tables.exec = Jvm.exec) {Z : State} {h : Heap} (hZ : Z.Warmed39 s.vm) (eT : T.heap = h) {a : Addr} {cl : Cell} {ty : FieldType} (A : Arr Z h a cl ty) {j : Int32} {v : Value} (hj : ¬ (j < 0 ∨ cl.slots.size ≤ j.toNatClampNeg)) (hty : ty.isReference = true) (F : Sto Z h a v) {pc : Nat} (pc' : Nat) {Ls : Array Slot} {rest : List Value} (hd : decode c.code pc = .ok (.aastore, 1)) (hp : pc + 1 = pc') (k : ∀ T' h', Stand p l e R s m args below meth c T' (locs ++ [⟨a, j.toNatClampNeg⟩]) cells slots → T'.heap = h' → Wr h h' a j.toNatClampNeg v → own_Go p e below s Q K N (T'.setTop (mkF m pc' Ls rest))) : own_Go p e below s Q K N (T.setTop (mkF m pc Ls (v :: .int j :: .ref a :: rest))) := by
  subst hp
  obtain ⟨T', h', X', e', W', st⟩ := stR X hx hZ eT A hj hty F (g := mkF m pc Ls (v :: .int j :: .ref a :: rest)) rfl rfl hd
  exact own_step st (k T' h' X' e' W')
theorem own_iaload (X : Stand p l e R s m args below meth c T locs cells slots) (hx : p.tables.exec = Jvm.exec) {Z : State} {h : Heap} (hZ : Z.Warmed39 s.vm) (eT : T.heap = h) {a : Addr} {cl : Cell} (A : Arr Z h a cl .int) {j : Int32} {v : Value} (hj : ¬ (j < 0 ∨ cl.slots.size ≤ j.toNatClampNeg)) (hv : cl.slots[j.toNatClampNeg]? = some v) {pc : Nat} (pc' : Nat) {Ls : Array Slot} {rest : List Value} (hd : decode c.code pc = .ok (.iaload, 1)) (hp : pc + 1 = pc') (G : own_Go p e below s Q K N (T.setTop (mkF m pc' Ls (v :: rest)))) : own_Go p e below s Q K N (T.setTop (mkF m pc Ls (.int j :: .ref a :: rest))) := by
  subst hp eT
  exact own_step (X.iaload hx (j := j) (v := v) A.1 (State.isArrayOf_alike hZ.alike A.2.1) A.2.2 hj hv (g := mkF m pc Ls (.int j :: .ref a :: rest)) rfl rfl hd) G
theorem own_caload (X : Stand p l e R s m args below meth c T locs cells slots) (hx : p.tables.exec = Jvm.exec) {Z : State} {h : Heap} (hZ : Z.Warmed39 s.vm) (eT : T.heap = h) {a : Addr} {cl : Cell} (A : Arr Z h a cl .char) {j : Int32} {v : Value} (hj : ¬ (j < 0 ∨ cl.slots.size ≤ j.toNatClampNeg)) (hv : cl.slots[j.toNatClampNeg]? = some v) {pc : Nat} (pc' : Nat) {Ls : Array Slot} {rest : List Value} (hd : decode c.code pc = .ok (.caload, 1)) (hp : pc + 1 = pc') (G : own_Go p e below s Q K N (T.setTop (mkF m pc' Ls (v :: rest)))) : own_Go p e below s Q K N (T.setTop (mkF m pc Ls (.int j :: .ref a :: rest))) := by
  subst hp eT
  exact own_step (X.caload hx (j := j) (v := v) A.1 (State.isArrayOf_alike hZ.alike A.2.1) A.2.2 hj hv (g := mkF m pc Ls (.int j :: .ref a :: rest)) rfl rfl hd) G
theorem own_laload (X : Stand p l e R s m args below meth c T locs cells slots) (hx : p.tables.exec = Jvm.exec) {Z : State} {h : Heap} (hZ : Z.Warmed39 s.vm) (eT : T.heap = h) {a : Addr} {cl : Cell} (A : Arr Z h a cl .long) {j : Int32} {v : Value} (hj : ¬ (j < 0 ∨ cl.slots.size ≤ j.toNatClampNeg)) (hv : cl.slots[j.toNatClampNeg]? = some v) {pc : Nat} (pc' : Nat) {Ls : Array Slot} {rest : List Value} (hd : decode c.code pc = .ok (.laload, 1)) (hp : pc + 1 = pc') (G : own_Go p e below s Q K N (T.setTop (mkF m pc' Ls (v :: rest)))) : own_Go p e below s Q K N (T.setTop (mkF m pc Ls (.int j :: .ref a :: rest))) := by
  subst hp eT
  exact own_step (X.laload hx (j := j) (v := v) A.1 (State.isArrayOf_alike hZ.alike A.2.1) A.2.2 hj hv (g := mkF m pc Ls (.int j :: .ref a :: rest)) rfl rfl hd) G
theorem own_baloadB (X : Stand p l e R s m args below meth c T locs cells slots) (hx : p.tables.exec = Jvm.exec) {Z : State} {h : Heap} (hZ : Z.Warmed39 s.vm) (eT : T.heap = h) {a : Addr} {cl : Cell} (A : Arr Z h a cl .byte) {j : Int32} {v : Value} (hj : ¬ (j < 0 ∨ cl.slots.size ≤ j.toNatClampNeg)) (hv : cl.slots[j.toNatClampNeg]? = some v) {pc : Nat} (pc' : Nat) {Ls : Array Slot} {rest : List Value} (hd : decode c.code pc = .ok (.baload, 1)) (hp : pc + 1 = pc') (G : own_Go p e below s Q K N (T.setTop (mkF m pc' Ls (v :: rest)))) : own_Go p e below s Q K N (T.setTop (mkF m pc Ls (.int j :: .ref a :: rest))) := by
  subst hp eT
  exact own_step (X.baloadBytes hx (j := j) (v := v) A.1 (State.isArrayOf_alike hZ.alike A.2.1) A.2.2 hj hv (g := mkF m pc Ls (.int j :: .ref a :: rest)) rfl rfl hd) G
theorem own_baloadZ (X : Stand p l e R s m args below meth c T locs cells slots) (hx : p.tables.exec = Jvm.exec) {Z : State} {h : Heap} (hZ : Z.Warmed39 s.vm) (eT : T.heap = h) {a : Addr} {cl : Cell} (A : Arr Z h a cl .boolean) {j : Int32} {v : Value} (hj : ¬ (j < 0 ∨ cl.slots.size ≤ j.toNatClampNeg)) (hv : cl.slots[j.toNatClampNeg]? = some v) {pc : Nat} (pc' : Nat) {Ls : Array Slot} {rest : List Value} (hd : decode c.code pc = .ok (.baload, 1)) (hp : pc + 1 = pc') (G : own_Go p e below s Q K N (T.setTop (mkF m pc' Ls (v :: rest)))) : own_Go p e below s Q K N (T.setTop (mkF m pc Ls (.int j :: .ref a :: rest))) := by
  subst hp eT
  exact own_step (X.baloadBooleans hx (j := j) (v := v) A.1 (State.isArrayOf_alike hZ.alike A.2.1) A.2.2 hj hv (g := mkF m pc Ls (.int j :: .ref a :: rest)) rfl rfl hd) G
theorem own_aaload (X : Stand p l e R s m args below meth c T locs cells slots) (hx : p.tables.exec = Jvm.exec) {Z : State} {h : Heap} (hZ : Z.Warmed39 s.vm) (eT : T.heap = h) {a : Addr} {cl : Cell} {ty : FieldType} (hty : ty.isReference = true) (A : Arr Z h a cl ty) {j : Int32} {v : Value} (hj : ¬ (j < 0 ∨ cl.slots.size ≤ j.toNatClampNeg)) (hv : cl.slots[j.toNatClampNeg]? = some v) {pc : Nat} (pc' : Nat) {Ls : Array Slot} {rest : List Value} (hd : decode c.code pc = .ok (.aaload, 1)) (hp : pc + 1 = pc') (G : own_Go p e below s Q K N (T.setTop (mkF m pc' Ls (v :: rest)))) : own_Go p e below s Q K N (T.setTop (mkF m pc Ls (.int j :: .ref a :: rest))) := by
  subst hp eT
  exact own_step (X.aaload hx (j := j) (v := v) A.1 (State.isArrayOf_alike hZ.alike A.2.1) hty A.2.2 hj hv (g := mkF m pc Ls (.int j :: .ref a :: rest)) rfl rfl hd) G
theorem own_arraylength (X : Stand p l e R s m args below meth c T locs cells slots) (hx : p.tables.exec = Jvm.exec) {Z : State} {h : Heap} (hZ : Z.Warmed39 s.vm) (eT : T.heap = h) {a : Addr} {cl : Cell} {ty : FieldType} (A : Arr Z h a cl ty) {z : Int32} (hz : cl.slots.size = z.toNatClampNeg) (h0 : ¬ z < 0) {pc : Nat} (pc' : Nat) {Ls : Array Slot} {rest : List Value} (hd : decode c.code pc = .ok (.arraylength, 1)) (hp : pc + 1 = pc') (G : own_Go p e below s Q K N (T.setTop (mkF m pc' Ls (.int z :: rest)))) : own_Go p e below s Q K N (T.setTop (mkF m pc Ls (.ref a :: rest))) := by
  subst hp eT
  refine own_step (X.arraylength hx A.1 (State.isArrayOf_alike hZ.alike A.2.1) (g := mkF m pc Ls (.ref a :: rest)) rfl rfl hd) ?_
  rw [len_of hz h0]
  exact G
theorem own_initO (X : Stand p l e R s m args below meth c T locs cells slots) (hx : p.tables.exec = Jvm.exec) {Z : State} {a0 : Array Value} {h : Heap} (hZ : Z.Warmed39 s.vm) {own : String} (hown : s.vm.findClass own = some m.cls) {idx : Nat} (w1 : (Jvm.Cond.methodLink own idx Lib.objectInit).before a0 Z = true) (w2 : (Jvm.Cond.instanceMethod Lib.objectInit).before a0 Z = true) (w3 : (Jvm.Cond.code Lib.objectInit ⟨#[0xb1]⟩ 1 none).before a0 Z = true) (eT : T.heap = h) {a : Addr} {pc : Nat} (pc' : Nat) {Ls : Array Slot} {rest : List Value} (hsize : Ls.size = c.maxLocals) (hd : decode c.code pc = .ok (.invokespecial idx, 3)) (hp : pc + 3 = pc') (hf : 1 ≤ R.frames) (W : Nat) (hW : (rest.map fun v => v.category).sum = W) (hl : W + 12 ≤ R.locals) (k : ∀ T', Stand p l e R s m args below meth c T' locs cells slots → T'.heap = h → own_Go p e below s Q K N (T'.setTop (mkF m pc' Ls rest))) : own_Go p e below s Q K N (T.setTop (mkF m pc Ls (.ref a :: rest))) := by
  subst hp
  obtain ⟨T', X', e', st⟩ := initO X hx hZ hown w1 w2 w3 eT (g := mkF m pc Ls (.ref a :: rest)) rfl hsize rfl hd hf (W := W) (by show 2 * 0 + _ ≤ _; omega) hl
  exact own_step st (k T' X' e')
theorem own_callS (X : Stand p l e R s m args below meth c T locs cells slots) (hx : p.tables.exec = Jvm.exec) {Z : State} {a0 : Array Value} {h : Heap} (hZ : Z.Warmed39 s.vm) {own : String} (hown : s.vm.findClass own = some m.cls) {index : Nat} {y : MethodName} {bytes : ByteArray} {maxL : Nat} {ret : Option FieldType} {rm : Room} {as' : Array Value} {Q' : Option Value → Heap → List Loc → Prop} (w1 : (Jvm.Cond.methodLink own index y).before a0 Z = true) (w2 : (Jvm.Cond.static y).before a0 Z = true) (hy : y.cls ≠ "java/lang/invoke/MethodHandle" ∧ y.cls ≠ "java/lang/invoke/VarHandle") (hM : MetFree l y (head1 [Jvm.Cond.code y bytes maxL ret] rm) (fun a U => a = as' ∧ Z.Warmed39 U.vm ∧ U.heap = h) (fun _ _ _ _ _ => True) (fun _ U o U' => ∃ v L, o = .returned v ∧ Q' v U'.heap L ∧ FrameEnd U o U' L rm.cells rm.slots)) (wc : (Jvm.Cond.code y bytes maxL ret).before a0 Z = true) (wz : (Jvm.Cond.initialized y.cls).before a0 Z = true) (eT : T.heap = h) (W : Nat) (hf : rm.frames + 1 ≤ R.frames) (hl : W + (maxL + 11) + rm.locals ≤ R.locals) (hc : cells + rm.cells ≤ R.cells) (hs : slots + rm.slots ≤ R.slots) (argsL rest : List Value) (has : argsL.toArray = as') {ps : List FieldType} {rr : Option FieldType} (hpd : parseMethodDescriptor y.desc = some ⟨ps, rr⟩) (hlen : argsL.length = ps.length) {pc : Nat} (pc' : Nat) {Ls : Array Slot} {stk : List Value} (hstk : stk = argsL.reverse ++ rest) (hsize : Ls.size = c.maxLocals) (hW : (rest.map fun v => v.category).sum = W) (hd : decode c.code pc = .ok (.invokestatic index, 3)) (hp : pc + 3 = pc') (k : ∀ T' v L, Stand p l e R s m args below meth c T' (locs ++ L) (cells + rm.cells) (slots + rm.slots) → Q' v T'.heap L → own_Go p e below s Q K N (T'.setTop (mkF m pc' Ls (v.toList ++ rest)))) : own_Go p e below s Q K N (T.setTop (mkF m pc Ls stk)) := by
  subst hp hstk
  obtain ⟨v', _, ⟨T', L', k', n'⟩, -, X', ⟨Lc', hQ', l', y', z'⟩, st'⟩ := Jvm.LawKit.callS X hx (y := y) hown (mvT hZ w1) (mvT hZ w2) (mvT hZ wz) (mvT hZ wc) hy (backOf (W := W) hM hZ wc wz hf hl) (g := mkF m pc Ls (argsL.reverse ++ rest)) rfl hsize (argsL := argsL) (rest := rest) (lenOf hpd hlen) rfl (by show 2 * 0 + _ ≤ _; omega) hd (fun _ _ => ⟨has, eT, hc, hs⟩)
  dsimp only [Pt.U, Pt.locs, Pt.cells, Pt.slots] at X' l' y' z' st' hQ'
  subst l' y' z'
  exact own_step (fun t kk => st' _ kk) (k T' v' _ X' hQ')
theorem own_callI (X : Stand p l e R s m args below meth c T locs cells slots) (hx : p.tables.exec = Jvm.exec) {Z : State} {a0 : Array Value} {h : Heap} (hZ : Z.Warmed39 s.vm) {own : String} (hown : s.vm.findClass own = some m.cls) {index : Nat} {y : MethodName} {bytes : ByteArray} {maxL : Nat} {rm : Room} {as' : Array Value} {Q' : Option Value → Heap → List Loc → Prop} (hy1 : y.name = "<init>") (w1 : (Jvm.Cond.methodLink own index y).before a0 Z = true) (w2 : (Jvm.Cond.instanceMethod y).before a0 Z = true) (hy : y.cls ≠ "java/lang/invoke/MethodHandle" ∧ y.cls ≠ "java/lang/invoke/VarHandle") (hM : MetFree l y (head1 [Jvm.Cond.code y bytes maxL none] rm) (fun a U => a = as' ∧ Z.Warmed39 U.vm ∧ U.heap = h) (fun _ _ _ _ _ => True) (fun _ U o U' => ∃ v L, o = .returned v ∧ Q' v U'.heap L ∧ FrameEnd U o U' L rm.cells rm.slots)) (wc : (Jvm.Cond.code y bytes maxL none).before a0 Z = true) (wz : (Jvm.Cond.initialized y.cls).before a0 Z = true) (eT : T.heap = h) (W : Nat) (hf : rm.frames + 1 ≤ R.frames) (hl : W + (maxL + 11) + rm.locals ≤ R.locals) (hc : cells + rm.cells ≤ R.cells) (hs : slots + rm.slots ≤ R.slots) (a : Addr) (argsL rest : List Value) (has : (.ref a :: argsL).toArray = as') {ps : List FieldType} {rr : Option FieldType} (hpd : parseMethodDescriptor y.desc = some ⟨ps, rr⟩) (hlen : argsL.length = ps.length) {pc : Nat} (pc' : Nat) {Ls : Array Slot} {stk : List Value} (hstk : stk = argsL.reverse ++ .ref a :: rest) (hsize : Ls.size = c.maxLocals) (hW : (rest.map fun v => v.category).sum = W) (hd : decode c.code pc = .ok (.invokespecial index, 3)) (hp : pc + 3 = pc') (k : ∀ T' v L, Stand p l e R s m args below meth c T' (locs ++ L) (cells + rm.cells) (slots + rm.slots) → Q' v T'.heap L → own_Go p e below s Q K N (T'.setTop (mkF m pc' Ls (v.toList ++ rest)))) : own_Go p e below s Q K N (T.setTop (mkF m pc Ls stk)) := by
  subst hp hstk
  obtain ⟨v', _, ⟨T', L', k', n'⟩, -, X', ⟨Lc', hQ', l', y', z'⟩, st'⟩ := X.specialBack hx (y := y) hy1 hown (mvT hZ w1) (mvT hZ w2) (mvT hZ wc) hy (backOf (W := W) hM hZ wc wz hf hl) (g := mkF m pc Ls (argsL.reverse ++ .ref a :: rest)) rfl hsize (Steps.refl _) (a := a) (argsL := argsL) (rest := rest) (lenOf hpd hlen) rfl (by show 2 * 0 + _ ≤ _; omega) hd (fun _ _ => ⟨has, eT, hc, hs⟩)
  dsimp only [Pt.U, Pt.locs, Pt.cells, Pt.slots] at X' l' y' z' st' hQ'
  subst l' y' z'
  exact own_step (fun t kk => st'.trans kk) (k T' v' _ X' hQ')
theorem own_callV (X : Stand p l e R s m args below meth c T locs cells slots) (hx : p.tables.exec = Jvm.exec) {Z : State} {a0 : Array Value} {h : Heap} (hZ : Z.Warmed39 s.vm) {own : String} (hown : s.vm.findClass own = some m.cls) {C : String} {index : Nat} {y z : MethodName} {bytes : ByteArray} {maxL : Nat} {ret : Option FieldType} {rm : Room} {as' : Array Value} {Q' : Option Value → Heap → List Loc → Prop} (w1 : (Jvm.Cond.methodLink own index y).before a0 Z = true) (w2 : (Jvm.Cond.declares y).before a0 Z = true) (hnf : NotFace s y) (w3 : (Jvm.Cond.selects C y z).before a0 Z = true) (w4 : (Jvm.Cond.instanceMethod z).before a0 Z = true) (hy : y.cls ≠ "java/lang/invoke/MethodHandle" ∧ y.cls ≠ "java/lang/invoke/VarHandle") (hM : MetFree l z (head1 [Jvm.Cond.code z bytes maxL ret] rm) (fun a U => a = as' ∧ Z.Warmed39 U.vm ∧ U.heap = h) (fun _ _ _ _ _ => True) (fun _ U o U' => ∃ v L, o = .returned v ∧ Q' v U'.heap L ∧ FrameEnd U o U' L rm.cells rm.slots)) (wc : (Jvm.Cond.code z bytes maxL ret).before a0 Z = true) (wz : (Jvm.Cond.initialized z.cls).before a0 Z = true) (eT : T.heap = h) (W : Nat) (hf : rm.frames + 1 ≤ R.frames) (hl : W + (maxL + 11) + rm.locals ≤ R.locals) (hc : cells + rm.cells ≤ R.cells) (hs : slots + rm.slots ≤ R.slots) {a : Addr} (E : Exa Z h a C) (argsL rest : List Value) (has : (.ref a :: argsL).toArray = as') {ps : List FieldType} {rr : Option FieldType} (hpd : parseMethodDescriptor y.desc = some ⟨ps, rr⟩) (hlen : argsL.length = ps.length) {pc : Nat} (pc' : Nat) {Ls : Array Slot} {stk : List Value} (hstk : stk = argsL.reverse ++ .ref a :: rest) (hsize : Ls.size = c.maxLocals) (hW : (rest.map fun v => v.category).sum = W) (hd : decode c.code pc = .ok (.invokevirtual index, 3)) (hp : pc + 3 = pc') (k : ∀ T' v L, Stand p l e R s m args below meth c T' (locs ++ L) (cells + rm.cells) (slots + rm.slots) → Q' v T'.heap L → own_Go p e below s Q K N (T'.setTop (mkF m pc' Ls (v.toList ++ rest)))) : own_Go p e below s Q K N (T.setTop (mkF m pc Ls stk)) := by
  subst hp hstk
  obtain ⟨cq, kq, qa, qb, qc⟩ := isOf hZ eT E
  obtain ⟨v', _, ⟨T', L', k', n'⟩, -, X', ⟨Lc', hQ', l', y', z'⟩, st'⟩ := X.virtualBack hx (y := y) (z := z) hown (mvT hZ w1) (mvT hZ w2) hnf (mvT hZ w3) (mvT hZ w4) hy (backOf (W := W) hM hZ wc wz hf hl) qa qc (g := mkF m pc Ls (argsL.reverse ++ .ref a :: rest)) rfl hsize (Steps.refl _) (argsL := argsL) (rest := rest) (lenOf hpd hlen) rfl (by show 2 * 0 + _ ≤ _; omega) hd (fun _ _ => ⟨has, eT, hc, hs⟩)
  dsimp only [Pt.U, Pt.locs, Pt.cells, Pt.slots] at X' l' y' z' st' hQ'
  subst l' y' z'
  exact own_step (fun t kk => st'.trans kk) (k T' v' _ X' hQ')
theorem own_callU (X : Stand p l e R s m args below meth c T locs cells slots) (hx : p.tables.exec = Jvm.exec) {Z : State} {a0 : Array Value} {h : Heap} (hZ : Z.Warmed39 s.vm) {own : String} (hown : s.vm.findClass own = some m.cls) {C owner : String} {index : Nat} {y z : MethodName} {bytes : ByteArray} {maxL : Nat} {ret : Option FieldType} {rm : Room} {as' : Array Value} {Q' : Option Value → Heap → List Loc → Prop} (w1 : (Jvm.Cond.methodLink own index y).before a0 Z = true) (w5 : (Jvm.Cond.sameMethod y.cls owner y.name y.desc).before a0 Z = true) (w2 : (Jvm.Cond.declares ⟨owner, y.name, y.desc⟩).before a0 Z = true) (ho : owner ≠ "java/lang/invoke/MethodHandle" ∧ owner ≠ "java/lang/invoke/VarHandle") (w3 : (Jvm.Cond.selects C y z).before a0 Z = true) (w4 : (Jvm.Cond.instanceMethod z).before a0 Z = true) (hM : MetFree l z (head1 [Jvm.Cond.code z bytes maxL ret] rm) (fun a U => a = as' ∧ Z.Warmed39 U.vm ∧ U.heap = h) (fun _ _ _ _ _ => True) (fun _ U o U' => ∃ v L, o = .returned v ∧ Q' v U'.heap L ∧ FrameEnd U o U' L rm.cells rm.slots)) (wc : (Jvm.Cond.code z bytes maxL ret).before a0 Z = true) (wz : (Jvm.Cond.initialized z.cls).before a0 Z = true) (eT : T.heap = h) (W : Nat) (hf : rm.frames + 1 ≤ R.frames) (hl : W + (maxL + 11) + rm.locals ≤ R.locals) (hc : cells + rm.cells ≤ R.cells) (hs : slots + rm.slots ≤ R.slots) {a : Addr} (E : Exa Z h a C) (argsL rest : List Value) (has : (.ref a :: argsL).toArray = as') {ps : List FieldType} {rr : Option FieldType} (hpd : parseMethodDescriptor y.desc = some ⟨ps, rr⟩) (hlen : argsL.length = ps.length) {pc : Nat} (pc' : Nat) {Ls : Array Slot} {stk : List Value} (hstk : stk = argsL.reverse ++ .ref a :: rest) (hsize : Ls.size = c.maxLocals) (hW : (rest.map fun v => v.category).sum = W) (hd : decode c.code pc = .ok (.invokevirtual index, 3)) (hp : pc + 3 = pc') (k : ∀ T' v L, Stand p l e R s m args below meth c T' (locs ++ L) (cells + rm.cells) (slots + rm.slots) → Q' v T'.heap L → own_Go p e below s Q K N (T'.setTop (mkF m pc' Ls (v.toList ++ rest)))) : own_Go p e below s Q K N (T.setTop (mkF m pc Ls stk)) := by
  subst hp hstk
  obtain ⟨cq, kq, qa, qb, qc⟩ := isOf hZ eT E
  obtain ⟨v', _, ⟨T', L', k', n'⟩, -, X', ⟨Lc', hQ', l', y', z'⟩, st'⟩ := X.virtualBackUp hx (owner := owner) (x := y) (y := z) hown (mvT hZ w1) (mvT hZ w5) (mvT hZ w2) ho (mvT hZ w3) (mvT hZ w4) (backOf (W := W) hM hZ wc wz hf hl) qa qc (g := mkF m pc Ls (argsL.reverse ++ .ref a :: rest)) rfl hsize (Steps.refl _) (argsL := argsL) (rest := rest) (lenOf hpd hlen) rfl (by show 2 * 0 + _ ≤ _; omega) hd (fun _ _ => ⟨has, eT, hc, hs⟩)
  dsimp only [Pt.U, Pt.locs, Pt.cells, Pt.slots] at X' l' y' z' st' hQ'
  subst l' y' z'
  exact own_step (fun t kk => st'.trans kk) (k T' v' _ X' hQ')
theorem own_nf {C : String} {y : MethodName} {Z : State} {a0 : Array Value} (hZ : Z.Warmed39 s.vm) (w : (Jvm.Cond.selects C y y).before a0 Z = true) : NotFace s y := notFace_of_selects (args := #[]) (mvT hZ w)
theorem own_selfsel {K : String} {y y' : MethodName} (w : (Jvm.Cond.selects K y' y').before args s = true) (hK : y'.cls = y.cls) (hp : s.PrivateAt y) (hi : (Jvm.Cond.instanceMethod y).before args s = true) (hy : y.cls ≠ "java/lang/invoke/MethodHandle" ∧ y.cls ≠ "java/lang/invoke/VarHandle") : (Jvm.Cond.selects y.cls y y).before args s = true := by
  obtain ⟨c2, r2, m2, -, -, q3, -, kP, hkP, hkPi⟩ := Cond.selects_spec w
  exact selects_self_of_private (by rw [← hK]; exact findClass_of_methodNamed q3) hkP hkPi hp hi hy
theorem own_callP (X : Stand p l e R s m args below meth c T locs cells slots) (hx : p.tables.exec = Jvm.exec) {Z : State} {a0 : Array Value} {h : Heap} (hZ : Z.Warmed39 s.vm) {own : String} (hown : s.vm.findClass own = some m.cls) {C K' : String} {index : Nat} {y y' : MethodName} {bytes : ByteArray} {maxL : Nat} {ret : Option FieldType} {rm : Room} {as' : Array Value} {Q' : Option Value → Heap → List Loc → Prop} (w1 : (Jvm.Cond.methodLink own index y).before a0 Z = true) (w2 : (Jvm.Cond.instanceMethod y).before a0 Z = true) (w3 : (Jvm.Cond.selects K' y' y').before a0 Z = true) (hK : y'.cls = y.cls) (w4 : (Jvm.Cond.privateMethod y).before a0 Z = true) (hy : y.cls ≠ "java/lang/invoke/MethodHandle" ∧ y.cls ≠ "java/lang/invoke/VarHandle") (hM : MetFree l y (head1 [Jvm.Cond.code y bytes maxL ret] rm) (fun a U => a = as' ∧ Z.Warmed39 U.vm ∧ U.heap = h) (fun _ _ _ _ _ => True) (fun _ U o U' => ∃ v L, o = .returned v ∧ Q' v U'.heap L ∧ FrameEnd U o U' L rm.cells rm.slots)) (wc : (Jvm.Cond.code y bytes maxL ret).before a0 Z = true) (wz : (Jvm.Cond.initialized y.cls).before a0 Z = true) (eT : T.heap = h) (W : Nat) (hf : rm.frames + 1 ≤ R.frames) (hl : W + (maxL + 11) + rm.locals ≤ R.locals) (hc : cells + rm.cells ≤ R.cells) (hs : slots + rm.slots ≤ R.slots) {a : Addr} (E : Exa Z h a C) (argsL rest : List Value) (has : (.ref a :: argsL).toArray = as') {ps : List FieldType} {rr : Option FieldType} (hpd : parseMethodDescriptor y.desc = some ⟨ps, rr⟩) (hlen : argsL.length = ps.length) {pc : Nat} (pc' : Nat) {Ls : Array Slot} {stk : List Value} (hstk : stk = argsL.reverse ++ .ref a :: rest) (hsize : Ls.size = c.maxLocals) (hW : (rest.map fun v => v.category).sum = W) (hd : decode c.code pc = .ok (.invokevirtual index, 3)) (hp : pc + 3 = pc') (k : ∀ T' v L, Stand p l e R s m args below meth c T' (locs ++ L) (cells + rm.cells) (slots + rm.slots) → Q' v T'.heap L → own_Go p e below s Q K N (T'.setTop (mkF m pc' Ls (v.toList ++ rest)))) : own_Go p e below s Q K N (T.setTop (mkF m pc Ls stk)) := by
  subst hp hstk
  obtain ⟨cq, qa, qb⟩ := E.cell
  have hpr := Cond.privateMethod_at (mvP hZ w4 (args := args))
  obtain ⟨v', _, ⟨T', L', k', n'⟩, -, X', ⟨Lc', hQ', l', y', z'⟩, st'⟩ := X.privateBack hx (y := y) hown (mvT hZ w1) (mvT hZ w2) (own_selfsel (mvT hZ w3) hK hpr (mvT hZ w2) hy) hpr (mvT hZ wc) hy (backOf (W := W) hM hZ wc wz hf hl) (g := mkF m pc Ls (argsL.reverse ++ .ref a :: rest)) rfl hsize (Steps.refl _) (a := a) (by rw [eT]; exact qa) qb (argsL := argsL) (rest := rest) (lenOf hpd hlen) rfl (by show 2 * 0 + _ ≤ _; omega) hd (fun _ _ => ⟨has, eT, hc, hs⟩)
  dsimp only [Pt.U, Pt.locs, Pt.cells, Pt.slots] at X' l' y' z' st' hQ'
  subst l' y' z'
  exact own_step (fun t kk => st'.trans kk) (k T' v' _ X' hQ')
theorem own_cpA (X : Stand p l e R s m args below meth c T locs cells slots) (hx : p.tables.exec = Jvm.exec) {Z : State} {a0 : Array Value} {h : Heap} (hZ : Z.Warmed39 s.vm) {own : String} (hown : s.vm.findClass own = some m.cls) {index : Nat} (w1 : (Jvm.Cond.methodLink own index Jvm.Stand.acN).before a0 Z = true) (w2 : (Jvm.Cond.native Jvm.Stand.acN).before a0 Z = true) (w3 : (Jvm.Cond.static Jvm.Stand.acN).before a0 Z = true) (w4 : (Jvm.Cond.initialized "java/lang/System").before a0 Z = true) (eT : T.heap = h)
    {a b : Addr} {k k' : ClassId} {ty ty' : FieldType} {z z' sp dp nn : Int32} {vs vd : List Value} {dv dd : Value} (us : List Value) (A : Arv Z h a k ty z vs dv) (B : Arv Z h b k' ty' z' vd dd) (hty : (ty = ty' ∧ refKind ty = false) ∨ (refKind ty = true ∧ refKind ty' = true ∧ StoL Z h b us))
    (h1 : ¬ sp < 0) (h2 : ¬ dp < 0) (h3 : ¬ nn < 0) (h4 : sp.toNatClampNeg + nn.toNatClampNeg ≤ z.toNatClampNeg) (h5 : dp.toNatClampNeg + nn.toNatClampNeg ≤ z'.toNatClampNeg) (hus : us = (List.range nn.toNatClampNeg).map fun i => vs.getD (sp.toNatClampNeg + i) dv) (hl : dp.toNatClampNeg + nn.toNatClampNeg ≤ vd.length) {n0 : Nat} (Nf : Fr n0 locs) (ge : n0 ≤ b)
    {pc : Nat} (pc' : Nat) {Ls : Array Slot} {rest : List Value} (hsize : Ls.size = c.maxLocals) (hd : decode c.code pc = .ok (.invokestatic index, 3)) (hp : pc + 3 = pc') (hf : 1 ≤ R.frames) (W : Nat) (hW : (rest.map fun v => v.category).sum = W) (hlo : W + (nativeFrameWords "java/lang/System" "arraycopy" 5 + 11) ≤ R.locals)
    (kk : ∀ T' h' L, Stand p l e R s m args below meth c T' L cells slots → T'.heap = h' → Fr n0 L → Keep h h' [b] → Arv Z h' b k' ty' z' (vd.take dp.toNatClampNeg ++ us ++ vd.drop (dp.toNatClampNeg + nn.toNatClampNeg)) dd → own_Go p e below s Q K N (T'.setTop (mkF m pc' Ls rest))) : own_Go p e below s Q K N (T.setTop (mkF m pc Ls (.int nn :: .int dp :: .ref b :: .int sp :: .ref a :: rest))) := by
  subst hp
  obtain ⟨T', h', L', X', e', N', K', B', st⟩ := cpA X hx hZ hown w1 w2 w3 w4 eT A B hty h1 h2 h3 h4 h5 hus hl Nf ge (g := mkF m pc Ls (.int nn :: .int dp :: .ref b :: .int sp :: .ref a :: rest)) rfl hsize rfl hd hf (W := W) (by show 2 * 0 + _ ≤ _; omega) hlo
  exact own_step st (kk T' h' L' X' e' N' K' B')
theorem own_plainE {Z : State} {h : Heap} {a : Addr} {C : String} (E : Exa Z h a C) : ∀ cell : Cell, h[a]? = some cell → cell.vm.isStatics = false := fun cell hc => by
  obtain ⟨c', k', h1, -, -, h2, -⟩ := E
  cases h1.symm.trans hc; exact h2
theorem own_plainA {Z : State} {h : Heap} {a : Addr} {k : ClassId} {ty : FieldType} {z : Int32} {vs : List Value} {dv : Value} (V : Arv Z h a k ty z vs dv) : ∀ cell : Cell, h[a]? = some cell → cell.vm.isStatics = false := fun cell hc => by
  obtain ⟨c', A, -⟩ := V
  cases A.1.symm.trans hc; exact A.plain
theorem own_castY (X : Stand p l e R s m args below meth c T locs cells slots) (hx : p.tables.exec = Jvm.exec) {Z : State} {a0 : Array Value} {h : Heap} (hZ : Z.Warmed39 s.vm) {own : String} (hown : s.vm.findClass own = some m.cls) {K' : String} {index : Nat} (w : (Jvm.Cond.classLink own index K').before a0 Z = true) (eT : T.heap = h) {a : Addr} (F : Ins Z h a K' true) {pc : Nat} (pc' : Nat) {Ls : Array Slot} {rest : List Value} (hd : decode c.code pc = .ok (.checkcast index, 3)) (hp : pc + 3 = pc') (k : ∀ T', Stand p l e R s m args below meth c T' locs cells slots → T'.heap = h → own_Go p e below s Q K N (T'.setTop (mkF m pc' Ls (.ref a :: rest)))) : own_Go p e below s Q K N (T.setTop (mkF m pc Ls (.ref a :: rest))) := by
  subst hp
  obtain ⟨T', X', e', st⟩ := castY X hx hZ hown w eT F (g := mkF m pc Ls (.ref a :: rest)) rfl rfl hd
  exact own_step st (k T' X' e')
theorem own_instY (X : Stand p l e R s m args below meth c T locs cells slots) (hx : p.tables.exec = Jvm.exec) {Z : State} {a0 : Array Value} {h : Heap} (hZ : Z.Warmed39 s.vm) {own : String} (hown : s.vm.findClass own = some m.cls) {K' : String} {index : Nat} (w : (Jvm.Cond.classLink own index K').before a0 Z = true) (eT : T.heap = h) {a : Addr} (F : Ins Z h a K' true) {pc : Nat} (pc' : Nat) {Ls : Array Slot} {rest : List Value} (hd : decode c.code pc = .ok (.instanceof index, 3)) (hp : pc + 3 = pc') (k : ∀ T', Stand p l e R s m args below meth c T' locs cells slots → T'.heap = h → own_Go p e below s Q K N (T'.setTop (mkF m pc' Ls (.int 1 :: rest)))) : own_Go p e below s Q K N (T.setTop (mkF m pc Ls (.ref a :: rest))) := by
  subst hp
  obtain ⟨T', X', e', st⟩ := instY X hx hZ hown w eT F (g := mkF m pc Ls (.ref a :: rest)) rfl rfl hd
  exact own_step st (k T' X' e')
theorem own_instNo (X : Stand p l e R s m args below meth c T locs cells slots) (hx : p.tables.exec = Jvm.exec) {Z : State} {a0 : Array Value} {h : Heap} (hZ : Z.Warmed39 s.vm) {own : String} (hown : s.vm.findClass own = some m.cls) {K' : String} {index : Nat} (w : (Jvm.Cond.classLink own index K').before a0 Z = true) (eT : T.heap = h) {a : Addr} {C : String} (E : Exa Z h a C) (F : ∃ c t, Z.vm.findClass C = some c ∧ Z.vm.findClass K' = some t ∧ Z.vm.assignable c t = false) {pc : Nat} (pc' : Nat) {Ls : Array Slot} {rest : List Value} (hd : decode c.code pc = .ok (.instanceof index, 3)) (hp : pc + 3 = pc') (k : ∀ T', Stand p l e R s m args below meth c T' locs cells slots → T'.heap = h → own_Go p e below s Q K N (T'.setTop (mkF m pc' Ls (.int 0 :: rest)))) : own_Go p e below s Q K N (T.setTop (mkF m pc Ls (.ref a :: rest))) := by
  subst hp
  obtain ⟨T', X', e', st⟩ := instNo X hx hZ hown w eT E F (g := mkF m pc Ls (.ref a :: rest)) rfl rfl hd
  exact own_step st (k T' X' e')
theorem own_instNull (X : Stand p l e R s m args below meth c T locs cells slots) (hx : p.tables.exec = Jvm.exec) {index : Nat} {pc : Nat} (pc' : Nat) {Ls : Array Slot} {rest : List Value} (hd : decode c.code pc = .ok (.instanceof index, 3)) (hp : pc + 3 = pc') (G : own_Go p e below s Q K N (T.setTop (mkF m pc' Ls (.int 0 :: rest)))) : own_Go p e below s Q K N (T.setTop (mkF m pc Ls (.null :: rest))) := by
  subst hp
  exact own_step (X.instanceofNull hx (g := mkF m pc Ls (.null :: rest)) rfl rfl hd) G
theorem own_irr (x : Int32) : ¬ x < x := by rw [Int32.lt_iff_toInt_lt]; omega
theorem own_fldV {Z : State} {h : Heap} {a : Addr} {C n d : String} {v w : Value} (F : Fld Z h a C n d v) (q : v = w) : Fld Z h a C n d w := q ▸ F
theorem own_arvL {Z : State} {h : Heap} {a : Addr} {k : ClassId} {ty : FieldType} {z : Int32} {vs ws : List Value} {dv : Value} (F : Arv Z h a k ty z vs dv) (q : ws = vs) : Arv Z h a k ty z ws dv := q ▸ F
end Own
theorem own_rb {z w : Int32} (h : z = w) (hz : nar .boolean z = z := by decide) : (some (Value.int (nar .boolean z)) : Option Value) = some (.int w) := by rw [hz, h]
theorem own_four (z : Int32) {i : Int32} (q : i = (z &&& (3 : Int32))) : i = 0 ∨ i = 1 ∨ i = 2 ∨ i = 3 := by
  have a := c_mask z 3 2 (by decide) (by decide)
  rw [← q] at a
  have h0 : (0 : Int32).toInt = 0 := rfl
  have h1 : (1 : Int32).toInt = 1 := rfl
  have h2 : (2 : Int32).toInt = 2 := rfl
  have h3 : (3 : Int32).toInt = 3 := rfl
  rw [← Int32.toInt_inj, ← Int32.toInt_inj, ← Int32.toInt_inj, ← Int32.toInt_inj]
  omega
theorem d_prog_14_method_1_0 : decode prog_14_method_1_code 0 = .ok (.aload_n 0, 1) := by decide +kernel
theorem d_prog_14_method_1_1 : decode prog_14_method_1_code 1 = .ok (.invokespecial 1, 3) := by decide +kernel
theorem d_prog_14_method_1_4 : decode prog_14_method_1_code 4 = .ok (.return_, 1) := by decide +kernel
theorem ef_0 (m : MethodId) (x0 : Addr) : entryFrame m #[(.ref x0)] 1 = mkF m 0 #[.val (.ref x0)] [] := by first | (simp [entryFrame, mkF, argsToLocals, Value.category]; done) | rfl
theorem pn_0 : plainName "com/example/entitygate/entitygate/HtmlNode" = true := by first | (simp [plainName, overriddenIn]; done) | decide +kernel
def Q_init_hn (Z : State) (o : Addr) (h0 : Heap) (n0 : Nat) (v : Option Value) (h : Heap) (L : List Loc) : Prop := v = none ∧ Fr n0 L ∧ h = h0
set_option maxRecDepth 65536 in
set_option maxHeartbeats 40000000 in
theorem rm_init_hn (l : Launch) (Z : State) (a0 : Array Value) (hw : ∀ d ∈ tables_1, d.before a0 Z = true) (ws : List Jvm.Cond) (o : Addr) (h0 : Heap) (n0 : Nat) (Z0 : n0 ≤ h0.size) :
    MetFree l (⟨"com/example/entitygate/entitygate/HtmlNode", "<init>", "()V"⟩ : MethodName) (head1 (Jvm.Cond.code (⟨"com/example/entitygate/entitygate/HtmlNode", "<init>", "()V"⟩ : MethodName) prog_14_method_1_code 1 none :: ws) ({ frames := 1, cells := 0, slots := 0, locals := 12 } : Room)) (fun aA U => aA = #[(.ref o)] ∧ Z.Warmed39 U.vm ∧ U.heap = h0) (fun _ _ _ _ _ => True) (fun _ U oO U' => ∃ vV LL, oO = .returned vV ∧ Q_init_hn Z o h0 n0 vV U'.heap LL ∧ FrameEnd U oO U' LL ({ frames := 1, cells := 0, slots := 0, locals := 12 } : Room).cells ({ frames := 1, cells := 0, slots := 0, locals := 12 } : Room).slots) := by
  refine MetFree.of_bodySF (plainFor_of_name pn_0) hisR ?_
  intro p e s m args below meth c s₁ Bd hml0 hP hK
  obtain ⟨rfl, hZ, hh⟩ := hP
  have hx := Bd.exec
  have hby := Bd.bytes
  have hml : c.maxLocals = 1 := hml0
  have hown : s.vm.findClass "com/example/entitygate/entitygate/HtmlNode" = some m.cls := findClass_of_methodNamed Bd.named
  have hnm := (name_of_methodNamed Bd.named Bd.method).1
  have X0 : Stand p l e ({ frames := 1, cells := 0, slots := 0, locals := 12 } : Room) s m #[(.ref o)] below meth c s₁ [] 0 0 := Stand.of_body Bd
  have e0 : s₁.heap = h0 := by rw [← hh, Bd.state]; rfl
  have N0 := Fr.nil n0
  have hret := Bd.returns
  have hlk : meth.locks = false := Bd.notSynchronized
  refine own_start (ef_0 m o) ?_
  show own_Go p e below s (Q_init_hn Z o h0 n0) ({ frames := 1, cells := 0, slots := 0, locals := 12 } : Room).cells ({ frames := 1, cells := 0, slots := 0, locals := 12 } : Room).slots (s₁.setTop (mkF m 0 #[.val (.ref o)] []))
  refine g_aload_n X0 hx 1 (hb hby d_prog_14_method_1_0) rfl rfl rfl ?_
  refine own_initO X0 hx hZ hown (hw _ (List.mem_of_getElem? (i := 16) rfl)) (hw _ (List.mem_of_getElem? (i := 17) rfl)) (hw _ (List.mem_of_getElem? (i := 18) rfl)) e0 4 (by rw [hml]; rfl) (hb hby d_prog_14_method_1_1) rfl (by decide) 0 rfl (by decide) fun T1 X1 e1 => ?_
  refine own_retV X1 hx hlk hret (hb hby d_prog_14_method_1_4) ?_ (by decide) (by decide)
  rw [e1]
  exact ⟨rfl, N0, rfl⟩
theorem d_prog_20_method_1_0 : decode prog_20_method_1_code 0 = .ok (.aload_n 0, 1) := by decide +kernel
theorem d_prog_20_method_1_1 : decode prog_20_method_1_code 1 = .ok (.invokespecial 1, 3) := by decide +kernel
theorem pd_0 : parseMethodDescriptor "()V" = some ⟨[], none⟩ := by decide +kernel
theorem d_prog_20_method_1_4 : decode prog_20_method_1_code 4 = .ok (.return_, 1) := by decide +kernel
theorem pn_1 : plainName "com/example/entitygate/entitygate/HtmlNode$Parent" = true := by first | (simp [plainName, overriddenIn]; done) | decide +kernel
def Q_init_pa (Z : State) (o : Addr) (h0 : Heap) (n0 : Nat) (v : Option Value) (h : Heap) (L : List Loc) : Prop := v = none ∧ Fr n0 L ∧ h = h0
set_option maxRecDepth 65536 in
set_option maxHeartbeats 40000000 in
theorem rm_init_pa (l : Launch) (Z : State) (a0 : Array Value) (hw : ∀ d ∈ tables_1, d.before a0 Z = true) (ws : List Jvm.Cond) (o : Addr) (h0 : Heap) (n0 : Nat) (Z0 : n0 ≤ h0.size) :
    MetFree l (⟨"com/example/entitygate/entitygate/HtmlNode$Parent", "<init>", "()V"⟩ : MethodName) (head1 (Jvm.Cond.code (⟨"com/example/entitygate/entitygate/HtmlNode$Parent", "<init>", "()V"⟩ : MethodName) prog_20_method_1_code 1 none :: ws) ({ frames := 2, cells := 0, slots := 0, locals := 24 } : Room)) (fun aA U => aA = #[(.ref o)] ∧ Z.Warmed39 U.vm ∧ U.heap = h0) (fun _ _ _ _ _ => True) (fun _ U oO U' => ∃ vV LL, oO = .returned vV ∧ Q_init_pa Z o h0 n0 vV U'.heap LL ∧ FrameEnd U oO U' LL ({ frames := 2, cells := 0, slots := 0, locals := 24 } : Room).cells ({ frames := 2, cells := 0, slots := 0, locals := 24 } : Room).slots) := by
  refine MetFree.of_bodySF (plainFor_of_name pn_1) hisR ?_
  intro p e s m args below meth c s₁ Bd hml0 hP hK
  obtain ⟨rfl, hZ, hh⟩ := hP
  have hx := Bd.exec
  have hby := Bd.bytes
  have hml : c.maxLocals = 1 := hml0
  have hown : s.vm.findClass "com/example/entitygate/entitygate/HtmlNode$Parent" = some m.cls := findClass_of_methodNamed Bd.named
  have hnm := (name_of_methodNamed Bd.named Bd.method).1
  have X0 : Stand p l e ({ frames := 2, cells := 0, slots := 0, locals := 24 } : Room) s m #[(.ref o)] below meth c s₁ [] 0 0 := Stand.of_body Bd
  have e0 : s₁.heap = h0 := by rw [← hh, Bd.state]; rfl
  have N0 := Fr.nil n0
  have hret := Bd.returns
  have hlk : meth.locks = false := Bd.notSynchronized
  refine own_start (ef_0 m o) ?_
  show own_Go p e below s (Q_init_pa Z o h0 n0) ({ frames := 2, cells := 0, slots := 0, locals := 24 } : Room).cells ({ frames := 2, cells := 0, slots := 0, locals := 24 } : Room).slots (s₁.setTop (mkF m 0 #[.val (.ref o)] []))
  refine g_aload_n X0 hx 1 (hb hby d_prog_20_method_1_0) rfl rfl rfl ?_
  refine own_callI X0 hx hZ hown rfl (hw _ (List.mem_of_getElem? (i := 11) rfl)) (hw _ (List.mem_of_getElem? (i := 12) rfl)) (by decide) (rm_init_hn l Z a0 hw [] o h0 n0 Z0 ) (hw _ (List.mem_of_getElem? (i := 15) rfl)) (hw _ (List.mem_of_getElem? (i := 14) rfl)) e0 0 (by decide) (by decide) (by decide) (by decide) o [] [] rfl pd_0 rfl 4 rfl (by rw [hml]; rfl) rfl (hb hby d_prog_20_method_1_1) rfl fun T2 v2 L2 X2 hQ2 => ?_
  obtain ⟨rfl, Nq2, e2⟩ := hQ2
  have N2 := Fr.app N0 Nq2
  show own_Go p e below s _ _ _ (T2.setTop (mkF m 4 _ []))
  refine own_retV X2 hx hlk hret (hb hby d_prog_20_method_1_4) ?_ (by decide) (by decide)
  rw [e2]
  exact ⟨rfl, N2, rfl⟩
theorem d_prog_16_method_1_0 : decode prog_16_method_1_code 0 = .ok (.aload_n 0, 1) := by decide +kernel
theorem d_prog_16_method_1_1 : decode prog_16_method_1_code 1 = .ok (.invokespecial 1, 3) := by decide +kernel
theorem d_prog_16_method_1_4 : decode prog_16_method_1_code 4 = .ok (.return_, 1) := by decide +kernel
theorem pn_2 : plainName "com/example/entitygate/entitygate/HtmlNode$Document" = true := by first | (simp [plainName, overriddenIn]; done) | decide +kernel
def Q_init_do (Z : State) (o : Addr) (h0 : Heap) (n0 : Nat) (v : Option Value) (h : Heap) (L : List Loc) : Prop := v = none ∧ Fr n0 L ∧ h = h0
set_option maxRecDepth 65536 in
set_option maxHeartbeats 40000000 in
theorem rm_init_do (l : Launch) (Z : State) (a0 : Array Value) (hw : ∀ d ∈ tables_1, d.before a0 Z = true) (ws : List Jvm.Cond) (o : Addr) (h0 : Heap) (n0 : Nat) (Z0 : n0 ≤ h0.size) :
    MetFree l (⟨"com/example/entitygate/entitygate/HtmlNode$Document", "<init>", "()V"⟩ : MethodName) (head1 (Jvm.Cond.code (⟨"com/example/entitygate/entitygate/HtmlNode$Document", "<init>", "()V"⟩ : MethodName) prog_16_method_1_code 1 none :: ws) ({ frames := 3, cells := 0, slots := 0, locals := 36 } : Room)) (fun aA U => aA = #[(.ref o)] ∧ Z.Warmed39 U.vm ∧ U.heap = h0) (fun _ _ _ _ _ => True) (fun _ U oO U' => ∃ vV LL, oO = .returned vV ∧ Q_init_do Z o h0 n0 vV U'.heap LL ∧ FrameEnd U oO U' LL ({ frames := 3, cells := 0, slots := 0, locals := 36 } : Room).cells ({ frames := 3, cells := 0, slots := 0, locals := 36 } : Room).slots) := by
  refine MetFree.of_bodySF (plainFor_of_name pn_2) hisR ?_
  intro p e s m args below meth c s₁ Bd hml0 hP hK
  obtain ⟨rfl, hZ, hh⟩ := hP
  have hx := Bd.exec
  have hby := Bd.bytes
  have hml : c.maxLocals = 1 := hml0
  have hown : s.vm.findClass "com/example/entitygate/entitygate/HtmlNode$Document" = some m.cls := findClass_of_methodNamed Bd.named
  have hnm := (name_of_methodNamed Bd.named Bd.method).1
  have X0 : Stand p l e ({ frames := 3, cells := 0, slots := 0, locals := 36 } : Room) s m #[(.ref o)] below meth c s₁ [] 0 0 := Stand.of_body Bd
  have e0 : s₁.heap = h0 := by rw [← hh, Bd.state]; rfl
  have N0 := Fr.nil n0
  have hret := Bd.returns
  have hlk : meth.locks = false := Bd.notSynchronized
  refine own_start (ef_0 m o) ?_
  show own_Go p e below s (Q_init_do Z o h0 n0) ({ frames := 3, cells := 0, slots := 0, locals := 36 } : Room).cells ({ frames := 3, cells := 0, slots := 0, locals := 36 } : Room).slots (s₁.setTop (mkF m 0 #[.val (.ref o)] []))
  refine g_aload_n X0 hx 1 (hb hby d_prog_16_method_1_0) rfl rfl rfl ?_
  refine own_callI X0 hx hZ hown rfl (hw _ (List.mem_of_getElem? (i := 6) rfl)) (hw _ (List.mem_of_getElem? (i := 7) rfl)) (by decide) (rm_init_pa l Z a0 hw [] o h0 n0 Z0 ) (hw _ (List.mem_of_getElem? (i := 10) rfl)) (hw _ (List.mem_of_getElem? (i := 9) rfl)) e0 0 (by decide) (by decide) (by decide) (by decide) o [] [] rfl pd_0 rfl 4 rfl (by rw [hml]; rfl) rfl (hb hby d_prog_16_method_1_1) rfl fun T3 v3 L3 X3 hQ3 => ?_
  obtain ⟨rfl, Nq3, e3⟩ := hQ3
  have N3 := Fr.app N0 Nq3
  show own_Go p e below s _ _ _ (T3.setTop (mkF m 4 _ []))
  refine own_retV X3 hx hlk hret (hb hby d_prog_16_method_1_4) ?_ (by decide) (by decide)
  rw [e3]
  exact ⟨rfl, N3, rfl⟩
theorem d_prog_14_method_2_0 : decode prog_14_method_2_code 0 = .ok (.aload_n 0, 1) := by decide +kernel
theorem d_prog_14_method_2_1 : decode prog_14_method_2_code 1 = .ok (.getfield 7, 3) := by decide +kernel
theorem d_prog_14_method_2_4 : decode prog_14_method_2_code 4 = .ok (.ifnonnull 4, 3) := by decide +kernel
theorem d_prog_14_method_2_7 : decode prog_14_method_2_code 7 = .ok (.return_, 1) := by decide +kernel
def Q_det0 (Z : State) (o : Addr) (h0 : Heap) (n0 : Nat) (v : Option Value) (h : Heap) (L : List Loc) : Prop := v = none ∧ Fr n0 L ∧ h = h0
set_option maxRecDepth 65536 in
set_option maxHeartbeats 40000000 in
theorem rm_det0 (l : Launch) (Z : State) (a0 : Array Value) (hw : ∀ d ∈ tables_1, d.before a0 Z = true) (ws : List Jvm.Cond) (o : Addr) (h0 : Heap) (n0 : Nat) (Z0 : n0 ≤ h0.size) (F_o_parent : Fld Z h0 o "com/example/entitygate/entitygate/HtmlNode" "parent" "Lcom/example/entitygate/entitygate/HtmlNode$Parent;" .null) :
    MetFree l (⟨"com/example/entitygate/entitygate/HtmlNode", "detach", "()V"⟩ : MethodName) (head1 (Jvm.Cond.code (⟨"com/example/entitygate/entitygate/HtmlNode", "detach", "()V"⟩ : MethodName) prog_14_method_2_code 1 none :: ws) ({ frames := 0, cells := 0, slots := 0, locals := 0 } : Room)) (fun aA U => aA = #[(.ref o)] ∧ Z.Warmed39 U.vm ∧ U.heap = h0) (fun _ _ _ _ _ => True) (fun _ U oO U' => ∃ vV LL, oO = .returned vV ∧ Q_det0 Z o h0 n0 vV U'.heap LL ∧ FrameEnd U oO U' LL ({ frames := 0, cells := 0, slots := 0, locals := 0 } : Room).cells ({ frames := 0, cells := 0, slots := 0, locals := 0 } : Room).slots) := by
  refine MetFree.of_bodySF (plainFor_of_name pn_0) hisR ?_
  intro p e s m args below meth c s₁ Bd hml0 hP hK
  obtain ⟨rfl, hZ, hh⟩ := hP
  have hx := Bd.exec
  have hby := Bd.bytes
  have hml : c.maxLocals = 1 := hml0
  have hown : s.vm.findClass "com/example/entitygate/entitygate/HtmlNode" = some m.cls := findClass_of_methodNamed Bd.named
  have hnm := (name_of_methodNamed Bd.named Bd.method).1
  have X0 : Stand p l e ({ frames := 0, cells := 0, slots := 0, locals := 0 } : Room) s m #[(.ref o)] below meth c s₁ [] 0 0 := Stand.of_body Bd
  have e0 : s₁.heap = h0 := by rw [← hh, Bd.state]; rfl
  have N0 := Fr.nil n0
  have hret := Bd.returns
  have hlk : meth.locks = false := Bd.notSynchronized
  refine own_start (ef_0 m o) ?_
  show own_Go p e below s (Q_det0 Z o h0 n0) ({ frames := 0, cells := 0, slots := 0, locals := 0 } : Room).cells ({ frames := 0, cells := 0, slots := 0, locals := 0 } : Room).slots (s₁.setTop (mkF m 0 #[.val (.ref o)] []))
  refine g_aload_n X0 hx 1 (hb hby d_prog_14_method_2_0) rfl rfl rfl ?_
  refine own_getF X0 hx hZ hown (host := "") (Or.inl (hw _ (List.mem_of_getElem? (i := 24) rfl))) Via.refl e0 F_o_parent 4 (hb hby d_prog_14_method_2_1) rfl fun T4 X4 e4 => ?_
  refine g_ifnonnullNo X4 hx 7 (hb hby d_prog_14_method_2_4) rfl ?_
  refine own_retV X4 hx hlk hret (hb hby d_prog_14_method_2_7) ?_ (by decide) (by decide)
  rw [e4]
  exact ⟨rfl, N0, rfl⟩
theorem d_method_4_0 : decode method_4_code 0 = .ok (.aload_n 0, 1) := by decide +kernel
theorem d_method_4_1 : decode method_4_code 1 = .ok (.getfield 36, 3) := by decide +kernel
theorem d_method_4_4 : decode method_4_code 4 = .ok (.ifnonnull 21, 3) := by decide +kernel
theorem d_method_4_7 : decode method_4_code 7 = .ok (.aload_n 0, 1) := by decide +kernel
theorem d_method_4_8 : decode method_4_code 8 = .ok (.getfield 40, 3) := by decide +kernel
theorem d_method_4_11 : decode method_4_code 11 = .ok (.ifnonnull 14, 3) := by decide +kernel
theorem d_method_4_14 : decode method_4_code 14 = .ok (.aload_n 0, 1) := by decide +kernel
theorem d_method_4_15 : decode method_4_code 15 = .ok (.getfield 43, 3) := by decide +kernel
theorem d_method_4_18 : decode method_4_code 18 = .ok (.ifnonnull 7, 3) := by decide +kernel
theorem d_method_4_21 : decode method_4_code 21 = .ok (.iconst 1, 1) := by decide +kernel
theorem d_method_4_22 : decode method_4_code 22 = .ok (.goto 4, 3) := by decide +kernel
theorem d_method_4_26 : decode method_4_code 26 = .ok (.ireturn, 1) := by decide +kernel
theorem pn_3 : plainName "com/example/entitygate/entitygate/HtmlNodeDetachPinLaw" = true := by first | (simp [plainName, overriddenIn]; done) | decide +kernel
def Q_free1 (Z : State) (o : Addr) (h0 : Heap) (n0 : Nat) (v : Option Value) (h : Heap) (L : List Loc) : Prop := v = some (.int (1 : Int32)) ∧ Fr n0 L ∧ h = h0
set_option maxRecDepth 65536 in
set_option maxHeartbeats 40000000 in
theorem rm_free1 (l : Launch) (Z : State) (a0 : Array Value) (hw : ∀ d ∈ tables_1, d.before a0 Z = true) (ws : List Jvm.Cond) (o : Addr) (h0 : Heap) (n0 : Nat) (Z0 : n0 ≤ h0.size) (F_o_parent : Fld Z h0 o "com/example/entitygate/entitygate/HtmlNode" "parent" "Lcom/example/entitygate/entitygate/HtmlNode$Parent;" .null) (F_o_previous : Fld Z h0 o "com/example/entitygate/entitygate/HtmlNode" "previous" "Lcom/example/entitygate/entitygate/HtmlNode;" .null) (F_o_next : Fld Z h0 o "com/example/entitygate/entitygate/HtmlNode" "next" "Lcom/example/entitygate/entitygate/HtmlNode;" .null) :
    MetFree l (⟨"com/example/entitygate/entitygate/HtmlNodeDetachPinLaw", "free", "(Lcom/example/entitygate/entitygate/HtmlNode;)Z"⟩ : MethodName) (head1 (Jvm.Cond.code (⟨"com/example/entitygate/entitygate/HtmlNodeDetachPinLaw", "free", "(Lcom/example/entitygate/entitygate/HtmlNode;)Z"⟩ : MethodName) method_4_code 1 (some .boolean) :: ws) ({ frames := 0, cells := 0, slots := 0, locals := 0 } : Room)) (fun aA U => aA = #[(.ref o)] ∧ Z.Warmed39 U.vm ∧ U.heap = h0) (fun _ _ _ _ _ => True) (fun _ U oO U' => ∃ vV LL, oO = .returned vV ∧ Q_free1 Z o h0 n0 vV U'.heap LL ∧ FrameEnd U oO U' LL ({ frames := 0, cells := 0, slots := 0, locals := 0 } : Room).cells ({ frames := 0, cells := 0, slots := 0, locals := 0 } : Room).slots) := by
  refine MetFree.of_bodySF (plainFor_of_name pn_3) hisR ?_
  intro p e s m args below meth c s₁ Bd hml0 hP hK
  obtain ⟨rfl, hZ, hh⟩ := hP
  have hx := Bd.exec
  have hby := Bd.bytes
  have hml : c.maxLocals = 1 := hml0
  have hown : s.vm.findClass "com/example/entitygate/entitygate/HtmlNodeDetachPinLaw" = some m.cls := findClass_of_methodNamed Bd.named
  have hnm := (name_of_methodNamed Bd.named Bd.method).1
  have X0 : Stand p l e ({ frames := 0, cells := 0, slots := 0, locals := 0 } : Room) s m #[(.ref o)] below meth c s₁ [] 0 0 := Stand.of_body Bd
  have e0 : s₁.heap = h0 := by rw [← hh, Bd.state]; rfl
  have N0 := Fr.nil n0
  have hret := Bd.returns
  have hlk : meth.locks = false := Bd.notSynchronized
  refine own_start (ef_0 m o) ?_
  show own_Go p e below s (Q_free1 Z o h0 n0) ({ frames := 0, cells := 0, slots := 0, locals := 0 } : Room).cells ({ frames := 0, cells := 0, slots := 0, locals := 0 } : Room).slots (s₁.setTop (mkF m 0 #[.val (.ref o)] []))
  refine g_aload_n X0 hx 1 (hb hby d_method_4_0) rfl rfl rfl ?_
  refine own_getF X0 hx hZ hown (host := "") (Or.inl (hw _ (List.mem_of_getElem? (i := 38) rfl))) Via.refl e0 F_o_parent 4 (hb hby d_method_4_1) rfl fun T5 X5 e5 => ?_
  refine g_ifnonnullNo X5 hx 7 (hb hby d_method_4_4) rfl ?_
  refine g_aload_n X5 hx 8 (hb hby d_method_4_7) rfl rfl rfl ?_
  refine own_getF X5 hx hZ hown (host := "") (Or.inl (hw _ (List.mem_of_getElem? (i := 39) rfl))) Via.refl e5 F_o_previous 11 (hb hby d_method_4_8) rfl fun T6 X6 e6 => ?_
  refine g_ifnonnullNo X6 hx 14 (hb hby d_method_4_11) rfl ?_
  refine g_aload_n X6 hx 15 (hb hby d_method_4_14) rfl rfl rfl ?_
  refine own_getF X6 hx hZ hown (host := "") (Or.inl (hw _ (List.mem_of_getElem? (i := 41) rfl))) Via.refl e6 F_o_next 18 (hb hby d_method_4_15) rfl fun T7 X7 e7 => ?_
  refine g_ifnonnullNo X7 hx 21 (hb hby d_method_4_18) rfl ?_
  refine g_iconst X7 hx 22 (hb hby d_method_4_21) (1 : Int32) rfl rfl ?_
  refine g_goto X7 hx 26 (hb hby d_method_4_22) (by decide) (by decide) ?_
  refine own_retN X7 hx hlk (t := .boolean) hret (by simp) (hb hby d_method_4_26) ?_ (by decide) (by decide)
  rw [e7]
  exact ⟨(own_rb rfl), N0, rfl⟩
theorem d_prog_20_method_2_0 : decode prog_20_method_2_code 0 = .ok (.aload_n 1, 1) := by decide +kernel
theorem d_prog_20_method_2_1 : decode prog_20_method_2_code 1 = .ok (.invokevirtual 7, 3) := by decide +kernel
theorem d_prog_20_method_2_4 : decode prog_20_method_2_code 4 = .ok (.aload_n 1, 1) := by decide +kernel
theorem d_prog_20_method_2_5 : decode prog_20_method_2_code 5 = .ok (.aload_n 0, 1) := by decide +kernel
theorem d_prog_20_method_2_6 : decode prog_20_method_2_code 6 = .ok (.putfield 10, 3) := by decide +kernel
theorem d_prog_20_method_2_9 : decode prog_20_method_2_code 9 = .ok (.aload_n 2, 1) := by decide +kernel
theorem d_prog_20_method_2_10 : decode prog_20_method_2_code 10 = .ok (.ifnonnull 42, 3) := by decide +kernel
theorem d_prog_20_method_2_13 : decode prog_20_method_2_code 13 = .ok (.aload_n 1, 1) := by decide +kernel
theorem d_prog_20_method_2_14 : decode prog_20_method_2_code 14 = .ok (.aload_n 0, 1) := by decide +kernel
theorem d_prog_20_method_2_15 : decode prog_20_method_2_code 15 = .ok (.getfield 14, 3) := by decide +kernel
theorem d_prog_20_method_2_18 : decode prog_20_method_2_code 18 = .ok (.putfield 20, 3) := by decide +kernel
theorem d_prog_20_method_2_21 : decode prog_20_method_2_code 21 = .ok (.aload_n 0, 1) := by decide +kernel
theorem d_prog_20_method_2_22 : decode prog_20_method_2_code 22 = .ok (.getfield 14, 3) := by decide +kernel
theorem d_prog_20_method_2_25 : decode prog_20_method_2_code 25 = .ok (.ifnonnull 11, 3) := by decide +kernel
theorem d_prog_20_method_2_28 : decode prog_20_method_2_code 28 = .ok (.aload_n 0, 1) := by decide +kernel
theorem d_prog_20_method_2_29 : decode prog_20_method_2_code 29 = .ok (.aload_n 1, 1) := by decide +kernel
theorem d_prog_20_method_2_30 : decode prog_20_method_2_code 30 = .ok (.putfield 23, 3) := by decide +kernel
theorem d_prog_20_method_2_33 : decode prog_20_method_2_code 33 = .ok (.goto 11, 3) := by decide +kernel
theorem d_prog_20_method_2_44 : decode prog_20_method_2_code 44 = .ok (.aload_n 0, 1) := by decide +kernel
theorem d_prog_20_method_2_45 : decode prog_20_method_2_code 45 = .ok (.aload_n 1, 1) := by decide +kernel
theorem d_prog_20_method_2_46 : decode prog_20_method_2_code 46 = .ok (.putfield 14, 3) := by decide +kernel
theorem d_prog_20_method_2_49 : decode prog_20_method_2_code 49 = .ok (.goto 44, 3) := by decide +kernel
theorem d_prog_20_method_2_93 : decode prog_20_method_2_code 93 = .ok (.return_, 1) := by decide +kernel
theorem ef_1 (m : MethodId) (x0 : Addr) (x1 : Addr) : entryFrame m #[(.ref x0), (.ref x1), .null] 3 = mkF m 0 #[.val (.ref x0), .val (.ref x1), .val .null] [] := by first | (simp [entryFrame, mkF, argsToLocals, Value.category]; done) | rfl
def Q_ins0 (Z : State) (op : Addr) (oa : Addr) (ob : Addr) (oc : Addr) (h0 : Heap) (n0 : Nat) (v : Option Value) (h : Heap) (L : List Loc) : Prop := v = none ∧ Fr n0 L ∧ Keep h0 h [oa, op] ∧ Fld Z h oa "com/example/entitygate/entitygate/HtmlNode" "parent" "Lcom/example/entitygate/entitygate/HtmlNode$Parent;" (.ref op) ∧ Fld Z h oa "com/example/entitygate/entitygate/HtmlNode" "previous" "Lcom/example/entitygate/entitygate/HtmlNode;" .null ∧ Fld Z h oa "com/example/entitygate/entitygate/HtmlNode" "next" "Lcom/example/entitygate/entitygate/HtmlNode;" .null ∧ Fld Z h oa "com/example/entitygate/entitygate/HtmlNode$Parent" "first" "Lcom/example/entitygate/entitygate/HtmlNode;" .null ∧ Fld Z h oa "com/example/entitygate/entitygate/HtmlNode$Parent" "last" "Lcom/example/entitygate/entitygate/HtmlNode;" .null ∧ Fld Z h op "com/example/entitygate/entitygate/HtmlNode" "parent" "Lcom/example/entitygate/entitygate/HtmlNode$Parent;" .null ∧ Fld Z h op "com/example/entitygate/entitygate/HtmlNode" "previous" "Lcom/example/entitygate/entitygate/HtmlNode;" .null ∧ Fld Z h op "com/example/entitygate/entitygate/HtmlNode" "next" "Lcom/example/entitygate/entitygate/HtmlNode;" .null ∧ Fld Z h op "com/example/entitygate/entitygate/HtmlNode$Parent" "first" "Lcom/example/entitygate/entitygate/HtmlNode;" (.ref oa) ∧ Fld Z h op "com/example/entitygate/entitygate/HtmlNode$Parent" "last" "Lcom/example/entitygate/entitygate/HtmlNode;" (.ref oa)
set_option maxRecDepth 65536 in
set_option maxHeartbeats 40000000 in
theorem rm_ins0 (l : Launch) (Z : State) (a0 : Array Value) (hw : ∀ d ∈ tables_1, d.before a0 Z = true) (ws : List Jvm.Cond) (op : Addr) (oa : Addr) (ob : Addr) (oc : Addr) (h0 : Heap) (n0 : Nat) (Z0 : n0 ≤ h0.size) (E_op : Exa Z h0 op "com/example/entitygate/entitygate/HtmlNode$Document") (E_oa : Exa Z h0 oa "com/example/entitygate/entitygate/HtmlNode$Document") (E_ob : Exa Z h0 ob "com/example/entitygate/entitygate/HtmlNode$Document") (E_oc : Exa Z h0 oc "com/example/entitygate/entitygate/HtmlNode$Document") (F_op_parent : Fld Z h0 op "com/example/entitygate/entitygate/HtmlNode" "parent" "Lcom/example/entitygate/entitygate/HtmlNode$Parent;" .null) (F_op_previous : Fld Z h0 op "com/example/entitygate/entitygate/HtmlNode" "previous" "Lcom/example/entitygate/entitygate/HtmlNode;" .null) (F_op_next : Fld Z h0 op "com/example/entitygate/entitygate/HtmlNode" "next" "Lcom/example/entitygate/entitygate/HtmlNode;" .null) (F_op_first : Fld Z h0 op "com/example/entitygate/entitygate/HtmlNode$Parent" "first" "Lcom/example/entitygate/entitygate/HtmlNode;" .null) (F_op_last : Fld Z h0 op "com/example/entitygate/entitygate/HtmlNode$Parent" "last" "Lcom/example/entitygate/entitygate/HtmlNode;" .null) (F_oa_parent : Fld Z h0 oa "com/example/entitygate/entitygate/HtmlNode" "parent" "Lcom/example/entitygate/entitygate/HtmlNode$Parent;" .null) (F_oa_previous : Fld Z h0 oa "com/example/entitygate/entitygate/HtmlNode" "previous" "Lcom/example/entitygate/entitygate/HtmlNode;" .null) (F_oa_next : Fld Z h0 oa "com/example/entitygate/entitygate/HtmlNode" "next" "Lcom/example/entitygate/entitygate/HtmlNode;" .null) (F_oa_first : Fld Z h0 oa "com/example/entitygate/entitygate/HtmlNode$Parent" "first" "Lcom/example/entitygate/entitygate/HtmlNode;" .null) (F_oa_last : Fld Z h0 oa "com/example/entitygate/entitygate/HtmlNode$Parent" "last" "Lcom/example/entitygate/entitygate/HtmlNode;" .null) (F_ob_parent : Fld Z h0 ob "com/example/entitygate/entitygate/HtmlNode" "parent" "Lcom/example/entitygate/entitygate/HtmlNode$Parent;" .null) (F_ob_previous : Fld Z h0 ob "com/example/entitygate/entitygate/HtmlNode" "previous" "Lcom/example/entitygate/entitygate/HtmlNode;" .null) (F_ob_next : Fld Z h0 ob "com/example/entitygate/entitygate/HtmlNode" "next" "Lcom/example/entitygate/entitygate/HtmlNode;" .null) (F_ob_first : Fld Z h0 ob "com/example/entitygate/entitygate/HtmlNode$Parent" "first" "Lcom/example/entitygate/entitygate/HtmlNode;" .null) (F_ob_last : Fld Z h0 ob "com/example/entitygate/entitygate/HtmlNode$Parent" "last" "Lcom/example/entitygate/entitygate/HtmlNode;" .null) (F_oc_parent : Fld Z h0 oc "com/example/entitygate/entitygate/HtmlNode" "parent" "Lcom/example/entitygate/entitygate/HtmlNode$Parent;" .null) (F_oc_previous : Fld Z h0 oc "com/example/entitygate/entitygate/HtmlNode" "previous" "Lcom/example/entitygate/entitygate/HtmlNode;" .null) (F_oc_next : Fld Z h0 oc "com/example/entitygate/entitygate/HtmlNode" "next" "Lcom/example/entitygate/entitygate/HtmlNode;" .null) (F_oc_first : Fld Z h0 oc "com/example/entitygate/entitygate/HtmlNode$Parent" "first" "Lcom/example/entitygate/entitygate/HtmlNode;" .null) (F_oc_last : Fld Z h0 oc "com/example/entitygate/entitygate/HtmlNode$Parent" "last" "Lcom/example/entitygate/entitygate/HtmlNode;" .null) (ne_op_oa : op ≠ oa) (ne_op_ob : op ≠ ob) (ne_op_oc : op ≠ oc) (ne_oa_ob : oa ≠ ob) (ne_oa_oc : oa ≠ oc) (ne_ob_oc : ob ≠ oc) (g_op : n0 ≤ op) (g_oa : n0 ≤ oa) (g_ob : n0 ≤ ob) (g_oc : n0 ≤ oc) :
    MetFree l (⟨"com/example/entitygate/entitygate/HtmlNode$Parent", "insert", "(Lcom/example/entitygate/entitygate/HtmlNode;Lcom/example/entitygate/entitygate/HtmlNode;)V"⟩ : MethodName) (head1 (Jvm.Cond.code (⟨"com/example/entitygate/entitygate/HtmlNode$Parent", "insert", "(Lcom/example/entitygate/entitygate/HtmlNode;Lcom/example/entitygate/entitygate/HtmlNode;)V"⟩ : MethodName) prog_20_method_2_code 3 none :: ws) ({ frames := 1, cells := 0, slots := 0, locals := 12 } : Room)) (fun aA U => aA = #[(.ref op), (.ref oa), .null] ∧ Z.Warmed39 U.vm ∧ U.heap = h0) (fun _ _ _ _ _ => True) (fun _ U oO U' => ∃ vV LL, oO = .returned vV ∧ Q_ins0 Z op oa ob oc h0 n0 vV U'.heap LL ∧ FrameEnd U oO U' LL ({ frames := 1, cells := 0, slots := 0, locals := 12 } : Room).cells ({ frames := 1, cells := 0, slots := 0, locals := 12 } : Room).slots) := by
  refine MetFree.of_bodySF (plainFor_of_name pn_1) hisR ?_
  intro p e s m args below meth c s₁ Bd hml0 hP hK
  obtain ⟨rfl, hZ, hh⟩ := hP
  have hx := Bd.exec
  have hby := Bd.bytes
  have hml : c.maxLocals = 3 := hml0
  have hown : s.vm.findClass "com/example/entitygate/entitygate/HtmlNode$Parent" = some m.cls := findClass_of_methodNamed Bd.named
  have hnm := (name_of_methodNamed Bd.named Bd.method).1
  have X0 : Stand p l e ({ frames := 1, cells := 0, slots := 0, locals := 12 } : Room) s m #[(.ref op), (.ref oa), .null] below meth c s₁ [] 0 0 := Stand.of_body Bd
  have e0 : s₁.heap = h0 := by rw [← hh, Bd.state]; rfl
  have N0 := Fr.nil n0
  have hret := Bd.returns
  have hlk : meth.locks = false := Bd.notSynchronized
  refine own_start (ef_1 m op oa) ?_
  show own_Go p e below s (Q_ins0 Z op oa ob oc h0 n0) ({ frames := 1, cells := 0, slots := 0, locals := 12 } : Room).cells ({ frames := 1, cells := 0, slots := 0, locals := 12 } : Room).slots (s₁.setTop (mkF m 0 #[.val (.ref op), .val (.ref oa), .val .null] []))
  refine g_aload_n X0 hx 1 (hb hby d_prog_20_method_2_0) rfl rfl rfl ?_
  refine own_callV X0 hx hZ hown (hw _ (List.mem_of_getElem? (i := 52) rfl)) (hw _ (List.mem_of_getElem? (i := 20) rfl)) (own_nf hZ (hw _ (List.mem_of_getElem? (i := 22) rfl))) (hw _ (List.mem_of_getElem? (i := 22) rfl)) (hw _ (List.mem_of_getElem? (i := 21) rfl)) (by decide) (rm_det0 l Z a0 hw [] oa h0 n0 Z0 F_oa_parent) (hw _ (List.mem_of_getElem? (i := 23) rfl)) (hw _ (List.mem_of_getElem? (i := 14) rfl)) e0 0 (by decide) (by decide) (by decide) (by decide) E_oa [] [] rfl pd_0 rfl 4 rfl (by rw [hml]; rfl) rfl (hb hby d_prog_20_method_2_1) rfl fun T8 v8 L8 X8 hQ8 => ?_
  obtain ⟨rfl, Nq8, e8⟩ := hQ8
  have N8 := Fr.app N0 Nq8
  show own_Go p e below s _ _ _ (T8.setTop (mkF m 4 _ []))
  refine g_aload_n X8 hx 5 (hb hby d_prog_20_method_2_4) rfl rfl rfl ?_
  refine g_aload_n X8 hx 6 (hb hby d_prog_20_method_2_5) rfl rfl rfl ?_
  refine own_putF X8 hx hZ hown (host := "") (Or.inl (hw _ (List.mem_of_getElem? (i := 53) rfl))) Via.refl e8 F_oa_parent E_oa (Or.inl (hw _ (List.mem_of_getElem? (i := 25) rfl))) (hw _ (List.mem_of_getElem? (i := 1) rfl)) (ty := (.object "com/example/entitygate/entitygate/HtmlNode$Parent")) (by decide) rfl rfl 9 (hb hby d_prog_20_method_2_6) rfl fun T9 h9 X9 e9 W9 => ?_
  have f9 : Fld Z h9 oa "com/example/entitygate/entitygate/HtmlNode" "parent" "Lcom/example/entitygate/entitygate/HtmlNode$Parent;" (.ref op) := Fld.same W9 F_oa_parent
  have N9 := Fr.snoc X9 N8 g_oa
  have z10 : n0 ≤ h9.size := (Nat.le_trans Z0 (Keep.of_wr W9).1)
  have K11 : Keep h0 h9 [oa, op] := (Keep.refl h0 [oa, op]).wr W9 (Or.inl (List.mem_of_getElem? (i := 0) rfl))
  refine g_aload_n X9 hx 10 (hb hby d_prog_20_method_2_9) rfl rfl rfl ?_
  refine g_ifnonnullNo X9 hx 13 (hb hby d_prog_20_method_2_10) rfl ?_
  refine g_aload_n X9 hx 14 (hb hby d_prog_20_method_2_13) rfl rfl rfl ?_
  refine g_aload_n X9 hx 15 (hb hby d_prog_20_method_2_14) rfl rfl rfl ?_
  have f12 : Fld Z h9 op "com/example/entitygate/entitygate/HtmlNode$Parent" "last" "Lcom/example/entitygate/entitygate/HtmlNode;" .null := (Fld.other W9 F_op_last (Or.inl ne_op_oa))
  refine own_getF X9 hx hZ hown (host := "") (Or.inl (hw _ (List.mem_of_getElem? (i := 54) rfl))) Via.refl e9 f12 18 (hb hby d_prog_20_method_2_15) rfl fun T13 X13 e13 => ?_
  have f14 : Exa Z h9 oa "com/example/entitygate/entitygate/HtmlNode$Document" := (Exa.wr W9 E_oa)
  have f15 : Fld Z h9 oa "com/example/entitygate/entitygate/HtmlNode" "previous" "Lcom/example/entitygate/entitygate/HtmlNode;" .null := (Fld.other W9 F_oa_previous (Or.inr (slot_ne (Or.inl (hw _ (List.mem_of_getElem? (i := 40) rfl))) (Or.inl (hw _ (List.mem_of_getElem? (i := 25) rfl))) (by decide) (t := (.object "com/example/entitygate/entitygate/HtmlNode")) (t' := (.object "com/example/entitygate/entitygate/HtmlNode$Parent")) (by decide) (by decide))))
  refine own_putF X13 hx hZ hown (host := "") (Or.inl (hw _ (List.mem_of_getElem? (i := 55) rfl))) Via.refl e13 f15 f14 (Or.inl (hw _ (List.mem_of_getElem? (i := 40) rfl))) (hw _ (List.mem_of_getElem? (i := 1) rfl)) (ty := (.object "com/example/entitygate/entitygate/HtmlNode")) (by decide) rfl rfl 21 (hb hby d_prog_20_method_2_18) rfl fun T16 h16 X16 e16 W16 => ?_
  have f16 : Fld Z h16 oa "com/example/entitygate/entitygate/HtmlNode" "previous" "Lcom/example/entitygate/entitygate/HtmlNode;" .null := Fld.same W16 f15
  have N16 := Fr.snoc X16 N9 g_oa
  have z17 : n0 ≤ h16.size := (Nat.le_trans z10 (Keep.of_wr W16).1)
  have K18 : Keep h0 h16 [oa, op] := K11.wr W16 (Or.inl (List.mem_of_getElem? (i := 0) rfl))
  refine g_aload_n X16 hx 22 (hb hby d_prog_20_method_2_21) rfl rfl rfl ?_
  have f19 : Fld Z h16 op "com/example/entitygate/entitygate/HtmlNode$Parent" "last" "Lcom/example/entitygate/entitygate/HtmlNode;" .null := (Fld.other W16 f12 (Or.inl ne_op_oa))
  refine own_getF X16 hx hZ hown (host := "") (Or.inl (hw _ (List.mem_of_getElem? (i := 54) rfl))) Via.refl e16 f19 25 (hb hby d_prog_20_method_2_22) rfl fun T20 X20 e20 => ?_
  refine g_ifnonnullNo X20 hx 28 (hb hby d_prog_20_method_2_25) rfl ?_
  refine g_aload_n X20 hx 29 (hb hby d_prog_20_method_2_28) rfl rfl rfl ?_
  refine g_aload_n X20 hx 30 (hb hby d_prog_20_method_2_29) rfl rfl rfl ?_
  have f21 : Exa Z h16 op "com/example/entitygate/entitygate/HtmlNode$Document" := (Exa.wr W16 (Exa.wr W9 E_op))
  have f22 : Fld Z h16 op "com/example/entitygate/entitygate/HtmlNode$Parent" "first" "Lcom/example/entitygate/entitygate/HtmlNode;" .null := (Fld.other W16 (Fld.other W9 F_op_first (Or.inl ne_op_oa)) (Or.inl ne_op_oa))
  refine own_putF X20 hx hZ hown (host := "") (Or.inl (hw _ (List.mem_of_getElem? (i := 56) rfl))) Via.refl e20 f22 f21 (Or.inl (hw _ (List.mem_of_getElem? (i := 30) rfl))) (hw _ (List.mem_of_getElem? (i := 1) rfl)) (ty := (.object "com/example/entitygate/entitygate/HtmlNode")) (by decide) rfl rfl 33 (hb hby d_prog_20_method_2_30) rfl fun T23 h23 X23 e23 W23 => ?_
  have f23 : Fld Z h23 op "com/example/entitygate/entitygate/HtmlNode$Parent" "first" "Lcom/example/entitygate/entitygate/HtmlNode;" (.ref oa) := Fld.same W23 f22
  have N23 := Fr.snoc X23 N16 g_op
  have z24 : n0 ≤ h23.size := (Nat.le_trans z17 (Keep.of_wr W23).1)
  have K25 : Keep h0 h23 [oa, op] := K18.wr W23 (Or.inl (List.mem_of_getElem? (i := 1) rfl))
  refine g_goto X23 hx 44 (hb hby d_prog_20_method_2_33) (by decide) (by decide) ?_
  refine g_aload_n X23 hx 45 (hb hby d_prog_20_method_2_44) rfl rfl rfl ?_
  refine g_aload_n X23 hx 46 (hb hby d_prog_20_method_2_45) rfl rfl rfl ?_
  have f26 : Exa Z h23 op "com/example/entitygate/entitygate/HtmlNode$Document" := (Exa.wr W23 f21)
  have f27 : Fld Z h23 op "com/example/entitygate/entitygate/HtmlNode$Parent" "last" "Lcom/example/entitygate/entitygate/HtmlNode;" .null := (Fld.other W23 f19 (Or.inr (slot_ne (Or.inl (hw _ (List.mem_of_getElem? (i := 33) rfl))) (Or.inl (hw _ (List.mem_of_getElem? (i := 30) rfl))) (by decide) (t := (.object "com/example/entitygate/entitygate/HtmlNode")) (t' := (.object "com/example/entitygate/entitygate/HtmlNode")) (by decide) (by decide))))
  refine own_putF X23 hx hZ hown (host := "") (Or.inl (hw _ (List.mem_of_getElem? (i := 54) rfl))) Via.refl e23 f27 f26 (Or.inl (hw _ (List.mem_of_getElem? (i := 33) rfl))) (hw _ (List.mem_of_getElem? (i := 1) rfl)) (ty := (.object "com/example/entitygate/entitygate/HtmlNode")) (by decide) rfl rfl 49 (hb hby d_prog_20_method_2_46) rfl fun T28 h28 X28 e28 W28 => ?_
  have f28 : Fld Z h28 op "com/example/entitygate/entitygate/HtmlNode$Parent" "last" "Lcom/example/entitygate/entitygate/HtmlNode;" (.ref oa) := Fld.same W28 f27
  have N28 := Fr.snoc X28 N23 g_op
  have z29 : n0 ≤ h28.size := (Nat.le_trans z24 (Keep.of_wr W28).1)
  have K30 : Keep h0 h28 [oa, op] := K25.wr W28 (Or.inl (List.mem_of_getElem? (i := 1) rfl))
  refine g_goto X28 hx 93 (hb hby d_prog_20_method_2_49) (by decide) (by decide) ?_
  have f31 : Fld Z h28 oa "com/example/entitygate/entitygate/HtmlNode" "parent" "Lcom/example/entitygate/entitygate/HtmlNode$Parent;" (.ref op) := (Fld.other W28 (Fld.other W23 (Fld.other W16 f9 (Or.inr (slot_ne (Or.inl (hw _ (List.mem_of_getElem? (i := 25) rfl))) (Or.inl (hw _ (List.mem_of_getElem? (i := 40) rfl))) (by decide) (t := (.object "com/example/entitygate/entitygate/HtmlNode$Parent")) (t' := (.object "com/example/entitygate/entitygate/HtmlNode")) (by decide) (by decide)))) (Or.inl (Ne.symm ne_op_oa))) (Or.inl (Ne.symm ne_op_oa)))
  have f32 : Fld Z h28 oa "com/example/entitygate/entitygate/HtmlNode" "previous" "Lcom/example/entitygate/entitygate/HtmlNode;" .null := (Fld.other W28 (Fld.other W23 f16 (Or.inl (Ne.symm ne_op_oa))) (Or.inl (Ne.symm ne_op_oa)))
  have f33 : Fld Z h28 oa "com/example/entitygate/entitygate/HtmlNode" "next" "Lcom/example/entitygate/entitygate/HtmlNode;" .null := (Fld.other W28 (Fld.other W23 (Fld.other W16 (Fld.other W9 F_oa_next (Or.inr (slot_ne (Or.inl (hw _ (List.mem_of_getElem? (i := 42) rfl))) (Or.inl (hw _ (List.mem_of_getElem? (i := 25) rfl))) (by decide) (t := (.object "com/example/entitygate/entitygate/HtmlNode")) (t' := (.object "com/example/entitygate/entitygate/HtmlNode$Parent")) (by decide) (by decide)))) (Or.inr (slot_ne (Or.inl (hw _ (List.mem_of_getElem? (i := 42) rfl))) (Or.inl (hw _ (List.mem_of_getElem? (i := 40) rfl))) (by decide) (t := (.object "com/example/entitygate/entitygate/HtmlNode")) (t' := (.object "com/example/entitygate/entitygate/HtmlNode")) (by decide) (by decide)))) (Or.inl (Ne.symm ne_op_oa))) (Or.inl (Ne.symm ne_op_oa)))
  have f34 : Fld Z h28 oa "com/example/entitygate/entitygate/HtmlNode$Parent" "first" "Lcom/example/entitygate/entitygate/HtmlNode;" .null := (Fld.other W28 (Fld.other W23 (Fld.other W16 (Fld.other W9 F_oa_first (Or.inr (slot_ne (Or.inl (hw _ (List.mem_of_getElem? (i := 30) rfl))) (Or.inl (hw _ (List.mem_of_getElem? (i := 25) rfl))) (by decide) (t := (.object "com/example/entitygate/entitygate/HtmlNode")) (t' := (.object "com/example/entitygate/entitygate/HtmlNode$Parent")) (by decide) (by decide)))) (Or.inr (slot_ne (Or.inl (hw _ (List.mem_of_getElem? (i := 30) rfl))) (Or.inl (hw _ (List.mem_of_getElem? (i := 40) rfl))) (by decide) (t := (.object "com/example/entitygate/entitygate/HtmlNode")) (t' := (.object "com/example/entitygate/entitygate/HtmlNode")) (by decide) (by decide)))) (Or.inl (Ne.symm ne_op_oa))) (Or.inl (Ne.symm ne_op_oa)))
  have f35 : Fld Z h28 oa "com/example/entitygate/entitygate/HtmlNode$Parent" "last" "Lcom/example/entitygate/entitygate/HtmlNode;" .null := (Fld.other W28 (Fld.other W23 (Fld.other W16 (Fld.other W9 F_oa_last (Or.inr (slot_ne (Or.inl (hw _ (List.mem_of_getElem? (i := 33) rfl))) (Or.inl (hw _ (List.mem_of_getElem? (i := 25) rfl))) (by decide) (t := (.object "com/example/entitygate/entitygate/HtmlNode")) (t' := (.object "com/example/entitygate/entitygate/HtmlNode$Parent")) (by decide) (by decide)))) (Or.inr (slot_ne (Or.inl (hw _ (List.mem_of_getElem? (i := 33) rfl))) (Or.inl (hw _ (List.mem_of_getElem? (i := 40) rfl))) (by decide) (t := (.object "com/example/entitygate/entitygate/HtmlNode")) (t' := (.object "com/example/entitygate/entitygate/HtmlNode")) (by decide) (by decide)))) (Or.inl (Ne.symm ne_op_oa))) (Or.inl (Ne.symm ne_op_oa)))
  have f36 : Fld Z h28 op "com/example/entitygate/entitygate/HtmlNode" "parent" "Lcom/example/entitygate/entitygate/HtmlNode$Parent;" .null := (Fld.other W28 (Fld.other W23 (Fld.other W16 (Fld.other W9 F_op_parent (Or.inl ne_op_oa)) (Or.inl ne_op_oa)) (Or.inr (slot_ne (Or.inl (hw _ (List.mem_of_getElem? (i := 25) rfl))) (Or.inl (hw _ (List.mem_of_getElem? (i := 30) rfl))) (by decide) (t := (.object "com/example/entitygate/entitygate/HtmlNode$Parent")) (t' := (.object "com/example/entitygate/entitygate/HtmlNode")) (by decide) (by decide)))) (Or.inr (slot_ne (Or.inl (hw _ (List.mem_of_getElem? (i := 25) rfl))) (Or.inl (hw _ (List.mem_of_getElem? (i := 33) rfl))) (by decide) (t := (.object "com/example/entitygate/entitygate/HtmlNode$Parent")) (t' := (.object "com/example/entitygate/entitygate/HtmlNode")) (by decide) (by decide))))
  have f37 : Fld Z h28 op "com/example/entitygate/entitygate/HtmlNode" "previous" "Lcom/example/entitygate/entitygate/HtmlNode;" .null := (Fld.other W28 (Fld.other W23 (Fld.other W16 (Fld.other W9 F_op_previous (Or.inl ne_op_oa)) (Or.inl ne_op_oa)) (Or.inr (slot_ne (Or.inl (hw _ (List.mem_of_getElem? (i := 40) rfl))) (Or.inl (hw _ (List.mem_of_getElem? (i := 30) rfl))) (by decide) (t := (.object "com/example/entitygate/entitygate/HtmlNode")) (t' := (.object "com/example/entitygate/entitygate/HtmlNode")) (by decide) (by decide)))) (Or.inr (slot_ne (Or.inl (hw _ (List.mem_of_getElem? (i := 40) rfl))) (Or.inl (hw _ (List.mem_of_getElem? (i := 33) rfl))) (by decide) (t := (.object "com/example/entitygate/entitygate/HtmlNode")) (t' := (.object "com/example/entitygate/entitygate/HtmlNode")) (by decide) (by decide))))
  have f38 : Fld Z h28 op "com/example/entitygate/entitygate/HtmlNode" "next" "Lcom/example/entitygate/entitygate/HtmlNode;" .null := (Fld.other W28 (Fld.other W23 (Fld.other W16 (Fld.other W9 F_op_next (Or.inl ne_op_oa)) (Or.inl ne_op_oa)) (Or.inr (slot_ne (Or.inl (hw _ (List.mem_of_getElem? (i := 42) rfl))) (Or.inl (hw _ (List.mem_of_getElem? (i := 30) rfl))) (by decide) (t := (.object "com/example/entitygate/entitygate/HtmlNode")) (t' := (.object "com/example/entitygate/entitygate/HtmlNode")) (by decide) (by decide)))) (Or.inr (slot_ne (Or.inl (hw _ (List.mem_of_getElem? (i := 42) rfl))) (Or.inl (hw _ (List.mem_of_getElem? (i := 33) rfl))) (by decide) (t := (.object "com/example/entitygate/entitygate/HtmlNode")) (t' := (.object "com/example/entitygate/entitygate/HtmlNode")) (by decide) (by decide))))
  have f39 : Fld Z h28 op "com/example/entitygate/entitygate/HtmlNode$Parent" "first" "Lcom/example/entitygate/entitygate/HtmlNode;" (.ref oa) := (Fld.other W28 f23 (Or.inr (slot_ne (Or.inl (hw _ (List.mem_of_getElem? (i := 30) rfl))) (Or.inl (hw _ (List.mem_of_getElem? (i := 33) rfl))) (by decide) (t := (.object "com/example/entitygate/entitygate/HtmlNode")) (t' := (.object "com/example/entitygate/entitygate/HtmlNode")) (by decide) (by decide))))
  refine own_retV X28 hx hlk hret (hb hby d_prog_20_method_2_93) ?_ (by decide) (by decide)
  rw [e28]
  exact ⟨rfl, N28, K30, f31, f32, f33, f34, f35, f36, f37, f38, f39, f28⟩
theorem d_prog_20_method_2_36 : decode prog_20_method_2_code 36 = .ok (.aload_n 0, 1) := by decide +kernel
theorem d_prog_20_method_2_37 : decode prog_20_method_2_code 37 = .ok (.getfield 14, 3) := by decide +kernel
theorem d_prog_20_method_2_40 : decode prog_20_method_2_code 40 = .ok (.aload_n 1, 1) := by decide +kernel
theorem d_prog_20_method_2_41 : decode prog_20_method_2_code 41 = .ok (.putfield 26, 3) := by decide +kernel
def Q_ins1 (Z : State) (op : Addr) (oa : Addr) (ob : Addr) (oc : Addr) (h0 : Heap) (n0 : Nat) (v : Option Value) (h : Heap) (L : List Loc) : Prop := v = none ∧ Fr n0 L ∧ Keep h0 h [ob, oa, op] ∧ Fld Z h ob "com/example/entitygate/entitygate/HtmlNode" "parent" "Lcom/example/entitygate/entitygate/HtmlNode$Parent;" (.ref op) ∧ Fld Z h ob "com/example/entitygate/entitygate/HtmlNode" "previous" "Lcom/example/entitygate/entitygate/HtmlNode;" (.ref oa) ∧ Fld Z h ob "com/example/entitygate/entitygate/HtmlNode" "next" "Lcom/example/entitygate/entitygate/HtmlNode;" .null ∧ Fld Z h ob "com/example/entitygate/entitygate/HtmlNode$Parent" "first" "Lcom/example/entitygate/entitygate/HtmlNode;" .null ∧ Fld Z h ob "com/example/entitygate/entitygate/HtmlNode$Parent" "last" "Lcom/example/entitygate/entitygate/HtmlNode;" .null ∧ Fld Z h oa "com/example/entitygate/entitygate/HtmlNode" "parent" "Lcom/example/entitygate/entitygate/HtmlNode$Parent;" (.ref op) ∧ Fld Z h oa "com/example/entitygate/entitygate/HtmlNode" "previous" "Lcom/example/entitygate/entitygate/HtmlNode;" .null ∧ Fld Z h oa "com/example/entitygate/entitygate/HtmlNode" "next" "Lcom/example/entitygate/entitygate/HtmlNode;" (.ref ob) ∧ Fld Z h oa "com/example/entitygate/entitygate/HtmlNode$Parent" "first" "Lcom/example/entitygate/entitygate/HtmlNode;" .null ∧ Fld Z h oa "com/example/entitygate/entitygate/HtmlNode$Parent" "last" "Lcom/example/entitygate/entitygate/HtmlNode;" .null ∧ Fld Z h op "com/example/entitygate/entitygate/HtmlNode" "parent" "Lcom/example/entitygate/entitygate/HtmlNode$Parent;" .null ∧ Fld Z h op "com/example/entitygate/entitygate/HtmlNode" "previous" "Lcom/example/entitygate/entitygate/HtmlNode;" .null ∧ Fld Z h op "com/example/entitygate/entitygate/HtmlNode" "next" "Lcom/example/entitygate/entitygate/HtmlNode;" .null ∧ Fld Z h op "com/example/entitygate/entitygate/HtmlNode$Parent" "first" "Lcom/example/entitygate/entitygate/HtmlNode;" (.ref oa) ∧ Fld Z h op "com/example/entitygate/entitygate/HtmlNode$Parent" "last" "Lcom/example/entitygate/entitygate/HtmlNode;" (.ref ob)
set_option maxRecDepth 65536 in
set_option maxHeartbeats 40000000 in
theorem rm_ins1 (l : Launch) (Z : State) (a0 : Array Value) (hw : ∀ d ∈ tables_1, d.before a0 Z = true) (ws : List Jvm.Cond) (op : Addr) (oa : Addr) (ob : Addr) (oc : Addr) (h0 : Heap) (n0 : Nat) (Z0 : n0 ≤ h0.size) (E_op : Exa Z h0 op "com/example/entitygate/entitygate/HtmlNode$Document") (E_oa : Exa Z h0 oa "com/example/entitygate/entitygate/HtmlNode$Document") (E_ob : Exa Z h0 ob "com/example/entitygate/entitygate/HtmlNode$Document") (E_oc : Exa Z h0 oc "com/example/entitygate/entitygate/HtmlNode$Document") (F_op_parent : Fld Z h0 op "com/example/entitygate/entitygate/HtmlNode" "parent" "Lcom/example/entitygate/entitygate/HtmlNode$Parent;" .null) (F_op_previous : Fld Z h0 op "com/example/entitygate/entitygate/HtmlNode" "previous" "Lcom/example/entitygate/entitygate/HtmlNode;" .null) (F_op_next : Fld Z h0 op "com/example/entitygate/entitygate/HtmlNode" "next" "Lcom/example/entitygate/entitygate/HtmlNode;" .null) (F_op_first : Fld Z h0 op "com/example/entitygate/entitygate/HtmlNode$Parent" "first" "Lcom/example/entitygate/entitygate/HtmlNode;" (.ref oa)) (F_op_last : Fld Z h0 op "com/example/entitygate/entitygate/HtmlNode$Parent" "last" "Lcom/example/entitygate/entitygate/HtmlNode;" (.ref oa)) (F_oa_parent : Fld Z h0 oa "com/example/entitygate/entitygate/HtmlNode" "parent" "Lcom/example/entitygate/entitygate/HtmlNode$Parent;" (.ref op)) (F_oa_previous : Fld Z h0 oa "com/example/entitygate/entitygate/HtmlNode" "previous" "Lcom/example/entitygate/entitygate/HtmlNode;" .null) (F_oa_next : Fld Z h0 oa "com/example/entitygate/entitygate/HtmlNode" "next" "Lcom/example/entitygate/entitygate/HtmlNode;" .null) (F_oa_first : Fld Z h0 oa "com/example/entitygate/entitygate/HtmlNode$Parent" "first" "Lcom/example/entitygate/entitygate/HtmlNode;" .null) (F_oa_last : Fld Z h0 oa "com/example/entitygate/entitygate/HtmlNode$Parent" "last" "Lcom/example/entitygate/entitygate/HtmlNode;" .null) (F_ob_parent : Fld Z h0 ob "com/example/entitygate/entitygate/HtmlNode" "parent" "Lcom/example/entitygate/entitygate/HtmlNode$Parent;" .null) (F_ob_previous : Fld Z h0 ob "com/example/entitygate/entitygate/HtmlNode" "previous" "Lcom/example/entitygate/entitygate/HtmlNode;" .null) (F_ob_next : Fld Z h0 ob "com/example/entitygate/entitygate/HtmlNode" "next" "Lcom/example/entitygate/entitygate/HtmlNode;" .null) (F_ob_first : Fld Z h0 ob "com/example/entitygate/entitygate/HtmlNode$Parent" "first" "Lcom/example/entitygate/entitygate/HtmlNode;" .null) (F_ob_last : Fld Z h0 ob "com/example/entitygate/entitygate/HtmlNode$Parent" "last" "Lcom/example/entitygate/entitygate/HtmlNode;" .null) (F_oc_parent : Fld Z h0 oc "com/example/entitygate/entitygate/HtmlNode" "parent" "Lcom/example/entitygate/entitygate/HtmlNode$Parent;" .null) (F_oc_previous : Fld Z h0 oc "com/example/entitygate/entitygate/HtmlNode" "previous" "Lcom/example/entitygate/entitygate/HtmlNode;" .null) (F_oc_next : Fld Z h0 oc "com/example/entitygate/entitygate/HtmlNode" "next" "Lcom/example/entitygate/entitygate/HtmlNode;" .null) (F_oc_first : Fld Z h0 oc "com/example/entitygate/entitygate/HtmlNode$Parent" "first" "Lcom/example/entitygate/entitygate/HtmlNode;" .null) (F_oc_last : Fld Z h0 oc "com/example/entitygate/entitygate/HtmlNode$Parent" "last" "Lcom/example/entitygate/entitygate/HtmlNode;" .null) (ne_op_oa : op ≠ oa) (ne_op_ob : op ≠ ob) (ne_op_oc : op ≠ oc) (ne_oa_ob : oa ≠ ob) (ne_oa_oc : oa ≠ oc) (ne_ob_oc : ob ≠ oc) (g_op : n0 ≤ op) (g_oa : n0 ≤ oa) (g_ob : n0 ≤ ob) (g_oc : n0 ≤ oc) :
    MetFree l (⟨"com/example/entitygate/entitygate/HtmlNode$Parent", "insert", "(Lcom/example/entitygate/entitygate/HtmlNode;Lcom/example/entitygate/entitygate/HtmlNode;)V"⟩ : MethodName) (head1 (Jvm.Cond.code (⟨"com/example/entitygate/entitygate/HtmlNode$Parent", "insert", "(Lcom/example/entitygate/entitygate/HtmlNode;Lcom/example/entitygate/entitygate/HtmlNode;)V"⟩ : MethodName) prog_20_method_2_code 3 none :: ws) ({ frames := 1, cells := 0, slots := 0, locals := 12 } : Room)) (fun aA U => aA = #[(.ref op), (.ref ob), .null] ∧ Z.Warmed39 U.vm ∧ U.heap = h0) (fun _ _ _ _ _ => True) (fun _ U oO U' => ∃ vV LL, oO = .returned vV ∧ Q_ins1 Z op oa ob oc h0 n0 vV U'.heap LL ∧ FrameEnd U oO U' LL ({ frames := 1, cells := 0, slots := 0, locals := 12 } : Room).cells ({ frames := 1, cells := 0, slots := 0, locals := 12 } : Room).slots) := by
  refine MetFree.of_bodySF (plainFor_of_name pn_1) hisR ?_
  intro p e s m args below meth c s₁ Bd hml0 hP hK
  obtain ⟨rfl, hZ, hh⟩ := hP
  have hx := Bd.exec
  have hby := Bd.bytes
  have hml : c.maxLocals = 3 := hml0
  have hown : s.vm.findClass "com/example/entitygate/entitygate/HtmlNode$Parent" = some m.cls := findClass_of_methodNamed Bd.named
  have hnm := (name_of_methodNamed Bd.named Bd.method).1
  have X0 : Stand p l e ({ frames := 1, cells := 0, slots := 0, locals := 12 } : Room) s m #[(.ref op), (.ref ob), .null] below meth c s₁ [] 0 0 := Stand.of_body Bd
  have e0 : s₁.heap = h0 := by rw [← hh, Bd.state]; rfl
  have N0 := Fr.nil n0
  have hret := Bd.returns
  have hlk : meth.locks = false := Bd.notSynchronized
  refine own_start (ef_1 m op ob) ?_
  show own_Go p e below s (Q_ins1 Z op oa ob oc h0 n0) ({ frames := 1, cells := 0, slots := 0, locals := 12 } : Room).cells ({ frames := 1, cells := 0, slots := 0, locals := 12 } : Room).slots (s₁.setTop (mkF m 0 #[.val (.ref op), .val (.ref ob), .val .null] []))
  refine g_aload_n X0 hx 1 (hb hby d_prog_20_method_2_0) rfl rfl rfl ?_
  refine own_callV X0 hx hZ hown (hw _ (List.mem_of_getElem? (i := 52) rfl)) (hw _ (List.mem_of_getElem? (i := 20) rfl)) (own_nf hZ (hw _ (List.mem_of_getElem? (i := 22) rfl))) (hw _ (List.mem_of_getElem? (i := 22) rfl)) (hw _ (List.mem_of_getElem? (i := 21) rfl)) (by decide) (rm_det0 l Z a0 hw [] ob h0 n0 Z0 F_ob_parent) (hw _ (List.mem_of_getElem? (i := 23) rfl)) (hw _ (List.mem_of_getElem? (i := 14) rfl)) e0 0 (by decide) (by decide) (by decide) (by decide) E_ob [] [] rfl pd_0 rfl 4 rfl (by rw [hml]; rfl) rfl (hb hby d_prog_20_method_2_1) rfl fun T40 v40 L40 X40 hQ40 => ?_
  obtain ⟨rfl, Nq40, e40⟩ := hQ40
  have N40 := Fr.app N0 Nq40
  show own_Go p e below s _ _ _ (T40.setTop (mkF m 4 _ []))
  refine g_aload_n X40 hx 5 (hb hby d_prog_20_method_2_4) rfl rfl rfl ?_
  refine g_aload_n X40 hx 6 (hb hby d_prog_20_method_2_5) rfl rfl rfl ?_
  refine own_putF X40 hx hZ hown (host := "") (Or.inl (hw _ (List.mem_of_getElem? (i := 53) rfl))) Via.refl e40 F_ob_parent E_ob (Or.inl (hw _ (List.mem_of_getElem? (i := 25) rfl))) (hw _ (List.mem_of_getElem? (i := 1) rfl)) (ty := (.object "com/example/entitygate/entitygate/HtmlNode$Parent")) (by decide) rfl rfl 9 (hb hby d_prog_20_method_2_6) rfl fun T41 h41 X41 e41 W41 => ?_
  have f41 : Fld Z h41 ob "com/example/entitygate/entitygate/HtmlNode" "parent" "Lcom/example/entitygate/entitygate/HtmlNode$Parent;" (.ref op) := Fld.same W41 F_ob_parent
  have N41 := Fr.snoc X41 N40 g_ob
  have z42 : n0 ≤ h41.size := (Nat.le_trans Z0 (Keep.of_wr W41).1)
  have K43 : Keep h0 h41 [ob, oa, op] := (Keep.refl h0 [ob, oa, op]).wr W41 (Or.inl (List.mem_of_getElem? (i := 0) rfl))
  refine g_aload_n X41 hx 10 (hb hby d_prog_20_method_2_9) rfl rfl rfl ?_
  refine g_ifnonnullNo X41 hx 13 (hb hby d_prog_20_method_2_10) rfl ?_
  refine g_aload_n X41 hx 14 (hb hby d_prog_20_method_2_13) rfl rfl rfl ?_
  refine g_aload_n X41 hx 15 (hb hby d_prog_20_method_2_14) rfl rfl rfl ?_
  have f44 : Fld Z h41 op "com/example/entitygate/entitygate/HtmlNode$Parent" "last" "Lcom/example/entitygate/entitygate/HtmlNode;" (.ref oa) := (Fld.other W41 F_op_last (Or.inl ne_op_ob))
  refine own_getF X41 hx hZ hown (host := "") (Or.inl (hw _ (List.mem_of_getElem? (i := 54) rfl))) Via.refl e41 f44 18 (hb hby d_prog_20_method_2_15) rfl fun T45 X45 e45 => ?_
  have f46 : Exa Z h41 ob "com/example/entitygate/entitygate/HtmlNode$Document" := (Exa.wr W41 E_ob)
  have f47 : Fld Z h41 ob "com/example/entitygate/entitygate/HtmlNode" "previous" "Lcom/example/entitygate/entitygate/HtmlNode;" .null := (Fld.other W41 F_ob_previous (Or.inr (slot_ne (Or.inl (hw _ (List.mem_of_getElem? (i := 40) rfl))) (Or.inl (hw _ (List.mem_of_getElem? (i := 25) rfl))) (by decide) (t := (.object "com/example/entitygate/entitygate/HtmlNode")) (t' := (.object "com/example/entitygate/entitygate/HtmlNode$Parent")) (by decide) (by decide))))
  refine own_putF X45 hx hZ hown (host := "") (Or.inl (hw _ (List.mem_of_getElem? (i := 55) rfl))) Via.refl e45 f47 f46 (Or.inl (hw _ (List.mem_of_getElem? (i := 40) rfl))) (hw _ (List.mem_of_getElem? (i := 1) rfl)) (ty := (.object "com/example/entitygate/entitygate/HtmlNode")) (by decide) rfl rfl 21 (hb hby d_prog_20_method_2_18) rfl fun T48 h48 X48 e48 W48 => ?_
  have f48 : Fld Z h48 ob "com/example/entitygate/entitygate/HtmlNode" "previous" "Lcom/example/entitygate/entitygate/HtmlNode;" (.ref oa) := Fld.same W48 f47
  have N48 := Fr.snoc X48 N41 g_ob
  have z49 : n0 ≤ h48.size := (Nat.le_trans z42 (Keep.of_wr W48).1)
  have K50 : Keep h0 h48 [ob, oa, op] := K43.wr W48 (Or.inl (List.mem_of_getElem? (i := 0) rfl))
  refine g_aload_n X48 hx 22 (hb hby d_prog_20_method_2_21) rfl rfl rfl ?_
  have f51 : Fld Z h48 op "com/example/entitygate/entitygate/HtmlNode$Parent" "last" "Lcom/example/entitygate/entitygate/HtmlNode;" (.ref oa) := (Fld.other W48 f44 (Or.inl ne_op_ob))
  refine own_getF X48 hx hZ hown (host := "") (Or.inl (hw _ (List.mem_of_getElem? (i := 54) rfl))) Via.refl e48 f51 25 (hb hby d_prog_20_method_2_22) rfl fun T52 X52 e52 => ?_
  refine g_ifnonnullYes X52 hx 36 (hb hby d_prog_20_method_2_25) (by decide) (by decide) ?_
  refine g_aload_n X52 hx 37 (hb hby d_prog_20_method_2_36) rfl rfl rfl ?_
  refine own_getF X52 hx hZ hown (host := "") (Or.inl (hw _ (List.mem_of_getElem? (i := 54) rfl))) Via.refl e52 f51 40 (hb hby d_prog_20_method_2_37) rfl fun T53 X53 e53 => ?_
  refine g_aload_n X53 hx 41 (hb hby d_prog_20_method_2_40) rfl rfl rfl ?_
  have f54 : Exa Z h48 oa "com/example/entitygate/entitygate/HtmlNode$Document" := (Exa.wr W48 (Exa.wr W41 E_oa))
  have f55 : Fld Z h48 oa "com/example/entitygate/entitygate/HtmlNode" "next" "Lcom/example/entitygate/entitygate/HtmlNode;" .null := (Fld.other W48 (Fld.other W41 F_oa_next (Or.inl ne_oa_ob)) (Or.inl ne_oa_ob))
  refine own_putF X53 hx hZ hown (host := "") (Or.inl (hw _ (List.mem_of_getElem? (i := 57) rfl))) Via.refl e53 f55 f54 (Or.inl (hw _ (List.mem_of_getElem? (i := 42) rfl))) (hw _ (List.mem_of_getElem? (i := 1) rfl)) (ty := (.object "com/example/entitygate/entitygate/HtmlNode")) (by decide) rfl rfl 44 (hb hby d_prog_20_method_2_41) rfl fun T56 h56 X56 e56 W56 => ?_
  have f56 : Fld Z h56 oa "com/example/entitygate/entitygate/HtmlNode" "next" "Lcom/example/entitygate/entitygate/HtmlNode;" (.ref ob) := Fld.same W56 f55
  have N56 := Fr.snoc X56 N48 g_oa
  have z57 : n0 ≤ h56.size := (Nat.le_trans z49 (Keep.of_wr W56).1)
  have K58 : Keep h0 h56 [ob, oa, op] := K50.wr W56 (Or.inl (List.mem_of_getElem? (i := 1) rfl))
  refine g_aload_n X56 hx 45 (hb hby d_prog_20_method_2_44) rfl rfl rfl ?_
  refine g_aload_n X56 hx 46 (hb hby d_prog_20_method_2_45) rfl rfl rfl ?_
  have f59 : Exa Z h56 op "com/example/entitygate/entitygate/HtmlNode$Document" := (Exa.wr W56 (Exa.wr W48 (Exa.wr W41 E_op)))
  have f60 : Fld Z h56 op "com/example/entitygate/entitygate/HtmlNode$Parent" "last" "Lcom/example/entitygate/entitygate/HtmlNode;" (.ref oa) := (Fld.other W56 f51 (Or.inl ne_op_oa))
  refine own_putF X56 hx hZ hown (host := "") (Or.inl (hw _ (List.mem_of_getElem? (i := 54) rfl))) Via.refl e56 f60 f59 (Or.inl (hw _ (List.mem_of_getElem? (i := 33) rfl))) (hw _ (List.mem_of_getElem? (i := 1) rfl)) (ty := (.object "com/example/entitygate/entitygate/HtmlNode")) (by decide) rfl rfl 49 (hb hby d_prog_20_method_2_46) rfl fun T61 h61 X61 e61 W61 => ?_
  have f61 : Fld Z h61 op "com/example/entitygate/entitygate/HtmlNode$Parent" "last" "Lcom/example/entitygate/entitygate/HtmlNode;" (.ref ob) := Fld.same W61 f60
  have N61 := Fr.snoc X61 N56 g_op
  have z62 : n0 ≤ h61.size := (Nat.le_trans z57 (Keep.of_wr W61).1)
  have K63 : Keep h0 h61 [ob, oa, op] := K58.wr W61 (Or.inl (List.mem_of_getElem? (i := 2) rfl))
  refine g_goto X61 hx 93 (hb hby d_prog_20_method_2_49) (by decide) (by decide) ?_
  have f64 : Fld Z h61 ob "com/example/entitygate/entitygate/HtmlNode" "parent" "Lcom/example/entitygate/entitygate/HtmlNode$Parent;" (.ref op) := (Fld.other W61 (Fld.other W56 (Fld.other W48 f41 (Or.inr (slot_ne (Or.inl (hw _ (List.mem_of_getElem? (i := 25) rfl))) (Or.inl (hw _ (List.mem_of_getElem? (i := 40) rfl))) (by decide) (t := (.object "com/example/entitygate/entitygate/HtmlNode$Parent")) (t' := (.object "com/example/entitygate/entitygate/HtmlNode")) (by decide) (by decide)))) (Or.inl (Ne.symm ne_oa_ob))) (Or.inl (Ne.symm ne_op_ob)))
  have f65 : Fld Z h61 ob "com/example/entitygate/entitygate/HtmlNode" "previous" "Lcom/example/entitygate/entitygate/HtmlNode;" (.ref oa) := (Fld.other W61 (Fld.other W56 f48 (Or.inl (Ne.symm ne_oa_ob))) (Or.inl (Ne.symm ne_op_ob)))
  have f66 : Fld Z h61 ob "com/example/entitygate/entitygate/HtmlNode" "next" "Lcom/example/entitygate/entitygate/HtmlNode;" .null := (Fld.other W61 (Fld.other W56 (Fld.other W48 (Fld.other W41 F_ob_next (Or.inr (slot_ne (Or.inl (hw _ (List.mem_of_getElem? (i := 42) rfl))) (Or.inl (hw _ (List.mem_of_getElem? (i := 25) rfl))) (by decide) (t := (.object "com/example/entitygate/entitygate/HtmlNode")) (t' := (.object "com/example/entitygate/entitygate/HtmlNode$Parent")) (by decide) (by decide)))) (Or.inr (slot_ne (Or.inl (hw _ (List.mem_of_getElem? (i := 42) rfl))) (Or.inl (hw _ (List.mem_of_getElem? (i := 40) rfl))) (by decide) (t := (.object "com/example/entitygate/entitygate/HtmlNode")) (t' := (.object "com/example/entitygate/entitygate/HtmlNode")) (by decide) (by decide)))) (Or.inl (Ne.symm ne_oa_ob))) (Or.inl (Ne.symm ne_op_ob)))
  have f67 : Fld Z h61 ob "com/example/entitygate/entitygate/HtmlNode$Parent" "first" "Lcom/example/entitygate/entitygate/HtmlNode;" .null := (Fld.other W61 (Fld.other W56 (Fld.other W48 (Fld.other W41 F_ob_first (Or.inr (slot_ne (Or.inl (hw _ (List.mem_of_getElem? (i := 30) rfl))) (Or.inl (hw _ (List.mem_of_getElem? (i := 25) rfl))) (by decide) (t := (.object "com/example/entitygate/entitygate/HtmlNode")) (t' := (.object "com/example/entitygate/entitygate/HtmlNode$Parent")) (by decide) (by decide)))) (Or.inr (slot_ne (Or.inl (hw _ (List.mem_of_getElem? (i := 30) rfl))) (Or.inl (hw _ (List.mem_of_getElem? (i := 40) rfl))) (by decide) (t := (.object "com/example/entitygate/entitygate/HtmlNode")) (t' := (.object "com/example/entitygate/entitygate/HtmlNode")) (by decide) (by decide)))) (Or.inl (Ne.symm ne_oa_ob))) (Or.inl (Ne.symm ne_op_ob)))
  have f68 : Fld Z h61 ob "com/example/entitygate/entitygate/HtmlNode$Parent" "last" "Lcom/example/entitygate/entitygate/HtmlNode;" .null := (Fld.other W61 (Fld.other W56 (Fld.other W48 (Fld.other W41 F_ob_last (Or.inr (slot_ne (Or.inl (hw _ (List.mem_of_getElem? (i := 33) rfl))) (Or.inl (hw _ (List.mem_of_getElem? (i := 25) rfl))) (by decide) (t := (.object "com/example/entitygate/entitygate/HtmlNode")) (t' := (.object "com/example/entitygate/entitygate/HtmlNode$Parent")) (by decide) (by decide)))) (Or.inr (slot_ne (Or.inl (hw _ (List.mem_of_getElem? (i := 33) rfl))) (Or.inl (hw _ (List.mem_of_getElem? (i := 40) rfl))) (by decide) (t := (.object "com/example/entitygate/entitygate/HtmlNode")) (t' := (.object "com/example/entitygate/entitygate/HtmlNode")) (by decide) (by decide)))) (Or.inl (Ne.symm ne_oa_ob))) (Or.inl (Ne.symm ne_op_ob)))
  have f69 : Fld Z h61 oa "com/example/entitygate/entitygate/HtmlNode" "parent" "Lcom/example/entitygate/entitygate/HtmlNode$Parent;" (.ref op) := (Fld.other W61 (Fld.other W56 (Fld.other W48 (Fld.other W41 F_oa_parent (Or.inl ne_oa_ob)) (Or.inl ne_oa_ob)) (Or.inr (slot_ne (Or.inl (hw _ (List.mem_of_getElem? (i := 25) rfl))) (Or.inl (hw _ (List.mem_of_getElem? (i := 42) rfl))) (by decide) (t := (.object "com/example/entitygate/entitygate/HtmlNode$Parent")) (t' := (.object "com/example/entitygate/entitygate/HtmlNode")) (by decide) (by decide)))) (Or.inl (Ne.symm ne_op_oa)))
  have f70 : Fld Z h61 oa "com/example/entitygate/entitygate/HtmlNode" "previous" "Lcom/example/entitygate/entitygate/HtmlNode;" .null := (Fld.other W61 (Fld.other W56 (Fld.other W48 (Fld.other W41 F_oa_previous (Or.inl ne_oa_ob)) (Or.inl ne_oa_ob)) (Or.inr (slot_ne (Or.inl (hw _ (List.mem_of_getElem? (i := 40) rfl))) (Or.inl (hw _ (List.mem_of_getElem? (i := 42) rfl))) (by decide) (t := (.object "com/example/entitygate/entitygate/HtmlNode")) (t' := (.object "com/example/entitygate/entitygate/HtmlNode")) (by decide) (by decide)))) (Or.inl (Ne.symm ne_op_oa)))
  have f71 : Fld Z h61 oa "com/example/entitygate/entitygate/HtmlNode" "next" "Lcom/example/entitygate/entitygate/HtmlNode;" (.ref ob) := (Fld.other W61 f56 (Or.inl (Ne.symm ne_op_oa)))
  have f72 : Fld Z h61 oa "com/example/entitygate/entitygate/HtmlNode$Parent" "first" "Lcom/example/entitygate/entitygate/HtmlNode;" .null := (Fld.other W61 (Fld.other W56 (Fld.other W48 (Fld.other W41 F_oa_first (Or.inl ne_oa_ob)) (Or.inl ne_oa_ob)) (Or.inr (slot_ne (Or.inl (hw _ (List.mem_of_getElem? (i := 30) rfl))) (Or.inl (hw _ (List.mem_of_getElem? (i := 42) rfl))) (by decide) (t := (.object "com/example/entitygate/entitygate/HtmlNode")) (t' := (.object "com/example/entitygate/entitygate/HtmlNode")) (by decide) (by decide)))) (Or.inl (Ne.symm ne_op_oa)))
  have f73 : Fld Z h61 oa "com/example/entitygate/entitygate/HtmlNode$Parent" "last" "Lcom/example/entitygate/entitygate/HtmlNode;" .null := (Fld.other W61 (Fld.other W56 (Fld.other W48 (Fld.other W41 F_oa_last (Or.inl ne_oa_ob)) (Or.inl ne_oa_ob)) (Or.inr (slot_ne (Or.inl (hw _ (List.mem_of_getElem? (i := 33) rfl))) (Or.inl (hw _ (List.mem_of_getElem? (i := 42) rfl))) (by decide) (t := (.object "com/example/entitygate/entitygate/HtmlNode")) (t' := (.object "com/example/entitygate/entitygate/HtmlNode")) (by decide) (by decide)))) (Or.inl (Ne.symm ne_op_oa)))
  have f74 : Fld Z h61 op "com/example/entitygate/entitygate/HtmlNode" "parent" "Lcom/example/entitygate/entitygate/HtmlNode$Parent;" .null := (Fld.other W61 (Fld.other W56 (Fld.other W48 (Fld.other W41 F_op_parent (Or.inl ne_op_ob)) (Or.inl ne_op_ob)) (Or.inl ne_op_oa)) (Or.inr (slot_ne (Or.inl (hw _ (List.mem_of_getElem? (i := 25) rfl))) (Or.inl (hw _ (List.mem_of_getElem? (i := 33) rfl))) (by decide) (t := (.object "com/example/entitygate/entitygate/HtmlNode$Parent")) (t' := (.object "com/example/entitygate/entitygate/HtmlNode")) (by decide) (by decide))))
  have f75 : Fld Z h61 op "com/example/entitygate/entitygate/HtmlNode" "previous" "Lcom/example/entitygate/entitygate/HtmlNode;" .null := (Fld.other W61 (Fld.other W56 (Fld.other W48 (Fld.other W41 F_op_previous (Or.inl ne_op_ob)) (Or.inl ne_op_ob)) (Or.inl ne_op_oa)) (Or.inr (slot_ne (Or.inl (hw _ (List.mem_of_getElem? (i := 40) rfl))) (Or.inl (hw _ (List.mem_of_getElem? (i := 33) rfl))) (by decide) (t := (.object "com/example/entitygate/entitygate/HtmlNode")) (t' := (.object "com/example/entitygate/entitygate/HtmlNode")) (by decide) (by decide))))
  have f76 : Fld Z h61 op "com/example/entitygate/entitygate/HtmlNode" "next" "Lcom/example/entitygate/entitygate/HtmlNode;" .null := (Fld.other W61 (Fld.other W56 (Fld.other W48 (Fld.other W41 F_op_next (Or.inl ne_op_ob)) (Or.inl ne_op_ob)) (Or.inl ne_op_oa)) (Or.inr (slot_ne (Or.inl (hw _ (List.mem_of_getElem? (i := 42) rfl))) (Or.inl (hw _ (List.mem_of_getElem? (i := 33) rfl))) (by decide) (t := (.object "com/example/entitygate/entitygate/HtmlNode")) (t' := (.object "com/example/entitygate/entitygate/HtmlNode")) (by decide) (by decide))))
  have f77 : Fld Z h61 op "com/example/entitygate/entitygate/HtmlNode$Parent" "first" "Lcom/example/entitygate/entitygate/HtmlNode;" (.ref oa) := (Fld.other W61 (Fld.other W56 (Fld.other W48 (Fld.other W41 F_op_first (Or.inl ne_op_ob)) (Or.inl ne_op_ob)) (Or.inl ne_op_oa)) (Or.inr (slot_ne (Or.inl (hw _ (List.mem_of_getElem? (i := 30) rfl))) (Or.inl (hw _ (List.mem_of_getElem? (i := 33) rfl))) (by decide) (t := (.object "com/example/entitygate/entitygate/HtmlNode")) (t' := (.object "com/example/entitygate/entitygate/HtmlNode")) (by decide) (by decide))))
  refine own_retV X61 hx hlk hret (hb hby d_prog_20_method_2_93) ?_ (by decide) (by decide)
  rw [e61]
  exact ⟨rfl, N61, K63, f64, f65, f66, f67, f68, f69, f70, f71, f72, f73, f74, f75, f76, f77, f61⟩
def Q_ins2 (Z : State) (op : Addr) (oa : Addr) (ob : Addr) (oc : Addr) (h0 : Heap) (n0 : Nat) (v : Option Value) (h : Heap) (L : List Loc) : Prop := v = none ∧ Fr n0 L ∧ Keep h0 h [oc, ob, op] ∧ Fld Z h oc "com/example/entitygate/entitygate/HtmlNode" "parent" "Lcom/example/entitygate/entitygate/HtmlNode$Parent;" (.ref op) ∧ Fld Z h oc "com/example/entitygate/entitygate/HtmlNode" "previous" "Lcom/example/entitygate/entitygate/HtmlNode;" (.ref ob) ∧ Fld Z h oc "com/example/entitygate/entitygate/HtmlNode" "next" "Lcom/example/entitygate/entitygate/HtmlNode;" .null ∧ Fld Z h oc "com/example/entitygate/entitygate/HtmlNode$Parent" "first" "Lcom/example/entitygate/entitygate/HtmlNode;" .null ∧ Fld Z h oc "com/example/entitygate/entitygate/HtmlNode$Parent" "last" "Lcom/example/entitygate/entitygate/HtmlNode;" .null ∧ Fld Z h ob "com/example/entitygate/entitygate/HtmlNode" "parent" "Lcom/example/entitygate/entitygate/HtmlNode$Parent;" (.ref op) ∧ Fld Z h ob "com/example/entitygate/entitygate/HtmlNode" "previous" "Lcom/example/entitygate/entitygate/HtmlNode;" (.ref oa) ∧ Fld Z h ob "com/example/entitygate/entitygate/HtmlNode" "next" "Lcom/example/entitygate/entitygate/HtmlNode;" (.ref oc) ∧ Fld Z h ob "com/example/entitygate/entitygate/HtmlNode$Parent" "first" "Lcom/example/entitygate/entitygate/HtmlNode;" .null ∧ Fld Z h ob "com/example/entitygate/entitygate/HtmlNode$Parent" "last" "Lcom/example/entitygate/entitygate/HtmlNode;" .null ∧ Fld Z h op "com/example/entitygate/entitygate/HtmlNode" "parent" "Lcom/example/entitygate/entitygate/HtmlNode$Parent;" .null ∧ Fld Z h op "com/example/entitygate/entitygate/HtmlNode" "previous" "Lcom/example/entitygate/entitygate/HtmlNode;" .null ∧ Fld Z h op "com/example/entitygate/entitygate/HtmlNode" "next" "Lcom/example/entitygate/entitygate/HtmlNode;" .null ∧ Fld Z h op "com/example/entitygate/entitygate/HtmlNode$Parent" "first" "Lcom/example/entitygate/entitygate/HtmlNode;" (.ref oa) ∧ Fld Z h op "com/example/entitygate/entitygate/HtmlNode$Parent" "last" "Lcom/example/entitygate/entitygate/HtmlNode;" (.ref oc)
set_option maxRecDepth 65536 in
set_option maxHeartbeats 40000000 in
theorem rm_ins2 (l : Launch) (Z : State) (a0 : Array Value) (hw : ∀ d ∈ tables_1, d.before a0 Z = true) (ws : List Jvm.Cond) (op : Addr) (oa : Addr) (ob : Addr) (oc : Addr) (h0 : Heap) (n0 : Nat) (Z0 : n0 ≤ h0.size) (E_op : Exa Z h0 op "com/example/entitygate/entitygate/HtmlNode$Document") (E_oa : Exa Z h0 oa "com/example/entitygate/entitygate/HtmlNode$Document") (E_ob : Exa Z h0 ob "com/example/entitygate/entitygate/HtmlNode$Document") (E_oc : Exa Z h0 oc "com/example/entitygate/entitygate/HtmlNode$Document") (F_op_parent : Fld Z h0 op "com/example/entitygate/entitygate/HtmlNode" "parent" "Lcom/example/entitygate/entitygate/HtmlNode$Parent;" .null) (F_op_previous : Fld Z h0 op "com/example/entitygate/entitygate/HtmlNode" "previous" "Lcom/example/entitygate/entitygate/HtmlNode;" .null) (F_op_next : Fld Z h0 op "com/example/entitygate/entitygate/HtmlNode" "next" "Lcom/example/entitygate/entitygate/HtmlNode;" .null) (F_op_first : Fld Z h0 op "com/example/entitygate/entitygate/HtmlNode$Parent" "first" "Lcom/example/entitygate/entitygate/HtmlNode;" (.ref oa)) (F_op_last : Fld Z h0 op "com/example/entitygate/entitygate/HtmlNode$Parent" "last" "Lcom/example/entitygate/entitygate/HtmlNode;" (.ref ob)) (F_oa_parent : Fld Z h0 oa "com/example/entitygate/entitygate/HtmlNode" "parent" "Lcom/example/entitygate/entitygate/HtmlNode$Parent;" (.ref op)) (F_oa_previous : Fld Z h0 oa "com/example/entitygate/entitygate/HtmlNode" "previous" "Lcom/example/entitygate/entitygate/HtmlNode;" .null) (F_oa_next : Fld Z h0 oa "com/example/entitygate/entitygate/HtmlNode" "next" "Lcom/example/entitygate/entitygate/HtmlNode;" (.ref ob)) (F_oa_first : Fld Z h0 oa "com/example/entitygate/entitygate/HtmlNode$Parent" "first" "Lcom/example/entitygate/entitygate/HtmlNode;" .null) (F_oa_last : Fld Z h0 oa "com/example/entitygate/entitygate/HtmlNode$Parent" "last" "Lcom/example/entitygate/entitygate/HtmlNode;" .null) (F_ob_parent : Fld Z h0 ob "com/example/entitygate/entitygate/HtmlNode" "parent" "Lcom/example/entitygate/entitygate/HtmlNode$Parent;" (.ref op)) (F_ob_previous : Fld Z h0 ob "com/example/entitygate/entitygate/HtmlNode" "previous" "Lcom/example/entitygate/entitygate/HtmlNode;" (.ref oa)) (F_ob_next : Fld Z h0 ob "com/example/entitygate/entitygate/HtmlNode" "next" "Lcom/example/entitygate/entitygate/HtmlNode;" .null) (F_ob_first : Fld Z h0 ob "com/example/entitygate/entitygate/HtmlNode$Parent" "first" "Lcom/example/entitygate/entitygate/HtmlNode;" .null) (F_ob_last : Fld Z h0 ob "com/example/entitygate/entitygate/HtmlNode$Parent" "last" "Lcom/example/entitygate/entitygate/HtmlNode;" .null) (F_oc_parent : Fld Z h0 oc "com/example/entitygate/entitygate/HtmlNode" "parent" "Lcom/example/entitygate/entitygate/HtmlNode$Parent;" .null) (F_oc_previous : Fld Z h0 oc "com/example/entitygate/entitygate/HtmlNode" "previous" "Lcom/example/entitygate/entitygate/HtmlNode;" .null) (F_oc_next : Fld Z h0 oc "com/example/entitygate/entitygate/HtmlNode" "next" "Lcom/example/entitygate/entitygate/HtmlNode;" .null) (F_oc_first : Fld Z h0 oc "com/example/entitygate/entitygate/HtmlNode$Parent" "first" "Lcom/example/entitygate/entitygate/HtmlNode;" .null) (F_oc_last : Fld Z h0 oc "com/example/entitygate/entitygate/HtmlNode$Parent" "last" "Lcom/example/entitygate/entitygate/HtmlNode;" .null) (ne_op_oa : op ≠ oa) (ne_op_ob : op ≠ ob) (ne_op_oc : op ≠ oc) (ne_oa_ob : oa ≠ ob) (ne_oa_oc : oa ≠ oc) (ne_ob_oc : ob ≠ oc) (g_op : n0 ≤ op) (g_oa : n0 ≤ oa) (g_ob : n0 ≤ ob) (g_oc : n0 ≤ oc) :
    MetFree l (⟨"com/example/entitygate/entitygate/HtmlNode$Parent", "insert", "(Lcom/example/entitygate/entitygate/HtmlNode;Lcom/example/entitygate/entitygate/HtmlNode;)V"⟩ : MethodName) (head1 (Jvm.Cond.code (⟨"com/example/entitygate/entitygate/HtmlNode$Parent", "insert", "(Lcom/example/entitygate/entitygate/HtmlNode;Lcom/example/entitygate/entitygate/HtmlNode;)V"⟩ : MethodName) prog_20_method_2_code 3 none :: ws) ({ frames := 1, cells := 0, slots := 0, locals := 12 } : Room)) (fun aA U => aA = #[(.ref op), (.ref oc), .null] ∧ Z.Warmed39 U.vm ∧ U.heap = h0) (fun _ _ _ _ _ => True) (fun _ U oO U' => ∃ vV LL, oO = .returned vV ∧ Q_ins2 Z op oa ob oc h0 n0 vV U'.heap LL ∧ FrameEnd U oO U' LL ({ frames := 1, cells := 0, slots := 0, locals := 12 } : Room).cells ({ frames := 1, cells := 0, slots := 0, locals := 12 } : Room).slots) := by
  refine MetFree.of_bodySF (plainFor_of_name pn_1) hisR ?_
  intro p e s m args below meth c s₁ Bd hml0 hP hK
  obtain ⟨rfl, hZ, hh⟩ := hP
  have hx := Bd.exec
  have hby := Bd.bytes
  have hml : c.maxLocals = 3 := hml0
  have hown : s.vm.findClass "com/example/entitygate/entitygate/HtmlNode$Parent" = some m.cls := findClass_of_methodNamed Bd.named
  have hnm := (name_of_methodNamed Bd.named Bd.method).1
  have X0 : Stand p l e ({ frames := 1, cells := 0, slots := 0, locals := 12 } : Room) s m #[(.ref op), (.ref oc), .null] below meth c s₁ [] 0 0 := Stand.of_body Bd
  have e0 : s₁.heap = h0 := by rw [← hh, Bd.state]; rfl
  have N0 := Fr.nil n0
  have hret := Bd.returns
  have hlk : meth.locks = false := Bd.notSynchronized
  refine own_start (ef_1 m op oc) ?_
  show own_Go p e below s (Q_ins2 Z op oa ob oc h0 n0) ({ frames := 1, cells := 0, slots := 0, locals := 12 } : Room).cells ({ frames := 1, cells := 0, slots := 0, locals := 12 } : Room).slots (s₁.setTop (mkF m 0 #[.val (.ref op), .val (.ref oc), .val .null] []))
  refine g_aload_n X0 hx 1 (hb hby d_prog_20_method_2_0) rfl rfl rfl ?_
  refine own_callV X0 hx hZ hown (hw _ (List.mem_of_getElem? (i := 52) rfl)) (hw _ (List.mem_of_getElem? (i := 20) rfl)) (own_nf hZ (hw _ (List.mem_of_getElem? (i := 22) rfl))) (hw _ (List.mem_of_getElem? (i := 22) rfl)) (hw _ (List.mem_of_getElem? (i := 21) rfl)) (by decide) (rm_det0 l Z a0 hw [] oc h0 n0 Z0 F_oc_parent) (hw _ (List.mem_of_getElem? (i := 23) rfl)) (hw _ (List.mem_of_getElem? (i := 14) rfl)) e0 0 (by decide) (by decide) (by decide) (by decide) E_oc [] [] rfl pd_0 rfl 4 rfl (by rw [hml]; rfl) rfl (hb hby d_prog_20_method_2_1) rfl fun T78 v78 L78 X78 hQ78 => ?_
  obtain ⟨rfl, Nq78, e78⟩ := hQ78
  have N78 := Fr.app N0 Nq78
  show own_Go p e below s _ _ _ (T78.setTop (mkF m 4 _ []))
  refine g_aload_n X78 hx 5 (hb hby d_prog_20_method_2_4) rfl rfl rfl ?_
  refine g_aload_n X78 hx 6 (hb hby d_prog_20_method_2_5) rfl rfl rfl ?_
  refine own_putF X78 hx hZ hown (host := "") (Or.inl (hw _ (List.mem_of_getElem? (i := 53) rfl))) Via.refl e78 F_oc_parent E_oc (Or.inl (hw _ (List.mem_of_getElem? (i := 25) rfl))) (hw _ (List.mem_of_getElem? (i := 1) rfl)) (ty := (.object "com/example/entitygate/entitygate/HtmlNode$Parent")) (by decide) rfl rfl 9 (hb hby d_prog_20_method_2_6) rfl fun T79 h79 X79 e79 W79 => ?_
  have f79 : Fld Z h79 oc "com/example/entitygate/entitygate/HtmlNode" "parent" "Lcom/example/entitygate/entitygate/HtmlNode$Parent;" (.ref op) := Fld.same W79 F_oc_parent
  have N79 := Fr.snoc X79 N78 g_oc
  have z80 : n0 ≤ h79.size := (Nat.le_trans Z0 (Keep.of_wr W79).1)
  have K81 : Keep h0 h79 [oc, ob, op] := (Keep.refl h0 [oc, ob, op]).wr W79 (Or.inl (List.mem_of_getElem? (i := 0) rfl))
  refine g_aload_n X79 hx 10 (hb hby d_prog_20_method_2_9) rfl rfl rfl ?_
  refine g_ifnonnullNo X79 hx 13 (hb hby d_prog_20_method_2_10) rfl ?_
  refine g_aload_n X79 hx 14 (hb hby d_prog_20_method_2_13) rfl rfl rfl ?_
  refine g_aload_n X79 hx 15 (hb hby d_prog_20_method_2_14) rfl rfl rfl ?_
  have f82 : Fld Z h79 op "com/example/entitygate/entitygate/HtmlNode$Parent" "last" "Lcom/example/entitygate/entitygate/HtmlNode;" (.ref ob) := (Fld.other W79 F_op_last (Or.inl ne_op_oc))
  refine own_getF X79 hx hZ hown (host := "") (Or.inl (hw _ (List.mem_of_getElem? (i := 54) rfl))) Via.refl e79 f82 18 (hb hby d_prog_20_method_2_15) rfl fun T83 X83 e83 => ?_
  have f84 : Exa Z h79 oc "com/example/entitygate/entitygate/HtmlNode$Document" := (Exa.wr W79 E_oc)
  have f85 : Fld Z h79 oc "com/example/entitygate/entitygate/HtmlNode" "previous" "Lcom/example/entitygate/entitygate/HtmlNode;" .null := (Fld.other W79 F_oc_previous (Or.inr (slot_ne (Or.inl (hw _ (List.mem_of_getElem? (i := 40) rfl))) (Or.inl (hw _ (List.mem_of_getElem? (i := 25) rfl))) (by decide) (t := (.object "com/example/entitygate/entitygate/HtmlNode")) (t' := (.object "com/example/entitygate/entitygate/HtmlNode$Parent")) (by decide) (by decide))))
  refine own_putF X83 hx hZ hown (host := "") (Or.inl (hw _ (List.mem_of_getElem? (i := 55) rfl))) Via.refl e83 f85 f84 (Or.inl (hw _ (List.mem_of_getElem? (i := 40) rfl))) (hw _ (List.mem_of_getElem? (i := 1) rfl)) (ty := (.object "com/example/entitygate/entitygate/HtmlNode")) (by decide) rfl rfl 21 (hb hby d_prog_20_method_2_18) rfl fun T86 h86 X86 e86 W86 => ?_
  have f86 : Fld Z h86 oc "com/example/entitygate/entitygate/HtmlNode" "previous" "Lcom/example/entitygate/entitygate/HtmlNode;" (.ref ob) := Fld.same W86 f85
  have N86 := Fr.snoc X86 N79 g_oc
  have z87 : n0 ≤ h86.size := (Nat.le_trans z80 (Keep.of_wr W86).1)
  have K88 : Keep h0 h86 [oc, ob, op] := K81.wr W86 (Or.inl (List.mem_of_getElem? (i := 0) rfl))
  refine g_aload_n X86 hx 22 (hb hby d_prog_20_method_2_21) rfl rfl rfl ?_
  have f89 : Fld Z h86 op "com/example/entitygate/entitygate/HtmlNode$Parent" "last" "Lcom/example/entitygate/entitygate/HtmlNode;" (.ref ob) := (Fld.other W86 f82 (Or.inl ne_op_oc))
  refine own_getF X86 hx hZ hown (host := "") (Or.inl (hw _ (List.mem_of_getElem? (i := 54) rfl))) Via.refl e86 f89 25 (hb hby d_prog_20_method_2_22) rfl fun T90 X90 e90 => ?_
  refine g_ifnonnullYes X90 hx 36 (hb hby d_prog_20_method_2_25) (by decide) (by decide) ?_
  refine g_aload_n X90 hx 37 (hb hby d_prog_20_method_2_36) rfl rfl rfl ?_
  refine own_getF X90 hx hZ hown (host := "") (Or.inl (hw _ (List.mem_of_getElem? (i := 54) rfl))) Via.refl e90 f89 40 (hb hby d_prog_20_method_2_37) rfl fun T91 X91 e91 => ?_
  refine g_aload_n X91 hx 41 (hb hby d_prog_20_method_2_40) rfl rfl rfl ?_
  have f92 : Exa Z h86 ob "com/example/entitygate/entitygate/HtmlNode$Document" := (Exa.wr W86 (Exa.wr W79 E_ob))
  have f93 : Fld Z h86 ob "com/example/entitygate/entitygate/HtmlNode" "next" "Lcom/example/entitygate/entitygate/HtmlNode;" .null := (Fld.other W86 (Fld.other W79 F_ob_next (Or.inl ne_ob_oc)) (Or.inl ne_ob_oc))
  refine own_putF X91 hx hZ hown (host := "") (Or.inl (hw _ (List.mem_of_getElem? (i := 57) rfl))) Via.refl e91 f93 f92 (Or.inl (hw _ (List.mem_of_getElem? (i := 42) rfl))) (hw _ (List.mem_of_getElem? (i := 1) rfl)) (ty := (.object "com/example/entitygate/entitygate/HtmlNode")) (by decide) rfl rfl 44 (hb hby d_prog_20_method_2_41) rfl fun T94 h94 X94 e94 W94 => ?_
  have f94 : Fld Z h94 ob "com/example/entitygate/entitygate/HtmlNode" "next" "Lcom/example/entitygate/entitygate/HtmlNode;" (.ref oc) := Fld.same W94 f93
  have N94 := Fr.snoc X94 N86 g_ob
  have z95 : n0 ≤ h94.size := (Nat.le_trans z87 (Keep.of_wr W94).1)
  have K96 : Keep h0 h94 [oc, ob, op] := K88.wr W94 (Or.inl (List.mem_of_getElem? (i := 1) rfl))
  refine g_aload_n X94 hx 45 (hb hby d_prog_20_method_2_44) rfl rfl rfl ?_
  refine g_aload_n X94 hx 46 (hb hby d_prog_20_method_2_45) rfl rfl rfl ?_
  have f97 : Exa Z h94 op "com/example/entitygate/entitygate/HtmlNode$Document" := (Exa.wr W94 (Exa.wr W86 (Exa.wr W79 E_op)))
  have f98 : Fld Z h94 op "com/example/entitygate/entitygate/HtmlNode$Parent" "last" "Lcom/example/entitygate/entitygate/HtmlNode;" (.ref ob) := (Fld.other W94 f89 (Or.inl ne_op_ob))
  refine own_putF X94 hx hZ hown (host := "") (Or.inl (hw _ (List.mem_of_getElem? (i := 54) rfl))) Via.refl e94 f98 f97 (Or.inl (hw _ (List.mem_of_getElem? (i := 33) rfl))) (hw _ (List.mem_of_getElem? (i := 1) rfl)) (ty := (.object "com/example/entitygate/entitygate/HtmlNode")) (by decide) rfl rfl 49 (hb hby d_prog_20_method_2_46) rfl fun T99 h99 X99 e99 W99 => ?_
  have f99 : Fld Z h99 op "com/example/entitygate/entitygate/HtmlNode$Parent" "last" "Lcom/example/entitygate/entitygate/HtmlNode;" (.ref oc) := Fld.same W99 f98
  have N99 := Fr.snoc X99 N94 g_op
  have z100 : n0 ≤ h99.size := (Nat.le_trans z95 (Keep.of_wr W99).1)
  have K101 : Keep h0 h99 [oc, ob, op] := K96.wr W99 (Or.inl (List.mem_of_getElem? (i := 2) rfl))
  refine g_goto X99 hx 93 (hb hby d_prog_20_method_2_49) (by decide) (by decide) ?_
  have f102 : Fld Z h99 oc "com/example/entitygate/entitygate/HtmlNode" "parent" "Lcom/example/entitygate/entitygate/HtmlNode$Parent;" (.ref op) := (Fld.other W99 (Fld.other W94 (Fld.other W86 f79 (Or.inr (slot_ne (Or.inl (hw _ (List.mem_of_getElem? (i := 25) rfl))) (Or.inl (hw _ (List.mem_of_getElem? (i := 40) rfl))) (by decide) (t := (.object "com/example/entitygate/entitygate/HtmlNode$Parent")) (t' := (.object "com/example/entitygate/entitygate/HtmlNode")) (by decide) (by decide)))) (Or.inl (Ne.symm ne_ob_oc))) (Or.inl (Ne.symm ne_op_oc)))
  have f103 : Fld Z h99 oc "com/example/entitygate/entitygate/HtmlNode" "previous" "Lcom/example/entitygate/entitygate/HtmlNode;" (.ref ob) := (Fld.other W99 (Fld.other W94 f86 (Or.inl (Ne.symm ne_ob_oc))) (Or.inl (Ne.symm ne_op_oc)))
  have f104 : Fld Z h99 oc "com/example/entitygate/entitygate/HtmlNode" "next" "Lcom/example/entitygate/entitygate/HtmlNode;" .null := (Fld.other W99 (Fld.other W94 (Fld.other W86 (Fld.other W79 F_oc_next (Or.inr (slot_ne (Or.inl (hw _ (List.mem_of_getElem? (i := 42) rfl))) (Or.inl (hw _ (List.mem_of_getElem? (i := 25) rfl))) (by decide) (t := (.object "com/example/entitygate/entitygate/HtmlNode")) (t' := (.object "com/example/entitygate/entitygate/HtmlNode$Parent")) (by decide) (by decide)))) (Or.inr (slot_ne (Or.inl (hw _ (List.mem_of_getElem? (i := 42) rfl))) (Or.inl (hw _ (List.mem_of_getElem? (i := 40) rfl))) (by decide) (t := (.object "com/example/entitygate/entitygate/HtmlNode")) (t' := (.object "com/example/entitygate/entitygate/HtmlNode")) (by decide) (by decide)))) (Or.inl (Ne.symm ne_ob_oc))) (Or.inl (Ne.symm ne_op_oc)))
  have f105 : Fld Z h99 oc "com/example/entitygate/entitygate/HtmlNode$Parent" "first" "Lcom/example/entitygate/entitygate/HtmlNode;" .null := (Fld.other W99 (Fld.other W94 (Fld.other W86 (Fld.other W79 F_oc_first (Or.inr (slot_ne (Or.inl (hw _ (List.mem_of_getElem? (i := 30) rfl))) (Or.inl (hw _ (List.mem_of_getElem? (i := 25) rfl))) (by decide) (t := (.object "com/example/entitygate/entitygate/HtmlNode")) (t' := (.object "com/example/entitygate/entitygate/HtmlNode$Parent")) (by decide) (by decide)))) (Or.inr (slot_ne (Or.inl (hw _ (List.mem_of_getElem? (i := 30) rfl))) (Or.inl (hw _ (List.mem_of_getElem? (i := 40) rfl))) (by decide) (t := (.object "com/example/entitygate/entitygate/HtmlNode")) (t' := (.object "com/example/entitygate/entitygate/HtmlNode")) (by decide) (by decide)))) (Or.inl (Ne.symm ne_ob_oc))) (Or.inl (Ne.symm ne_op_oc)))
  have f106 : Fld Z h99 oc "com/example/entitygate/entitygate/HtmlNode$Parent" "last" "Lcom/example/entitygate/entitygate/HtmlNode;" .null := (Fld.other W99 (Fld.other W94 (Fld.other W86 (Fld.other W79 F_oc_last (Or.inr (slot_ne (Or.inl (hw _ (List.mem_of_getElem? (i := 33) rfl))) (Or.inl (hw _ (List.mem_of_getElem? (i := 25) rfl))) (by decide) (t := (.object "com/example/entitygate/entitygate/HtmlNode")) (t' := (.object "com/example/entitygate/entitygate/HtmlNode$Parent")) (by decide) (by decide)))) (Or.inr (slot_ne (Or.inl (hw _ (List.mem_of_getElem? (i := 33) rfl))) (Or.inl (hw _ (List.mem_of_getElem? (i := 40) rfl))) (by decide) (t := (.object "com/example/entitygate/entitygate/HtmlNode")) (t' := (.object "com/example/entitygate/entitygate/HtmlNode")) (by decide) (by decide)))) (Or.inl (Ne.symm ne_ob_oc))) (Or.inl (Ne.symm ne_op_oc)))
  have f107 : Fld Z h99 ob "com/example/entitygate/entitygate/HtmlNode" "parent" "Lcom/example/entitygate/entitygate/HtmlNode$Parent;" (.ref op) := (Fld.other W99 (Fld.other W94 (Fld.other W86 (Fld.other W79 F_ob_parent (Or.inl ne_ob_oc)) (Or.inl ne_ob_oc)) (Or.inr (slot_ne (Or.inl (hw _ (List.mem_of_getElem? (i := 25) rfl))) (Or.inl (hw _ (List.mem_of_getElem? (i := 42) rfl))) (by decide) (t := (.object "com/example/entitygate/entitygate/HtmlNode$Parent")) (t' := (.object "com/example/entitygate/entitygate/HtmlNode")) (by decide) (by decide)))) (Or.inl (Ne.symm ne_op_ob)))
  have f108 : Fld Z h99 ob "com/example/entitygate/entitygate/HtmlNode" "previous" "Lcom/example/entitygate/entitygate/HtmlNode;" (.ref oa) := (Fld.other W99 (Fld.other W94 (Fld.other W86 (Fld.other W79 F_ob_previous (Or.inl ne_ob_oc)) (Or.inl ne_ob_oc)) (Or.inr (slot_ne (Or.inl (hw _ (List.mem_of_getElem? (i := 40) rfl))) (Or.inl (hw _ (List.mem_of_getElem? (i := 42) rfl))) (by decide) (t := (.object "com/example/entitygate/entitygate/HtmlNode")) (t' := (.object "com/example/entitygate/entitygate/HtmlNode")) (by decide) (by decide)))) (Or.inl (Ne.symm ne_op_ob)))
  have f109 : Fld Z h99 ob "com/example/entitygate/entitygate/HtmlNode" "next" "Lcom/example/entitygate/entitygate/HtmlNode;" (.ref oc) := (Fld.other W99 f94 (Or.inl (Ne.symm ne_op_ob)))
  have f110 : Fld Z h99 ob "com/example/entitygate/entitygate/HtmlNode$Parent" "first" "Lcom/example/entitygate/entitygate/HtmlNode;" .null := (Fld.other W99 (Fld.other W94 (Fld.other W86 (Fld.other W79 F_ob_first (Or.inl ne_ob_oc)) (Or.inl ne_ob_oc)) (Or.inr (slot_ne (Or.inl (hw _ (List.mem_of_getElem? (i := 30) rfl))) (Or.inl (hw _ (List.mem_of_getElem? (i := 42) rfl))) (by decide) (t := (.object "com/example/entitygate/entitygate/HtmlNode")) (t' := (.object "com/example/entitygate/entitygate/HtmlNode")) (by decide) (by decide)))) (Or.inl (Ne.symm ne_op_ob)))
  have f111 : Fld Z h99 ob "com/example/entitygate/entitygate/HtmlNode$Parent" "last" "Lcom/example/entitygate/entitygate/HtmlNode;" .null := (Fld.other W99 (Fld.other W94 (Fld.other W86 (Fld.other W79 F_ob_last (Or.inl ne_ob_oc)) (Or.inl ne_ob_oc)) (Or.inr (slot_ne (Or.inl (hw _ (List.mem_of_getElem? (i := 33) rfl))) (Or.inl (hw _ (List.mem_of_getElem? (i := 42) rfl))) (by decide) (t := (.object "com/example/entitygate/entitygate/HtmlNode")) (t' := (.object "com/example/entitygate/entitygate/HtmlNode")) (by decide) (by decide)))) (Or.inl (Ne.symm ne_op_ob)))
  have f112 : Fld Z h99 op "com/example/entitygate/entitygate/HtmlNode" "parent" "Lcom/example/entitygate/entitygate/HtmlNode$Parent;" .null := (Fld.other W99 (Fld.other W94 (Fld.other W86 (Fld.other W79 F_op_parent (Or.inl ne_op_oc)) (Or.inl ne_op_oc)) (Or.inl ne_op_ob)) (Or.inr (slot_ne (Or.inl (hw _ (List.mem_of_getElem? (i := 25) rfl))) (Or.inl (hw _ (List.mem_of_getElem? (i := 33) rfl))) (by decide) (t := (.object "com/example/entitygate/entitygate/HtmlNode$Parent")) (t' := (.object "com/example/entitygate/entitygate/HtmlNode")) (by decide) (by decide))))
  have f113 : Fld Z h99 op "com/example/entitygate/entitygate/HtmlNode" "previous" "Lcom/example/entitygate/entitygate/HtmlNode;" .null := (Fld.other W99 (Fld.other W94 (Fld.other W86 (Fld.other W79 F_op_previous (Or.inl ne_op_oc)) (Or.inl ne_op_oc)) (Or.inl ne_op_ob)) (Or.inr (slot_ne (Or.inl (hw _ (List.mem_of_getElem? (i := 40) rfl))) (Or.inl (hw _ (List.mem_of_getElem? (i := 33) rfl))) (by decide) (t := (.object "com/example/entitygate/entitygate/HtmlNode")) (t' := (.object "com/example/entitygate/entitygate/HtmlNode")) (by decide) (by decide))))
  have f114 : Fld Z h99 op "com/example/entitygate/entitygate/HtmlNode" "next" "Lcom/example/entitygate/entitygate/HtmlNode;" .null := (Fld.other W99 (Fld.other W94 (Fld.other W86 (Fld.other W79 F_op_next (Or.inl ne_op_oc)) (Or.inl ne_op_oc)) (Or.inl ne_op_ob)) (Or.inr (slot_ne (Or.inl (hw _ (List.mem_of_getElem? (i := 42) rfl))) (Or.inl (hw _ (List.mem_of_getElem? (i := 33) rfl))) (by decide) (t := (.object "com/example/entitygate/entitygate/HtmlNode")) (t' := (.object "com/example/entitygate/entitygate/HtmlNode")) (by decide) (by decide))))
  have f115 : Fld Z h99 op "com/example/entitygate/entitygate/HtmlNode$Parent" "first" "Lcom/example/entitygate/entitygate/HtmlNode;" (.ref oa) := (Fld.other W99 (Fld.other W94 (Fld.other W86 (Fld.other W79 F_op_first (Or.inl ne_op_oc)) (Or.inl ne_op_oc)) (Or.inl ne_op_ob)) (Or.inr (slot_ne (Or.inl (hw _ (List.mem_of_getElem? (i := 30) rfl))) (Or.inl (hw _ (List.mem_of_getElem? (i := 33) rfl))) (by decide) (t := (.object "com/example/entitygate/entitygate/HtmlNode")) (t' := (.object "com/example/entitygate/entitygate/HtmlNode")) (by decide) (by decide))))
  refine own_retV X99 hx hlk hret (hb hby d_prog_20_method_2_93) ?_ (by decide) (by decide)
  rw [e99]
  exact ⟨rfl, N99, K101, f102, f103, f104, f105, f106, f107, f108, f109, f110, f111, f112, f113, f114, f115, f99⟩
theorem d_prog_14_method_2_8 : decode prog_14_method_2_code 8 = .ok (.aload_n 0, 1) := by decide +kernel
theorem d_prog_14_method_2_9 : decode prog_14_method_2_code 9 = .ok (.getfield 13, 3) := by decide +kernel
theorem d_prog_14_method_2_12 : decode prog_14_method_2_code 12 = .ok (.ifnonnull 17, 3) := by decide +kernel
theorem d_prog_14_method_2_15 : decode prog_14_method_2_code 15 = .ok (.aload_n 0, 1) := by decide +kernel
theorem d_prog_14_method_2_16 : decode prog_14_method_2_code 16 = .ok (.getfield 7, 3) := by decide +kernel
theorem d_prog_14_method_2_19 : decode prog_14_method_2_code 19 = .ok (.aload_n 0, 1) := by decide +kernel
theorem d_prog_14_method_2_20 : decode prog_14_method_2_code 20 = .ok (.getfield 17, 3) := by decide +kernel
theorem d_prog_14_method_2_23 : decode prog_14_method_2_code 23 = .ok (.putfield 20, 3) := by decide +kernel
theorem d_prog_14_method_2_26 : decode prog_14_method_2_code 26 = .ok (.goto 14, 3) := by decide +kernel
theorem d_prog_14_method_2_40 : decode prog_14_method_2_code 40 = .ok (.aload_n 0, 1) := by decide +kernel
theorem d_prog_14_method_2_41 : decode prog_14_method_2_code 41 = .ok (.getfield 17, 3) := by decide +kernel
theorem d_prog_14_method_2_44 : decode prog_14_method_2_code 44 = .ok (.ifnonnull 17, 3) := by decide +kernel
theorem d_prog_14_method_2_47 : decode prog_14_method_2_code 47 = .ok (.aload_n 0, 1) := by decide +kernel
theorem d_prog_14_method_2_48 : decode prog_14_method_2_code 48 = .ok (.getfield 7, 3) := by decide +kernel
theorem d_prog_14_method_2_51 : decode prog_14_method_2_code 51 = .ok (.aload_n 0, 1) := by decide +kernel
theorem d_prog_14_method_2_52 : decode prog_14_method_2_code 52 = .ok (.getfield 13, 3) := by decide +kernel
theorem d_prog_14_method_2_55 : decode prog_14_method_2_code 55 = .ok (.putfield 25, 3) := by decide +kernel
theorem d_prog_14_method_2_58 : decode prog_14_method_2_code 58 = .ok (.goto 14, 3) := by decide +kernel
theorem d_prog_14_method_2_72 : decode prog_14_method_2_code 72 = .ok (.aload_n 0, 1) := by decide +kernel
theorem d_prog_14_method_2_73 : decode prog_14_method_2_code 73 = .ok (.aconst_null, 1) := by decide +kernel
theorem d_prog_14_method_2_74 : decode prog_14_method_2_code 74 = .ok (.putfield 7, 3) := by decide +kernel
theorem d_prog_14_method_2_77 : decode prog_14_method_2_code 77 = .ok (.aload_n 0, 1) := by decide +kernel
theorem d_prog_14_method_2_78 : decode prog_14_method_2_code 78 = .ok (.aconst_null, 1) := by decide +kernel
theorem d_prog_14_method_2_79 : decode prog_14_method_2_code 79 = .ok (.putfield 13, 3) := by decide +kernel
theorem d_prog_14_method_2_82 : decode prog_14_method_2_code 82 = .ok (.aload_n 0, 1) := by decide +kernel
theorem d_prog_14_method_2_83 : decode prog_14_method_2_code 83 = .ok (.aconst_null, 1) := by decide +kernel
theorem d_prog_14_method_2_84 : decode prog_14_method_2_code 84 = .ok (.putfield 17, 3) := by decide +kernel
theorem d_prog_14_method_2_87 : decode prog_14_method_2_code 87 = .ok (.return_, 1) := by decide +kernel
def Q_det10 (Z : State) (op : Addr) (oa : Addr) (ob : Addr) (oc : Addr) (h0 : Heap) (n0 : Nat) (v : Option Value) (h : Heap) (L : List Loc) : Prop := v = none ∧ Fr n0 L ∧ Keep h0 h [oa, op] ∧ Fld Z h oa "com/example/entitygate/entitygate/HtmlNode" "parent" "Lcom/example/entitygate/entitygate/HtmlNode$Parent;" .null ∧ Fld Z h oa "com/example/entitygate/entitygate/HtmlNode" "previous" "Lcom/example/entitygate/entitygate/HtmlNode;" .null ∧ Fld Z h oa "com/example/entitygate/entitygate/HtmlNode" "next" "Lcom/example/entitygate/entitygate/HtmlNode;" .null ∧ Fld Z h oa "com/example/entitygate/entitygate/HtmlNode$Parent" "first" "Lcom/example/entitygate/entitygate/HtmlNode;" .null ∧ Fld Z h oa "com/example/entitygate/entitygate/HtmlNode$Parent" "last" "Lcom/example/entitygate/entitygate/HtmlNode;" .null ∧ Fld Z h op "com/example/entitygate/entitygate/HtmlNode" "parent" "Lcom/example/entitygate/entitygate/HtmlNode$Parent;" .null ∧ Fld Z h op "com/example/entitygate/entitygate/HtmlNode" "previous" "Lcom/example/entitygate/entitygate/HtmlNode;" .null ∧ Fld Z h op "com/example/entitygate/entitygate/HtmlNode" "next" "Lcom/example/entitygate/entitygate/HtmlNode;" .null ∧ Fld Z h op "com/example/entitygate/entitygate/HtmlNode$Parent" "first" "Lcom/example/entitygate/entitygate/HtmlNode;" .null ∧ Fld Z h op "com/example/entitygate/entitygate/HtmlNode$Parent" "last" "Lcom/example/entitygate/entitygate/HtmlNode;" .null
set_option maxRecDepth 65536 in
set_option maxHeartbeats 40000000 in
theorem rm_det10 (l : Launch) (Z : State) (a0 : Array Value) (hw : ∀ d ∈ tables_1, d.before a0 Z = true) (ws : List Jvm.Cond) (op : Addr) (oa : Addr) (ob : Addr) (oc : Addr) (h0 : Heap) (n0 : Nat) (Z0 : n0 ≤ h0.size) (E_op : Exa Z h0 op "com/example/entitygate/entitygate/HtmlNode$Document") (E_oa : Exa Z h0 oa "com/example/entitygate/entitygate/HtmlNode$Document") (E_ob : Exa Z h0 ob "com/example/entitygate/entitygate/HtmlNode$Document") (E_oc : Exa Z h0 oc "com/example/entitygate/entitygate/HtmlNode$Document") (F_op_parent : Fld Z h0 op "com/example/entitygate/entitygate/HtmlNode" "parent" "Lcom/example/entitygate/entitygate/HtmlNode$Parent;" .null) (F_op_previous : Fld Z h0 op "com/example/entitygate/entitygate/HtmlNode" "previous" "Lcom/example/entitygate/entitygate/HtmlNode;" .null) (F_op_next : Fld Z h0 op "com/example/entitygate/entitygate/HtmlNode" "next" "Lcom/example/entitygate/entitygate/HtmlNode;" .null) (F_op_first : Fld Z h0 op "com/example/entitygate/entitygate/HtmlNode$Parent" "first" "Lcom/example/entitygate/entitygate/HtmlNode;" (.ref oa)) (F_op_last : Fld Z h0 op "com/example/entitygate/entitygate/HtmlNode$Parent" "last" "Lcom/example/entitygate/entitygate/HtmlNode;" (.ref oa)) (F_oa_parent : Fld Z h0 oa "com/example/entitygate/entitygate/HtmlNode" "parent" "Lcom/example/entitygate/entitygate/HtmlNode$Parent;" (.ref op)) (F_oa_previous : Fld Z h0 oa "com/example/entitygate/entitygate/HtmlNode" "previous" "Lcom/example/entitygate/entitygate/HtmlNode;" .null) (F_oa_next : Fld Z h0 oa "com/example/entitygate/entitygate/HtmlNode" "next" "Lcom/example/entitygate/entitygate/HtmlNode;" .null) (F_oa_first : Fld Z h0 oa "com/example/entitygate/entitygate/HtmlNode$Parent" "first" "Lcom/example/entitygate/entitygate/HtmlNode;" .null) (F_oa_last : Fld Z h0 oa "com/example/entitygate/entitygate/HtmlNode$Parent" "last" "Lcom/example/entitygate/entitygate/HtmlNode;" .null) (F_ob_parent : Fld Z h0 ob "com/example/entitygate/entitygate/HtmlNode" "parent" "Lcom/example/entitygate/entitygate/HtmlNode$Parent;" .null) (F_ob_previous : Fld Z h0 ob "com/example/entitygate/entitygate/HtmlNode" "previous" "Lcom/example/entitygate/entitygate/HtmlNode;" .null) (F_ob_next : Fld Z h0 ob "com/example/entitygate/entitygate/HtmlNode" "next" "Lcom/example/entitygate/entitygate/HtmlNode;" .null) (F_ob_first : Fld Z h0 ob "com/example/entitygate/entitygate/HtmlNode$Parent" "first" "Lcom/example/entitygate/entitygate/HtmlNode;" .null) (F_ob_last : Fld Z h0 ob "com/example/entitygate/entitygate/HtmlNode$Parent" "last" "Lcom/example/entitygate/entitygate/HtmlNode;" .null) (F_oc_parent : Fld Z h0 oc "com/example/entitygate/entitygate/HtmlNode" "parent" "Lcom/example/entitygate/entitygate/HtmlNode$Parent;" .null) (F_oc_previous : Fld Z h0 oc "com/example/entitygate/entitygate/HtmlNode" "previous" "Lcom/example/entitygate/entitygate/HtmlNode;" .null) (F_oc_next : Fld Z h0 oc "com/example/entitygate/entitygate/HtmlNode" "next" "Lcom/example/entitygate/entitygate/HtmlNode;" .null) (F_oc_first : Fld Z h0 oc "com/example/entitygate/entitygate/HtmlNode$Parent" "first" "Lcom/example/entitygate/entitygate/HtmlNode;" .null) (F_oc_last : Fld Z h0 oc "com/example/entitygate/entitygate/HtmlNode$Parent" "last" "Lcom/example/entitygate/entitygate/HtmlNode;" .null) (ne_op_oa : op ≠ oa) (ne_op_ob : op ≠ ob) (ne_op_oc : op ≠ oc) (ne_oa_ob : oa ≠ ob) (ne_oa_oc : oa ≠ oc) (ne_ob_oc : ob ≠ oc) (g_op : n0 ≤ op) (g_oa : n0 ≤ oa) (g_ob : n0 ≤ ob) (g_oc : n0 ≤ oc) :
    MetFree l (⟨"com/example/entitygate/entitygate/HtmlNode", "detach", "()V"⟩ : MethodName) (head1 (Jvm.Cond.code (⟨"com/example/entitygate/entitygate/HtmlNode", "detach", "()V"⟩ : MethodName) prog_14_method_2_code 1 none :: ws) ({ frames := 0, cells := 0, slots := 0, locals := 0 } : Room)) (fun aA U => aA = #[(.ref oa)] ∧ Z.Warmed39 U.vm ∧ U.heap = h0) (fun _ _ _ _ _ => True) (fun _ U oO U' => ∃ vV LL, oO = .returned vV ∧ Q_det10 Z op oa ob oc h0 n0 vV U'.heap LL ∧ FrameEnd U oO U' LL ({ frames := 0, cells := 0, slots := 0, locals := 0 } : Room).cells ({ frames := 0, cells := 0, slots := 0, locals := 0 } : Room).slots) := by
  refine MetFree.of_bodySF (plainFor_of_name pn_0) hisR ?_
  intro p e s m args below meth c s₁ Bd hml0 hP hK
  obtain ⟨rfl, hZ, hh⟩ := hP
  have hx := Bd.exec
  have hby := Bd.bytes
  have hml : c.maxLocals = 1 := hml0
  have hown : s.vm.findClass "com/example/entitygate/entitygate/HtmlNode" = some m.cls := findClass_of_methodNamed Bd.named
  have hnm := (name_of_methodNamed Bd.named Bd.method).1
  have X0 : Stand p l e ({ frames := 0, cells := 0, slots := 0, locals := 0 } : Room) s m #[(.ref oa)] below meth c s₁ [] 0 0 := Stand.of_body Bd
  have e0 : s₁.heap = h0 := by rw [← hh, Bd.state]; rfl
  have N0 := Fr.nil n0
  have hret := Bd.returns
  have hlk : meth.locks = false := Bd.notSynchronized
  refine own_start (ef_0 m oa) ?_
  show own_Go p e below s (Q_det10 Z op oa ob oc h0 n0) ({ frames := 0, cells := 0, slots := 0, locals := 0 } : Room).cells ({ frames := 0, cells := 0, slots := 0, locals := 0 } : Room).slots (s₁.setTop (mkF m 0 #[.val (.ref oa)] []))
  refine g_aload_n X0 hx 1 (hb hby d_prog_14_method_2_0) rfl rfl rfl ?_
  refine own_getF X0 hx hZ hown (host := "") (Or.inl (hw _ (List.mem_of_getElem? (i := 24) rfl))) Via.refl e0 F_oa_parent 4 (hb hby d_prog_14_method_2_1) rfl fun T116 X116 e116 => ?_
  refine g_ifnonnullYes X116 hx 8 (hb hby d_prog_14_method_2_4) (by decide) (by decide) ?_
  refine g_aload_n X116 hx 9 (hb hby d_prog_14_method_2_8) rfl rfl rfl ?_
  refine own_getF X116 hx hZ hown (host := "") (Or.inl (hw _ (List.mem_of_getElem? (i := 58) rfl))) Via.refl e116 F_oa_previous 12 (hb hby d_prog_14_method_2_9) rfl fun T117 X117 e117 => ?_
  refine g_ifnonnullNo X117 hx 15 (hb hby d_prog_14_method_2_12) rfl ?_
  refine g_aload_n X117 hx 16 (hb hby d_prog_14_method_2_15) rfl rfl rfl ?_
  refine own_getF X117 hx hZ hown (host := "") (Or.inl (hw _ (List.mem_of_getElem? (i := 24) rfl))) Via.refl e117 F_oa_parent 19 (hb hby d_prog_14_method_2_16) rfl fun T118 X118 e118 => ?_
  refine g_aload_n X118 hx 20 (hb hby d_prog_14_method_2_19) rfl rfl rfl ?_
  refine own_getF X118 hx hZ hown (host := "") (Or.inl (hw _ (List.mem_of_getElem? (i := 59) rfl))) Via.refl e118 F_oa_next 23 (hb hby d_prog_14_method_2_20) rfl fun T119 X119 e119 => ?_
  refine own_putF X119 hx hZ hown (host := "") (Or.inl (hw _ (List.mem_of_getElem? (i := 62) rfl))) Via.refl e119 F_op_first E_op (Or.inl (hw _ (List.mem_of_getElem? (i := 30) rfl))) (hw _ (List.mem_of_getElem? (i := 1) rfl)) (ty := (.object "com/example/entitygate/entitygate/HtmlNode")) (by decide) rfl rfl 26 (hb hby d_prog_14_method_2_23) rfl fun T120 h120 X120 e120 W120 => ?_
  have f120 : Fld Z h120 op "com/example/entitygate/entitygate/HtmlNode$Parent" "first" "Lcom/example/entitygate/entitygate/HtmlNode;" .null := Fld.same W120 F_op_first
  have N120 := Fr.snoc X120 N0 g_op
  have z121 : n0 ≤ h120.size := (Nat.le_trans Z0 (Keep.of_wr W120).1)
  have K122 : Keep h0 h120 [oa, op] := (Keep.refl h0 [oa, op]).wr W120 (Or.inl (List.mem_of_getElem? (i := 1) rfl))
  refine g_goto X120 hx 40 (hb hby d_prog_14_method_2_26) (by decide) (by decide) ?_
  refine g_aload_n X120 hx 41 (hb hby d_prog_14_method_2_40) rfl rfl rfl ?_
  have f123 : Fld Z h120 oa "com/example/entitygate/entitygate/HtmlNode" "next" "Lcom/example/entitygate/entitygate/HtmlNode;" .null := (Fld.other W120 F_oa_next (Or.inl (Ne.symm ne_op_oa)))
  refine own_getF X120 hx hZ hown (host := "") (Or.inl (hw _ (List.mem_of_getElem? (i := 59) rfl))) Via.refl e120 f123 44 (hb hby d_prog_14_method_2_41) rfl fun T124 X124 e124 => ?_
  refine g_ifnonnullNo X124 hx 47 (hb hby d_prog_14_method_2_44) rfl ?_
  refine g_aload_n X124 hx 48 (hb hby d_prog_14_method_2_47) rfl rfl rfl ?_
  have f125 : Fld Z h120 oa "com/example/entitygate/entitygate/HtmlNode" "parent" "Lcom/example/entitygate/entitygate/HtmlNode$Parent;" (.ref op) := (Fld.other W120 F_oa_parent (Or.inl (Ne.symm ne_op_oa)))
  refine own_getF X124 hx hZ hown (host := "") (Or.inl (hw _ (List.mem_of_getElem? (i := 24) rfl))) Via.refl e124 f125 51 (hb hby d_prog_14_method_2_48) rfl fun T126 X126 e126 => ?_
  refine g_aload_n X126 hx 52 (hb hby d_prog_14_method_2_51) rfl rfl rfl ?_
  have f127 : Fld Z h120 oa "com/example/entitygate/entitygate/HtmlNode" "previous" "Lcom/example/entitygate/entitygate/HtmlNode;" .null := (Fld.other W120 F_oa_previous (Or.inl (Ne.symm ne_op_oa)))
  refine own_getF X126 hx hZ hown (host := "") (Or.inl (hw _ (List.mem_of_getElem? (i := 58) rfl))) Via.refl e126 f127 55 (hb hby d_prog_14_method_2_52) rfl fun T128 X128 e128 => ?_
  have f129 : Exa Z h120 op "com/example/entitygate/entitygate/HtmlNode$Document" := (Exa.wr W120 E_op)
  have f130 : Fld Z h120 op "com/example/entitygate/entitygate/HtmlNode$Parent" "last" "Lcom/example/entitygate/entitygate/HtmlNode;" (.ref oa) := (Fld.other W120 F_op_last (Or.inr (slot_ne (Or.inl (hw _ (List.mem_of_getElem? (i := 33) rfl))) (Or.inl (hw _ (List.mem_of_getElem? (i := 30) rfl))) (by decide) (t := (.object "com/example/entitygate/entitygate/HtmlNode")) (t' := (.object "com/example/entitygate/entitygate/HtmlNode")) (by decide) (by decide))))
  refine own_putF X128 hx hZ hown (host := "") (Or.inl (hw _ (List.mem_of_getElem? (i := 60) rfl))) Via.refl e128 f130 f129 (Or.inl (hw _ (List.mem_of_getElem? (i := 33) rfl))) (hw _ (List.mem_of_getElem? (i := 1) rfl)) (ty := (.object "com/example/entitygate/entitygate/HtmlNode")) (by decide) rfl rfl 58 (hb hby d_prog_14_method_2_55) rfl fun T131 h131 X131 e131 W131 => ?_
  have f131 : Fld Z h131 op "com/example/entitygate/entitygate/HtmlNode$Parent" "last" "Lcom/example/entitygate/entitygate/HtmlNode;" .null := Fld.same W131 f130
  have N131 := Fr.snoc X131 N120 g_op
  have z132 : n0 ≤ h131.size := (Nat.le_trans z121 (Keep.of_wr W131).1)
  have K133 : Keep h0 h131 [oa, op] := K122.wr W131 (Or.inl (List.mem_of_getElem? (i := 1) rfl))
  refine g_goto X131 hx 72 (hb hby d_prog_14_method_2_58) (by decide) (by decide) ?_
  refine g_aload_n X131 hx 73 (hb hby d_prog_14_method_2_72) rfl rfl rfl ?_
  refine g_aconst_null X131 hx 74 (hb hby d_prog_14_method_2_73) rfl ?_
  have f134 : Exa Z h131 oa "com/example/entitygate/entitygate/HtmlNode$Document" := (Exa.wr W131 (Exa.wr W120 E_oa))
  have f135 : Fld Z h131 oa "com/example/entitygate/entitygate/HtmlNode" "parent" "Lcom/example/entitygate/entitygate/HtmlNode$Parent;" (.ref op) := (Fld.other W131 f125 (Or.inl (Ne.symm ne_op_oa)))
  refine own_putF X131 hx hZ hown (host := "") (Or.inl (hw _ (List.mem_of_getElem? (i := 24) rfl))) Via.refl e131 f135 f134 (Or.inl (hw _ (List.mem_of_getElem? (i := 25) rfl))) (hw _ (List.mem_of_getElem? (i := 1) rfl)) (ty := (.object "com/example/entitygate/entitygate/HtmlNode$Parent")) (by decide) rfl rfl 77 (hb hby d_prog_14_method_2_74) rfl fun T136 h136 X136 e136 W136 => ?_
  have f136 : Fld Z h136 oa "com/example/entitygate/entitygate/HtmlNode" "parent" "Lcom/example/entitygate/entitygate/HtmlNode$Parent;" .null := Fld.same W136 f135
  have N136 := Fr.snoc X136 N131 g_oa
  have z137 : n0 ≤ h136.size := (Nat.le_trans z132 (Keep.of_wr W136).1)
  have K138 : Keep h0 h136 [oa, op] := K133.wr W136 (Or.inl (List.mem_of_getElem? (i := 0) rfl))
  refine g_aload_n X136 hx 78 (hb hby d_prog_14_method_2_77) rfl rfl rfl ?_
  refine g_aconst_null X136 hx 79 (hb hby d_prog_14_method_2_78) rfl ?_
  have f139 : Exa Z h136 oa "com/example/entitygate/entitygate/HtmlNode$Document" := (Exa.wr W136 f134)
  have f140 : Fld Z h136 oa "com/example/entitygate/entitygate/HtmlNode" "previous" "Lcom/example/entitygate/entitygate/HtmlNode;" .null := (Fld.other W136 (Fld.other W131 f127 (Or.inl (Ne.symm ne_op_oa))) (Or.inr (slot_ne (Or.inl (hw _ (List.mem_of_getElem? (i := 40) rfl))) (Or.inl (hw _ (List.mem_of_getElem? (i := 25) rfl))) (by decide) (t := (.object "com/example/entitygate/entitygate/HtmlNode")) (t' := (.object "com/example/entitygate/entitygate/HtmlNode$Parent")) (by decide) (by decide))))
  refine own_putF X136 hx hZ hown (host := "") (Or.inl (hw _ (List.mem_of_getElem? (i := 58) rfl))) Via.refl e136 f140 f139 (Or.inl (hw _ (List.mem_of_getElem? (i := 40) rfl))) (hw _ (List.mem_of_getElem? (i := 1) rfl)) (ty := (.object "com/example/entitygate/entitygate/HtmlNode")) (by decide) rfl rfl 82 (hb hby d_prog_14_method_2_79) rfl fun T141 h141 X141 e141 W141 => ?_
  have f141 : Fld Z h141 oa "com/example/entitygate/entitygate/HtmlNode" "previous" "Lcom/example/entitygate/entitygate/HtmlNode;" .null := Fld.same W141 f140
  have N141 := Fr.snoc X141 N136 g_oa
  have z142 : n0 ≤ h141.size := (Nat.le_trans z137 (Keep.of_wr W141).1)
  have K143 : Keep h0 h141 [oa, op] := K138.wr W141 (Or.inl (List.mem_of_getElem? (i := 0) rfl))
  refine g_aload_n X141 hx 83 (hb hby d_prog_14_method_2_82) rfl rfl rfl ?_
  refine g_aconst_null X141 hx 84 (hb hby d_prog_14_method_2_83) rfl ?_
  have f144 : Exa Z h141 oa "com/example/entitygate/entitygate/HtmlNode$Document" := (Exa.wr W141 f139)
  have f145 : Fld Z h141 oa "com/example/entitygate/entitygate/HtmlNode" "next" "Lcom/example/entitygate/entitygate/HtmlNode;" .null := (Fld.other W141 (Fld.other W136 (Fld.other W131 f123 (Or.inl (Ne.symm ne_op_oa))) (Or.inr (slot_ne (Or.inl (hw _ (List.mem_of_getElem? (i := 42) rfl))) (Or.inl (hw _ (List.mem_of_getElem? (i := 25) rfl))) (by decide) (t := (.object "com/example/entitygate/entitygate/HtmlNode")) (t' := (.object "com/example/entitygate/entitygate/HtmlNode$Parent")) (by decide) (by decide)))) (Or.inr (slot_ne (Or.inl (hw _ (List.mem_of_getElem? (i := 42) rfl))) (Or.inl (hw _ (List.mem_of_getElem? (i := 40) rfl))) (by decide) (t := (.object "com/example/entitygate/entitygate/HtmlNode")) (t' := (.object "com/example/entitygate/entitygate/HtmlNode")) (by decide) (by decide))))
  refine own_putF X141 hx hZ hown (host := "") (Or.inl (hw _ (List.mem_of_getElem? (i := 59) rfl))) Via.refl e141 f145 f144 (Or.inl (hw _ (List.mem_of_getElem? (i := 42) rfl))) (hw _ (List.mem_of_getElem? (i := 1) rfl)) (ty := (.object "com/example/entitygate/entitygate/HtmlNode")) (by decide) rfl rfl 87 (hb hby d_prog_14_method_2_84) rfl fun T146 h146 X146 e146 W146 => ?_
  have f146 : Fld Z h146 oa "com/example/entitygate/entitygate/HtmlNode" "next" "Lcom/example/entitygate/entitygate/HtmlNode;" .null := Fld.same W146 f145
  have N146 := Fr.snoc X146 N141 g_oa
  have z147 : n0 ≤ h146.size := (Nat.le_trans z142 (Keep.of_wr W146).1)
  have K148 : Keep h0 h146 [oa, op] := K143.wr W146 (Or.inl (List.mem_of_getElem? (i := 0) rfl))
  have f149 : Fld Z h146 oa "com/example/entitygate/entitygate/HtmlNode" "parent" "Lcom/example/entitygate/entitygate/HtmlNode$Parent;" .null := (Fld.other W146 (Fld.other W141 f136 (Or.inr (slot_ne (Or.inl (hw _ (List.mem_of_getElem? (i := 25) rfl))) (Or.inl (hw _ (List.mem_of_getElem? (i := 40) rfl))) (by decide) (t := (.object "com/example/entitygate/entitygate/HtmlNode$Parent")) (t' := (.object "com/example/entitygate/entitygate/HtmlNode")) (by decide) (by decide)))) (Or.inr (slot_ne (Or.inl (hw _ (List.mem_of_getElem? (i := 25) rfl))) (Or.inl (hw _ (List.mem_of_getElem? (i := 42) rfl))) (by decide) (t := (.object "com/example/entitygate/entitygate/HtmlNode$Parent")) (t' := (.object "com/example/entitygate/entitygate/HtmlNode")) (by decide) (by decide))))
  have f150 : Fld Z h146 oa "com/example/entitygate/entitygate/HtmlNode" "previous" "Lcom/example/entitygate/entitygate/HtmlNode;" .null := (Fld.other W146 f141 (Or.inr (slot_ne (Or.inl (hw _ (List.mem_of_getElem? (i := 40) rfl))) (Or.inl (hw _ (List.mem_of_getElem? (i := 42) rfl))) (by decide) (t := (.object "com/example/entitygate/entitygate/HtmlNode")) (t' := (.object "com/example/entitygate/entitygate/HtmlNode")) (by decide) (by decide))))
  have f151 : Fld Z h146 oa "com/example/entitygate/entitygate/HtmlNode$Parent" "first" "Lcom/example/entitygate/entitygate/HtmlNode;" .null := (Fld.other W146 (Fld.other W141 (Fld.other W136 (Fld.other W131 (Fld.other W120 F_oa_first (Or.inl (Ne.symm ne_op_oa))) (Or.inl (Ne.symm ne_op_oa))) (Or.inr (slot_ne (Or.inl (hw _ (List.mem_of_getElem? (i := 30) rfl))) (Or.inl (hw _ (List.mem_of_getElem? (i := 25) rfl))) (by decide) (t := (.object "com/example/entitygate/entitygate/HtmlNode")) (t' := (.object "com/example/entitygate/entitygate/HtmlNode$Parent")) (by decide) (by decide)))) (Or.inr (slot_ne (Or.inl (hw _ (List.mem_of_getElem? (i := 30) rfl))) (Or.inl (hw _ (List.mem_of_getElem? (i := 40) rfl))) (by decide) (t := (.object "com/example/entitygate/entitygate/HtmlNode")) (t' := (.object "com/example/entitygate/entitygate/HtmlNode")) (by decide) (by decide)))) (Or.inr (slot_ne (Or.inl (hw _ (List.mem_of_getElem? (i := 30) rfl))) (Or.inl (hw _ (List.mem_of_getElem? (i := 42) rfl))) (by decide) (t := (.object "com/example/entitygate/entitygate/HtmlNode")) (t' := (.object "com/example/entitygate/entitygate/HtmlNode")) (by decide) (by decide))))
  have f152 : Fld Z h146 oa "com/example/entitygate/entitygate/HtmlNode$Parent" "last" "Lcom/example/entitygate/entitygate/HtmlNode;" .null := (Fld.other W146 (Fld.other W141 (Fld.other W136 (Fld.other W131 (Fld.other W120 F_oa_last (Or.inl (Ne.symm ne_op_oa))) (Or.inl (Ne.symm ne_op_oa))) (Or.inr (slot_ne (Or.inl (hw _ (List.mem_of_getElem? (i := 33) rfl))) (Or.inl (hw _ (List.mem_of_getElem? (i := 25) rfl))) (by decide) (t := (.object "com/example/entitygate/entitygate/HtmlNode")) (t' := (.object "com/example/entitygate/entitygate/HtmlNode$Parent")) (by decide) (by decide)))) (Or.inr (slot_ne (Or.inl (hw _ (List.mem_of_getElem? (i := 33) rfl))) (Or.inl (hw _ (List.mem_of_getElem? (i := 40) rfl))) (by decide) (t := (.object "com/example/entitygate/entitygate/HtmlNode")) (t' := (.object "com/example/entitygate/entitygate/HtmlNode")) (by decide) (by decide)))) (Or.inr (slot_ne (Or.inl (hw _ (List.mem_of_getElem? (i := 33) rfl))) (Or.inl (hw _ (List.mem_of_getElem? (i := 42) rfl))) (by decide) (t := (.object "com/example/entitygate/entitygate/HtmlNode")) (t' := (.object "com/example/entitygate/entitygate/HtmlNode")) (by decide) (by decide))))
  have f153 : Fld Z h146 op "com/example/entitygate/entitygate/HtmlNode" "parent" "Lcom/example/entitygate/entitygate/HtmlNode$Parent;" .null := (Fld.other W146 (Fld.other W141 (Fld.other W136 (Fld.other W131 (Fld.other W120 F_op_parent (Or.inr (slot_ne (Or.inl (hw _ (List.mem_of_getElem? (i := 25) rfl))) (Or.inl (hw _ (List.mem_of_getElem? (i := 30) rfl))) (by decide) (t := (.object "com/example/entitygate/entitygate/HtmlNode$Parent")) (t' := (.object "com/example/entitygate/entitygate/HtmlNode")) (by decide) (by decide)))) (Or.inr (slot_ne (Or.inl (hw _ (List.mem_of_getElem? (i := 25) rfl))) (Or.inl (hw _ (List.mem_of_getElem? (i := 33) rfl))) (by decide) (t := (.object "com/example/entitygate/entitygate/HtmlNode$Parent")) (t' := (.object "com/example/entitygate/entitygate/HtmlNode")) (by decide) (by decide)))) (Or.inl ne_op_oa)) (Or.inl ne_op_oa)) (Or.inl ne_op_oa))
  have f154 : Fld Z h146 op "com/example/entitygate/entitygate/HtmlNode" "previous" "Lcom/example/entitygate/entitygate/HtmlNode;" .null := (Fld.other W146 (Fld.other W141 (Fld.other W136 (Fld.other W131 (Fld.other W120 F_op_previous (Or.inr (slot_ne (Or.inl (hw _ (List.mem_of_getElem? (i := 40) rfl))) (Or.inl (hw _ (List.mem_of_getElem? (i := 30) rfl))) (by decide) (t := (.object "com/example/entitygate/entitygate/HtmlNode")) (t' := (.object "com/example/entitygate/entitygate/HtmlNode")) (by decide) (by decide)))) (Or.inr (slot_ne (Or.inl (hw _ (List.mem_of_getElem? (i := 40) rfl))) (Or.inl (hw _ (List.mem_of_getElem? (i := 33) rfl))) (by decide) (t := (.object "com/example/entitygate/entitygate/HtmlNode")) (t' := (.object "com/example/entitygate/entitygate/HtmlNode")) (by decide) (by decide)))) (Or.inl ne_op_oa)) (Or.inl ne_op_oa)) (Or.inl ne_op_oa))
  have f155 : Fld Z h146 op "com/example/entitygate/entitygate/HtmlNode" "next" "Lcom/example/entitygate/entitygate/HtmlNode;" .null := (Fld.other W146 (Fld.other W141 (Fld.other W136 (Fld.other W131 (Fld.other W120 F_op_next (Or.inr (slot_ne (Or.inl (hw _ (List.mem_of_getElem? (i := 42) rfl))) (Or.inl (hw _ (List.mem_of_getElem? (i := 30) rfl))) (by decide) (t := (.object "com/example/entitygate/entitygate/HtmlNode")) (t' := (.object "com/example/entitygate/entitygate/HtmlNode")) (by decide) (by decide)))) (Or.inr (slot_ne (Or.inl (hw _ (List.mem_of_getElem? (i := 42) rfl))) (Or.inl (hw _ (List.mem_of_getElem? (i := 33) rfl))) (by decide) (t := (.object "com/example/entitygate/entitygate/HtmlNode")) (t' := (.object "com/example/entitygate/entitygate/HtmlNode")) (by decide) (by decide)))) (Or.inl ne_op_oa)) (Or.inl ne_op_oa)) (Or.inl ne_op_oa))
  have f156 : Fld Z h146 op "com/example/entitygate/entitygate/HtmlNode$Parent" "first" "Lcom/example/entitygate/entitygate/HtmlNode;" .null := (Fld.other W146 (Fld.other W141 (Fld.other W136 (Fld.other W131 f120 (Or.inr (slot_ne (Or.inl (hw _ (List.mem_of_getElem? (i := 30) rfl))) (Or.inl (hw _ (List.mem_of_getElem? (i := 33) rfl))) (by decide) (t := (.object "com/example/entitygate/entitygate/HtmlNode")) (t' := (.object "com/example/entitygate/entitygate/HtmlNode")) (by decide) (by decide)))) (Or.inl ne_op_oa)) (Or.inl ne_op_oa)) (Or.inl ne_op_oa))
  have f157 : Fld Z h146 op "com/example/entitygate/entitygate/HtmlNode$Parent" "last" "Lcom/example/entitygate/entitygate/HtmlNode;" .null := (Fld.other W146 (Fld.other W141 (Fld.other W136 f131 (Or.inl ne_op_oa)) (Or.inl ne_op_oa)) (Or.inl ne_op_oa))
  refine own_retV X146 hx hlk hret (hb hby d_prog_14_method_2_87) ?_ (by decide) (by decide)
  rw [e146]
  exact ⟨rfl, N146, K148, f149, f150, f146, f151, f152, f153, f154, f155, f156, f157⟩
theorem d_prog_14_method_2_61 : decode prog_14_method_2_code 61 = .ok (.aload_n 0, 1) := by decide +kernel
theorem d_prog_14_method_2_62 : decode prog_14_method_2_code 62 = .ok (.getfield 17, 3) := by decide +kernel
theorem d_prog_14_method_2_65 : decode prog_14_method_2_code 65 = .ok (.aload_n 0, 1) := by decide +kernel
theorem d_prog_14_method_2_66 : decode prog_14_method_2_code 66 = .ok (.getfield 13, 3) := by decide +kernel
theorem d_prog_14_method_2_69 : decode prog_14_method_2_code 69 = .ok (.putfield 13, 3) := by decide +kernel
def Q_det20 (Z : State) (op : Addr) (oa : Addr) (ob : Addr) (oc : Addr) (h0 : Heap) (n0 : Nat) (v : Option Value) (h : Heap) (L : List Loc) : Prop := v = none ∧ Fr n0 L ∧ Keep h0 h [oa, op, ob] ∧ Fld Z h oa "com/example/entitygate/entitygate/HtmlNode" "parent" "Lcom/example/entitygate/entitygate/HtmlNode$Parent;" .null ∧ Fld Z h oa "com/example/entitygate/entitygate/HtmlNode" "previous" "Lcom/example/entitygate/entitygate/HtmlNode;" .null ∧ Fld Z h oa "com/example/entitygate/entitygate/HtmlNode" "next" "Lcom/example/entitygate/entitygate/HtmlNode;" .null ∧ Fld Z h oa "com/example/entitygate/entitygate/HtmlNode$Parent" "first" "Lcom/example/entitygate/entitygate/HtmlNode;" .null ∧ Fld Z h oa "com/example/entitygate/entitygate/HtmlNode$Parent" "last" "Lcom/example/entitygate/entitygate/HtmlNode;" .null ∧ Fld Z h op "com/example/entitygate/entitygate/HtmlNode" "parent" "Lcom/example/entitygate/entitygate/HtmlNode$Parent;" .null ∧ Fld Z h op "com/example/entitygate/entitygate/HtmlNode" "previous" "Lcom/example/entitygate/entitygate/HtmlNode;" .null ∧ Fld Z h op "com/example/entitygate/entitygate/HtmlNode" "next" "Lcom/example/entitygate/entitygate/HtmlNode;" .null ∧ Fld Z h op "com/example/entitygate/entitygate/HtmlNode$Parent" "first" "Lcom/example/entitygate/entitygate/HtmlNode;" (.ref ob) ∧ Fld Z h op "com/example/entitygate/entitygate/HtmlNode$Parent" "last" "Lcom/example/entitygate/entitygate/HtmlNode;" (.ref ob) ∧ Fld Z h ob "com/example/entitygate/entitygate/HtmlNode" "parent" "Lcom/example/entitygate/entitygate/HtmlNode$Parent;" (.ref op) ∧ Fld Z h ob "com/example/entitygate/entitygate/HtmlNode" "previous" "Lcom/example/entitygate/entitygate/HtmlNode;" .null ∧ Fld Z h ob "com/example/entitygate/entitygate/HtmlNode" "next" "Lcom/example/entitygate/entitygate/HtmlNode;" .null ∧ Fld Z h ob "com/example/entitygate/entitygate/HtmlNode$Parent" "first" "Lcom/example/entitygate/entitygate/HtmlNode;" .null ∧ Fld Z h ob "com/example/entitygate/entitygate/HtmlNode$Parent" "last" "Lcom/example/entitygate/entitygate/HtmlNode;" .null
set_option maxRecDepth 65536 in
set_option maxHeartbeats 40000000 in
theorem rm_det20 (l : Launch) (Z : State) (a0 : Array Value) (hw : ∀ d ∈ tables_1, d.before a0 Z = true) (ws : List Jvm.Cond) (op : Addr) (oa : Addr) (ob : Addr) (oc : Addr) (h0 : Heap) (n0 : Nat) (Z0 : n0 ≤ h0.size) (E_op : Exa Z h0 op "com/example/entitygate/entitygate/HtmlNode$Document") (E_oa : Exa Z h0 oa "com/example/entitygate/entitygate/HtmlNode$Document") (E_ob : Exa Z h0 ob "com/example/entitygate/entitygate/HtmlNode$Document") (E_oc : Exa Z h0 oc "com/example/entitygate/entitygate/HtmlNode$Document") (F_op_parent : Fld Z h0 op "com/example/entitygate/entitygate/HtmlNode" "parent" "Lcom/example/entitygate/entitygate/HtmlNode$Parent;" .null) (F_op_previous : Fld Z h0 op "com/example/entitygate/entitygate/HtmlNode" "previous" "Lcom/example/entitygate/entitygate/HtmlNode;" .null) (F_op_next : Fld Z h0 op "com/example/entitygate/entitygate/HtmlNode" "next" "Lcom/example/entitygate/entitygate/HtmlNode;" .null) (F_op_first : Fld Z h0 op "com/example/entitygate/entitygate/HtmlNode$Parent" "first" "Lcom/example/entitygate/entitygate/HtmlNode;" (.ref oa)) (F_op_last : Fld Z h0 op "com/example/entitygate/entitygate/HtmlNode$Parent" "last" "Lcom/example/entitygate/entitygate/HtmlNode;" (.ref ob)) (F_oa_parent : Fld Z h0 oa "com/example/entitygate/entitygate/HtmlNode" "parent" "Lcom/example/entitygate/entitygate/HtmlNode$Parent;" (.ref op)) (F_oa_previous : Fld Z h0 oa "com/example/entitygate/entitygate/HtmlNode" "previous" "Lcom/example/entitygate/entitygate/HtmlNode;" .null) (F_oa_next : Fld Z h0 oa "com/example/entitygate/entitygate/HtmlNode" "next" "Lcom/example/entitygate/entitygate/HtmlNode;" (.ref ob)) (F_oa_first : Fld Z h0 oa "com/example/entitygate/entitygate/HtmlNode$Parent" "first" "Lcom/example/entitygate/entitygate/HtmlNode;" .null) (F_oa_last : Fld Z h0 oa "com/example/entitygate/entitygate/HtmlNode$Parent" "last" "Lcom/example/entitygate/entitygate/HtmlNode;" .null) (F_ob_parent : Fld Z h0 ob "com/example/entitygate/entitygate/HtmlNode" "parent" "Lcom/example/entitygate/entitygate/HtmlNode$Parent;" (.ref op)) (F_ob_previous : Fld Z h0 ob "com/example/entitygate/entitygate/HtmlNode" "previous" "Lcom/example/entitygate/entitygate/HtmlNode;" (.ref oa)) (F_ob_next : Fld Z h0 ob "com/example/entitygate/entitygate/HtmlNode" "next" "Lcom/example/entitygate/entitygate/HtmlNode;" .null) (F_ob_first : Fld Z h0 ob "com/example/entitygate/entitygate/HtmlNode$Parent" "first" "Lcom/example/entitygate/entitygate/HtmlNode;" .null) (F_ob_last : Fld Z h0 ob "com/example/entitygate/entitygate/HtmlNode$Parent" "last" "Lcom/example/entitygate/entitygate/HtmlNode;" .null) (F_oc_parent : Fld Z h0 oc "com/example/entitygate/entitygate/HtmlNode" "parent" "Lcom/example/entitygate/entitygate/HtmlNode$Parent;" .null) (F_oc_previous : Fld Z h0 oc "com/example/entitygate/entitygate/HtmlNode" "previous" "Lcom/example/entitygate/entitygate/HtmlNode;" .null) (F_oc_next : Fld Z h0 oc "com/example/entitygate/entitygate/HtmlNode" "next" "Lcom/example/entitygate/entitygate/HtmlNode;" .null) (F_oc_first : Fld Z h0 oc "com/example/entitygate/entitygate/HtmlNode$Parent" "first" "Lcom/example/entitygate/entitygate/HtmlNode;" .null) (F_oc_last : Fld Z h0 oc "com/example/entitygate/entitygate/HtmlNode$Parent" "last" "Lcom/example/entitygate/entitygate/HtmlNode;" .null) (ne_op_oa : op ≠ oa) (ne_op_ob : op ≠ ob) (ne_op_oc : op ≠ oc) (ne_oa_ob : oa ≠ ob) (ne_oa_oc : oa ≠ oc) (ne_ob_oc : ob ≠ oc) (g_op : n0 ≤ op) (g_oa : n0 ≤ oa) (g_ob : n0 ≤ ob) (g_oc : n0 ≤ oc) :
    MetFree l (⟨"com/example/entitygate/entitygate/HtmlNode", "detach", "()V"⟩ : MethodName) (head1 (Jvm.Cond.code (⟨"com/example/entitygate/entitygate/HtmlNode", "detach", "()V"⟩ : MethodName) prog_14_method_2_code 1 none :: ws) ({ frames := 0, cells := 0, slots := 0, locals := 0 } : Room)) (fun aA U => aA = #[(.ref oa)] ∧ Z.Warmed39 U.vm ∧ U.heap = h0) (fun _ _ _ _ _ => True) (fun _ U oO U' => ∃ vV LL, oO = .returned vV ∧ Q_det20 Z op oa ob oc h0 n0 vV U'.heap LL ∧ FrameEnd U oO U' LL ({ frames := 0, cells := 0, slots := 0, locals := 0 } : Room).cells ({ frames := 0, cells := 0, slots := 0, locals := 0 } : Room).slots) := by
  refine MetFree.of_bodySF (plainFor_of_name pn_0) hisR ?_
  intro p e s m args below meth c s₁ Bd hml0 hP hK
  obtain ⟨rfl, hZ, hh⟩ := hP
  have hx := Bd.exec
  have hby := Bd.bytes
  have hml : c.maxLocals = 1 := hml0
  have hown : s.vm.findClass "com/example/entitygate/entitygate/HtmlNode" = some m.cls := findClass_of_methodNamed Bd.named
  have hnm := (name_of_methodNamed Bd.named Bd.method).1
  have X0 : Stand p l e ({ frames := 0, cells := 0, slots := 0, locals := 0 } : Room) s m #[(.ref oa)] below meth c s₁ [] 0 0 := Stand.of_body Bd
  have e0 : s₁.heap = h0 := by rw [← hh, Bd.state]; rfl
  have N0 := Fr.nil n0
  have hret := Bd.returns
  have hlk : meth.locks = false := Bd.notSynchronized
  refine own_start (ef_0 m oa) ?_
  show own_Go p e below s (Q_det20 Z op oa ob oc h0 n0) ({ frames := 0, cells := 0, slots := 0, locals := 0 } : Room).cells ({ frames := 0, cells := 0, slots := 0, locals := 0 } : Room).slots (s₁.setTop (mkF m 0 #[.val (.ref oa)] []))
  refine g_aload_n X0 hx 1 (hb hby d_prog_14_method_2_0) rfl rfl rfl ?_
  refine own_getF X0 hx hZ hown (host := "") (Or.inl (hw _ (List.mem_of_getElem? (i := 24) rfl))) Via.refl e0 F_oa_parent 4 (hb hby d_prog_14_method_2_1) rfl fun T158 X158 e158 => ?_
  refine g_ifnonnullYes X158 hx 8 (hb hby d_prog_14_method_2_4) (by decide) (by decide) ?_
  refine g_aload_n X158 hx 9 (hb hby d_prog_14_method_2_8) rfl rfl rfl ?_
  refine own_getF X158 hx hZ hown (host := "") (Or.inl (hw _ (List.mem_of_getElem? (i := 58) rfl))) Via.refl e158 F_oa_previous 12 (hb hby d_prog_14_method_2_9) rfl fun T159 X159 e159 => ?_
  refine g_ifnonnullNo X159 hx 15 (hb hby d_prog_14_method_2_12) rfl ?_
  refine g_aload_n X159 hx 16 (hb hby d_prog_14_method_2_15) rfl rfl rfl ?_
  refine own_getF X159 hx hZ hown (host := "") (Or.inl (hw _ (List.mem_of_getElem? (i := 24) rfl))) Via.refl e159 F_oa_parent 19 (hb hby d_prog_14_method_2_16) rfl fun T160 X160 e160 => ?_
  refine g_aload_n X160 hx 20 (hb hby d_prog_14_method_2_19) rfl rfl rfl ?_
  refine own_getF X160 hx hZ hown (host := "") (Or.inl (hw _ (List.mem_of_getElem? (i := 59) rfl))) Via.refl e160 F_oa_next 23 (hb hby d_prog_14_method_2_20) rfl fun T161 X161 e161 => ?_
  refine own_putF X161 hx hZ hown (host := "") (Or.inl (hw _ (List.mem_of_getElem? (i := 62) rfl))) Via.refl e161 F_op_first E_op (Or.inl (hw _ (List.mem_of_getElem? (i := 30) rfl))) (hw _ (List.mem_of_getElem? (i := 1) rfl)) (ty := (.object "com/example/entitygate/entitygate/HtmlNode")) (by decide) rfl rfl 26 (hb hby d_prog_14_method_2_23) rfl fun T162 h162 X162 e162 W162 => ?_
  have f162 : Fld Z h162 op "com/example/entitygate/entitygate/HtmlNode$Parent" "first" "Lcom/example/entitygate/entitygate/HtmlNode;" (.ref ob) := Fld.same W162 F_op_first
  have N162 := Fr.snoc X162 N0 g_op
  have z163 : n0 ≤ h162.size := (Nat.le_trans Z0 (Keep.of_wr W162).1)
  have K164 : Keep h0 h162 [oa, op, ob] := (Keep.refl h0 [oa, op, ob]).wr W162 (Or.inl (List.mem_of_getElem? (i := 1) rfl))
  refine g_goto X162 hx 40 (hb hby d_prog_14_method_2_26) (by decide) (by decide) ?_
  refine g_aload_n X162 hx 41 (hb hby d_prog_14_method_2_40) rfl rfl rfl ?_
  have f165 : Fld Z h162 oa "com/example/entitygate/entitygate/HtmlNode" "next" "Lcom/example/entitygate/entitygate/HtmlNode;" (.ref ob) := (Fld.other W162 F_oa_next (Or.inl (Ne.symm ne_op_oa)))
  refine own_getF X162 hx hZ hown (host := "") (Or.inl (hw _ (List.mem_of_getElem? (i := 59) rfl))) Via.refl e162 f165 44 (hb hby d_prog_14_method_2_41) rfl fun T166 X166 e166 => ?_
  refine g_ifnonnullYes X166 hx 61 (hb hby d_prog_14_method_2_44) (by decide) (by decide) ?_
  refine g_aload_n X166 hx 62 (hb hby d_prog_14_method_2_61) rfl rfl rfl ?_
  refine own_getF X166 hx hZ hown (host := "") (Or.inl (hw _ (List.mem_of_getElem? (i := 59) rfl))) Via.refl e166 f165 65 (hb hby d_prog_14_method_2_62) rfl fun T167 X167 e167 => ?_
  refine g_aload_n X167 hx 66 (hb hby d_prog_14_method_2_65) rfl rfl rfl ?_
  have f168 : Fld Z h162 oa "com/example/entitygate/entitygate/HtmlNode" "previous" "Lcom/example/entitygate/entitygate/HtmlNode;" .null := (Fld.other W162 F_oa_previous (Or.inl (Ne.symm ne_op_oa)))
  refine own_getF X167 hx hZ hown (host := "") (Or.inl (hw _ (List.mem_of_getElem? (i := 58) rfl))) Via.refl e167 f168 69 (hb hby d_prog_14_method_2_66) rfl fun T169 X169 e169 => ?_
  have f170 : Exa Z h162 ob "com/example/entitygate/entitygate/HtmlNode$Document" := (Exa.wr W162 E_ob)
  have f171 : Fld Z h162 ob "com/example/entitygate/entitygate/HtmlNode" "previous" "Lcom/example/entitygate/entitygate/HtmlNode;" (.ref oa) := (Fld.other W162 F_ob_previous (Or.inl (Ne.symm ne_op_ob)))
  refine own_putF X169 hx hZ hown (host := "") (Or.inl (hw _ (List.mem_of_getElem? (i := 58) rfl))) Via.refl e169 f171 f170 (Or.inl (hw _ (List.mem_of_getElem? (i := 40) rfl))) (hw _ (List.mem_of_getElem? (i := 1) rfl)) (ty := (.object "com/example/entitygate/entitygate/HtmlNode")) (by decide) rfl rfl 72 (hb hby d_prog_14_method_2_69) rfl fun T172 h172 X172 e172 W172 => ?_
  have f172 : Fld Z h172 ob "com/example/entitygate/entitygate/HtmlNode" "previous" "Lcom/example/entitygate/entitygate/HtmlNode;" .null := Fld.same W172 f171
  have N172 := Fr.snoc X172 N162 g_ob
  have z173 : n0 ≤ h172.size := (Nat.le_trans z163 (Keep.of_wr W172).1)
  have K174 : Keep h0 h172 [oa, op, ob] := K164.wr W172 (Or.inl (List.mem_of_getElem? (i := 2) rfl))
  refine g_aload_n X172 hx 73 (hb hby d_prog_14_method_2_72) rfl rfl rfl ?_
  refine g_aconst_null X172 hx 74 (hb hby d_prog_14_method_2_73) rfl ?_
  have f175 : Exa Z h172 oa "com/example/entitygate/entitygate/HtmlNode$Document" := (Exa.wr W172 (Exa.wr W162 E_oa))
  have f176 : Fld Z h172 oa "com/example/entitygate/entitygate/HtmlNode" "parent" "Lcom/example/entitygate/entitygate/HtmlNode$Parent;" (.ref op) := (Fld.other W172 (Fld.other W162 F_oa_parent (Or.inl (Ne.symm ne_op_oa))) (Or.inl ne_oa_ob))
  refine own_putF X172 hx hZ hown (host := "") (Or.inl (hw _ (List.mem_of_getElem? (i := 24) rfl))) Via.refl e172 f176 f175 (Or.inl (hw _ (List.mem_of_getElem? (i := 25) rfl))) (hw _ (List.mem_of_getElem? (i := 1) rfl)) (ty := (.object "com/example/entitygate/entitygate/HtmlNode$Parent")) (by decide) rfl rfl 77 (hb hby d_prog_14_method_2_74) rfl fun T177 h177 X177 e177 W177 => ?_
  have f177 : Fld Z h177 oa "com/example/entitygate/entitygate/HtmlNode" "parent" "Lcom/example/entitygate/entitygate/HtmlNode$Parent;" .null := Fld.same W177 f176
  have N177 := Fr.snoc X177 N172 g_oa
  have z178 : n0 ≤ h177.size := (Nat.le_trans z173 (Keep.of_wr W177).1)
  have K179 : Keep h0 h177 [oa, op, ob] := K174.wr W177 (Or.inl (List.mem_of_getElem? (i := 0) rfl))
  refine g_aload_n X177 hx 78 (hb hby d_prog_14_method_2_77) rfl rfl rfl ?_
  refine g_aconst_null X177 hx 79 (hb hby d_prog_14_method_2_78) rfl ?_
  have f180 : Exa Z h177 oa "com/example/entitygate/entitygate/HtmlNode$Document" := (Exa.wr W177 f175)
  have f181 : Fld Z h177 oa "com/example/entitygate/entitygate/HtmlNode" "previous" "Lcom/example/entitygate/entitygate/HtmlNode;" .null := (Fld.other W177 (Fld.other W172 f168 (Or.inl ne_oa_ob)) (Or.inr (slot_ne (Or.inl (hw _ (List.mem_of_getElem? (i := 40) rfl))) (Or.inl (hw _ (List.mem_of_getElem? (i := 25) rfl))) (by decide) (t := (.object "com/example/entitygate/entitygate/HtmlNode")) (t' := (.object "com/example/entitygate/entitygate/HtmlNode$Parent")) (by decide) (by decide))))
  refine own_putF X177 hx hZ hown (host := "") (Or.inl (hw _ (List.mem_of_getElem? (i := 58) rfl))) Via.refl e177 f181 f180 (Or.inl (hw _ (List.mem_of_getElem? (i := 40) rfl))) (hw _ (List.mem_of_getElem? (i := 1) rfl)) (ty := (.object "com/example/entitygate/entitygate/HtmlNode")) (by decide) rfl rfl 82 (hb hby d_prog_14_method_2_79) rfl fun T182 h182 X182 e182 W182 => ?_
  have f182 : Fld Z h182 oa "com/example/entitygate/entitygate/HtmlNode" "previous" "Lcom/example/entitygate/entitygate/HtmlNode;" .null := Fld.same W182 f181
  have N182 := Fr.snoc X182 N177 g_oa
  have z183 : n0 ≤ h182.size := (Nat.le_trans z178 (Keep.of_wr W182).1)
  have K184 : Keep h0 h182 [oa, op, ob] := K179.wr W182 (Or.inl (List.mem_of_getElem? (i := 0) rfl))
  refine g_aload_n X182 hx 83 (hb hby d_prog_14_method_2_82) rfl rfl rfl ?_
  refine g_aconst_null X182 hx 84 (hb hby d_prog_14_method_2_83) rfl ?_
  have f185 : Exa Z h182 oa "com/example/entitygate/entitygate/HtmlNode$Document" := (Exa.wr W182 f180)
  have f186 : Fld Z h182 oa "com/example/entitygate/entitygate/HtmlNode" "next" "Lcom/example/entitygate/entitygate/HtmlNode;" (.ref ob) := (Fld.other W182 (Fld.other W177 (Fld.other W172 f165 (Or.inl ne_oa_ob)) (Or.inr (slot_ne (Or.inl (hw _ (List.mem_of_getElem? (i := 42) rfl))) (Or.inl (hw _ (List.mem_of_getElem? (i := 25) rfl))) (by decide) (t := (.object "com/example/entitygate/entitygate/HtmlNode")) (t' := (.object "com/example/entitygate/entitygate/HtmlNode$Parent")) (by decide) (by decide)))) (Or.inr (slot_ne (Or.inl (hw _ (List.mem_of_getElem? (i := 42) rfl))) (Or.inl (hw _ (List.mem_of_getElem? (i := 40) rfl))) (by decide) (t := (.object "com/example/entitygate/entitygate/HtmlNode")) (t' := (.object "com/example/entitygate/entitygate/HtmlNode")) (by decide) (by decide))))
  refine own_putF X182 hx hZ hown (host := "") (Or.inl (hw _ (List.mem_of_getElem? (i := 59) rfl))) Via.refl e182 f186 f185 (Or.inl (hw _ (List.mem_of_getElem? (i := 42) rfl))) (hw _ (List.mem_of_getElem? (i := 1) rfl)) (ty := (.object "com/example/entitygate/entitygate/HtmlNode")) (by decide) rfl rfl 87 (hb hby d_prog_14_method_2_84) rfl fun T187 h187 X187 e187 W187 => ?_
  have f187 : Fld Z h187 oa "com/example/entitygate/entitygate/HtmlNode" "next" "Lcom/example/entitygate/entitygate/HtmlNode;" .null := Fld.same W187 f186
  have N187 := Fr.snoc X187 N182 g_oa
  have z188 : n0 ≤ h187.size := (Nat.le_trans z183 (Keep.of_wr W187).1)
  have K189 : Keep h0 h187 [oa, op, ob] := K184.wr W187 (Or.inl (List.mem_of_getElem? (i := 0) rfl))
  have f190 : Fld Z h187 oa "com/example/entitygate/entitygate/HtmlNode" "parent" "Lcom/example/entitygate/entitygate/HtmlNode$Parent;" .null := (Fld.other W187 (Fld.other W182 f177 (Or.inr (slot_ne (Or.inl (hw _ (List.mem_of_getElem? (i := 25) rfl))) (Or.inl (hw _ (List.mem_of_getElem? (i := 40) rfl))) (by decide) (t := (.object "com/example/entitygate/entitygate/HtmlNode$Parent")) (t' := (.object "com/example/entitygate/entitygate/HtmlNode")) (by decide) (by decide)))) (Or.inr (slot_ne (Or.inl (hw _ (List.mem_of_getElem? (i := 25) rfl))) (Or.inl (hw _ (List.mem_of_getElem? (i := 42) rfl))) (by decide) (t := (.object "com/example/entitygate/entitygate/HtmlNode$Parent")) (t' := (.object "com/example/entitygate/entitygate/HtmlNode")) (by decide) (by decide))))
  have f191 : Fld Z h187 oa "com/example/entitygate/entitygate/HtmlNode" "previous" "Lcom/example/entitygate/entitygate/HtmlNode;" .null := (Fld.other W187 f182 (Or.inr (slot_ne (Or.inl (hw _ (List.mem_of_getElem? (i := 40) rfl))) (Or.inl (hw _ (List.mem_of_getElem? (i := 42) rfl))) (by decide) (t := (.object "com/example/entitygate/entitygate/HtmlNode")) (t' := (.object "com/example/entitygate/entitygate/HtmlNode")) (by decide) (by decide))))
  have f192 : Fld Z h187 oa "com/example/entitygate/entitygate/HtmlNode$Parent" "first" "Lcom/example/entitygate/entitygate/HtmlNode;" .null := (Fld.other W187 (Fld.other W182 (Fld.other W177 (Fld.other W172 (Fld.other W162 F_oa_first (Or.inl (Ne.symm ne_op_oa))) (Or.inl ne_oa_ob)) (Or.inr (slot_ne (Or.inl (hw _ (List.mem_of_getElem? (i := 30) rfl))) (Or.inl (hw _ (List.mem_of_getElem? (i := 25) rfl))) (by decide) (t := (.object "com/example/entitygate/entitygate/HtmlNode")) (t' := (.object "com/example/entitygate/entitygate/HtmlNode$Parent")) (by decide) (by decide)))) (Or.inr (slot_ne (Or.inl (hw _ (List.mem_of_getElem? (i := 30) rfl))) (Or.inl (hw _ (List.mem_of_getElem? (i := 40) rfl))) (by decide) (t := (.object "com/example/entitygate/entitygate/HtmlNode")) (t' := (.object "com/example/entitygate/entitygate/HtmlNode")) (by decide) (by decide)))) (Or.inr (slot_ne (Or.inl (hw _ (List.mem_of_getElem? (i := 30) rfl))) (Or.inl (hw _ (List.mem_of_getElem? (i := 42) rfl))) (by decide) (t := (.object "com/example/entitygate/entitygate/HtmlNode")) (t' := (.object "com/example/entitygate/entitygate/HtmlNode")) (by decide) (by decide))))
  have f193 : Fld Z h187 oa "com/example/entitygate/entitygate/HtmlNode$Parent" "last" "Lcom/example/entitygate/entitygate/HtmlNode;" .null := (Fld.other W187 (Fld.other W182 (Fld.other W177 (Fld.other W172 (Fld.other W162 F_oa_last (Or.inl (Ne.symm ne_op_oa))) (Or.inl ne_oa_ob)) (Or.inr (slot_ne (Or.inl (hw _ (List.mem_of_getElem? (i := 33) rfl))) (Or.inl (hw _ (List.mem_of_getElem? (i := 25) rfl))) (by decide) (t := (.object "com/example/entitygate/entitygate/HtmlNode")) (t' := (.object "com/example/entitygate/entitygate/HtmlNode$Parent")) (by decide) (by decide)))) (Or.inr (slot_ne (Or.inl (hw _ (List.mem_of_getElem? (i := 33) rfl))) (Or.inl (hw _ (List.mem_of_getElem? (i := 40) rfl))) (by decide) (t := (.object "com/example/entitygate/entitygate/HtmlNode")) (t' := (.object "com/example/entitygate/entitygate/HtmlNode")) (by decide) (by decide)))) (Or.inr (slot_ne (Or.inl (hw _ (List.mem_of_getElem? (i := 33) rfl))) (Or.inl (hw _ (List.mem_of_getElem? (i := 42) rfl))) (by decide) (t := (.object "com/example/entitygate/entitygate/HtmlNode")) (t' := (.object "com/example/entitygate/entitygate/HtmlNode")) (by decide) (by decide))))
  have f194 : Fld Z h187 op "com/example/entitygate/entitygate/HtmlNode" "parent" "Lcom/example/entitygate/entitygate/HtmlNode$Parent;" .null := (Fld.other W187 (Fld.other W182 (Fld.other W177 (Fld.other W172 (Fld.other W162 F_op_parent (Or.inr (slot_ne (Or.inl (hw _ (List.mem_of_getElem? (i := 25) rfl))) (Or.inl (hw _ (List.mem_of_getElem? (i := 30) rfl))) (by decide) (t := (.object "com/example/entitygate/entitygate/HtmlNode$Parent")) (t' := (.object "com/example/entitygate/entitygate/HtmlNode")) (by decide) (by decide)))) (Or.inl ne_op_ob)) (Or.inl ne_op_oa)) (Or.inl ne_op_oa)) (Or.inl ne_op_oa))
  have f195 : Fld Z h187 op "com/example/entitygate/entitygate/HtmlNode" "previous" "Lcom/example/entitygate/entitygate/HtmlNode;" .null := (Fld.other W187 (Fld.other W182 (Fld.other W177 (Fld.other W172 (Fld.other W162 F_op_previous (Or.inr (slot_ne (Or.inl (hw _ (List.mem_of_getElem? (i := 40) rfl))) (Or.inl (hw _ (List.mem_of_getElem? (i := 30) rfl))) (by decide) (t := (.object "com/example/entitygate/entitygate/HtmlNode")) (t' := (.object "com/example/entitygate/entitygate/HtmlNode")) (by decide) (by decide)))) (Or.inl ne_op_ob)) (Or.inl ne_op_oa)) (Or.inl ne_op_oa)) (Or.inl ne_op_oa))
  have f196 : Fld Z h187 op "com/example/entitygate/entitygate/HtmlNode" "next" "Lcom/example/entitygate/entitygate/HtmlNode;" .null := (Fld.other W187 (Fld.other W182 (Fld.other W177 (Fld.other W172 (Fld.other W162 F_op_next (Or.inr (slot_ne (Or.inl (hw _ (List.mem_of_getElem? (i := 42) rfl))) (Or.inl (hw _ (List.mem_of_getElem? (i := 30) rfl))) (by decide) (t := (.object "com/example/entitygate/entitygate/HtmlNode")) (t' := (.object "com/example/entitygate/entitygate/HtmlNode")) (by decide) (by decide)))) (Or.inl ne_op_ob)) (Or.inl ne_op_oa)) (Or.inl ne_op_oa)) (Or.inl ne_op_oa))
  have f197 : Fld Z h187 op "com/example/entitygate/entitygate/HtmlNode$Parent" "first" "Lcom/example/entitygate/entitygate/HtmlNode;" (.ref ob) := (Fld.other W187 (Fld.other W182 (Fld.other W177 (Fld.other W172 f162 (Or.inl ne_op_ob)) (Or.inl ne_op_oa)) (Or.inl ne_op_oa)) (Or.inl ne_op_oa))
  have f198 : Fld Z h187 op "com/example/entitygate/entitygate/HtmlNode$Parent" "last" "Lcom/example/entitygate/entitygate/HtmlNode;" (.ref ob) := (Fld.other W187 (Fld.other W182 (Fld.other W177 (Fld.other W172 (Fld.other W162 F_op_last (Or.inr (slot_ne (Or.inl (hw _ (List.mem_of_getElem? (i := 33) rfl))) (Or.inl (hw _ (List.mem_of_getElem? (i := 30) rfl))) (by decide) (t := (.object "com/example/entitygate/entitygate/HtmlNode")) (t' := (.object "com/example/entitygate/entitygate/HtmlNode")) (by decide) (by decide)))) (Or.inl ne_op_ob)) (Or.inl ne_op_oa)) (Or.inl ne_op_oa)) (Or.inl ne_op_oa))
  have f199 : Fld Z h187 ob "com/example/entitygate/entitygate/HtmlNode" "parent" "Lcom/example/entitygate/entitygate/HtmlNode$Parent;" (.ref op) := (Fld.other W187 (Fld.other W182 (Fld.other W177 (Fld.other W172 (Fld.other W162 F_ob_parent (Or.inl (Ne.symm ne_op_ob))) (Or.inr (slot_ne (Or.inl (hw _ (List.mem_of_getElem? (i := 25) rfl))) (Or.inl (hw _ (List.mem_of_getElem? (i := 40) rfl))) (by decide) (t := (.object "com/example/entitygate/entitygate/HtmlNode$Parent")) (t' := (.object "com/example/entitygate/entitygate/HtmlNode")) (by decide) (by decide)))) (Or.inl (Ne.symm ne_oa_ob))) (Or.inl (Ne.symm ne_oa_ob))) (Or.inl (Ne.symm ne_oa_ob)))
  have f200 : Fld Z h187 ob "com/example/entitygate/entitygate/HtmlNode" "previous" "Lcom/example/entitygate/entitygate/HtmlNode;" .null := (Fld.other W187 (Fld.other W182 (Fld.other W177 f172 (Or.inl (Ne.symm ne_oa_ob))) (Or.inl (Ne.symm ne_oa_ob))) (Or.inl (Ne.symm ne_oa_ob)))
  have f201 : Fld Z h187 ob "com/example/entitygate/entitygate/HtmlNode" "next" "Lcom/example/entitygate/entitygate/HtmlNode;" .null := (Fld.other W187 (Fld.other W182 (Fld.other W177 (Fld.other W172 (Fld.other W162 F_ob_next (Or.inl (Ne.symm ne_op_ob))) (Or.inr (slot_ne (Or.inl (hw _ (List.mem_of_getElem? (i := 42) rfl))) (Or.inl (hw _ (List.mem_of_getElem? (i := 40) rfl))) (by decide) (t := (.object "com/example/entitygate/entitygate/HtmlNode")) (t' := (.object "com/example/entitygate/entitygate/HtmlNode")) (by decide) (by decide)))) (Or.inl (Ne.symm ne_oa_ob))) (Or.inl (Ne.symm ne_oa_ob))) (Or.inl (Ne.symm ne_oa_ob)))
  have f202 : Fld Z h187 ob "com/example/entitygate/entitygate/HtmlNode$Parent" "first" "Lcom/example/entitygate/entitygate/HtmlNode;" .null := (Fld.other W187 (Fld.other W182 (Fld.other W177 (Fld.other W172 (Fld.other W162 F_ob_first (Or.inl (Ne.symm ne_op_ob))) (Or.inr (slot_ne (Or.inl (hw _ (List.mem_of_getElem? (i := 30) rfl))) (Or.inl (hw _ (List.mem_of_getElem? (i := 40) rfl))) (by decide) (t := (.object "com/example/entitygate/entitygate/HtmlNode")) (t' := (.object "com/example/entitygate/entitygate/HtmlNode")) (by decide) (by decide)))) (Or.inl (Ne.symm ne_oa_ob))) (Or.inl (Ne.symm ne_oa_ob))) (Or.inl (Ne.symm ne_oa_ob)))
  have f203 : Fld Z h187 ob "com/example/entitygate/entitygate/HtmlNode$Parent" "last" "Lcom/example/entitygate/entitygate/HtmlNode;" .null := (Fld.other W187 (Fld.other W182 (Fld.other W177 (Fld.other W172 (Fld.other W162 F_ob_last (Or.inl (Ne.symm ne_op_ob))) (Or.inr (slot_ne (Or.inl (hw _ (List.mem_of_getElem? (i := 33) rfl))) (Or.inl (hw _ (List.mem_of_getElem? (i := 40) rfl))) (by decide) (t := (.object "com/example/entitygate/entitygate/HtmlNode")) (t' := (.object "com/example/entitygate/entitygate/HtmlNode")) (by decide) (by decide)))) (Or.inl (Ne.symm ne_oa_ob))) (Or.inl (Ne.symm ne_oa_ob))) (Or.inl (Ne.symm ne_oa_ob)))
  refine own_retV X187 hx hlk hret (hb hby d_prog_14_method_2_87) ?_ (by decide) (by decide)
  rw [e187]
  exact ⟨rfl, N187, K189, f190, f191, f187, f192, f193, f194, f195, f196, f197, f198, f199, f200, f201, f202, f203⟩
theorem d_prog_14_method_2_29 : decode prog_14_method_2_code 29 = .ok (.aload_n 0, 1) := by decide +kernel
theorem d_prog_14_method_2_30 : decode prog_14_method_2_code 30 = .ok (.getfield 13, 3) := by decide +kernel
theorem d_prog_14_method_2_33 : decode prog_14_method_2_code 33 = .ok (.aload_n 0, 1) := by decide +kernel
theorem d_prog_14_method_2_34 : decode prog_14_method_2_code 34 = .ok (.getfield 17, 3) := by decide +kernel
theorem d_prog_14_method_2_37 : decode prog_14_method_2_code 37 = .ok (.putfield 17, 3) := by decide +kernel
def Q_det21 (Z : State) (op : Addr) (oa : Addr) (ob : Addr) (oc : Addr) (h0 : Heap) (n0 : Nat) (v : Option Value) (h : Heap) (L : List Loc) : Prop := v = none ∧ Fr n0 L ∧ Keep h0 h [ob, oa, op] ∧ Fld Z h ob "com/example/entitygate/entitygate/HtmlNode" "parent" "Lcom/example/entitygate/entitygate/HtmlNode$Parent;" .null ∧ Fld Z h ob "com/example/entitygate/entitygate/HtmlNode" "previous" "Lcom/example/entitygate/entitygate/HtmlNode;" .null ∧ Fld Z h ob "com/example/entitygate/entitygate/HtmlNode" "next" "Lcom/example/entitygate/entitygate/HtmlNode;" .null ∧ Fld Z h ob "com/example/entitygate/entitygate/HtmlNode$Parent" "first" "Lcom/example/entitygate/entitygate/HtmlNode;" .null ∧ Fld Z h ob "com/example/entitygate/entitygate/HtmlNode$Parent" "last" "Lcom/example/entitygate/entitygate/HtmlNode;" .null ∧ Fld Z h oa "com/example/entitygate/entitygate/HtmlNode" "parent" "Lcom/example/entitygate/entitygate/HtmlNode$Parent;" (.ref op) ∧ Fld Z h oa "com/example/entitygate/entitygate/HtmlNode" "previous" "Lcom/example/entitygate/entitygate/HtmlNode;" .null ∧ Fld Z h oa "com/example/entitygate/entitygate/HtmlNode" "next" "Lcom/example/entitygate/entitygate/HtmlNode;" .null ∧ Fld Z h oa "com/example/entitygate/entitygate/HtmlNode$Parent" "first" "Lcom/example/entitygate/entitygate/HtmlNode;" .null ∧ Fld Z h oa "com/example/entitygate/entitygate/HtmlNode$Parent" "last" "Lcom/example/entitygate/entitygate/HtmlNode;" .null ∧ Fld Z h op "com/example/entitygate/entitygate/HtmlNode" "parent" "Lcom/example/entitygate/entitygate/HtmlNode$Parent;" .null ∧ Fld Z h op "com/example/entitygate/entitygate/HtmlNode" "previous" "Lcom/example/entitygate/entitygate/HtmlNode;" .null ∧ Fld Z h op "com/example/entitygate/entitygate/HtmlNode" "next" "Lcom/example/entitygate/entitygate/HtmlNode;" .null ∧ Fld Z h op "com/example/entitygate/entitygate/HtmlNode$Parent" "first" "Lcom/example/entitygate/entitygate/HtmlNode;" (.ref oa) ∧ Fld Z h op "com/example/entitygate/entitygate/HtmlNode$Parent" "last" "Lcom/example/entitygate/entitygate/HtmlNode;" (.ref oa)
set_option maxRecDepth 65536 in
set_option maxHeartbeats 40000000 in
theorem rm_det21 (l : Launch) (Z : State) (a0 : Array Value) (hw : ∀ d ∈ tables_1, d.before a0 Z = true) (ws : List Jvm.Cond) (op : Addr) (oa : Addr) (ob : Addr) (oc : Addr) (h0 : Heap) (n0 : Nat) (Z0 : n0 ≤ h0.size) (E_op : Exa Z h0 op "com/example/entitygate/entitygate/HtmlNode$Document") (E_oa : Exa Z h0 oa "com/example/entitygate/entitygate/HtmlNode$Document") (E_ob : Exa Z h0 ob "com/example/entitygate/entitygate/HtmlNode$Document") (E_oc : Exa Z h0 oc "com/example/entitygate/entitygate/HtmlNode$Document") (F_op_parent : Fld Z h0 op "com/example/entitygate/entitygate/HtmlNode" "parent" "Lcom/example/entitygate/entitygate/HtmlNode$Parent;" .null) (F_op_previous : Fld Z h0 op "com/example/entitygate/entitygate/HtmlNode" "previous" "Lcom/example/entitygate/entitygate/HtmlNode;" .null) (F_op_next : Fld Z h0 op "com/example/entitygate/entitygate/HtmlNode" "next" "Lcom/example/entitygate/entitygate/HtmlNode;" .null) (F_op_first : Fld Z h0 op "com/example/entitygate/entitygate/HtmlNode$Parent" "first" "Lcom/example/entitygate/entitygate/HtmlNode;" (.ref oa)) (F_op_last : Fld Z h0 op "com/example/entitygate/entitygate/HtmlNode$Parent" "last" "Lcom/example/entitygate/entitygate/HtmlNode;" (.ref ob)) (F_oa_parent : Fld Z h0 oa "com/example/entitygate/entitygate/HtmlNode" "parent" "Lcom/example/entitygate/entitygate/HtmlNode$Parent;" (.ref op)) (F_oa_previous : Fld Z h0 oa "com/example/entitygate/entitygate/HtmlNode" "previous" "Lcom/example/entitygate/entitygate/HtmlNode;" .null) (F_oa_next : Fld Z h0 oa "com/example/entitygate/entitygate/HtmlNode" "next" "Lcom/example/entitygate/entitygate/HtmlNode;" (.ref ob)) (F_oa_first : Fld Z h0 oa "com/example/entitygate/entitygate/HtmlNode$Parent" "first" "Lcom/example/entitygate/entitygate/HtmlNode;" .null) (F_oa_last : Fld Z h0 oa "com/example/entitygate/entitygate/HtmlNode$Parent" "last" "Lcom/example/entitygate/entitygate/HtmlNode;" .null) (F_ob_parent : Fld Z h0 ob "com/example/entitygate/entitygate/HtmlNode" "parent" "Lcom/example/entitygate/entitygate/HtmlNode$Parent;" (.ref op)) (F_ob_previous : Fld Z h0 ob "com/example/entitygate/entitygate/HtmlNode" "previous" "Lcom/example/entitygate/entitygate/HtmlNode;" (.ref oa)) (F_ob_next : Fld Z h0 ob "com/example/entitygate/entitygate/HtmlNode" "next" "Lcom/example/entitygate/entitygate/HtmlNode;" .null) (F_ob_first : Fld Z h0 ob "com/example/entitygate/entitygate/HtmlNode$Parent" "first" "Lcom/example/entitygate/entitygate/HtmlNode;" .null) (F_ob_last : Fld Z h0 ob "com/example/entitygate/entitygate/HtmlNode$Parent" "last" "Lcom/example/entitygate/entitygate/HtmlNode;" .null) (F_oc_parent : Fld Z h0 oc "com/example/entitygate/entitygate/HtmlNode" "parent" "Lcom/example/entitygate/entitygate/HtmlNode$Parent;" .null) (F_oc_previous : Fld Z h0 oc "com/example/entitygate/entitygate/HtmlNode" "previous" "Lcom/example/entitygate/entitygate/HtmlNode;" .null) (F_oc_next : Fld Z h0 oc "com/example/entitygate/entitygate/HtmlNode" "next" "Lcom/example/entitygate/entitygate/HtmlNode;" .null) (F_oc_first : Fld Z h0 oc "com/example/entitygate/entitygate/HtmlNode$Parent" "first" "Lcom/example/entitygate/entitygate/HtmlNode;" .null) (F_oc_last : Fld Z h0 oc "com/example/entitygate/entitygate/HtmlNode$Parent" "last" "Lcom/example/entitygate/entitygate/HtmlNode;" .null) (ne_op_oa : op ≠ oa) (ne_op_ob : op ≠ ob) (ne_op_oc : op ≠ oc) (ne_oa_ob : oa ≠ ob) (ne_oa_oc : oa ≠ oc) (ne_ob_oc : ob ≠ oc) (g_op : n0 ≤ op) (g_oa : n0 ≤ oa) (g_ob : n0 ≤ ob) (g_oc : n0 ≤ oc) :
    MetFree l (⟨"com/example/entitygate/entitygate/HtmlNode", "detach", "()V"⟩ : MethodName) (head1 (Jvm.Cond.code (⟨"com/example/entitygate/entitygate/HtmlNode", "detach", "()V"⟩ : MethodName) prog_14_method_2_code 1 none :: ws) ({ frames := 0, cells := 0, slots := 0, locals := 0 } : Room)) (fun aA U => aA = #[(.ref ob)] ∧ Z.Warmed39 U.vm ∧ U.heap = h0) (fun _ _ _ _ _ => True) (fun _ U oO U' => ∃ vV LL, oO = .returned vV ∧ Q_det21 Z op oa ob oc h0 n0 vV U'.heap LL ∧ FrameEnd U oO U' LL ({ frames := 0, cells := 0, slots := 0, locals := 0 } : Room).cells ({ frames := 0, cells := 0, slots := 0, locals := 0 } : Room).slots) := by
  refine MetFree.of_bodySF (plainFor_of_name pn_0) hisR ?_
  intro p e s m args below meth c s₁ Bd hml0 hP hK
  obtain ⟨rfl, hZ, hh⟩ := hP
  have hx := Bd.exec
  have hby := Bd.bytes
  have hml : c.maxLocals = 1 := hml0
  have hown : s.vm.findClass "com/example/entitygate/entitygate/HtmlNode" = some m.cls := findClass_of_methodNamed Bd.named
  have hnm := (name_of_methodNamed Bd.named Bd.method).1
  have X0 : Stand p l e ({ frames := 0, cells := 0, slots := 0, locals := 0 } : Room) s m #[(.ref ob)] below meth c s₁ [] 0 0 := Stand.of_body Bd
  have e0 : s₁.heap = h0 := by rw [← hh, Bd.state]; rfl
  have N0 := Fr.nil n0
  have hret := Bd.returns
  have hlk : meth.locks = false := Bd.notSynchronized
  refine own_start (ef_0 m ob) ?_
  show own_Go p e below s (Q_det21 Z op oa ob oc h0 n0) ({ frames := 0, cells := 0, slots := 0, locals := 0 } : Room).cells ({ frames := 0, cells := 0, slots := 0, locals := 0 } : Room).slots (s₁.setTop (mkF m 0 #[.val (.ref ob)] []))
  refine g_aload_n X0 hx 1 (hb hby d_prog_14_method_2_0) rfl rfl rfl ?_
  refine own_getF X0 hx hZ hown (host := "") (Or.inl (hw _ (List.mem_of_getElem? (i := 24) rfl))) Via.refl e0 F_ob_parent 4 (hb hby d_prog_14_method_2_1) rfl fun T204 X204 e204 => ?_
  refine g_ifnonnullYes X204 hx 8 (hb hby d_prog_14_method_2_4) (by decide) (by decide) ?_
  refine g_aload_n X204 hx 9 (hb hby d_prog_14_method_2_8) rfl rfl rfl ?_
  refine own_getF X204 hx hZ hown (host := "") (Or.inl (hw _ (List.mem_of_getElem? (i := 58) rfl))) Via.refl e204 F_ob_previous 12 (hb hby d_prog_14_method_2_9) rfl fun T205 X205 e205 => ?_
  refine g_ifnonnullYes X205 hx 29 (hb hby d_prog_14_method_2_12) (by decide) (by decide) ?_
  refine g_aload_n X205 hx 30 (hb hby d_prog_14_method_2_29) rfl rfl rfl ?_
  refine own_getF X205 hx hZ hown (host := "") (Or.inl (hw _ (List.mem_of_getElem? (i := 58) rfl))) Via.refl e205 F_ob_previous 33 (hb hby d_prog_14_method_2_30) rfl fun T206 X206 e206 => ?_
  refine g_aload_n X206 hx 34 (hb hby d_prog_14_method_2_33) rfl rfl rfl ?_
  refine own_getF X206 hx hZ hown (host := "") (Or.inl (hw _ (List.mem_of_getElem? (i := 59) rfl))) Via.refl e206 F_ob_next 37 (hb hby d_prog_14_method_2_34) rfl fun T207 X207 e207 => ?_
  refine own_putF X207 hx hZ hown (host := "") (Or.inl (hw _ (List.mem_of_getElem? (i := 59) rfl))) Via.refl e207 F_oa_next E_oa (Or.inl (hw _ (List.mem_of_getElem? (i := 42) rfl))) (hw _ (List.mem_of_getElem? (i := 1) rfl)) (ty := (.object "com/example/entitygate/entitygate/HtmlNode")) (by decide) rfl rfl 40 (hb hby d_prog_14_method_2_37) rfl fun T208 h208 X208 e208 W208 => ?_
  have f208 : Fld Z h208 oa "com/example/entitygate/entitygate/HtmlNode" "next" "Lcom/example/entitygate/entitygate/HtmlNode;" .null := Fld.same W208 F_oa_next
  have N208 := Fr.snoc X208 N0 g_oa
  have z209 : n0 ≤ h208.size := (Nat.le_trans Z0 (Keep.of_wr W208).1)
  have K210 : Keep h0 h208 [ob, oa, op] := (Keep.refl h0 [ob, oa, op]).wr W208 (Or.inl (List.mem_of_getElem? (i := 1) rfl))
  refine g_aload_n X208 hx 41 (hb hby d_prog_14_method_2_40) rfl rfl rfl ?_
  have f211 : Fld Z h208 ob "com/example/entitygate/entitygate/HtmlNode" "next" "Lcom/example/entitygate/entitygate/HtmlNode;" .null := (Fld.other W208 F_ob_next (Or.inl (Ne.symm ne_oa_ob)))
  refine own_getF X208 hx hZ hown (host := "") (Or.inl (hw _ (List.mem_of_getElem? (i := 59) rfl))) Via.refl e208 f211 44 (hb hby d_prog_14_method_2_41) rfl fun T212 X212 e212 => ?_
  refine g_ifnonnullNo X212 hx 47 (hb hby d_prog_14_method_2_44) rfl ?_
  refine g_aload_n X212 hx 48 (hb hby d_prog_14_method_2_47) rfl rfl rfl ?_
  have f213 : Fld Z h208 ob "com/example/entitygate/entitygate/HtmlNode" "parent" "Lcom/example/entitygate/entitygate/HtmlNode$Parent;" (.ref op) := (Fld.other W208 F_ob_parent (Or.inl (Ne.symm ne_oa_ob)))
  refine own_getF X212 hx hZ hown (host := "") (Or.inl (hw _ (List.mem_of_getElem? (i := 24) rfl))) Via.refl e212 f213 51 (hb hby d_prog_14_method_2_48) rfl fun T214 X214 e214 => ?_
  refine g_aload_n X214 hx 52 (hb hby d_prog_14_method_2_51) rfl rfl rfl ?_
  have f215 : Fld Z h208 ob "com/example/entitygate/entitygate/HtmlNode" "previous" "Lcom/example/entitygate/entitygate/HtmlNode;" (.ref oa) := (Fld.other W208 F_ob_previous (Or.inl (Ne.symm ne_oa_ob)))
  refine own_getF X214 hx hZ hown (host := "") (Or.inl (hw _ (List.mem_of_getElem? (i := 58) rfl))) Via.refl e214 f215 55 (hb hby d_prog_14_method_2_52) rfl fun T216 X216 e216 => ?_
  have f217 : Exa Z h208 op "com/example/entitygate/entitygate/HtmlNode$Document" := (Exa.wr W208 E_op)
  have f218 : Fld Z h208 op "com/example/entitygate/entitygate/HtmlNode$Parent" "last" "Lcom/example/entitygate/entitygate/HtmlNode;" (.ref ob) := (Fld.other W208 F_op_last (Or.inl ne_op_oa))
  refine own_putF X216 hx hZ hown (host := "") (Or.inl (hw _ (List.mem_of_getElem? (i := 60) rfl))) Via.refl e216 f218 f217 (Or.inl (hw _ (List.mem_of_getElem? (i := 33) rfl))) (hw _ (List.mem_of_getElem? (i := 1) rfl)) (ty := (.object "com/example/entitygate/entitygate/HtmlNode")) (by decide) rfl rfl 58 (hb hby d_prog_14_method_2_55) rfl fun T219 h219 X219 e219 W219 => ?_
  have f219 : Fld Z h219 op "com/example/entitygate/entitygate/HtmlNode$Parent" "last" "Lcom/example/entitygate/entitygate/HtmlNode;" (.ref oa) := Fld.same W219 f218
  have N219 := Fr.snoc X219 N208 g_op
  have z220 : n0 ≤ h219.size := (Nat.le_trans z209 (Keep.of_wr W219).1)
  have K221 : Keep h0 h219 [ob, oa, op] := K210.wr W219 (Or.inl (List.mem_of_getElem? (i := 2) rfl))
  refine g_goto X219 hx 72 (hb hby d_prog_14_method_2_58) (by decide) (by decide) ?_
  refine g_aload_n X219 hx 73 (hb hby d_prog_14_method_2_72) rfl rfl rfl ?_
  refine g_aconst_null X219 hx 74 (hb hby d_prog_14_method_2_73) rfl ?_
  have f222 : Exa Z h219 ob "com/example/entitygate/entitygate/HtmlNode$Document" := (Exa.wr W219 (Exa.wr W208 E_ob))
  have f223 : Fld Z h219 ob "com/example/entitygate/entitygate/HtmlNode" "parent" "Lcom/example/entitygate/entitygate/HtmlNode$Parent;" (.ref op) := (Fld.other W219 f213 (Or.inl (Ne.symm ne_op_ob)))
  refine own_putF X219 hx hZ hown (host := "") (Or.inl (hw _ (List.mem_of_getElem? (i := 24) rfl))) Via.refl e219 f223 f222 (Or.inl (hw _ (List.mem_of_getElem? (i := 25) rfl))) (hw _ (List.mem_of_getElem? (i := 1) rfl)) (ty := (.object "com/example/entitygate/entitygate/HtmlNode$Parent")) (by decide) rfl rfl 77 (hb hby d_prog_14_method_2_74) rfl fun T224 h224 X224 e224 W224 => ?_
  have f224 : Fld Z h224 ob "com/example/entitygate/entitygate/HtmlNode" "parent" "Lcom/example/entitygate/entitygate/HtmlNode$Parent;" .null := Fld.same W224 f223
  have N224 := Fr.snoc X224 N219 g_ob
  have z225 : n0 ≤ h224.size := (Nat.le_trans z220 (Keep.of_wr W224).1)
  have K226 : Keep h0 h224 [ob, oa, op] := K221.wr W224 (Or.inl (List.mem_of_getElem? (i := 0) rfl))
  refine g_aload_n X224 hx 78 (hb hby d_prog_14_method_2_77) rfl rfl rfl ?_
  refine g_aconst_null X224 hx 79 (hb hby d_prog_14_method_2_78) rfl ?_
  have f227 : Exa Z h224 ob "com/example/entitygate/entitygate/HtmlNode$Document" := (Exa.wr W224 f222)
  have f228 : Fld Z h224 ob "com/example/entitygate/entitygate/HtmlNode" "previous" "Lcom/example/entitygate/entitygate/HtmlNode;" (.ref oa) := (Fld.other W224 (Fld.other W219 f215 (Or.inl (Ne.symm ne_op_ob))) (Or.inr (slot_ne (Or.inl (hw _ (List.mem_of_getElem? (i := 40) rfl))) (Or.inl (hw _ (List.mem_of_getElem? (i := 25) rfl))) (by decide) (t := (.object "com/example/entitygate/entitygate/HtmlNode")) (t' := (.object "com/example/entitygate/entitygate/HtmlNode$Parent")) (by decide) (by decide))))
  refine own_putF X224 hx hZ hown (host := "") (Or.inl (hw _ (List.mem_of_getElem? (i := 58) rfl))) Via.refl e224 f228 f227 (Or.inl (hw _ (List.mem_of_getElem? (i := 40) rfl))) (hw _ (List.mem_of_getElem? (i := 1) rfl)) (ty := (.object "com/example/entitygate/entitygate/HtmlNode")) (by decide) rfl rfl 82 (hb hby d_prog_14_method_2_79) rfl fun T229 h229 X229 e229 W229 => ?_
  have f229 : Fld Z h229 ob "com/example/entitygate/entitygate/HtmlNode" "previous" "Lcom/example/entitygate/entitygate/HtmlNode;" .null := Fld.same W229 f228
  have N229 := Fr.snoc X229 N224 g_ob
  have z230 : n0 ≤ h229.size := (Nat.le_trans z225 (Keep.of_wr W229).1)
  have K231 : Keep h0 h229 [ob, oa, op] := K226.wr W229 (Or.inl (List.mem_of_getElem? (i := 0) rfl))
  refine g_aload_n X229 hx 83 (hb hby d_prog_14_method_2_82) rfl rfl rfl ?_
  refine g_aconst_null X229 hx 84 (hb hby d_prog_14_method_2_83) rfl ?_
  have f232 : Exa Z h229 ob "com/example/entitygate/entitygate/HtmlNode$Document" := (Exa.wr W229 f227)
  have f233 : Fld Z h229 ob "com/example/entitygate/entitygate/HtmlNode" "next" "Lcom/example/entitygate/entitygate/HtmlNode;" .null := (Fld.other W229 (Fld.other W224 (Fld.other W219 f211 (Or.inl (Ne.symm ne_op_ob))) (Or.inr (slot_ne (Or.inl (hw _ (List.mem_of_getElem? (i := 42) rfl))) (Or.inl (hw _ (List.mem_of_getElem? (i := 25) rfl))) (by decide) (t := (.object "com/example/entitygate/entitygate/HtmlNode")) (t' := (.object "com/example/entitygate/entitygate/HtmlNode$Parent")) (by decide) (by decide)))) (Or.inr (slot_ne (Or.inl (hw _ (List.mem_of_getElem? (i := 42) rfl))) (Or.inl (hw _ (List.mem_of_getElem? (i := 40) rfl))) (by decide) (t := (.object "com/example/entitygate/entitygate/HtmlNode")) (t' := (.object "com/example/entitygate/entitygate/HtmlNode")) (by decide) (by decide))))
  refine own_putF X229 hx hZ hown (host := "") (Or.inl (hw _ (List.mem_of_getElem? (i := 59) rfl))) Via.refl e229 f233 f232 (Or.inl (hw _ (List.mem_of_getElem? (i := 42) rfl))) (hw _ (List.mem_of_getElem? (i := 1) rfl)) (ty := (.object "com/example/entitygate/entitygate/HtmlNode")) (by decide) rfl rfl 87 (hb hby d_prog_14_method_2_84) rfl fun T234 h234 X234 e234 W234 => ?_
  have f234 : Fld Z h234 ob "com/example/entitygate/entitygate/HtmlNode" "next" "Lcom/example/entitygate/entitygate/HtmlNode;" .null := Fld.same W234 f233
  have N234 := Fr.snoc X234 N229 g_ob
  have z235 : n0 ≤ h234.size := (Nat.le_trans z230 (Keep.of_wr W234).1)
  have K236 : Keep h0 h234 [ob, oa, op] := K231.wr W234 (Or.inl (List.mem_of_getElem? (i := 0) rfl))
  have f237 : Fld Z h234 ob "com/example/entitygate/entitygate/HtmlNode" "parent" "Lcom/example/entitygate/entitygate/HtmlNode$Parent;" .null := (Fld.other W234 (Fld.other W229 f224 (Or.inr (slot_ne (Or.inl (hw _ (List.mem_of_getElem? (i := 25) rfl))) (Or.inl (hw _ (List.mem_of_getElem? (i := 40) rfl))) (by decide) (t := (.object "com/example/entitygate/entitygate/HtmlNode$Parent")) (t' := (.object "com/example/entitygate/entitygate/HtmlNode")) (by decide) (by decide)))) (Or.inr (slot_ne (Or.inl (hw _ (List.mem_of_getElem? (i := 25) rfl))) (Or.inl (hw _ (List.mem_of_getElem? (i := 42) rfl))) (by decide) (t := (.object "com/example/entitygate/entitygate/HtmlNode$Parent")) (t' := (.object "com/example/entitygate/entitygate/HtmlNode")) (by decide) (by decide))))
  have f238 : Fld Z h234 ob "com/example/entitygate/entitygate/HtmlNode" "previous" "Lcom/example/entitygate/entitygate/HtmlNode;" .null := (Fld.other W234 f229 (Or.inr (slot_ne (Or.inl (hw _ (List.mem_of_getElem? (i := 40) rfl))) (Or.inl (hw _ (List.mem_of_getElem? (i := 42) rfl))) (by decide) (t := (.object "com/example/entitygate/entitygate/HtmlNode")) (t' := (.object "com/example/entitygate/entitygate/HtmlNode")) (by decide) (by decide))))
  have f239 : Fld Z h234 ob "com/example/entitygate/entitygate/HtmlNode$Parent" "first" "Lcom/example/entitygate/entitygate/HtmlNode;" .null := (Fld.other W234 (Fld.other W229 (Fld.other W224 (Fld.other W219 (Fld.other W208 F_ob_first (Or.inl (Ne.symm ne_oa_ob))) (Or.inl (Ne.symm ne_op_ob))) (Or.inr (slot_ne (Or.inl (hw _ (List.mem_of_getElem? (i := 30) rfl))) (Or.inl (hw _ (List.mem_of_getElem? (i := 25) rfl))) (by decide) (t := (.object "com/example/entitygate/entitygate/HtmlNode")) (t' := (.object "com/example/entitygate/entitygate/HtmlNode$Parent")) (by decide) (by decide)))) (Or.inr (slot_ne (Or.inl (hw _ (List.mem_of_getElem? (i := 30) rfl))) (Or.inl (hw _ (List.mem_of_getElem? (i := 40) rfl))) (by decide) (t := (.object "com/example/entitygate/entitygate/HtmlNode")) (t' := (.object "com/example/entitygate/entitygate/HtmlNode")) (by decide) (by decide)))) (Or.inr (slot_ne (Or.inl (hw _ (List.mem_of_getElem? (i := 30) rfl))) (Or.inl (hw _ (List.mem_of_getElem? (i := 42) rfl))) (by decide) (t := (.object "com/example/entitygate/entitygate/HtmlNode")) (t' := (.object "com/example/entitygate/entitygate/HtmlNode")) (by decide) (by decide))))
  have f240 : Fld Z h234 ob "com/example/entitygate/entitygate/HtmlNode$Parent" "last" "Lcom/example/entitygate/entitygate/HtmlNode;" .null := (Fld.other W234 (Fld.other W229 (Fld.other W224 (Fld.other W219 (Fld.other W208 F_ob_last (Or.inl (Ne.symm ne_oa_ob))) (Or.inl (Ne.symm ne_op_ob))) (Or.inr (slot_ne (Or.inl (hw _ (List.mem_of_getElem? (i := 33) rfl))) (Or.inl (hw _ (List.mem_of_getElem? (i := 25) rfl))) (by decide) (t := (.object "com/example/entitygate/entitygate/HtmlNode")) (t' := (.object "com/example/entitygate/entitygate/HtmlNode$Parent")) (by decide) (by decide)))) (Or.inr (slot_ne (Or.inl (hw _ (List.mem_of_getElem? (i := 33) rfl))) (Or.inl (hw _ (List.mem_of_getElem? (i := 40) rfl))) (by decide) (t := (.object "com/example/entitygate/entitygate/HtmlNode")) (t' := (.object "com/example/entitygate/entitygate/HtmlNode")) (by decide) (by decide)))) (Or.inr (slot_ne (Or.inl (hw _ (List.mem_of_getElem? (i := 33) rfl))) (Or.inl (hw _ (List.mem_of_getElem? (i := 42) rfl))) (by decide) (t := (.object "com/example/entitygate/entitygate/HtmlNode")) (t' := (.object "com/example/entitygate/entitygate/HtmlNode")) (by decide) (by decide))))
  have f241 : Fld Z h234 oa "com/example/entitygate/entitygate/HtmlNode" "parent" "Lcom/example/entitygate/entitygate/HtmlNode$Parent;" (.ref op) := (Fld.other W234 (Fld.other W229 (Fld.other W224 (Fld.other W219 (Fld.other W208 F_oa_parent (Or.inr (slot_ne (Or.inl (hw _ (List.mem_of_getElem? (i := 25) rfl))) (Or.inl (hw _ (List.mem_of_getElem? (i := 42) rfl))) (by decide) (t := (.object "com/example/entitygate/entitygate/HtmlNode$Parent")) (t' := (.object "com/example/entitygate/entitygate/HtmlNode")) (by decide) (by decide)))) (Or.inl (Ne.symm ne_op_oa))) (Or.inl ne_oa_ob)) (Or.inl ne_oa_ob)) (Or.inl ne_oa_ob))
  have f242 : Fld Z h234 oa "com/example/entitygate/entitygate/HtmlNode" "previous" "Lcom/example/entitygate/entitygate/HtmlNode;" .null := (Fld.other W234 (Fld.other W229 (Fld.other W224 (Fld.other W219 (Fld.other W208 F_oa_previous (Or.inr (slot_ne (Or.inl (hw _ (List.mem_of_getElem? (i := 40) rfl))) (Or.inl (hw _ (List.mem_of_getElem? (i := 42) rfl))) (by decide) (t := (.object "com/example/entitygate/entitygate/HtmlNode")) (t' := (.object "com/example/entitygate/entitygate/HtmlNode")) (by decide) (by decide)))) (Or.inl (Ne.symm ne_op_oa))) (Or.inl ne_oa_ob)) (Or.inl ne_oa_ob)) (Or.inl ne_oa_ob))
  have f243 : Fld Z h234 oa "com/example/entitygate/entitygate/HtmlNode" "next" "Lcom/example/entitygate/entitygate/HtmlNode;" .null := (Fld.other W234 (Fld.other W229 (Fld.other W224 (Fld.other W219 f208 (Or.inl (Ne.symm ne_op_oa))) (Or.inl ne_oa_ob)) (Or.inl ne_oa_ob)) (Or.inl ne_oa_ob))
  have f244 : Fld Z h234 oa "com/example/entitygate/entitygate/HtmlNode$Parent" "first" "Lcom/example/entitygate/entitygate/HtmlNode;" .null := (Fld.other W234 (Fld.other W229 (Fld.other W224 (Fld.other W219 (Fld.other W208 F_oa_first (Or.inr (slot_ne (Or.inl (hw _ (List.mem_of_getElem? (i := 30) rfl))) (Or.inl (hw _ (List.mem_of_getElem? (i := 42) rfl))) (by decide) (t := (.object "com/example/entitygate/entitygate/HtmlNode")) (t' := (.object "com/example/entitygate/entitygate/HtmlNode")) (by decide) (by decide)))) (Or.inl (Ne.symm ne_op_oa))) (Or.inl ne_oa_ob)) (Or.inl ne_oa_ob)) (Or.inl ne_oa_ob))
  have f245 : Fld Z h234 oa "com/example/entitygate/entitygate/HtmlNode$Parent" "last" "Lcom/example/entitygate/entitygate/HtmlNode;" .null := (Fld.other W234 (Fld.other W229 (Fld.other W224 (Fld.other W219 (Fld.other W208 F_oa_last (Or.inr (slot_ne (Or.inl (hw _ (List.mem_of_getElem? (i := 33) rfl))) (Or.inl (hw _ (List.mem_of_getElem? (i := 42) rfl))) (by decide) (t := (.object "com/example/entitygate/entitygate/HtmlNode")) (t' := (.object "com/example/entitygate/entitygate/HtmlNode")) (by decide) (by decide)))) (Or.inl (Ne.symm ne_op_oa))) (Or.inl ne_oa_ob)) (Or.inl ne_oa_ob)) (Or.inl ne_oa_ob))
  have f246 : Fld Z h234 op "com/example/entitygate/entitygate/HtmlNode" "parent" "Lcom/example/entitygate/entitygate/HtmlNode$Parent;" .null := (Fld.other W234 (Fld.other W229 (Fld.other W224 (Fld.other W219 (Fld.other W208 F_op_parent (Or.inl ne_op_oa)) (Or.inr (slot_ne (Or.inl (hw _ (List.mem_of_getElem? (i := 25) rfl))) (Or.inl (hw _ (List.mem_of_getElem? (i := 33) rfl))) (by decide) (t := (.object "com/example/entitygate/entitygate/HtmlNode$Parent")) (t' := (.object "com/example/entitygate/entitygate/HtmlNode")) (by decide) (by decide)))) (Or.inl ne_op_ob)) (Or.inl ne_op_ob)) (Or.inl ne_op_ob))
  have f247 : Fld Z h234 op "com/example/entitygate/entitygate/HtmlNode" "previous" "Lcom/example/entitygate/entitygate/HtmlNode;" .null := (Fld.other W234 (Fld.other W229 (Fld.other W224 (Fld.other W219 (Fld.other W208 F_op_previous (Or.inl ne_op_oa)) (Or.inr (slot_ne (Or.inl (hw _ (List.mem_of_getElem? (i := 40) rfl))) (Or.inl (hw _ (List.mem_of_getElem? (i := 33) rfl))) (by decide) (t := (.object "com/example/entitygate/entitygate/HtmlNode")) (t' := (.object "com/example/entitygate/entitygate/HtmlNode")) (by decide) (by decide)))) (Or.inl ne_op_ob)) (Or.inl ne_op_ob)) (Or.inl ne_op_ob))
  have f248 : Fld Z h234 op "com/example/entitygate/entitygate/HtmlNode" "next" "Lcom/example/entitygate/entitygate/HtmlNode;" .null := (Fld.other W234 (Fld.other W229 (Fld.other W224 (Fld.other W219 (Fld.other W208 F_op_next (Or.inl ne_op_oa)) (Or.inr (slot_ne (Or.inl (hw _ (List.mem_of_getElem? (i := 42) rfl))) (Or.inl (hw _ (List.mem_of_getElem? (i := 33) rfl))) (by decide) (t := (.object "com/example/entitygate/entitygate/HtmlNode")) (t' := (.object "com/example/entitygate/entitygate/HtmlNode")) (by decide) (by decide)))) (Or.inl ne_op_ob)) (Or.inl ne_op_ob)) (Or.inl ne_op_ob))
  have f249 : Fld Z h234 op "com/example/entitygate/entitygate/HtmlNode$Parent" "first" "Lcom/example/entitygate/entitygate/HtmlNode;" (.ref oa) := (Fld.other W234 (Fld.other W229 (Fld.other W224 (Fld.other W219 (Fld.other W208 F_op_first (Or.inl ne_op_oa)) (Or.inr (slot_ne (Or.inl (hw _ (List.mem_of_getElem? (i := 30) rfl))) (Or.inl (hw _ (List.mem_of_getElem? (i := 33) rfl))) (by decide) (t := (.object "com/example/entitygate/entitygate/HtmlNode")) (t' := (.object "com/example/entitygate/entitygate/HtmlNode")) (by decide) (by decide)))) (Or.inl ne_op_ob)) (Or.inl ne_op_ob)) (Or.inl ne_op_ob))
  have f250 : Fld Z h234 op "com/example/entitygate/entitygate/HtmlNode$Parent" "last" "Lcom/example/entitygate/entitygate/HtmlNode;" (.ref oa) := (Fld.other W234 (Fld.other W229 (Fld.other W224 f219 (Or.inl ne_op_ob)) (Or.inl ne_op_ob)) (Or.inl ne_op_ob))
  refine own_retV X234 hx hlk hret (hb hby d_prog_14_method_2_87) ?_ (by decide) (by decide)
  rw [e234]
  exact ⟨rfl, N234, K236, f237, f238, f234, f239, f240, f241, f242, f243, f244, f245, f246, f247, f248, f249, f250⟩
def Q_det30 (Z : State) (op : Addr) (oa : Addr) (ob : Addr) (oc : Addr) (h0 : Heap) (n0 : Nat) (v : Option Value) (h : Heap) (L : List Loc) : Prop := v = none ∧ Fr n0 L ∧ Keep h0 h [oa, op, ob] ∧ Fld Z h oa "com/example/entitygate/entitygate/HtmlNode" "parent" "Lcom/example/entitygate/entitygate/HtmlNode$Parent;" .null ∧ Fld Z h oa "com/example/entitygate/entitygate/HtmlNode" "previous" "Lcom/example/entitygate/entitygate/HtmlNode;" .null ∧ Fld Z h oa "com/example/entitygate/entitygate/HtmlNode" "next" "Lcom/example/entitygate/entitygate/HtmlNode;" .null ∧ Fld Z h oa "com/example/entitygate/entitygate/HtmlNode$Parent" "first" "Lcom/example/entitygate/entitygate/HtmlNode;" .null ∧ Fld Z h oa "com/example/entitygate/entitygate/HtmlNode$Parent" "last" "Lcom/example/entitygate/entitygate/HtmlNode;" .null ∧ Fld Z h op "com/example/entitygate/entitygate/HtmlNode" "parent" "Lcom/example/entitygate/entitygate/HtmlNode$Parent;" .null ∧ Fld Z h op "com/example/entitygate/entitygate/HtmlNode" "previous" "Lcom/example/entitygate/entitygate/HtmlNode;" .null ∧ Fld Z h op "com/example/entitygate/entitygate/HtmlNode" "next" "Lcom/example/entitygate/entitygate/HtmlNode;" .null ∧ Fld Z h op "com/example/entitygate/entitygate/HtmlNode$Parent" "first" "Lcom/example/entitygate/entitygate/HtmlNode;" (.ref ob) ∧ Fld Z h op "com/example/entitygate/entitygate/HtmlNode$Parent" "last" "Lcom/example/entitygate/entitygate/HtmlNode;" (.ref oc) ∧ Fld Z h ob "com/example/entitygate/entitygate/HtmlNode" "parent" "Lcom/example/entitygate/entitygate/HtmlNode$Parent;" (.ref op) ∧ Fld Z h ob "com/example/entitygate/entitygate/HtmlNode" "previous" "Lcom/example/entitygate/entitygate/HtmlNode;" .null ∧ Fld Z h ob "com/example/entitygate/entitygate/HtmlNode" "next" "Lcom/example/entitygate/entitygate/HtmlNode;" (.ref oc) ∧ Fld Z h ob "com/example/entitygate/entitygate/HtmlNode$Parent" "first" "Lcom/example/entitygate/entitygate/HtmlNode;" .null ∧ Fld Z h ob "com/example/entitygate/entitygate/HtmlNode$Parent" "last" "Lcom/example/entitygate/entitygate/HtmlNode;" .null
set_option maxRecDepth 65536 in
set_option maxHeartbeats 40000000 in
theorem rm_det30 (l : Launch) (Z : State) (a0 : Array Value) (hw : ∀ d ∈ tables_1, d.before a0 Z = true) (ws : List Jvm.Cond) (op : Addr) (oa : Addr) (ob : Addr) (oc : Addr) (h0 : Heap) (n0 : Nat) (Z0 : n0 ≤ h0.size) (E_op : Exa Z h0 op "com/example/entitygate/entitygate/HtmlNode$Document") (E_oa : Exa Z h0 oa "com/example/entitygate/entitygate/HtmlNode$Document") (E_ob : Exa Z h0 ob "com/example/entitygate/entitygate/HtmlNode$Document") (E_oc : Exa Z h0 oc "com/example/entitygate/entitygate/HtmlNode$Document") (F_op_parent : Fld Z h0 op "com/example/entitygate/entitygate/HtmlNode" "parent" "Lcom/example/entitygate/entitygate/HtmlNode$Parent;" .null) (F_op_previous : Fld Z h0 op "com/example/entitygate/entitygate/HtmlNode" "previous" "Lcom/example/entitygate/entitygate/HtmlNode;" .null) (F_op_next : Fld Z h0 op "com/example/entitygate/entitygate/HtmlNode" "next" "Lcom/example/entitygate/entitygate/HtmlNode;" .null) (F_op_first : Fld Z h0 op "com/example/entitygate/entitygate/HtmlNode$Parent" "first" "Lcom/example/entitygate/entitygate/HtmlNode;" (.ref oa)) (F_op_last : Fld Z h0 op "com/example/entitygate/entitygate/HtmlNode$Parent" "last" "Lcom/example/entitygate/entitygate/HtmlNode;" (.ref oc)) (F_oa_parent : Fld Z h0 oa "com/example/entitygate/entitygate/HtmlNode" "parent" "Lcom/example/entitygate/entitygate/HtmlNode$Parent;" (.ref op)) (F_oa_previous : Fld Z h0 oa "com/example/entitygate/entitygate/HtmlNode" "previous" "Lcom/example/entitygate/entitygate/HtmlNode;" .null) (F_oa_next : Fld Z h0 oa "com/example/entitygate/entitygate/HtmlNode" "next" "Lcom/example/entitygate/entitygate/HtmlNode;" (.ref ob)) (F_oa_first : Fld Z h0 oa "com/example/entitygate/entitygate/HtmlNode$Parent" "first" "Lcom/example/entitygate/entitygate/HtmlNode;" .null) (F_oa_last : Fld Z h0 oa "com/example/entitygate/entitygate/HtmlNode$Parent" "last" "Lcom/example/entitygate/entitygate/HtmlNode;" .null) (F_ob_parent : Fld Z h0 ob "com/example/entitygate/entitygate/HtmlNode" "parent" "Lcom/example/entitygate/entitygate/HtmlNode$Parent;" (.ref op)) (F_ob_previous : Fld Z h0 ob "com/example/entitygate/entitygate/HtmlNode" "previous" "Lcom/example/entitygate/entitygate/HtmlNode;" (.ref oa)) (F_ob_next : Fld Z h0 ob "com/example/entitygate/entitygate/HtmlNode" "next" "Lcom/example/entitygate/entitygate/HtmlNode;" (.ref oc)) (F_ob_first : Fld Z h0 ob "com/example/entitygate/entitygate/HtmlNode$Parent" "first" "Lcom/example/entitygate/entitygate/HtmlNode;" .null) (F_ob_last : Fld Z h0 ob "com/example/entitygate/entitygate/HtmlNode$Parent" "last" "Lcom/example/entitygate/entitygate/HtmlNode;" .null) (F_oc_parent : Fld Z h0 oc "com/example/entitygate/entitygate/HtmlNode" "parent" "Lcom/example/entitygate/entitygate/HtmlNode$Parent;" (.ref op)) (F_oc_previous : Fld Z h0 oc "com/example/entitygate/entitygate/HtmlNode" "previous" "Lcom/example/entitygate/entitygate/HtmlNode;" (.ref ob)) (F_oc_next : Fld Z h0 oc "com/example/entitygate/entitygate/HtmlNode" "next" "Lcom/example/entitygate/entitygate/HtmlNode;" .null) (F_oc_first : Fld Z h0 oc "com/example/entitygate/entitygate/HtmlNode$Parent" "first" "Lcom/example/entitygate/entitygate/HtmlNode;" .null) (F_oc_last : Fld Z h0 oc "com/example/entitygate/entitygate/HtmlNode$Parent" "last" "Lcom/example/entitygate/entitygate/HtmlNode;" .null) (ne_op_oa : op ≠ oa) (ne_op_ob : op ≠ ob) (ne_op_oc : op ≠ oc) (ne_oa_ob : oa ≠ ob) (ne_oa_oc : oa ≠ oc) (ne_ob_oc : ob ≠ oc) (g_op : n0 ≤ op) (g_oa : n0 ≤ oa) (g_ob : n0 ≤ ob) (g_oc : n0 ≤ oc) :
    MetFree l (⟨"com/example/entitygate/entitygate/HtmlNode", "detach", "()V"⟩ : MethodName) (head1 (Jvm.Cond.code (⟨"com/example/entitygate/entitygate/HtmlNode", "detach", "()V"⟩ : MethodName) prog_14_method_2_code 1 none :: ws) ({ frames := 0, cells := 0, slots := 0, locals := 0 } : Room)) (fun aA U => aA = #[(.ref oa)] ∧ Z.Warmed39 U.vm ∧ U.heap = h0) (fun _ _ _ _ _ => True) (fun _ U oO U' => ∃ vV LL, oO = .returned vV ∧ Q_det30 Z op oa ob oc h0 n0 vV U'.heap LL ∧ FrameEnd U oO U' LL ({ frames := 0, cells := 0, slots := 0, locals := 0 } : Room).cells ({ frames := 0, cells := 0, slots := 0, locals := 0 } : Room).slots) := by
  refine MetFree.of_bodySF (plainFor_of_name pn_0) hisR ?_
  intro p e s m args below meth c s₁ Bd hml0 hP hK
  obtain ⟨rfl, hZ, hh⟩ := hP
  have hx := Bd.exec
  have hby := Bd.bytes
  have hml : c.maxLocals = 1 := hml0
  have hown : s.vm.findClass "com/example/entitygate/entitygate/HtmlNode" = some m.cls := findClass_of_methodNamed Bd.named
  have hnm := (name_of_methodNamed Bd.named Bd.method).1
  have X0 : Stand p l e ({ frames := 0, cells := 0, slots := 0, locals := 0 } : Room) s m #[(.ref oa)] below meth c s₁ [] 0 0 := Stand.of_body Bd
  have e0 : s₁.heap = h0 := by rw [← hh, Bd.state]; rfl
  have N0 := Fr.nil n0
  have hret := Bd.returns
  have hlk : meth.locks = false := Bd.notSynchronized
  refine own_start (ef_0 m oa) ?_
  show own_Go p e below s (Q_det30 Z op oa ob oc h0 n0) ({ frames := 0, cells := 0, slots := 0, locals := 0 } : Room).cells ({ frames := 0, cells := 0, slots := 0, locals := 0 } : Room).slots (s₁.setTop (mkF m 0 #[.val (.ref oa)] []))
  refine g_aload_n X0 hx 1 (hb hby d_prog_14_method_2_0) rfl rfl rfl ?_
  refine own_getF X0 hx hZ hown (host := "") (Or.inl (hw _ (List.mem_of_getElem? (i := 24) rfl))) Via.refl e0 F_oa_parent 4 (hb hby d_prog_14_method_2_1) rfl fun T251 X251 e251 => ?_
  refine g_ifnonnullYes X251 hx 8 (hb hby d_prog_14_method_2_4) (by decide) (by decide) ?_
  refine g_aload_n X251 hx 9 (hb hby d_prog_14_method_2_8) rfl rfl rfl ?_
  refine own_getF X251 hx hZ hown (host := "") (Or.inl (hw _ (List.mem_of_getElem? (i := 58) rfl))) Via.refl e251 F_oa_previous 12 (hb hby d_prog_14_method_2_9) rfl fun T252 X252 e252 => ?_
  refine g_ifnonnullNo X252 hx 15 (hb hby d_prog_14_method_2_12) rfl ?_
  refine g_aload_n X252 hx 16 (hb hby d_prog_14_method_2_15) rfl rfl rfl ?_
  refine own_getF X252 hx hZ hown (host := "") (Or.inl (hw _ (List.mem_of_getElem? (i := 24) rfl))) Via.refl e252 F_oa_parent 19 (hb hby d_prog_14_method_2_16) rfl fun T253 X253 e253 => ?_
  refine g_aload_n X253 hx 20 (hb hby d_prog_14_method_2_19) rfl rfl rfl ?_
  refine own_getF X253 hx hZ hown (host := "") (Or.inl (hw _ (List.mem_of_getElem? (i := 59) rfl))) Via.refl e253 F_oa_next 23 (hb hby d_prog_14_method_2_20) rfl fun T254 X254 e254 => ?_
  refine own_putF X254 hx hZ hown (host := "") (Or.inl (hw _ (List.mem_of_getElem? (i := 62) rfl))) Via.refl e254 F_op_first E_op (Or.inl (hw _ (List.mem_of_getElem? (i := 30) rfl))) (hw _ (List.mem_of_getElem? (i := 1) rfl)) (ty := (.object "com/example/entitygate/entitygate/HtmlNode")) (by decide) rfl rfl 26 (hb hby d_prog_14_method_2_23) rfl fun T255 h255 X255 e255 W255 => ?_
  have f255 : Fld Z h255 op "com/example/entitygate/entitygate/HtmlNode$Parent" "first" "Lcom/example/entitygate/entitygate/HtmlNode;" (.ref ob) := Fld.same W255 F_op_first
  have N255 := Fr.snoc X255 N0 g_op
  have z256 : n0 ≤ h255.size := (Nat.le_trans Z0 (Keep.of_wr W255).1)
  have K257 : Keep h0 h255 [oa, op, ob] := (Keep.refl h0 [oa, op, ob]).wr W255 (Or.inl (List.mem_of_getElem? (i := 1) rfl))
  refine g_goto X255 hx 40 (hb hby d_prog_14_method_2_26) (by decide) (by decide) ?_
  refine g_aload_n X255 hx 41 (hb hby d_prog_14_method_2_40) rfl rfl rfl ?_
  have f258 : Fld Z h255 oa "com/example/entitygate/entitygate/HtmlNode" "next" "Lcom/example/entitygate/entitygate/HtmlNode;" (.ref ob) := (Fld.other W255 F_oa_next (Or.inl (Ne.symm ne_op_oa)))
  refine own_getF X255 hx hZ hown (host := "") (Or.inl (hw _ (List.mem_of_getElem? (i := 59) rfl))) Via.refl e255 f258 44 (hb hby d_prog_14_method_2_41) rfl fun T259 X259 e259 => ?_
  refine g_ifnonnullYes X259 hx 61 (hb hby d_prog_14_method_2_44) (by decide) (by decide) ?_
  refine g_aload_n X259 hx 62 (hb hby d_prog_14_method_2_61) rfl rfl rfl ?_
  refine own_getF X259 hx hZ hown (host := "") (Or.inl (hw _ (List.mem_of_getElem? (i := 59) rfl))) Via.refl e259 f258 65 (hb hby d_prog_14_method_2_62) rfl fun T260 X260 e260 => ?_
  refine g_aload_n X260 hx 66 (hb hby d_prog_14_method_2_65) rfl rfl rfl ?_
  have f261 : Fld Z h255 oa "com/example/entitygate/entitygate/HtmlNode" "previous" "Lcom/example/entitygate/entitygate/HtmlNode;" .null := (Fld.other W255 F_oa_previous (Or.inl (Ne.symm ne_op_oa)))
  refine own_getF X260 hx hZ hown (host := "") (Or.inl (hw _ (List.mem_of_getElem? (i := 58) rfl))) Via.refl e260 f261 69 (hb hby d_prog_14_method_2_66) rfl fun T262 X262 e262 => ?_
  have f263 : Exa Z h255 ob "com/example/entitygate/entitygate/HtmlNode$Document" := (Exa.wr W255 E_ob)
  have f264 : Fld Z h255 ob "com/example/entitygate/entitygate/HtmlNode" "previous" "Lcom/example/entitygate/entitygate/HtmlNode;" (.ref oa) := (Fld.other W255 F_ob_previous (Or.inl (Ne.symm ne_op_ob)))
  refine own_putF X262 hx hZ hown (host := "") (Or.inl (hw _ (List.mem_of_getElem? (i := 58) rfl))) Via.refl e262 f264 f263 (Or.inl (hw _ (List.mem_of_getElem? (i := 40) rfl))) (hw _ (List.mem_of_getElem? (i := 1) rfl)) (ty := (.object "com/example/entitygate/entitygate/HtmlNode")) (by decide) rfl rfl 72 (hb hby d_prog_14_method_2_69) rfl fun T265 h265 X265 e265 W265 => ?_
  have f265 : Fld Z h265 ob "com/example/entitygate/entitygate/HtmlNode" "previous" "Lcom/example/entitygate/entitygate/HtmlNode;" .null := Fld.same W265 f264
  have N265 := Fr.snoc X265 N255 g_ob
  have z266 : n0 ≤ h265.size := (Nat.le_trans z256 (Keep.of_wr W265).1)
  have K267 : Keep h0 h265 [oa, op, ob] := K257.wr W265 (Or.inl (List.mem_of_getElem? (i := 2) rfl))
  refine g_aload_n X265 hx 73 (hb hby d_prog_14_method_2_72) rfl rfl rfl ?_
  refine g_aconst_null X265 hx 74 (hb hby d_prog_14_method_2_73) rfl ?_
  have f268 : Exa Z h265 oa "com/example/entitygate/entitygate/HtmlNode$Document" := (Exa.wr W265 (Exa.wr W255 E_oa))
  have f269 : Fld Z h265 oa "com/example/entitygate/entitygate/HtmlNode" "parent" "Lcom/example/entitygate/entitygate/HtmlNode$Parent;" (.ref op) := (Fld.other W265 (Fld.other W255 F_oa_parent (Or.inl (Ne.symm ne_op_oa))) (Or.inl ne_oa_ob))
  refine own_putF X265 hx hZ hown (host := "") (Or.inl (hw _ (List.mem_of_getElem? (i := 24) rfl))) Via.refl e265 f269 f268 (Or.inl (hw _ (List.mem_of_getElem? (i := 25) rfl))) (hw _ (List.mem_of_getElem? (i := 1) rfl)) (ty := (.object "com/example/entitygate/entitygate/HtmlNode$Parent")) (by decide) rfl rfl 77 (hb hby d_prog_14_method_2_74) rfl fun T270 h270 X270 e270 W270 => ?_
  have f270 : Fld Z h270 oa "com/example/entitygate/entitygate/HtmlNode" "parent" "Lcom/example/entitygate/entitygate/HtmlNode$Parent;" .null := Fld.same W270 f269
  have N270 := Fr.snoc X270 N265 g_oa
  have z271 : n0 ≤ h270.size := (Nat.le_trans z266 (Keep.of_wr W270).1)
  have K272 : Keep h0 h270 [oa, op, ob] := K267.wr W270 (Or.inl (List.mem_of_getElem? (i := 0) rfl))
  refine g_aload_n X270 hx 78 (hb hby d_prog_14_method_2_77) rfl rfl rfl ?_
  refine g_aconst_null X270 hx 79 (hb hby d_prog_14_method_2_78) rfl ?_
  have f273 : Exa Z h270 oa "com/example/entitygate/entitygate/HtmlNode$Document" := (Exa.wr W270 f268)
  have f274 : Fld Z h270 oa "com/example/entitygate/entitygate/HtmlNode" "previous" "Lcom/example/entitygate/entitygate/HtmlNode;" .null := (Fld.other W270 (Fld.other W265 f261 (Or.inl ne_oa_ob)) (Or.inr (slot_ne (Or.inl (hw _ (List.mem_of_getElem? (i := 40) rfl))) (Or.inl (hw _ (List.mem_of_getElem? (i := 25) rfl))) (by decide) (t := (.object "com/example/entitygate/entitygate/HtmlNode")) (t' := (.object "com/example/entitygate/entitygate/HtmlNode$Parent")) (by decide) (by decide))))
  refine own_putF X270 hx hZ hown (host := "") (Or.inl (hw _ (List.mem_of_getElem? (i := 58) rfl))) Via.refl e270 f274 f273 (Or.inl (hw _ (List.mem_of_getElem? (i := 40) rfl))) (hw _ (List.mem_of_getElem? (i := 1) rfl)) (ty := (.object "com/example/entitygate/entitygate/HtmlNode")) (by decide) rfl rfl 82 (hb hby d_prog_14_method_2_79) rfl fun T275 h275 X275 e275 W275 => ?_
  have f275 : Fld Z h275 oa "com/example/entitygate/entitygate/HtmlNode" "previous" "Lcom/example/entitygate/entitygate/HtmlNode;" .null := Fld.same W275 f274
  have N275 := Fr.snoc X275 N270 g_oa
  have z276 : n0 ≤ h275.size := (Nat.le_trans z271 (Keep.of_wr W275).1)
  have K277 : Keep h0 h275 [oa, op, ob] := K272.wr W275 (Or.inl (List.mem_of_getElem? (i := 0) rfl))
  refine g_aload_n X275 hx 83 (hb hby d_prog_14_method_2_82) rfl rfl rfl ?_
  refine g_aconst_null X275 hx 84 (hb hby d_prog_14_method_2_83) rfl ?_
  have f278 : Exa Z h275 oa "com/example/entitygate/entitygate/HtmlNode$Document" := (Exa.wr W275 f273)
  have f279 : Fld Z h275 oa "com/example/entitygate/entitygate/HtmlNode" "next" "Lcom/example/entitygate/entitygate/HtmlNode;" (.ref ob) := (Fld.other W275 (Fld.other W270 (Fld.other W265 f258 (Or.inl ne_oa_ob)) (Or.inr (slot_ne (Or.inl (hw _ (List.mem_of_getElem? (i := 42) rfl))) (Or.inl (hw _ (List.mem_of_getElem? (i := 25) rfl))) (by decide) (t := (.object "com/example/entitygate/entitygate/HtmlNode")) (t' := (.object "com/example/entitygate/entitygate/HtmlNode$Parent")) (by decide) (by decide)))) (Or.inr (slot_ne (Or.inl (hw _ (List.mem_of_getElem? (i := 42) rfl))) (Or.inl (hw _ (List.mem_of_getElem? (i := 40) rfl))) (by decide) (t := (.object "com/example/entitygate/entitygate/HtmlNode")) (t' := (.object "com/example/entitygate/entitygate/HtmlNode")) (by decide) (by decide))))
  refine own_putF X275 hx hZ hown (host := "") (Or.inl (hw _ (List.mem_of_getElem? (i := 59) rfl))) Via.refl e275 f279 f278 (Or.inl (hw _ (List.mem_of_getElem? (i := 42) rfl))) (hw _ (List.mem_of_getElem? (i := 1) rfl)) (ty := (.object "com/example/entitygate/entitygate/HtmlNode")) (by decide) rfl rfl 87 (hb hby d_prog_14_method_2_84) rfl fun T280 h280 X280 e280 W280 => ?_
  have f280 : Fld Z h280 oa "com/example/entitygate/entitygate/HtmlNode" "next" "Lcom/example/entitygate/entitygate/HtmlNode;" .null := Fld.same W280 f279
  have N280 := Fr.snoc X280 N275 g_oa
  have z281 : n0 ≤ h280.size := (Nat.le_trans z276 (Keep.of_wr W280).1)
  have K282 : Keep h0 h280 [oa, op, ob] := K277.wr W280 (Or.inl (List.mem_of_getElem? (i := 0) rfl))
  have f283 : Fld Z h280 oa "com/example/entitygate/entitygate/HtmlNode" "parent" "Lcom/example/entitygate/entitygate/HtmlNode$Parent;" .null := (Fld.other W280 (Fld.other W275 f270 (Or.inr (slot_ne (Or.inl (hw _ (List.mem_of_getElem? (i := 25) rfl))) (Or.inl (hw _ (List.mem_of_getElem? (i := 40) rfl))) (by decide) (t := (.object "com/example/entitygate/entitygate/HtmlNode$Parent")) (t' := (.object "com/example/entitygate/entitygate/HtmlNode")) (by decide) (by decide)))) (Or.inr (slot_ne (Or.inl (hw _ (List.mem_of_getElem? (i := 25) rfl))) (Or.inl (hw _ (List.mem_of_getElem? (i := 42) rfl))) (by decide) (t := (.object "com/example/entitygate/entitygate/HtmlNode$Parent")) (t' := (.object "com/example/entitygate/entitygate/HtmlNode")) (by decide) (by decide))))
  have f284 : Fld Z h280 oa "com/example/entitygate/entitygate/HtmlNode" "previous" "Lcom/example/entitygate/entitygate/HtmlNode;" .null := (Fld.other W280 f275 (Or.inr (slot_ne (Or.inl (hw _ (List.mem_of_getElem? (i := 40) rfl))) (Or.inl (hw _ (List.mem_of_getElem? (i := 42) rfl))) (by decide) (t := (.object "com/example/entitygate/entitygate/HtmlNode")) (t' := (.object "com/example/entitygate/entitygate/HtmlNode")) (by decide) (by decide))))
  have f285 : Fld Z h280 oa "com/example/entitygate/entitygate/HtmlNode$Parent" "first" "Lcom/example/entitygate/entitygate/HtmlNode;" .null := (Fld.other W280 (Fld.other W275 (Fld.other W270 (Fld.other W265 (Fld.other W255 F_oa_first (Or.inl (Ne.symm ne_op_oa))) (Or.inl ne_oa_ob)) (Or.inr (slot_ne (Or.inl (hw _ (List.mem_of_getElem? (i := 30) rfl))) (Or.inl (hw _ (List.mem_of_getElem? (i := 25) rfl))) (by decide) (t := (.object "com/example/entitygate/entitygate/HtmlNode")) (t' := (.object "com/example/entitygate/entitygate/HtmlNode$Parent")) (by decide) (by decide)))) (Or.inr (slot_ne (Or.inl (hw _ (List.mem_of_getElem? (i := 30) rfl))) (Or.inl (hw _ (List.mem_of_getElem? (i := 40) rfl))) (by decide) (t := (.object "com/example/entitygate/entitygate/HtmlNode")) (t' := (.object "com/example/entitygate/entitygate/HtmlNode")) (by decide) (by decide)))) (Or.inr (slot_ne (Or.inl (hw _ (List.mem_of_getElem? (i := 30) rfl))) (Or.inl (hw _ (List.mem_of_getElem? (i := 42) rfl))) (by decide) (t := (.object "com/example/entitygate/entitygate/HtmlNode")) (t' := (.object "com/example/entitygate/entitygate/HtmlNode")) (by decide) (by decide))))
  have f286 : Fld Z h280 oa "com/example/entitygate/entitygate/HtmlNode$Parent" "last" "Lcom/example/entitygate/entitygate/HtmlNode;" .null := (Fld.other W280 (Fld.other W275 (Fld.other W270 (Fld.other W265 (Fld.other W255 F_oa_last (Or.inl (Ne.symm ne_op_oa))) (Or.inl ne_oa_ob)) (Or.inr (slot_ne (Or.inl (hw _ (List.mem_of_getElem? (i := 33) rfl))) (Or.inl (hw _ (List.mem_of_getElem? (i := 25) rfl))) (by decide) (t := (.object "com/example/entitygate/entitygate/HtmlNode")) (t' := (.object "com/example/entitygate/entitygate/HtmlNode$Parent")) (by decide) (by decide)))) (Or.inr (slot_ne (Or.inl (hw _ (List.mem_of_getElem? (i := 33) rfl))) (Or.inl (hw _ (List.mem_of_getElem? (i := 40) rfl))) (by decide) (t := (.object "com/example/entitygate/entitygate/HtmlNode")) (t' := (.object "com/example/entitygate/entitygate/HtmlNode")) (by decide) (by decide)))) (Or.inr (slot_ne (Or.inl (hw _ (List.mem_of_getElem? (i := 33) rfl))) (Or.inl (hw _ (List.mem_of_getElem? (i := 42) rfl))) (by decide) (t := (.object "com/example/entitygate/entitygate/HtmlNode")) (t' := (.object "com/example/entitygate/entitygate/HtmlNode")) (by decide) (by decide))))
  have f287 : Fld Z h280 op "com/example/entitygate/entitygate/HtmlNode" "parent" "Lcom/example/entitygate/entitygate/HtmlNode$Parent;" .null := (Fld.other W280 (Fld.other W275 (Fld.other W270 (Fld.other W265 (Fld.other W255 F_op_parent (Or.inr (slot_ne (Or.inl (hw _ (List.mem_of_getElem? (i := 25) rfl))) (Or.inl (hw _ (List.mem_of_getElem? (i := 30) rfl))) (by decide) (t := (.object "com/example/entitygate/entitygate/HtmlNode$Parent")) (t' := (.object "com/example/entitygate/entitygate/HtmlNode")) (by decide) (by decide)))) (Or.inl ne_op_ob)) (Or.inl ne_op_oa)) (Or.inl ne_op_oa)) (Or.inl ne_op_oa))
  have f288 : Fld Z h280 op "com/example/entitygate/entitygate/HtmlNode" "previous" "Lcom/example/entitygate/entitygate/HtmlNode;" .null := (Fld.other W280 (Fld.other W275 (Fld.other W270 (Fld.other W265 (Fld.other W255 F_op_previous (Or.inr (slot_ne (Or.inl (hw _ (List.mem_of_getElem? (i := 40) rfl))) (Or.inl (hw _ (List.mem_of_getElem? (i := 30) rfl))) (by decide) (t := (.object "com/example/entitygate/entitygate/HtmlNode")) (t' := (.object "com/example/entitygate/entitygate/HtmlNode")) (by decide) (by decide)))) (Or.inl ne_op_ob)) (Or.inl ne_op_oa)) (Or.inl ne_op_oa)) (Or.inl ne_op_oa))
  have f289 : Fld Z h280 op "com/example/entitygate/entitygate/HtmlNode" "next" "Lcom/example/entitygate/entitygate/HtmlNode;" .null := (Fld.other W280 (Fld.other W275 (Fld.other W270 (Fld.other W265 (Fld.other W255 F_op_next (Or.inr (slot_ne (Or.inl (hw _ (List.mem_of_getElem? (i := 42) rfl))) (Or.inl (hw _ (List.mem_of_getElem? (i := 30) rfl))) (by decide) (t := (.object "com/example/entitygate/entitygate/HtmlNode")) (t' := (.object "com/example/entitygate/entitygate/HtmlNode")) (by decide) (by decide)))) (Or.inl ne_op_ob)) (Or.inl ne_op_oa)) (Or.inl ne_op_oa)) (Or.inl ne_op_oa))
  have f290 : Fld Z h280 op "com/example/entitygate/entitygate/HtmlNode$Parent" "first" "Lcom/example/entitygate/entitygate/HtmlNode;" (.ref ob) := (Fld.other W280 (Fld.other W275 (Fld.other W270 (Fld.other W265 f255 (Or.inl ne_op_ob)) (Or.inl ne_op_oa)) (Or.inl ne_op_oa)) (Or.inl ne_op_oa))
  have f291 : Fld Z h280 op "com/example/entitygate/entitygate/HtmlNode$Parent" "last" "Lcom/example/entitygate/entitygate/HtmlNode;" (.ref oc) := (Fld.other W280 (Fld.other W275 (Fld.other W270 (Fld.other W265 (Fld.other W255 F_op_last (Or.inr (slot_ne (Or.inl (hw _ (List.mem_of_getElem? (i := 33) rfl))) (Or.inl (hw _ (List.mem_of_getElem? (i := 30) rfl))) (by decide) (t := (.object "com/example/entitygate/entitygate/HtmlNode")) (t' := (.object "com/example/entitygate/entitygate/HtmlNode")) (by decide) (by decide)))) (Or.inl ne_op_ob)) (Or.inl ne_op_oa)) (Or.inl ne_op_oa)) (Or.inl ne_op_oa))
  have f292 : Fld Z h280 ob "com/example/entitygate/entitygate/HtmlNode" "parent" "Lcom/example/entitygate/entitygate/HtmlNode$Parent;" (.ref op) := (Fld.other W280 (Fld.other W275 (Fld.other W270 (Fld.other W265 (Fld.other W255 F_ob_parent (Or.inl (Ne.symm ne_op_ob))) (Or.inr (slot_ne (Or.inl (hw _ (List.mem_of_getElem? (i := 25) rfl))) (Or.inl (hw _ (List.mem_of_getElem? (i := 40) rfl))) (by decide) (t := (.object "com/example/entitygate/entitygate/HtmlNode$Parent")) (t' := (.object "com/example/entitygate/entitygate/HtmlNode")) (by decide) (by decide)))) (Or.inl (Ne.symm ne_oa_ob))) (Or.inl (Ne.symm ne_oa_ob))) (Or.inl (Ne.symm ne_oa_ob)))
  have f293 : Fld Z h280 ob "com/example/entitygate/entitygate/HtmlNode" "previous" "Lcom/example/entitygate/entitygate/HtmlNode;" .null := (Fld.other W280 (Fld.other W275 (Fld.other W270 f265 (Or.inl (Ne.symm ne_oa_ob))) (Or.inl (Ne.symm ne_oa_ob))) (Or.inl (Ne.symm ne_oa_ob)))
  have f294 : Fld Z h280 ob "com/example/entitygate/entitygate/HtmlNode" "next" "Lcom/example/entitygate/entitygate/HtmlNode;" (.ref oc) := (Fld.other W280 (Fld.other W275 (Fld.other W270 (Fld.other W265 (Fld.other W255 F_ob_next (Or.inl (Ne.symm ne_op_ob))) (Or.inr (slot_ne (Or.inl (hw _ (List.mem_of_getElem? (i := 42) rfl))) (Or.inl (hw _ (List.mem_of_getElem? (i := 40) rfl))) (by decide) (t := (.object "com/example/entitygate/entitygate/HtmlNode")) (t' := (.object "com/example/entitygate/entitygate/HtmlNode")) (by decide) (by decide)))) (Or.inl (Ne.symm ne_oa_ob))) (Or.inl (Ne.symm ne_oa_ob))) (Or.inl (Ne.symm ne_oa_ob)))
  have f295 : Fld Z h280 ob "com/example/entitygate/entitygate/HtmlNode$Parent" "first" "Lcom/example/entitygate/entitygate/HtmlNode;" .null := (Fld.other W280 (Fld.other W275 (Fld.other W270 (Fld.other W265 (Fld.other W255 F_ob_first (Or.inl (Ne.symm ne_op_ob))) (Or.inr (slot_ne (Or.inl (hw _ (List.mem_of_getElem? (i := 30) rfl))) (Or.inl (hw _ (List.mem_of_getElem? (i := 40) rfl))) (by decide) (t := (.object "com/example/entitygate/entitygate/HtmlNode")) (t' := (.object "com/example/entitygate/entitygate/HtmlNode")) (by decide) (by decide)))) (Or.inl (Ne.symm ne_oa_ob))) (Or.inl (Ne.symm ne_oa_ob))) (Or.inl (Ne.symm ne_oa_ob)))
  have f296 : Fld Z h280 ob "com/example/entitygate/entitygate/HtmlNode$Parent" "last" "Lcom/example/entitygate/entitygate/HtmlNode;" .null := (Fld.other W280 (Fld.other W275 (Fld.other W270 (Fld.other W265 (Fld.other W255 F_ob_last (Or.inl (Ne.symm ne_op_ob))) (Or.inr (slot_ne (Or.inl (hw _ (List.mem_of_getElem? (i := 33) rfl))) (Or.inl (hw _ (List.mem_of_getElem? (i := 40) rfl))) (by decide) (t := (.object "com/example/entitygate/entitygate/HtmlNode")) (t' := (.object "com/example/entitygate/entitygate/HtmlNode")) (by decide) (by decide)))) (Or.inl (Ne.symm ne_oa_ob))) (Or.inl (Ne.symm ne_oa_ob))) (Or.inl (Ne.symm ne_oa_ob)))
  refine own_retV X280 hx hlk hret (hb hby d_prog_14_method_2_87) ?_ (by decide) (by decide)
  rw [e280]
  exact ⟨rfl, N280, K282, f283, f284, f280, f285, f286, f287, f288, f289, f290, f291, f292, f293, f294, f295, f296⟩
def Q_det31 (Z : State) (op : Addr) (oa : Addr) (ob : Addr) (oc : Addr) (h0 : Heap) (n0 : Nat) (v : Option Value) (h : Heap) (L : List Loc) : Prop := v = none ∧ Fr n0 L ∧ Keep h0 h [ob, oa, oc] ∧ Fld Z h ob "com/example/entitygate/entitygate/HtmlNode" "parent" "Lcom/example/entitygate/entitygate/HtmlNode$Parent;" .null ∧ Fld Z h ob "com/example/entitygate/entitygate/HtmlNode" "previous" "Lcom/example/entitygate/entitygate/HtmlNode;" .null ∧ Fld Z h ob "com/example/entitygate/entitygate/HtmlNode" "next" "Lcom/example/entitygate/entitygate/HtmlNode;" .null ∧ Fld Z h ob "com/example/entitygate/entitygate/HtmlNode$Parent" "first" "Lcom/example/entitygate/entitygate/HtmlNode;" .null ∧ Fld Z h ob "com/example/entitygate/entitygate/HtmlNode$Parent" "last" "Lcom/example/entitygate/entitygate/HtmlNode;" .null ∧ Fld Z h oa "com/example/entitygate/entitygate/HtmlNode" "parent" "Lcom/example/entitygate/entitygate/HtmlNode$Parent;" (.ref op) ∧ Fld Z h oa "com/example/entitygate/entitygate/HtmlNode" "previous" "Lcom/example/entitygate/entitygate/HtmlNode;" .null ∧ Fld Z h oa "com/example/entitygate/entitygate/HtmlNode" "next" "Lcom/example/entitygate/entitygate/HtmlNode;" (.ref oc) ∧ Fld Z h oa "com/example/entitygate/entitygate/HtmlNode$Parent" "first" "Lcom/example/entitygate/entitygate/HtmlNode;" .null ∧ Fld Z h oa "com/example/entitygate/entitygate/HtmlNode$Parent" "last" "Lcom/example/entitygate/entitygate/HtmlNode;" .null ∧ Fld Z h oc "com/example/entitygate/entitygate/HtmlNode" "parent" "Lcom/example/entitygate/entitygate/HtmlNode$Parent;" (.ref op) ∧ Fld Z h oc "com/example/entitygate/entitygate/HtmlNode" "previous" "Lcom/example/entitygate/entitygate/HtmlNode;" (.ref oa) ∧ Fld Z h oc "com/example/entitygate/entitygate/HtmlNode" "next" "Lcom/example/entitygate/entitygate/HtmlNode;" .null ∧ Fld Z h oc "com/example/entitygate/entitygate/HtmlNode$Parent" "first" "Lcom/example/entitygate/entitygate/HtmlNode;" .null ∧ Fld Z h oc "com/example/entitygate/entitygate/HtmlNode$Parent" "last" "Lcom/example/entitygate/entitygate/HtmlNode;" .null
set_option maxRecDepth 65536 in
set_option maxHeartbeats 40000000 in
theorem rm_det31 (l : Launch) (Z : State) (a0 : Array Value) (hw : ∀ d ∈ tables_1, d.before a0 Z = true) (ws : List Jvm.Cond) (op : Addr) (oa : Addr) (ob : Addr) (oc : Addr) (h0 : Heap) (n0 : Nat) (Z0 : n0 ≤ h0.size) (E_op : Exa Z h0 op "com/example/entitygate/entitygate/HtmlNode$Document") (E_oa : Exa Z h0 oa "com/example/entitygate/entitygate/HtmlNode$Document") (E_ob : Exa Z h0 ob "com/example/entitygate/entitygate/HtmlNode$Document") (E_oc : Exa Z h0 oc "com/example/entitygate/entitygate/HtmlNode$Document") (F_op_parent : Fld Z h0 op "com/example/entitygate/entitygate/HtmlNode" "parent" "Lcom/example/entitygate/entitygate/HtmlNode$Parent;" .null) (F_op_previous : Fld Z h0 op "com/example/entitygate/entitygate/HtmlNode" "previous" "Lcom/example/entitygate/entitygate/HtmlNode;" .null) (F_op_next : Fld Z h0 op "com/example/entitygate/entitygate/HtmlNode" "next" "Lcom/example/entitygate/entitygate/HtmlNode;" .null) (F_op_first : Fld Z h0 op "com/example/entitygate/entitygate/HtmlNode$Parent" "first" "Lcom/example/entitygate/entitygate/HtmlNode;" (.ref oa)) (F_op_last : Fld Z h0 op "com/example/entitygate/entitygate/HtmlNode$Parent" "last" "Lcom/example/entitygate/entitygate/HtmlNode;" (.ref oc)) (F_oa_parent : Fld Z h0 oa "com/example/entitygate/entitygate/HtmlNode" "parent" "Lcom/example/entitygate/entitygate/HtmlNode$Parent;" (.ref op)) (F_oa_previous : Fld Z h0 oa "com/example/entitygate/entitygate/HtmlNode" "previous" "Lcom/example/entitygate/entitygate/HtmlNode;" .null) (F_oa_next : Fld Z h0 oa "com/example/entitygate/entitygate/HtmlNode" "next" "Lcom/example/entitygate/entitygate/HtmlNode;" (.ref ob)) (F_oa_first : Fld Z h0 oa "com/example/entitygate/entitygate/HtmlNode$Parent" "first" "Lcom/example/entitygate/entitygate/HtmlNode;" .null) (F_oa_last : Fld Z h0 oa "com/example/entitygate/entitygate/HtmlNode$Parent" "last" "Lcom/example/entitygate/entitygate/HtmlNode;" .null) (F_ob_parent : Fld Z h0 ob "com/example/entitygate/entitygate/HtmlNode" "parent" "Lcom/example/entitygate/entitygate/HtmlNode$Parent;" (.ref op)) (F_ob_previous : Fld Z h0 ob "com/example/entitygate/entitygate/HtmlNode" "previous" "Lcom/example/entitygate/entitygate/HtmlNode;" (.ref oa)) (F_ob_next : Fld Z h0 ob "com/example/entitygate/entitygate/HtmlNode" "next" "Lcom/example/entitygate/entitygate/HtmlNode;" (.ref oc)) (F_ob_first : Fld Z h0 ob "com/example/entitygate/entitygate/HtmlNode$Parent" "first" "Lcom/example/entitygate/entitygate/HtmlNode;" .null) (F_ob_last : Fld Z h0 ob "com/example/entitygate/entitygate/HtmlNode$Parent" "last" "Lcom/example/entitygate/entitygate/HtmlNode;" .null) (F_oc_parent : Fld Z h0 oc "com/example/entitygate/entitygate/HtmlNode" "parent" "Lcom/example/entitygate/entitygate/HtmlNode$Parent;" (.ref op)) (F_oc_previous : Fld Z h0 oc "com/example/entitygate/entitygate/HtmlNode" "previous" "Lcom/example/entitygate/entitygate/HtmlNode;" (.ref ob)) (F_oc_next : Fld Z h0 oc "com/example/entitygate/entitygate/HtmlNode" "next" "Lcom/example/entitygate/entitygate/HtmlNode;" .null) (F_oc_first : Fld Z h0 oc "com/example/entitygate/entitygate/HtmlNode$Parent" "first" "Lcom/example/entitygate/entitygate/HtmlNode;" .null) (F_oc_last : Fld Z h0 oc "com/example/entitygate/entitygate/HtmlNode$Parent" "last" "Lcom/example/entitygate/entitygate/HtmlNode;" .null) (ne_op_oa : op ≠ oa) (ne_op_ob : op ≠ ob) (ne_op_oc : op ≠ oc) (ne_oa_ob : oa ≠ ob) (ne_oa_oc : oa ≠ oc) (ne_ob_oc : ob ≠ oc) (g_op : n0 ≤ op) (g_oa : n0 ≤ oa) (g_ob : n0 ≤ ob) (g_oc : n0 ≤ oc) :
    MetFree l (⟨"com/example/entitygate/entitygate/HtmlNode", "detach", "()V"⟩ : MethodName) (head1 (Jvm.Cond.code (⟨"com/example/entitygate/entitygate/HtmlNode", "detach", "()V"⟩ : MethodName) prog_14_method_2_code 1 none :: ws) ({ frames := 0, cells := 0, slots := 0, locals := 0 } : Room)) (fun aA U => aA = #[(.ref ob)] ∧ Z.Warmed39 U.vm ∧ U.heap = h0) (fun _ _ _ _ _ => True) (fun _ U oO U' => ∃ vV LL, oO = .returned vV ∧ Q_det31 Z op oa ob oc h0 n0 vV U'.heap LL ∧ FrameEnd U oO U' LL ({ frames := 0, cells := 0, slots := 0, locals := 0 } : Room).cells ({ frames := 0, cells := 0, slots := 0, locals := 0 } : Room).slots) := by
  refine MetFree.of_bodySF (plainFor_of_name pn_0) hisR ?_
  intro p e s m args below meth c s₁ Bd hml0 hP hK
  obtain ⟨rfl, hZ, hh⟩ := hP
  have hx := Bd.exec
  have hby := Bd.bytes
  have hml : c.maxLocals = 1 := hml0
  have hown : s.vm.findClass "com/example/entitygate/entitygate/HtmlNode" = some m.cls := findClass_of_methodNamed Bd.named
  have hnm := (name_of_methodNamed Bd.named Bd.method).1
  have X0 : Stand p l e ({ frames := 0, cells := 0, slots := 0, locals := 0 } : Room) s m #[(.ref ob)] below meth c s₁ [] 0 0 := Stand.of_body Bd
  have e0 : s₁.heap = h0 := by rw [← hh, Bd.state]; rfl
  have N0 := Fr.nil n0
  have hret := Bd.returns
  have hlk : meth.locks = false := Bd.notSynchronized
  refine own_start (ef_0 m ob) ?_
  show own_Go p e below s (Q_det31 Z op oa ob oc h0 n0) ({ frames := 0, cells := 0, slots := 0, locals := 0 } : Room).cells ({ frames := 0, cells := 0, slots := 0, locals := 0 } : Room).slots (s₁.setTop (mkF m 0 #[.val (.ref ob)] []))
  refine g_aload_n X0 hx 1 (hb hby d_prog_14_method_2_0) rfl rfl rfl ?_
  refine own_getF X0 hx hZ hown (host := "") (Or.inl (hw _ (List.mem_of_getElem? (i := 24) rfl))) Via.refl e0 F_ob_parent 4 (hb hby d_prog_14_method_2_1) rfl fun T297 X297 e297 => ?_
  refine g_ifnonnullYes X297 hx 8 (hb hby d_prog_14_method_2_4) (by decide) (by decide) ?_
  refine g_aload_n X297 hx 9 (hb hby d_prog_14_method_2_8) rfl rfl rfl ?_
  refine own_getF X297 hx hZ hown (host := "") (Or.inl (hw _ (List.mem_of_getElem? (i := 58) rfl))) Via.refl e297 F_ob_previous 12 (hb hby d_prog_14_method_2_9) rfl fun T298 X298 e298 => ?_
  refine g_ifnonnullYes X298 hx 29 (hb hby d_prog_14_method_2_12) (by decide) (by decide) ?_
  refine g_aload_n X298 hx 30 (hb hby d_prog_14_method_2_29) rfl rfl rfl ?_
  refine own_getF X298 hx hZ hown (host := "") (Or.inl (hw _ (List.mem_of_getElem? (i := 58) rfl))) Via.refl e298 F_ob_previous 33 (hb hby d_prog_14_method_2_30) rfl fun T299 X299 e299 => ?_
  refine g_aload_n X299 hx 34 (hb hby d_prog_14_method_2_33) rfl rfl rfl ?_
  refine own_getF X299 hx hZ hown (host := "") (Or.inl (hw _ (List.mem_of_getElem? (i := 59) rfl))) Via.refl e299 F_ob_next 37 (hb hby d_prog_14_method_2_34) rfl fun T300 X300 e300 => ?_
  refine own_putF X300 hx hZ hown (host := "") (Or.inl (hw _ (List.mem_of_getElem? (i := 59) rfl))) Via.refl e300 F_oa_next E_oa (Or.inl (hw _ (List.mem_of_getElem? (i := 42) rfl))) (hw _ (List.mem_of_getElem? (i := 1) rfl)) (ty := (.object "com/example/entitygate/entitygate/HtmlNode")) (by decide) rfl rfl 40 (hb hby d_prog_14_method_2_37) rfl fun T301 h301 X301 e301 W301 => ?_
  have f301 : Fld Z h301 oa "com/example/entitygate/entitygate/HtmlNode" "next" "Lcom/example/entitygate/entitygate/HtmlNode;" (.ref oc) := Fld.same W301 F_oa_next
  have N301 := Fr.snoc X301 N0 g_oa
  have z302 : n0 ≤ h301.size := (Nat.le_trans Z0 (Keep.of_wr W301).1)
  have K303 : Keep h0 h301 [ob, oa, oc] := (Keep.refl h0 [ob, oa, oc]).wr W301 (Or.inl (List.mem_of_getElem? (i := 1) rfl))
  refine g_aload_n X301 hx 41 (hb hby d_prog_14_method_2_40) rfl rfl rfl ?_
  have f304 : Fld Z h301 ob "com/example/entitygate/entitygate/HtmlNode" "next" "Lcom/example/entitygate/entitygate/HtmlNode;" (.ref oc) := (Fld.other W301 F_ob_next (Or.inl (Ne.symm ne_oa_ob)))
  refine own_getF X301 hx hZ hown (host := "") (Or.inl (hw _ (List.mem_of_getElem? (i := 59) rfl))) Via.refl e301 f304 44 (hb hby d_prog_14_method_2_41) rfl fun T305 X305 e305 => ?_
  refine g_ifnonnullYes X305 hx 61 (hb hby d_prog_14_method_2_44) (by decide) (by decide) ?_
  refine g_aload_n X305 hx 62 (hb hby d_prog_14_method_2_61) rfl rfl rfl ?_
  refine own_getF X305 hx hZ hown (host := "") (Or.inl (hw _ (List.mem_of_getElem? (i := 59) rfl))) Via.refl e305 f304 65 (hb hby d_prog_14_method_2_62) rfl fun T306 X306 e306 => ?_
  refine g_aload_n X306 hx 66 (hb hby d_prog_14_method_2_65) rfl rfl rfl ?_
  have f307 : Fld Z h301 ob "com/example/entitygate/entitygate/HtmlNode" "previous" "Lcom/example/entitygate/entitygate/HtmlNode;" (.ref oa) := (Fld.other W301 F_ob_previous (Or.inl (Ne.symm ne_oa_ob)))
  refine own_getF X306 hx hZ hown (host := "") (Or.inl (hw _ (List.mem_of_getElem? (i := 58) rfl))) Via.refl e306 f307 69 (hb hby d_prog_14_method_2_66) rfl fun T308 X308 e308 => ?_
  have f309 : Exa Z h301 oc "com/example/entitygate/entitygate/HtmlNode$Document" := (Exa.wr W301 E_oc)
  have f310 : Fld Z h301 oc "com/example/entitygate/entitygate/HtmlNode" "previous" "Lcom/example/entitygate/entitygate/HtmlNode;" (.ref ob) := (Fld.other W301 F_oc_previous (Or.inl (Ne.symm ne_oa_oc)))
  refine own_putF X308 hx hZ hown (host := "") (Or.inl (hw _ (List.mem_of_getElem? (i := 58) rfl))) Via.refl e308 f310 f309 (Or.inl (hw _ (List.mem_of_getElem? (i := 40) rfl))) (hw _ (List.mem_of_getElem? (i := 1) rfl)) (ty := (.object "com/example/entitygate/entitygate/HtmlNode")) (by decide) rfl rfl 72 (hb hby d_prog_14_method_2_69) rfl fun T311 h311 X311 e311 W311 => ?_
  have f311 : Fld Z h311 oc "com/example/entitygate/entitygate/HtmlNode" "previous" "Lcom/example/entitygate/entitygate/HtmlNode;" (.ref oa) := Fld.same W311 f310
  have N311 := Fr.snoc X311 N301 g_oc
  have z312 : n0 ≤ h311.size := (Nat.le_trans z302 (Keep.of_wr W311).1)
  have K313 : Keep h0 h311 [ob, oa, oc] := K303.wr W311 (Or.inl (List.mem_of_getElem? (i := 2) rfl))
  refine g_aload_n X311 hx 73 (hb hby d_prog_14_method_2_72) rfl rfl rfl ?_
  refine g_aconst_null X311 hx 74 (hb hby d_prog_14_method_2_73) rfl ?_
  have f314 : Exa Z h311 ob "com/example/entitygate/entitygate/HtmlNode$Document" := (Exa.wr W311 (Exa.wr W301 E_ob))
  have f315 : Fld Z h311 ob "com/example/entitygate/entitygate/HtmlNode" "parent" "Lcom/example/entitygate/entitygate/HtmlNode$Parent;" (.ref op) := (Fld.other W311 (Fld.other W301 F_ob_parent (Or.inl (Ne.symm ne_oa_ob))) (Or.inl ne_ob_oc))
  refine own_putF X311 hx hZ hown (host := "") (Or.inl (hw _ (List.mem_of_getElem? (i := 24) rfl))) Via.refl e311 f315 f314 (Or.inl (hw _ (List.mem_of_getElem? (i := 25) rfl))) (hw _ (List.mem_of_getElem? (i := 1) rfl)) (ty := (.object "com/example/entitygate/entitygate/HtmlNode$Parent")) (by decide) rfl rfl 77 (hb hby d_prog_14_method_2_74) rfl fun T316 h316 X316 e316 W316 => ?_
  have f316 : Fld Z h316 ob "com/example/entitygate/entitygate/HtmlNode" "parent" "Lcom/example/entitygate/entitygate/HtmlNode$Parent;" .null := Fld.same W316 f315
  have N316 := Fr.snoc X316 N311 g_ob
  have z317 : n0 ≤ h316.size := (Nat.le_trans z312 (Keep.of_wr W316).1)
  have K318 : Keep h0 h316 [ob, oa, oc] := K313.wr W316 (Or.inl (List.mem_of_getElem? (i := 0) rfl))
  refine g_aload_n X316 hx 78 (hb hby d_prog_14_method_2_77) rfl rfl rfl ?_
  refine g_aconst_null X316 hx 79 (hb hby d_prog_14_method_2_78) rfl ?_
  have f319 : Exa Z h316 ob "com/example/entitygate/entitygate/HtmlNode$Document" := (Exa.wr W316 f314)
  have f320 : Fld Z h316 ob "com/example/entitygate/entitygate/HtmlNode" "previous" "Lcom/example/entitygate/entitygate/HtmlNode;" (.ref oa) := (Fld.other W316 (Fld.other W311 f307 (Or.inl ne_ob_oc)) (Or.inr (slot_ne (Or.inl (hw _ (List.mem_of_getElem? (i := 40) rfl))) (Or.inl (hw _ (List.mem_of_getElem? (i := 25) rfl))) (by decide) (t := (.object "com/example/entitygate/entitygate/HtmlNode")) (t' := (.object "com/example/entitygate/entitygate/HtmlNode$Parent")) (by decide) (by decide))))
  refine own_putF X316 hx hZ hown (host := "") (Or.inl (hw _ (List.mem_of_getElem? (i := 58) rfl))) Via.refl e316 f320 f319 (Or.inl (hw _ (List.mem_of_getElem? (i := 40) rfl))) (hw _ (List.mem_of_getElem? (i := 1) rfl)) (ty := (.object "com/example/entitygate/entitygate/HtmlNode")) (by decide) rfl rfl 82 (hb hby d_prog_14_method_2_79) rfl fun T321 h321 X321 e321 W321 => ?_
  have f321 : Fld Z h321 ob "com/example/entitygate/entitygate/HtmlNode" "previous" "Lcom/example/entitygate/entitygate/HtmlNode;" .null := Fld.same W321 f320
  have N321 := Fr.snoc X321 N316 g_ob
  have z322 : n0 ≤ h321.size := (Nat.le_trans z317 (Keep.of_wr W321).1)
  have K323 : Keep h0 h321 [ob, oa, oc] := K318.wr W321 (Or.inl (List.mem_of_getElem? (i := 0) rfl))
  refine g_aload_n X321 hx 83 (hb hby d_prog_14_method_2_82) rfl rfl rfl ?_
  refine g_aconst_null X321 hx 84 (hb hby d_prog_14_method_2_83) rfl ?_
  have f324 : Exa Z h321 ob "com/example/entitygate/entitygate/HtmlNode$Document" := (Exa.wr W321 f319)
  have f325 : Fld Z h321 ob "com/example/entitygate/entitygate/HtmlNode" "next" "Lcom/example/entitygate/entitygate/HtmlNode;" (.ref oc) := (Fld.other W321 (Fld.other W316 (Fld.other W311 f304 (Or.inl ne_ob_oc)) (Or.inr (slot_ne (Or.inl (hw _ (List.mem_of_getElem? (i := 42) rfl))) (Or.inl (hw _ (List.mem_of_getElem? (i := 25) rfl))) (by decide) (t := (.object "com/example/entitygate/entitygate/HtmlNode")) (t' := (.object "com/example/entitygate/entitygate/HtmlNode$Parent")) (by decide) (by decide)))) (Or.inr (slot_ne (Or.inl (hw _ (List.mem_of_getElem? (i := 42) rfl))) (Or.inl (hw _ (List.mem_of_getElem? (i := 40) rfl))) (by decide) (t := (.object "com/example/entitygate/entitygate/HtmlNode")) (t' := (.object "com/example/entitygate/entitygate/HtmlNode")) (by decide) (by decide))))
  refine own_putF X321 hx hZ hown (host := "") (Or.inl (hw _ (List.mem_of_getElem? (i := 59) rfl))) Via.refl e321 f325 f324 (Or.inl (hw _ (List.mem_of_getElem? (i := 42) rfl))) (hw _ (List.mem_of_getElem? (i := 1) rfl)) (ty := (.object "com/example/entitygate/entitygate/HtmlNode")) (by decide) rfl rfl 87 (hb hby d_prog_14_method_2_84) rfl fun T326 h326 X326 e326 W326 => ?_
  have f326 : Fld Z h326 ob "com/example/entitygate/entitygate/HtmlNode" "next" "Lcom/example/entitygate/entitygate/HtmlNode;" .null := Fld.same W326 f325
  have N326 := Fr.snoc X326 N321 g_ob
  have z327 : n0 ≤ h326.size := (Nat.le_trans z322 (Keep.of_wr W326).1)
  have K328 : Keep h0 h326 [ob, oa, oc] := K323.wr W326 (Or.inl (List.mem_of_getElem? (i := 0) rfl))
  have f329 : Fld Z h326 ob "com/example/entitygate/entitygate/HtmlNode" "parent" "Lcom/example/entitygate/entitygate/HtmlNode$Parent;" .null := (Fld.other W326 (Fld.other W321 f316 (Or.inr (slot_ne (Or.inl (hw _ (List.mem_of_getElem? (i := 25) rfl))) (Or.inl (hw _ (List.mem_of_getElem? (i := 40) rfl))) (by decide) (t := (.object "com/example/entitygate/entitygate/HtmlNode$Parent")) (t' := (.object "com/example/entitygate/entitygate/HtmlNode")) (by decide) (by decide)))) (Or.inr (slot_ne (Or.inl (hw _ (List.mem_of_getElem? (i := 25) rfl))) (Or.inl (hw _ (List.mem_of_getElem? (i := 42) rfl))) (by decide) (t := (.object "com/example/entitygate/entitygate/HtmlNode$Parent")) (t' := (.object "com/example/entitygate/entitygate/HtmlNode")) (by decide) (by decide))))
  have f330 : Fld Z h326 ob "com/example/entitygate/entitygate/HtmlNode" "previous" "Lcom/example/entitygate/entitygate/HtmlNode;" .null := (Fld.other W326 f321 (Or.inr (slot_ne (Or.inl (hw _ (List.mem_of_getElem? (i := 40) rfl))) (Or.inl (hw _ (List.mem_of_getElem? (i := 42) rfl))) (by decide) (t := (.object "com/example/entitygate/entitygate/HtmlNode")) (t' := (.object "com/example/entitygate/entitygate/HtmlNode")) (by decide) (by decide))))
  have f331 : Fld Z h326 ob "com/example/entitygate/entitygate/HtmlNode$Parent" "first" "Lcom/example/entitygate/entitygate/HtmlNode;" .null := (Fld.other W326 (Fld.other W321 (Fld.other W316 (Fld.other W311 (Fld.other W301 F_ob_first (Or.inl (Ne.symm ne_oa_ob))) (Or.inl ne_ob_oc)) (Or.inr (slot_ne (Or.inl (hw _ (List.mem_of_getElem? (i := 30) rfl))) (Or.inl (hw _ (List.mem_of_getElem? (i := 25) rfl))) (by decide) (t := (.object "com/example/entitygate/entitygate/HtmlNode")) (t' := (.object "com/example/entitygate/entitygate/HtmlNode$Parent")) (by decide) (by decide)))) (Or.inr (slot_ne (Or.inl (hw _ (List.mem_of_getElem? (i := 30) rfl))) (Or.inl (hw _ (List.mem_of_getElem? (i := 40) rfl))) (by decide) (t := (.object "com/example/entitygate/entitygate/HtmlNode")) (t' := (.object "com/example/entitygate/entitygate/HtmlNode")) (by decide) (by decide)))) (Or.inr (slot_ne (Or.inl (hw _ (List.mem_of_getElem? (i := 30) rfl))) (Or.inl (hw _ (List.mem_of_getElem? (i := 42) rfl))) (by decide) (t := (.object "com/example/entitygate/entitygate/HtmlNode")) (t' := (.object "com/example/entitygate/entitygate/HtmlNode")) (by decide) (by decide))))
  have f332 : Fld Z h326 ob "com/example/entitygate/entitygate/HtmlNode$Parent" "last" "Lcom/example/entitygate/entitygate/HtmlNode;" .null := (Fld.other W326 (Fld.other W321 (Fld.other W316 (Fld.other W311 (Fld.other W301 F_ob_last (Or.inl (Ne.symm ne_oa_ob))) (Or.inl ne_ob_oc)) (Or.inr (slot_ne (Or.inl (hw _ (List.mem_of_getElem? (i := 33) rfl))) (Or.inl (hw _ (List.mem_of_getElem? (i := 25) rfl))) (by decide) (t := (.object "com/example/entitygate/entitygate/HtmlNode")) (t' := (.object "com/example/entitygate/entitygate/HtmlNode$Parent")) (by decide) (by decide)))) (Or.inr (slot_ne (Or.inl (hw _ (List.mem_of_getElem? (i := 33) rfl))) (Or.inl (hw _ (List.mem_of_getElem? (i := 40) rfl))) (by decide) (t := (.object "com/example/entitygate/entitygate/HtmlNode")) (t' := (.object "com/example/entitygate/entitygate/HtmlNode")) (by decide) (by decide)))) (Or.inr (slot_ne (Or.inl (hw _ (List.mem_of_getElem? (i := 33) rfl))) (Or.inl (hw _ (List.mem_of_getElem? (i := 42) rfl))) (by decide) (t := (.object "com/example/entitygate/entitygate/HtmlNode")) (t' := (.object "com/example/entitygate/entitygate/HtmlNode")) (by decide) (by decide))))
  have f333 : Fld Z h326 oa "com/example/entitygate/entitygate/HtmlNode" "parent" "Lcom/example/entitygate/entitygate/HtmlNode$Parent;" (.ref op) := (Fld.other W326 (Fld.other W321 (Fld.other W316 (Fld.other W311 (Fld.other W301 F_oa_parent (Or.inr (slot_ne (Or.inl (hw _ (List.mem_of_getElem? (i := 25) rfl))) (Or.inl (hw _ (List.mem_of_getElem? (i := 42) rfl))) (by decide) (t := (.object "com/example/entitygate/entitygate/HtmlNode$Parent")) (t' := (.object "com/example/entitygate/entitygate/HtmlNode")) (by decide) (by decide)))) (Or.inl ne_oa_oc)) (Or.inl ne_oa_ob)) (Or.inl ne_oa_ob)) (Or.inl ne_oa_ob))
  have f334 : Fld Z h326 oa "com/example/entitygate/entitygate/HtmlNode" "previous" "Lcom/example/entitygate/entitygate/HtmlNode;" .null := (Fld.other W326 (Fld.other W321 (Fld.other W316 (Fld.other W311 (Fld.other W301 F_oa_previous (Or.inr (slot_ne (Or.inl (hw _ (List.mem_of_getElem? (i := 40) rfl))) (Or.inl (hw _ (List.mem_of_getElem? (i := 42) rfl))) (by decide) (t := (.object "com/example/entitygate/entitygate/HtmlNode")) (t' := (.object "com/example/entitygate/entitygate/HtmlNode")) (by decide) (by decide)))) (Or.inl ne_oa_oc)) (Or.inl ne_oa_ob)) (Or.inl ne_oa_ob)) (Or.inl ne_oa_ob))
  have f335 : Fld Z h326 oa "com/example/entitygate/entitygate/HtmlNode" "next" "Lcom/example/entitygate/entitygate/HtmlNode;" (.ref oc) := (Fld.other W326 (Fld.other W321 (Fld.other W316 (Fld.other W311 f301 (Or.inl ne_oa_oc)) (Or.inl ne_oa_ob)) (Or.inl ne_oa_ob)) (Or.inl ne_oa_ob))
  have f336 : Fld Z h326 oa "com/example/entitygate/entitygate/HtmlNode$Parent" "first" "Lcom/example/entitygate/entitygate/HtmlNode;" .null := (Fld.other W326 (Fld.other W321 (Fld.other W316 (Fld.other W311 (Fld.other W301 F_oa_first (Or.inr (slot_ne (Or.inl (hw _ (List.mem_of_getElem? (i := 30) rfl))) (Or.inl (hw _ (List.mem_of_getElem? (i := 42) rfl))) (by decide) (t := (.object "com/example/entitygate/entitygate/HtmlNode")) (t' := (.object "com/example/entitygate/entitygate/HtmlNode")) (by decide) (by decide)))) (Or.inl ne_oa_oc)) (Or.inl ne_oa_ob)) (Or.inl ne_oa_ob)) (Or.inl ne_oa_ob))
  have f337 : Fld Z h326 oa "com/example/entitygate/entitygate/HtmlNode$Parent" "last" "Lcom/example/entitygate/entitygate/HtmlNode;" .null := (Fld.other W326 (Fld.other W321 (Fld.other W316 (Fld.other W311 (Fld.other W301 F_oa_last (Or.inr (slot_ne (Or.inl (hw _ (List.mem_of_getElem? (i := 33) rfl))) (Or.inl (hw _ (List.mem_of_getElem? (i := 42) rfl))) (by decide) (t := (.object "com/example/entitygate/entitygate/HtmlNode")) (t' := (.object "com/example/entitygate/entitygate/HtmlNode")) (by decide) (by decide)))) (Or.inl ne_oa_oc)) (Or.inl ne_oa_ob)) (Or.inl ne_oa_ob)) (Or.inl ne_oa_ob))
  have f338 : Fld Z h326 oc "com/example/entitygate/entitygate/HtmlNode" "parent" "Lcom/example/entitygate/entitygate/HtmlNode$Parent;" (.ref op) := (Fld.other W326 (Fld.other W321 (Fld.other W316 (Fld.other W311 (Fld.other W301 F_oc_parent (Or.inl (Ne.symm ne_oa_oc))) (Or.inr (slot_ne (Or.inl (hw _ (List.mem_of_getElem? (i := 25) rfl))) (Or.inl (hw _ (List.mem_of_getElem? (i := 40) rfl))) (by decide) (t := (.object "com/example/entitygate/entitygate/HtmlNode$Parent")) (t' := (.object "com/example/entitygate/entitygate/HtmlNode")) (by decide) (by decide)))) (Or.inl (Ne.symm ne_ob_oc))) (Or.inl (Ne.symm ne_ob_oc))) (Or.inl (Ne.symm ne_ob_oc)))
  have f339 : Fld Z h326 oc "com/example/entitygate/entitygate/HtmlNode" "previous" "Lcom/example/entitygate/entitygate/HtmlNode;" (.ref oa) := (Fld.other W326 (Fld.other W321 (Fld.other W316 f311 (Or.inl (Ne.symm ne_ob_oc))) (Or.inl (Ne.symm ne_ob_oc))) (Or.inl (Ne.symm ne_ob_oc)))
  have f340 : Fld Z h326 oc "com/example/entitygate/entitygate/HtmlNode" "next" "Lcom/example/entitygate/entitygate/HtmlNode;" .null := (Fld.other W326 (Fld.other W321 (Fld.other W316 (Fld.other W311 (Fld.other W301 F_oc_next (Or.inl (Ne.symm ne_oa_oc))) (Or.inr (slot_ne (Or.inl (hw _ (List.mem_of_getElem? (i := 42) rfl))) (Or.inl (hw _ (List.mem_of_getElem? (i := 40) rfl))) (by decide) (t := (.object "com/example/entitygate/entitygate/HtmlNode")) (t' := (.object "com/example/entitygate/entitygate/HtmlNode")) (by decide) (by decide)))) (Or.inl (Ne.symm ne_ob_oc))) (Or.inl (Ne.symm ne_ob_oc))) (Or.inl (Ne.symm ne_ob_oc)))
  have f341 : Fld Z h326 oc "com/example/entitygate/entitygate/HtmlNode$Parent" "first" "Lcom/example/entitygate/entitygate/HtmlNode;" .null := (Fld.other W326 (Fld.other W321 (Fld.other W316 (Fld.other W311 (Fld.other W301 F_oc_first (Or.inl (Ne.symm ne_oa_oc))) (Or.inr (slot_ne (Or.inl (hw _ (List.mem_of_getElem? (i := 30) rfl))) (Or.inl (hw _ (List.mem_of_getElem? (i := 40) rfl))) (by decide) (t := (.object "com/example/entitygate/entitygate/HtmlNode")) (t' := (.object "com/example/entitygate/entitygate/HtmlNode")) (by decide) (by decide)))) (Or.inl (Ne.symm ne_ob_oc))) (Or.inl (Ne.symm ne_ob_oc))) (Or.inl (Ne.symm ne_ob_oc)))
  have f342 : Fld Z h326 oc "com/example/entitygate/entitygate/HtmlNode$Parent" "last" "Lcom/example/entitygate/entitygate/HtmlNode;" .null := (Fld.other W326 (Fld.other W321 (Fld.other W316 (Fld.other W311 (Fld.other W301 F_oc_last (Or.inl (Ne.symm ne_oa_oc))) (Or.inr (slot_ne (Or.inl (hw _ (List.mem_of_getElem? (i := 33) rfl))) (Or.inl (hw _ (List.mem_of_getElem? (i := 40) rfl))) (by decide) (t := (.object "com/example/entitygate/entitygate/HtmlNode")) (t' := (.object "com/example/entitygate/entitygate/HtmlNode")) (by decide) (by decide)))) (Or.inl (Ne.symm ne_ob_oc))) (Or.inl (Ne.symm ne_ob_oc))) (Or.inl (Ne.symm ne_ob_oc)))
  refine own_retV X326 hx hlk hret (hb hby d_prog_14_method_2_87) ?_ (by decide) (by decide)
  rw [e326]
  exact ⟨rfl, N326, K328, f329, f330, f326, f331, f332, f333, f334, f335, f336, f337, f338, f339, f340, f341, f342⟩
def Q_det32 (Z : State) (op : Addr) (oa : Addr) (ob : Addr) (oc : Addr) (h0 : Heap) (n0 : Nat) (v : Option Value) (h : Heap) (L : List Loc) : Prop := v = none ∧ Fr n0 L ∧ Keep h0 h [oc, ob, op] ∧ Fld Z h oc "com/example/entitygate/entitygate/HtmlNode" "parent" "Lcom/example/entitygate/entitygate/HtmlNode$Parent;" .null ∧ Fld Z h oc "com/example/entitygate/entitygate/HtmlNode" "previous" "Lcom/example/entitygate/entitygate/HtmlNode;" .null ∧ Fld Z h oc "com/example/entitygate/entitygate/HtmlNode" "next" "Lcom/example/entitygate/entitygate/HtmlNode;" .null ∧ Fld Z h oc "com/example/entitygate/entitygate/HtmlNode$Parent" "first" "Lcom/example/entitygate/entitygate/HtmlNode;" .null ∧ Fld Z h oc "com/example/entitygate/entitygate/HtmlNode$Parent" "last" "Lcom/example/entitygate/entitygate/HtmlNode;" .null ∧ Fld Z h ob "com/example/entitygate/entitygate/HtmlNode" "parent" "Lcom/example/entitygate/entitygate/HtmlNode$Parent;" (.ref op) ∧ Fld Z h ob "com/example/entitygate/entitygate/HtmlNode" "previous" "Lcom/example/entitygate/entitygate/HtmlNode;" (.ref oa) ∧ Fld Z h ob "com/example/entitygate/entitygate/HtmlNode" "next" "Lcom/example/entitygate/entitygate/HtmlNode;" .null ∧ Fld Z h ob "com/example/entitygate/entitygate/HtmlNode$Parent" "first" "Lcom/example/entitygate/entitygate/HtmlNode;" .null ∧ Fld Z h ob "com/example/entitygate/entitygate/HtmlNode$Parent" "last" "Lcom/example/entitygate/entitygate/HtmlNode;" .null ∧ Fld Z h op "com/example/entitygate/entitygate/HtmlNode" "parent" "Lcom/example/entitygate/entitygate/HtmlNode$Parent;" .null ∧ Fld Z h op "com/example/entitygate/entitygate/HtmlNode" "previous" "Lcom/example/entitygate/entitygate/HtmlNode;" .null ∧ Fld Z h op "com/example/entitygate/entitygate/HtmlNode" "next" "Lcom/example/entitygate/entitygate/HtmlNode;" .null ∧ Fld Z h op "com/example/entitygate/entitygate/HtmlNode$Parent" "first" "Lcom/example/entitygate/entitygate/HtmlNode;" (.ref oa) ∧ Fld Z h op "com/example/entitygate/entitygate/HtmlNode$Parent" "last" "Lcom/example/entitygate/entitygate/HtmlNode;" (.ref ob)
set_option maxRecDepth 65536 in
set_option maxHeartbeats 40000000 in
theorem rm_det32 (l : Launch) (Z : State) (a0 : Array Value) (hw : ∀ d ∈ tables_1, d.before a0 Z = true) (ws : List Jvm.Cond) (op : Addr) (oa : Addr) (ob : Addr) (oc : Addr) (h0 : Heap) (n0 : Nat) (Z0 : n0 ≤ h0.size) (E_op : Exa Z h0 op "com/example/entitygate/entitygate/HtmlNode$Document") (E_oa : Exa Z h0 oa "com/example/entitygate/entitygate/HtmlNode$Document") (E_ob : Exa Z h0 ob "com/example/entitygate/entitygate/HtmlNode$Document") (E_oc : Exa Z h0 oc "com/example/entitygate/entitygate/HtmlNode$Document") (F_op_parent : Fld Z h0 op "com/example/entitygate/entitygate/HtmlNode" "parent" "Lcom/example/entitygate/entitygate/HtmlNode$Parent;" .null) (F_op_previous : Fld Z h0 op "com/example/entitygate/entitygate/HtmlNode" "previous" "Lcom/example/entitygate/entitygate/HtmlNode;" .null) (F_op_next : Fld Z h0 op "com/example/entitygate/entitygate/HtmlNode" "next" "Lcom/example/entitygate/entitygate/HtmlNode;" .null) (F_op_first : Fld Z h0 op "com/example/entitygate/entitygate/HtmlNode$Parent" "first" "Lcom/example/entitygate/entitygate/HtmlNode;" (.ref oa)) (F_op_last : Fld Z h0 op "com/example/entitygate/entitygate/HtmlNode$Parent" "last" "Lcom/example/entitygate/entitygate/HtmlNode;" (.ref oc)) (F_oa_parent : Fld Z h0 oa "com/example/entitygate/entitygate/HtmlNode" "parent" "Lcom/example/entitygate/entitygate/HtmlNode$Parent;" (.ref op)) (F_oa_previous : Fld Z h0 oa "com/example/entitygate/entitygate/HtmlNode" "previous" "Lcom/example/entitygate/entitygate/HtmlNode;" .null) (F_oa_next : Fld Z h0 oa "com/example/entitygate/entitygate/HtmlNode" "next" "Lcom/example/entitygate/entitygate/HtmlNode;" (.ref ob)) (F_oa_first : Fld Z h0 oa "com/example/entitygate/entitygate/HtmlNode$Parent" "first" "Lcom/example/entitygate/entitygate/HtmlNode;" .null) (F_oa_last : Fld Z h0 oa "com/example/entitygate/entitygate/HtmlNode$Parent" "last" "Lcom/example/entitygate/entitygate/HtmlNode;" .null) (F_ob_parent : Fld Z h0 ob "com/example/entitygate/entitygate/HtmlNode" "parent" "Lcom/example/entitygate/entitygate/HtmlNode$Parent;" (.ref op)) (F_ob_previous : Fld Z h0 ob "com/example/entitygate/entitygate/HtmlNode" "previous" "Lcom/example/entitygate/entitygate/HtmlNode;" (.ref oa)) (F_ob_next : Fld Z h0 ob "com/example/entitygate/entitygate/HtmlNode" "next" "Lcom/example/entitygate/entitygate/HtmlNode;" (.ref oc)) (F_ob_first : Fld Z h0 ob "com/example/entitygate/entitygate/HtmlNode$Parent" "first" "Lcom/example/entitygate/entitygate/HtmlNode;" .null) (F_ob_last : Fld Z h0 ob "com/example/entitygate/entitygate/HtmlNode$Parent" "last" "Lcom/example/entitygate/entitygate/HtmlNode;" .null) (F_oc_parent : Fld Z h0 oc "com/example/entitygate/entitygate/HtmlNode" "parent" "Lcom/example/entitygate/entitygate/HtmlNode$Parent;" (.ref op)) (F_oc_previous : Fld Z h0 oc "com/example/entitygate/entitygate/HtmlNode" "previous" "Lcom/example/entitygate/entitygate/HtmlNode;" (.ref ob)) (F_oc_next : Fld Z h0 oc "com/example/entitygate/entitygate/HtmlNode" "next" "Lcom/example/entitygate/entitygate/HtmlNode;" .null) (F_oc_first : Fld Z h0 oc "com/example/entitygate/entitygate/HtmlNode$Parent" "first" "Lcom/example/entitygate/entitygate/HtmlNode;" .null) (F_oc_last : Fld Z h0 oc "com/example/entitygate/entitygate/HtmlNode$Parent" "last" "Lcom/example/entitygate/entitygate/HtmlNode;" .null) (ne_op_oa : op ≠ oa) (ne_op_ob : op ≠ ob) (ne_op_oc : op ≠ oc) (ne_oa_ob : oa ≠ ob) (ne_oa_oc : oa ≠ oc) (ne_ob_oc : ob ≠ oc) (g_op : n0 ≤ op) (g_oa : n0 ≤ oa) (g_ob : n0 ≤ ob) (g_oc : n0 ≤ oc) :
    MetFree l (⟨"com/example/entitygate/entitygate/HtmlNode", "detach", "()V"⟩ : MethodName) (head1 (Jvm.Cond.code (⟨"com/example/entitygate/entitygate/HtmlNode", "detach", "()V"⟩ : MethodName) prog_14_method_2_code 1 none :: ws) ({ frames := 0, cells := 0, slots := 0, locals := 0 } : Room)) (fun aA U => aA = #[(.ref oc)] ∧ Z.Warmed39 U.vm ∧ U.heap = h0) (fun _ _ _ _ _ => True) (fun _ U oO U' => ∃ vV LL, oO = .returned vV ∧ Q_det32 Z op oa ob oc h0 n0 vV U'.heap LL ∧ FrameEnd U oO U' LL ({ frames := 0, cells := 0, slots := 0, locals := 0 } : Room).cells ({ frames := 0, cells := 0, slots := 0, locals := 0 } : Room).slots) := by
  refine MetFree.of_bodySF (plainFor_of_name pn_0) hisR ?_
  intro p e s m args below meth c s₁ Bd hml0 hP hK
  obtain ⟨rfl, hZ, hh⟩ := hP
  have hx := Bd.exec
  have hby := Bd.bytes
  have hml : c.maxLocals = 1 := hml0
  have hown : s.vm.findClass "com/example/entitygate/entitygate/HtmlNode" = some m.cls := findClass_of_methodNamed Bd.named
  have hnm := (name_of_methodNamed Bd.named Bd.method).1
  have X0 : Stand p l e ({ frames := 0, cells := 0, slots := 0, locals := 0 } : Room) s m #[(.ref oc)] below meth c s₁ [] 0 0 := Stand.of_body Bd
  have e0 : s₁.heap = h0 := by rw [← hh, Bd.state]; rfl
  have N0 := Fr.nil n0
  have hret := Bd.returns
  have hlk : meth.locks = false := Bd.notSynchronized
  refine own_start (ef_0 m oc) ?_
  show own_Go p e below s (Q_det32 Z op oa ob oc h0 n0) ({ frames := 0, cells := 0, slots := 0, locals := 0 } : Room).cells ({ frames := 0, cells := 0, slots := 0, locals := 0 } : Room).slots (s₁.setTop (mkF m 0 #[.val (.ref oc)] []))
  refine g_aload_n X0 hx 1 (hb hby d_prog_14_method_2_0) rfl rfl rfl ?_
  refine own_getF X0 hx hZ hown (host := "") (Or.inl (hw _ (List.mem_of_getElem? (i := 24) rfl))) Via.refl e0 F_oc_parent 4 (hb hby d_prog_14_method_2_1) rfl fun T343 X343 e343 => ?_
  refine g_ifnonnullYes X343 hx 8 (hb hby d_prog_14_method_2_4) (by decide) (by decide) ?_
  refine g_aload_n X343 hx 9 (hb hby d_prog_14_method_2_8) rfl rfl rfl ?_
  refine own_getF X343 hx hZ hown (host := "") (Or.inl (hw _ (List.mem_of_getElem? (i := 58) rfl))) Via.refl e343 F_oc_previous 12 (hb hby d_prog_14_method_2_9) rfl fun T344 X344 e344 => ?_
  refine g_ifnonnullYes X344 hx 29 (hb hby d_prog_14_method_2_12) (by decide) (by decide) ?_
  refine g_aload_n X344 hx 30 (hb hby d_prog_14_method_2_29) rfl rfl rfl ?_
  refine own_getF X344 hx hZ hown (host := "") (Or.inl (hw _ (List.mem_of_getElem? (i := 58) rfl))) Via.refl e344 F_oc_previous 33 (hb hby d_prog_14_method_2_30) rfl fun T345 X345 e345 => ?_
  refine g_aload_n X345 hx 34 (hb hby d_prog_14_method_2_33) rfl rfl rfl ?_
  refine own_getF X345 hx hZ hown (host := "") (Or.inl (hw _ (List.mem_of_getElem? (i := 59) rfl))) Via.refl e345 F_oc_next 37 (hb hby d_prog_14_method_2_34) rfl fun T346 X346 e346 => ?_
  refine own_putF X346 hx hZ hown (host := "") (Or.inl (hw _ (List.mem_of_getElem? (i := 59) rfl))) Via.refl e346 F_ob_next E_ob (Or.inl (hw _ (List.mem_of_getElem? (i := 42) rfl))) (hw _ (List.mem_of_getElem? (i := 1) rfl)) (ty := (.object "com/example/entitygate/entitygate/HtmlNode")) (by decide) rfl rfl 40 (hb hby d_prog_14_method_2_37) rfl fun T347 h347 X347 e347 W347 => ?_
  have f347 : Fld Z h347 ob "com/example/entitygate/entitygate/HtmlNode" "next" "Lcom/example/entitygate/entitygate/HtmlNode;" .null := Fld.same W347 F_ob_next
  have N347 := Fr.snoc X347 N0 g_ob
  have z348 : n0 ≤ h347.size := (Nat.le_trans Z0 (Keep.of_wr W347).1)
  have K349 : Keep h0 h347 [oc, ob, op] := (Keep.refl h0 [oc, ob, op]).wr W347 (Or.inl (List.mem_of_getElem? (i := 1) rfl))
  refine g_aload_n X347 hx 41 (hb hby d_prog_14_method_2_40) rfl rfl rfl ?_
  have f350 : Fld Z h347 oc "com/example/entitygate/entitygate/HtmlNode" "next" "Lcom/example/entitygate/entitygate/HtmlNode;" .null := (Fld.other W347 F_oc_next (Or.inl (Ne.symm ne_ob_oc)))
  refine own_getF X347 hx hZ hown (host := "") (Or.inl (hw _ (List.mem_of_getElem? (i := 59) rfl))) Via.refl e347 f350 44 (hb hby d_prog_14_method_2_41) rfl fun T351 X351 e351 => ?_
  refine g_ifnonnullNo X351 hx 47 (hb hby d_prog_14_method_2_44) rfl ?_
  refine g_aload_n X351 hx 48 (hb hby d_prog_14_method_2_47) rfl rfl rfl ?_
  have f352 : Fld Z h347 oc "com/example/entitygate/entitygate/HtmlNode" "parent" "Lcom/example/entitygate/entitygate/HtmlNode$Parent;" (.ref op) := (Fld.other W347 F_oc_parent (Or.inl (Ne.symm ne_ob_oc)))
  refine own_getF X351 hx hZ hown (host := "") (Or.inl (hw _ (List.mem_of_getElem? (i := 24) rfl))) Via.refl e351 f352 51 (hb hby d_prog_14_method_2_48) rfl fun T353 X353 e353 => ?_
  refine g_aload_n X353 hx 52 (hb hby d_prog_14_method_2_51) rfl rfl rfl ?_
  have f354 : Fld Z h347 oc "com/example/entitygate/entitygate/HtmlNode" "previous" "Lcom/example/entitygate/entitygate/HtmlNode;" (.ref ob) := (Fld.other W347 F_oc_previous (Or.inl (Ne.symm ne_ob_oc)))
  refine own_getF X353 hx hZ hown (host := "") (Or.inl (hw _ (List.mem_of_getElem? (i := 58) rfl))) Via.refl e353 f354 55 (hb hby d_prog_14_method_2_52) rfl fun T355 X355 e355 => ?_
  have f356 : Exa Z h347 op "com/example/entitygate/entitygate/HtmlNode$Document" := (Exa.wr W347 E_op)
  have f357 : Fld Z h347 op "com/example/entitygate/entitygate/HtmlNode$Parent" "last" "Lcom/example/entitygate/entitygate/HtmlNode;" (.ref oc) := (Fld.other W347 F_op_last (Or.inl ne_op_ob))
  refine own_putF X355 hx hZ hown (host := "") (Or.inl (hw _ (List.mem_of_getElem? (i := 60) rfl))) Via.refl e355 f357 f356 (Or.inl (hw _ (List.mem_of_getElem? (i := 33) rfl))) (hw _ (List.mem_of_getElem? (i := 1) rfl)) (ty := (.object "com/example/entitygate/entitygate/HtmlNode")) (by decide) rfl rfl 58 (hb hby d_prog_14_method_2_55) rfl fun T358 h358 X358 e358 W358 => ?_
  have f358 : Fld Z h358 op "com/example/entitygate/entitygate/HtmlNode$Parent" "last" "Lcom/example/entitygate/entitygate/HtmlNode;" (.ref ob) := Fld.same W358 f357
  have N358 := Fr.snoc X358 N347 g_op
  have z359 : n0 ≤ h358.size := (Nat.le_trans z348 (Keep.of_wr W358).1)
  have K360 : Keep h0 h358 [oc, ob, op] := K349.wr W358 (Or.inl (List.mem_of_getElem? (i := 2) rfl))
  refine g_goto X358 hx 72 (hb hby d_prog_14_method_2_58) (by decide) (by decide) ?_
  refine g_aload_n X358 hx 73 (hb hby d_prog_14_method_2_72) rfl rfl rfl ?_
  refine g_aconst_null X358 hx 74 (hb hby d_prog_14_method_2_73) rfl ?_
  have f361 : Exa Z h358 oc "com/example/entitygate/entitygate/HtmlNode$Document" := (Exa.wr W358 (Exa.wr W347 E_oc))
  have f362 : Fld Z h358 oc "com/example/entitygate/entitygate/HtmlNode" "parent" "Lcom/example/entitygate/entitygate/HtmlNode$Parent;" (.ref op) := (Fld.other W358 f352 (Or.inl (Ne.symm ne_op_oc)))
  refine own_putF X358 hx hZ hown (host := "") (Or.inl (hw _ (List.mem_of_getElem? (i := 24) rfl))) Via.refl e358 f362 f361 (Or.inl (hw _ (List.mem_of_getElem? (i := 25) rfl))) (hw _ (List.mem_of_getElem? (i := 1) rfl)) (ty := (.object "com/example/entitygate/entitygate/HtmlNode$Parent")) (by decide) rfl rfl 77 (hb hby d_prog_14_method_2_74) rfl fun T363 h363 X363 e363 W363 => ?_
  have f363 : Fld Z h363 oc "com/example/entitygate/entitygate/HtmlNode" "parent" "Lcom/example/entitygate/entitygate/HtmlNode$Parent;" .null := Fld.same W363 f362
  have N363 := Fr.snoc X363 N358 g_oc
  have z364 : n0 ≤ h363.size := (Nat.le_trans z359 (Keep.of_wr W363).1)
  have K365 : Keep h0 h363 [oc, ob, op] := K360.wr W363 (Or.inl (List.mem_of_getElem? (i := 0) rfl))
  refine g_aload_n X363 hx 78 (hb hby d_prog_14_method_2_77) rfl rfl rfl ?_
  refine g_aconst_null X363 hx 79 (hb hby d_prog_14_method_2_78) rfl ?_
  have f366 : Exa Z h363 oc "com/example/entitygate/entitygate/HtmlNode$Document" := (Exa.wr W363 f361)
  have f367 : Fld Z h363 oc "com/example/entitygate/entitygate/HtmlNode" "previous" "Lcom/example/entitygate/entitygate/HtmlNode;" (.ref ob) := (Fld.other W363 (Fld.other W358 f354 (Or.inl (Ne.symm ne_op_oc))) (Or.inr (slot_ne (Or.inl (hw _ (List.mem_of_getElem? (i := 40) rfl))) (Or.inl (hw _ (List.mem_of_getElem? (i := 25) rfl))) (by decide) (t := (.object "com/example/entitygate/entitygate/HtmlNode")) (t' := (.object "com/example/entitygate/entitygate/HtmlNode$Parent")) (by decide) (by decide))))
  refine own_putF X363 hx hZ hown (host := "") (Or.inl (hw _ (List.mem_of_getElem? (i := 58) rfl))) Via.refl e363 f367 f366 (Or.inl (hw _ (List.mem_of_getElem? (i := 40) rfl))) (hw _ (List.mem_of_getElem? (i := 1) rfl)) (ty := (.object "com/example/entitygate/entitygate/HtmlNode")) (by decide) rfl rfl 82 (hb hby d_prog_14_method_2_79) rfl fun T368 h368 X368 e368 W368 => ?_
  have f368 : Fld Z h368 oc "com/example/entitygate/entitygate/HtmlNode" "previous" "Lcom/example/entitygate/entitygate/HtmlNode;" .null := Fld.same W368 f367
  have N368 := Fr.snoc X368 N363 g_oc
  have z369 : n0 ≤ h368.size := (Nat.le_trans z364 (Keep.of_wr W368).1)
  have K370 : Keep h0 h368 [oc, ob, op] := K365.wr W368 (Or.inl (List.mem_of_getElem? (i := 0) rfl))
  refine g_aload_n X368 hx 83 (hb hby d_prog_14_method_2_82) rfl rfl rfl ?_
  refine g_aconst_null X368 hx 84 (hb hby d_prog_14_method_2_83) rfl ?_
  have f371 : Exa Z h368 oc "com/example/entitygate/entitygate/HtmlNode$Document" := (Exa.wr W368 f366)
  have f372 : Fld Z h368 oc "com/example/entitygate/entitygate/HtmlNode" "next" "Lcom/example/entitygate/entitygate/HtmlNode;" .null := (Fld.other W368 (Fld.other W363 (Fld.other W358 f350 (Or.inl (Ne.symm ne_op_oc))) (Or.inr (slot_ne (Or.inl (hw _ (List.mem_of_getElem? (i := 42) rfl))) (Or.inl (hw _ (List.mem_of_getElem? (i := 25) rfl))) (by decide) (t := (.object "com/example/entitygate/entitygate/HtmlNode")) (t' := (.object "com/example/entitygate/entitygate/HtmlNode$Parent")) (by decide) (by decide)))) (Or.inr (slot_ne (Or.inl (hw _ (List.mem_of_getElem? (i := 42) rfl))) (Or.inl (hw _ (List.mem_of_getElem? (i := 40) rfl))) (by decide) (t := (.object "com/example/entitygate/entitygate/HtmlNode")) (t' := (.object "com/example/entitygate/entitygate/HtmlNode")) (by decide) (by decide))))
  refine own_putF X368 hx hZ hown (host := "") (Or.inl (hw _ (List.mem_of_getElem? (i := 59) rfl))) Via.refl e368 f372 f371 (Or.inl (hw _ (List.mem_of_getElem? (i := 42) rfl))) (hw _ (List.mem_of_getElem? (i := 1) rfl)) (ty := (.object "com/example/entitygate/entitygate/HtmlNode")) (by decide) rfl rfl 87 (hb hby d_prog_14_method_2_84) rfl fun T373 h373 X373 e373 W373 => ?_
  have f373 : Fld Z h373 oc "com/example/entitygate/entitygate/HtmlNode" "next" "Lcom/example/entitygate/entitygate/HtmlNode;" .null := Fld.same W373 f372
  have N373 := Fr.snoc X373 N368 g_oc
  have z374 : n0 ≤ h373.size := (Nat.le_trans z369 (Keep.of_wr W373).1)
  have K375 : Keep h0 h373 [oc, ob, op] := K370.wr W373 (Or.inl (List.mem_of_getElem? (i := 0) rfl))
  have f376 : Fld Z h373 oc "com/example/entitygate/entitygate/HtmlNode" "parent" "Lcom/example/entitygate/entitygate/HtmlNode$Parent;" .null := (Fld.other W373 (Fld.other W368 f363 (Or.inr (slot_ne (Or.inl (hw _ (List.mem_of_getElem? (i := 25) rfl))) (Or.inl (hw _ (List.mem_of_getElem? (i := 40) rfl))) (by decide) (t := (.object "com/example/entitygate/entitygate/HtmlNode$Parent")) (t' := (.object "com/example/entitygate/entitygate/HtmlNode")) (by decide) (by decide)))) (Or.inr (slot_ne (Or.inl (hw _ (List.mem_of_getElem? (i := 25) rfl))) (Or.inl (hw _ (List.mem_of_getElem? (i := 42) rfl))) (by decide) (t := (.object "com/example/entitygate/entitygate/HtmlNode$Parent")) (t' := (.object "com/example/entitygate/entitygate/HtmlNode")) (by decide) (by decide))))
  have f377 : Fld Z h373 oc "com/example/entitygate/entitygate/HtmlNode" "previous" "Lcom/example/entitygate/entitygate/HtmlNode;" .null := (Fld.other W373 f368 (Or.inr (slot_ne (Or.inl (hw _ (List.mem_of_getElem? (i := 40) rfl))) (Or.inl (hw _ (List.mem_of_getElem? (i := 42) rfl))) (by decide) (t := (.object "com/example/entitygate/entitygate/HtmlNode")) (t' := (.object "com/example/entitygate/entitygate/HtmlNode")) (by decide) (by decide))))
  have f378 : Fld Z h373 oc "com/example/entitygate/entitygate/HtmlNode$Parent" "first" "Lcom/example/entitygate/entitygate/HtmlNode;" .null := (Fld.other W373 (Fld.other W368 (Fld.other W363 (Fld.other W358 (Fld.other W347 F_oc_first (Or.inl (Ne.symm ne_ob_oc))) (Or.inl (Ne.symm ne_op_oc))) (Or.inr (slot_ne (Or.inl (hw _ (List.mem_of_getElem? (i := 30) rfl))) (Or.inl (hw _ (List.mem_of_getElem? (i := 25) rfl))) (by decide) (t := (.object "com/example/entitygate/entitygate/HtmlNode")) (t' := (.object "com/example/entitygate/entitygate/HtmlNode$Parent")) (by decide) (by decide)))) (Or.inr (slot_ne (Or.inl (hw _ (List.mem_of_getElem? (i := 30) rfl))) (Or.inl (hw _ (List.mem_of_getElem? (i := 40) rfl))) (by decide) (t := (.object "com/example/entitygate/entitygate/HtmlNode")) (t' := (.object "com/example/entitygate/entitygate/HtmlNode")) (by decide) (by decide)))) (Or.inr (slot_ne (Or.inl (hw _ (List.mem_of_getElem? (i := 30) rfl))) (Or.inl (hw _ (List.mem_of_getElem? (i := 42) rfl))) (by decide) (t := (.object "com/example/entitygate/entitygate/HtmlNode")) (t' := (.object "com/example/entitygate/entitygate/HtmlNode")) (by decide) (by decide))))
  have f379 : Fld Z h373 oc "com/example/entitygate/entitygate/HtmlNode$Parent" "last" "Lcom/example/entitygate/entitygate/HtmlNode;" .null := (Fld.other W373 (Fld.other W368 (Fld.other W363 (Fld.other W358 (Fld.other W347 F_oc_last (Or.inl (Ne.symm ne_ob_oc))) (Or.inl (Ne.symm ne_op_oc))) (Or.inr (slot_ne (Or.inl (hw _ (List.mem_of_getElem? (i := 33) rfl))) (Or.inl (hw _ (List.mem_of_getElem? (i := 25) rfl))) (by decide) (t := (.object "com/example/entitygate/entitygate/HtmlNode")) (t' := (.object "com/example/entitygate/entitygate/HtmlNode$Parent")) (by decide) (by decide)))) (Or.inr (slot_ne (Or.inl (hw _ (List.mem_of_getElem? (i := 33) rfl))) (Or.inl (hw _ (List.mem_of_getElem? (i := 40) rfl))) (by decide) (t := (.object "com/example/entitygate/entitygate/HtmlNode")) (t' := (.object "com/example/entitygate/entitygate/HtmlNode")) (by decide) (by decide)))) (Or.inr (slot_ne (Or.inl (hw _ (List.mem_of_getElem? (i := 33) rfl))) (Or.inl (hw _ (List.mem_of_getElem? (i := 42) rfl))) (by decide) (t := (.object "com/example/entitygate/entitygate/HtmlNode")) (t' := (.object "com/example/entitygate/entitygate/HtmlNode")) (by decide) (by decide))))
  have f380 : Fld Z h373 ob "com/example/entitygate/entitygate/HtmlNode" "parent" "Lcom/example/entitygate/entitygate/HtmlNode$Parent;" (.ref op) := (Fld.other W373 (Fld.other W368 (Fld.other W363 (Fld.other W358 (Fld.other W347 F_ob_parent (Or.inr (slot_ne (Or.inl (hw _ (List.mem_of_getElem? (i := 25) rfl))) (Or.inl (hw _ (List.mem_of_getElem? (i := 42) rfl))) (by decide) (t := (.object "com/example/entitygate/entitygate/HtmlNode$Parent")) (t' := (.object "com/example/entitygate/entitygate/HtmlNode")) (by decide) (by decide)))) (Or.inl (Ne.symm ne_op_ob))) (Or.inl ne_ob_oc)) (Or.inl ne_ob_oc)) (Or.inl ne_ob_oc))
  have f381 : Fld Z h373 ob "com/example/entitygate/entitygate/HtmlNode" "previous" "Lcom/example/entitygate/entitygate/HtmlNode;" (.ref oa) := (Fld.other W373 (Fld.other W368 (Fld.other W363 (Fld.other W358 (Fld.other W347 F_ob_previous (Or.inr (slot_ne (Or.inl (hw _ (List.mem_of_getElem? (i := 40) rfl))) (Or.inl (hw _ (List.mem_of_getElem? (i := 42) rfl))) (by decide) (t := (.object "com/example/entitygate/entitygate/HtmlNode")) (t' := (.object "com/example/entitygate/entitygate/HtmlNode")) (by decide) (by decide)))) (Or.inl (Ne.symm ne_op_ob))) (Or.inl ne_ob_oc)) (Or.inl ne_ob_oc)) (Or.inl ne_ob_oc))
  have f382 : Fld Z h373 ob "com/example/entitygate/entitygate/HtmlNode" "next" "Lcom/example/entitygate/entitygate/HtmlNode;" .null := (Fld.other W373 (Fld.other W368 (Fld.other W363 (Fld.other W358 f347 (Or.inl (Ne.symm ne_op_ob))) (Or.inl ne_ob_oc)) (Or.inl ne_ob_oc)) (Or.inl ne_ob_oc))
  have f383 : Fld Z h373 ob "com/example/entitygate/entitygate/HtmlNode$Parent" "first" "Lcom/example/entitygate/entitygate/HtmlNode;" .null := (Fld.other W373 (Fld.other W368 (Fld.other W363 (Fld.other W358 (Fld.other W347 F_ob_first (Or.inr (slot_ne (Or.inl (hw _ (List.mem_of_getElem? (i := 30) rfl))) (Or.inl (hw _ (List.mem_of_getElem? (i := 42) rfl))) (by decide) (t := (.object "com/example/entitygate/entitygate/HtmlNode")) (t' := (.object "com/example/entitygate/entitygate/HtmlNode")) (by decide) (by decide)))) (Or.inl (Ne.symm ne_op_ob))) (Or.inl ne_ob_oc)) (Or.inl ne_ob_oc)) (Or.inl ne_ob_oc))
  have f384 : Fld Z h373 ob "com/example/entitygate/entitygate/HtmlNode$Parent" "last" "Lcom/example/entitygate/entitygate/HtmlNode;" .null := (Fld.other W373 (Fld.other W368 (Fld.other W363 (Fld.other W358 (Fld.other W347 F_ob_last (Or.inr (slot_ne (Or.inl (hw _ (List.mem_of_getElem? (i := 33) rfl))) (Or.inl (hw _ (List.mem_of_getElem? (i := 42) rfl))) (by decide) (t := (.object "com/example/entitygate/entitygate/HtmlNode")) (t' := (.object "com/example/entitygate/entitygate/HtmlNode")) (by decide) (by decide)))) (Or.inl (Ne.symm ne_op_ob))) (Or.inl ne_ob_oc)) (Or.inl ne_ob_oc)) (Or.inl ne_ob_oc))
  have f385 : Fld Z h373 op "com/example/entitygate/entitygate/HtmlNode" "parent" "Lcom/example/entitygate/entitygate/HtmlNode$Parent;" .null := (Fld.other W373 (Fld.other W368 (Fld.other W363 (Fld.other W358 (Fld.other W347 F_op_parent (Or.inl ne_op_ob)) (Or.inr (slot_ne (Or.inl (hw _ (List.mem_of_getElem? (i := 25) rfl))) (Or.inl (hw _ (List.mem_of_getElem? (i := 33) rfl))) (by decide) (t := (.object "com/example/entitygate/entitygate/HtmlNode$Parent")) (t' := (.object "com/example/entitygate/entitygate/HtmlNode")) (by decide) (by decide)))) (Or.inl ne_op_oc)) (Or.inl ne_op_oc)) (Or.inl ne_op_oc))
  have f386 : Fld Z h373 op "com/example/entitygate/entitygate/HtmlNode" "previous" "Lcom/example/entitygate/entitygate/HtmlNode;" .null := (Fld.other W373 (Fld.other W368 (Fld.other W363 (Fld.other W358 (Fld.other W347 F_op_previous (Or.inl ne_op_ob)) (Or.inr (slot_ne (Or.inl (hw _ (List.mem_of_getElem? (i := 40) rfl))) (Or.inl (hw _ (List.mem_of_getElem? (i := 33) rfl))) (by decide) (t := (.object "com/example/entitygate/entitygate/HtmlNode")) (t' := (.object "com/example/entitygate/entitygate/HtmlNode")) (by decide) (by decide)))) (Or.inl ne_op_oc)) (Or.inl ne_op_oc)) (Or.inl ne_op_oc))
  have f387 : Fld Z h373 op "com/example/entitygate/entitygate/HtmlNode" "next" "Lcom/example/entitygate/entitygate/HtmlNode;" .null := (Fld.other W373 (Fld.other W368 (Fld.other W363 (Fld.other W358 (Fld.other W347 F_op_next (Or.inl ne_op_ob)) (Or.inr (slot_ne (Or.inl (hw _ (List.mem_of_getElem? (i := 42) rfl))) (Or.inl (hw _ (List.mem_of_getElem? (i := 33) rfl))) (by decide) (t := (.object "com/example/entitygate/entitygate/HtmlNode")) (t' := (.object "com/example/entitygate/entitygate/HtmlNode")) (by decide) (by decide)))) (Or.inl ne_op_oc)) (Or.inl ne_op_oc)) (Or.inl ne_op_oc))
  have f388 : Fld Z h373 op "com/example/entitygate/entitygate/HtmlNode$Parent" "first" "Lcom/example/entitygate/entitygate/HtmlNode;" (.ref oa) := (Fld.other W373 (Fld.other W368 (Fld.other W363 (Fld.other W358 (Fld.other W347 F_op_first (Or.inl ne_op_ob)) (Or.inr (slot_ne (Or.inl (hw _ (List.mem_of_getElem? (i := 30) rfl))) (Or.inl (hw _ (List.mem_of_getElem? (i := 33) rfl))) (by decide) (t := (.object "com/example/entitygate/entitygate/HtmlNode")) (t' := (.object "com/example/entitygate/entitygate/HtmlNode")) (by decide) (by decide)))) (Or.inl ne_op_oc)) (Or.inl ne_op_oc)) (Or.inl ne_op_oc))
  have f389 : Fld Z h373 op "com/example/entitygate/entitygate/HtmlNode$Parent" "last" "Lcom/example/entitygate/entitygate/HtmlNode;" (.ref ob) := (Fld.other W373 (Fld.other W368 (Fld.other W363 f358 (Or.inl ne_op_oc)) (Or.inl ne_op_oc)) (Or.inl ne_op_oc))
  refine own_retV X373 hx hlk hret (hb hby d_prog_14_method_2_87) ?_ (by decide) (by decide)
  rw [e373]
  exact ⟨rfl, N373, K375, f376, f377, f373, f378, f379, f380, f381, f382, f383, f384, f385, f386, f387, f388, f389⟩
theorem d_method_3_0 : decode method_3_code 0 = .ok (.iload_n 2, 1) := by decide +kernel
theorem d_method_3_1 : decode method_3_code 1 = .ok (.iload_n 1, 1) := by decide +kernel
theorem d_method_3_2 : decode method_3_code 2 = .ok (.if_icmp .lt 5, 3) := by decide +kernel
theorem d_method_3_5 : decode method_3_code 5 = .ok (.iconst 1, 1) := by decide +kernel
theorem d_method_3_6 : decode method_3_code 6 = .ok (.ireturn, 1) := by decide +kernel
theorem ef_2 (m : MethodId) (x0 : Addr) (x1 : Int32) (x2 : Int32) (x3 : Addr) : entryFrame m #[(.ref x0), (.int x1), (.int x2), (.ref x3)] 7 = mkF m 0 #[.val (.ref x0), .val (.int x1), .val (.int x2), .val (.ref x3), .unset, .unset, .unset] [] := by first | (simp [entryFrame, mkF, argsToLocals, Value.category]; done) | rfl
def Q_lk00 (Z : State) (ea : Addr) (op : Addr) (h0 : Heap) (n0 : Nat) (v : Option Value) (h : Heap) (L : List Loc) : Prop := v = some (.int (1 : Int32)) ∧ Fr n0 L ∧ h = h0
set_option maxRecDepth 65536 in
set_option maxHeartbeats 40000000 in
theorem rm_lk00 (l : Launch) (Z : State) (a0 : Array Value) (hw : ∀ d ∈ tables_1, d.before a0 Z = true) (ws : List Jvm.Cond) (ea : Addr) (op : Addr) (h0 : Heap) (n0 : Nat) (Z0 : n0 ≤ h0.size) :
    MetFree l (⟨"com/example/entitygate/entitygate/HtmlNodeDetachPinLaw", "linked", "([Lcom/example/entitygate/entitygate/HtmlNode;IILcom/example/entitygate/entitygate/HtmlNode;)Z"⟩ : MethodName) (head1 (Jvm.Cond.code (⟨"com/example/entitygate/entitygate/HtmlNodeDetachPinLaw", "linked", "([Lcom/example/entitygate/entitygate/HtmlNode;IILcom/example/entitygate/entitygate/HtmlNode;)Z"⟩ : MethodName) method_3_code 7 (some .boolean) :: ws) ({ frames := 0, cells := 0, slots := 0, locals := 0 } : Room)) (fun aA U => aA = #[(.ref ea), (.int (0 : Int32)), (.int (0 : Int32)), (.ref op)] ∧ Z.Warmed39 U.vm ∧ U.heap = h0) (fun _ _ _ _ _ => True) (fun _ U oO U' => ∃ vV LL, oO = .returned vV ∧ Q_lk00 Z ea op h0 n0 vV U'.heap LL ∧ FrameEnd U oO U' LL ({ frames := 0, cells := 0, slots := 0, locals := 0 } : Room).cells ({ frames := 0, cells := 0, slots := 0, locals := 0 } : Room).slots) := by
  refine MetFree.of_bodySF (plainFor_of_name pn_3) hisR ?_
  intro p e s m args below meth c s₁ Bd hml0 hP hK
  obtain ⟨rfl, hZ, hh⟩ := hP
  have hx := Bd.exec
  have hby := Bd.bytes
  have hml : c.maxLocals = 7 := hml0
  have hown : s.vm.findClass "com/example/entitygate/entitygate/HtmlNodeDetachPinLaw" = some m.cls := findClass_of_methodNamed Bd.named
  have hnm := (name_of_methodNamed Bd.named Bd.method).1
  have X0 : Stand p l e ({ frames := 0, cells := 0, slots := 0, locals := 0 } : Room) s m #[(.ref ea), (.int (0 : Int32)), (.int (0 : Int32)), (.ref op)] below meth c s₁ [] 0 0 := Stand.of_body Bd
  have e0 : s₁.heap = h0 := by rw [← hh, Bd.state]; rfl
  have N0 := Fr.nil n0
  have hret := Bd.returns
  have hlk : meth.locks = false := Bd.notSynchronized
  refine own_start (ef_2 m ea (0 : Int32) (0 : Int32) op) ?_
  show own_Go p e below s (Q_lk00 Z ea op h0 n0) ({ frames := 0, cells := 0, slots := 0, locals := 0 } : Room).cells ({ frames := 0, cells := 0, slots := 0, locals := 0 } : Room).slots (s₁.setTop (mkF m 0 #[.val (.ref ea), .val (.int (0 : Int32)), .val (.int (0 : Int32)), .val (.ref op), .unset, .unset, .unset] []))
  refine g_iload_n X0 hx 1 (hb hby d_method_3_0) rfl rfl ?_
  refine g_iload_n X0 hx 2 (hb hby d_method_3_1) rfl rfl ?_
  refine g_icmpNo X0 hx 5 (hb hby d_method_3_2) (own_ii_lt_f (by decide)) rfl ?_
  refine g_iconst X0 hx 6 (hb hby d_method_3_5) (1 : Int32) rfl rfl ?_
  refine own_retN X0 hx hlk (t := .boolean) hret (by simp) (hb hby d_method_3_6) ?_ (by decide) (by decide)
  rw [e0]
  exact ⟨(own_rb rfl), N0, rfl⟩
def Q_lk01 (Z : State) (ea : Addr) (op : Addr) (h0 : Heap) (n0 : Nat) (v : Option Value) (h : Heap) (L : List Loc) : Prop := v = some (.int (1 : Int32)) ∧ Fr n0 L ∧ h = h0
set_option maxRecDepth 65536 in
set_option maxHeartbeats 40000000 in
theorem rm_lk01 (l : Launch) (Z : State) (a0 : Array Value) (hw : ∀ d ∈ tables_1, d.before a0 Z = true) (ws : List Jvm.Cond) (ea : Addr) (op : Addr) (h0 : Heap) (n0 : Nat) (Z0 : n0 ≤ h0.size) :
    MetFree l (⟨"com/example/entitygate/entitygate/HtmlNodeDetachPinLaw", "linked", "([Lcom/example/entitygate/entitygate/HtmlNode;IILcom/example/entitygate/entitygate/HtmlNode;)Z"⟩ : MethodName) (head1 (Jvm.Cond.code (⟨"com/example/entitygate/entitygate/HtmlNodeDetachPinLaw", "linked", "([Lcom/example/entitygate/entitygate/HtmlNode;IILcom/example/entitygate/entitygate/HtmlNode;)Z"⟩ : MethodName) method_3_code 7 (some .boolean) :: ws) ({ frames := 0, cells := 0, slots := 0, locals := 0 } : Room)) (fun aA U => aA = #[(.ref ea), (.int (0 : Int32)), (.int (1 : Int32)), (.ref op)] ∧ Z.Warmed39 U.vm ∧ U.heap = h0) (fun _ _ _ _ _ => True) (fun _ U oO U' => ∃ vV LL, oO = .returned vV ∧ Q_lk01 Z ea op h0 n0 vV U'.heap LL ∧ FrameEnd U oO U' LL ({ frames := 0, cells := 0, slots := 0, locals := 0 } : Room).cells ({ frames := 0, cells := 0, slots := 0, locals := 0 } : Room).slots) := by
  refine MetFree.of_bodySF (plainFor_of_name pn_3) hisR ?_
  intro p e s m args below meth c s₁ Bd hml0 hP hK
  obtain ⟨rfl, hZ, hh⟩ := hP
  have hx := Bd.exec
  have hby := Bd.bytes
  have hml : c.maxLocals = 7 := hml0
  have hown : s.vm.findClass "com/example/entitygate/entitygate/HtmlNodeDetachPinLaw" = some m.cls := findClass_of_methodNamed Bd.named
  have hnm := (name_of_methodNamed Bd.named Bd.method).1
  have X0 : Stand p l e ({ frames := 0, cells := 0, slots := 0, locals := 0 } : Room) s m #[(.ref ea), (.int (0 : Int32)), (.int (1 : Int32)), (.ref op)] below meth c s₁ [] 0 0 := Stand.of_body Bd
  have e0 : s₁.heap = h0 := by rw [← hh, Bd.state]; rfl
  have N0 := Fr.nil n0
  have hret := Bd.returns
  have hlk : meth.locks = false := Bd.notSynchronized
  refine own_start (ef_2 m ea (0 : Int32) (1 : Int32) op) ?_
  show own_Go p e below s (Q_lk01 Z ea op h0 n0) ({ frames := 0, cells := 0, slots := 0, locals := 0 } : Room).cells ({ frames := 0, cells := 0, slots := 0, locals := 0 } : Room).slots (s₁.setTop (mkF m 0 #[.val (.ref ea), .val (.int (0 : Int32)), .val (.int (1 : Int32)), .val (.ref op), .unset, .unset, .unset] []))
  refine g_iload_n X0 hx 1 (hb hby d_method_3_0) rfl rfl ?_
  refine g_iload_n X0 hx 2 (hb hby d_method_3_1) rfl rfl ?_
  refine g_icmpNo X0 hx 5 (hb hby d_method_3_2) (own_ii_lt_f (by decide)) rfl ?_
  refine g_iconst X0 hx 6 (hb hby d_method_3_5) (1 : Int32) rfl rfl ?_
  refine own_retN X0 hx hlk (t := .boolean) hret (by simp) (hb hby d_method_3_6) ?_ (by decide) (by decide)
  rw [e0]
  exact ⟨(own_rb rfl), N0, rfl⟩
def Q_lk02 (Z : State) (ea : Addr) (op : Addr) (h0 : Heap) (n0 : Nat) (v : Option Value) (h : Heap) (L : List Loc) : Prop := v = some (.int (1 : Int32)) ∧ Fr n0 L ∧ h = h0
set_option maxRecDepth 65536 in
set_option maxHeartbeats 40000000 in
theorem rm_lk02 (l : Launch) (Z : State) (a0 : Array Value) (hw : ∀ d ∈ tables_1, d.before a0 Z = true) (ws : List Jvm.Cond) (ea : Addr) (op : Addr) (h0 : Heap) (n0 : Nat) (Z0 : n0 ≤ h0.size) :
    MetFree l (⟨"com/example/entitygate/entitygate/HtmlNodeDetachPinLaw", "linked", "([Lcom/example/entitygate/entitygate/HtmlNode;IILcom/example/entitygate/entitygate/HtmlNode;)Z"⟩ : MethodName) (head1 (Jvm.Cond.code (⟨"com/example/entitygate/entitygate/HtmlNodeDetachPinLaw", "linked", "([Lcom/example/entitygate/entitygate/HtmlNode;IILcom/example/entitygate/entitygate/HtmlNode;)Z"⟩ : MethodName) method_3_code 7 (some .boolean) :: ws) ({ frames := 0, cells := 0, slots := 0, locals := 0 } : Room)) (fun aA U => aA = #[(.ref ea), (.int (0 : Int32)), (.int (2 : Int32)), (.ref op)] ∧ Z.Warmed39 U.vm ∧ U.heap = h0) (fun _ _ _ _ _ => True) (fun _ U oO U' => ∃ vV LL, oO = .returned vV ∧ Q_lk02 Z ea op h0 n0 vV U'.heap LL ∧ FrameEnd U oO U' LL ({ frames := 0, cells := 0, slots := 0, locals := 0 } : Room).cells ({ frames := 0, cells := 0, slots := 0, locals := 0 } : Room).slots) := by
  refine MetFree.of_bodySF (plainFor_of_name pn_3) hisR ?_
  intro p e s m args below meth c s₁ Bd hml0 hP hK
  obtain ⟨rfl, hZ, hh⟩ := hP
  have hx := Bd.exec
  have hby := Bd.bytes
  have hml : c.maxLocals = 7 := hml0
  have hown : s.vm.findClass "com/example/entitygate/entitygate/HtmlNodeDetachPinLaw" = some m.cls := findClass_of_methodNamed Bd.named
  have hnm := (name_of_methodNamed Bd.named Bd.method).1
  have X0 : Stand p l e ({ frames := 0, cells := 0, slots := 0, locals := 0 } : Room) s m #[(.ref ea), (.int (0 : Int32)), (.int (2 : Int32)), (.ref op)] below meth c s₁ [] 0 0 := Stand.of_body Bd
  have e0 : s₁.heap = h0 := by rw [← hh, Bd.state]; rfl
  have N0 := Fr.nil n0
  have hret := Bd.returns
  have hlk : meth.locks = false := Bd.notSynchronized
  refine own_start (ef_2 m ea (0 : Int32) (2 : Int32) op) ?_
  show own_Go p e below s (Q_lk02 Z ea op h0 n0) ({ frames := 0, cells := 0, slots := 0, locals := 0 } : Room).cells ({ frames := 0, cells := 0, slots := 0, locals := 0 } : Room).slots (s₁.setTop (mkF m 0 #[.val (.ref ea), .val (.int (0 : Int32)), .val (.int (2 : Int32)), .val (.ref op), .unset, .unset, .unset] []))
  refine g_iload_n X0 hx 1 (hb hby d_method_3_0) rfl rfl ?_
  refine g_iload_n X0 hx 2 (hb hby d_method_3_1) rfl rfl ?_
  refine g_icmpNo X0 hx 5 (hb hby d_method_3_2) (own_ii_lt_f (by decide)) rfl ?_
  refine g_iconst X0 hx 6 (hb hby d_method_3_5) (1 : Int32) rfl rfl ?_
  refine own_retN X0 hx hlk (t := .boolean) hret (by simp) (hb hby d_method_3_6) ?_ (by decide) (by decide)
  rw [e0]
  exact ⟨(own_rb rfl), N0, rfl⟩
theorem d_method_3_7 : decode method_3_code 7 = .ok (.aload_n 0, 1) := by decide +kernel
theorem d_method_3_8 : decode method_3_code 8 = .ok (.iload_n 2, 1) := by decide +kernel
theorem d_method_3_9 : decode method_3_code 9 = .ok (.aaload, 1) := by decide +kernel
theorem d_method_3_10 : decode method_3_code 10 = .ok (.astore 4, 2) := by decide +kernel
theorem d_method_3_12 : decode method_3_code 12 = .ok (.iload_n 2, 1) := by decide +kernel
theorem d_method_3_13 : decode method_3_code 13 = .ok (.ifCond .le 11, 3) := by decide +kernel
theorem d_method_3_24 : decode method_3_code 24 = .ok (.aconst_null, 1) := by decide +kernel
theorem d_method_3_25 : decode method_3_code 25 = .ok (.astore 5, 2) := by decide +kernel
theorem d_method_3_27 : decode method_3_code 27 = .ok (.iload_n 2, 1) := by decide +kernel
theorem d_method_3_28 : decode method_3_code 28 = .ok (.iconst 1, 1) := by decide +kernel
theorem d_method_3_29 : decode method_3_code 29 = .ok (.iadd, 1) := by decide +kernel
theorem d_method_3_30 : decode method_3_code 30 = .ok (.iload_n 1, 1) := by decide +kernel
theorem d_method_3_31 : decode method_3_code 31 = .ok (.if_icmp .ge 11, 3) := by decide +kernel
theorem d_method_3_42 : decode method_3_code 42 = .ok (.aconst_null, 1) := by decide +kernel
theorem d_method_3_43 : decode method_3_code 43 = .ok (.astore 6, 2) := by decide +kernel
theorem d_method_3_45 : decode method_3_code 45 = .ok (.aload 4, 2) := by decide +kernel
theorem d_method_3_47 : decode method_3_code 47 = .ok (.getfield 36, 3) := by decide +kernel
theorem d_method_3_50 : decode method_3_code 50 = .ok (.aload_n 3, 1) := by decide +kernel
theorem d_method_3_51 : decode method_3_code 51 = .ok (.if_acmp .ne 27, 3) := by decide +kernel
theorem d_method_3_54 : decode method_3_code 54 = .ok (.aload 4, 2) := by decide +kernel
theorem d_method_3_56 : decode method_3_code 56 = .ok (.getfield 40, 3) := by decide +kernel
theorem d_method_3_59 : decode method_3_code 59 = .ok (.aload 5, 2) := by decide +kernel
theorem d_method_3_61 : decode method_3_code 61 = .ok (.if_acmp .ne 17, 3) := by decide +kernel
theorem d_method_3_64 : decode method_3_code 64 = .ok (.aload 4, 2) := by decide +kernel
theorem d_method_3_66 : decode method_3_code 66 = .ok (.getfield 43, 3) := by decide +kernel
theorem d_method_3_69 : decode method_3_code 69 = .ok (.aload 6, 2) := by decide +kernel
theorem d_method_3_71 : decode method_3_code 71 = .ok (.if_acmp .ne 7, 3) := by decide +kernel
theorem d_method_3_74 : decode method_3_code 74 = .ok (.iconst 1, 1) := by decide +kernel
theorem d_method_3_75 : decode method_3_code 75 = .ok (.goto 4, 3) := by decide +kernel
theorem d_method_3_79 : decode method_3_code 79 = .ok (.ireturn, 1) := by decide +kernel
def Q_lk10 (Z : State) (ea : Addr) (ke : ClassId) (op : Addr) (y0 : Addr) (h0 : Heap) (n0 : Nat) (v : Option Value) (h : Heap) (L : List Loc) : Prop := v = some (.int (1 : Int32)) ∧ Fr n0 L ∧ h = h0
set_option maxRecDepth 65536 in
set_option maxHeartbeats 40000000 in
theorem rm_lk10 (l : Launch) (Z : State) (a0 : Array Value) (hw : ∀ d ∈ tables_1, d.before a0 Z = true) (ws : List Jvm.Cond) (ea : Addr) (ke : ClassId) (op : Addr) (y0 : Addr) (h0 : Heap) (n0 : Nat) (Z0 : n0 ≤ h0.size) (F_y0_parent : Fld Z h0 y0 "com/example/entitygate/entitygate/HtmlNode" "parent" "Lcom/example/entitygate/entitygate/HtmlNode$Parent;" (.ref op)) (F_y0_previous : Fld Z h0 y0 "com/example/entitygate/entitygate/HtmlNode" "previous" "Lcom/example/entitygate/entitygate/HtmlNode;" .null) (F_y0_next : Fld Z h0 y0 "com/example/entitygate/entitygate/HtmlNode" "next" "Lcom/example/entitygate/entitygate/HtmlNode;" .null) (V_ea : Arv Z h0 ea ke (.object "com/example/entitygate/entitygate/HtmlNode") (3 : Int32) [(.ref y0), .null, .null] .null) :
    MetFree l (⟨"com/example/entitygate/entitygate/HtmlNodeDetachPinLaw", "linked", "([Lcom/example/entitygate/entitygate/HtmlNode;IILcom/example/entitygate/entitygate/HtmlNode;)Z"⟩ : MethodName) (head1 (Jvm.Cond.code (⟨"com/example/entitygate/entitygate/HtmlNodeDetachPinLaw", "linked", "([Lcom/example/entitygate/entitygate/HtmlNode;IILcom/example/entitygate/entitygate/HtmlNode;)Z"⟩ : MethodName) method_3_code 7 (some .boolean) :: ws) ({ frames := 0, cells := 0, slots := 0, locals := 0 } : Room)) (fun aA U => aA = #[(.ref ea), (.int (1 : Int32)), (.int (0 : Int32)), (.ref op)] ∧ Z.Warmed39 U.vm ∧ U.heap = h0) (fun _ _ _ _ _ => True) (fun _ U oO U' => ∃ vV LL, oO = .returned vV ∧ Q_lk10 Z ea ke op y0 h0 n0 vV U'.heap LL ∧ FrameEnd U oO U' LL ({ frames := 0, cells := 0, slots := 0, locals := 0 } : Room).cells ({ frames := 0, cells := 0, slots := 0, locals := 0 } : Room).slots) := by
  refine MetFree.of_bodySF (plainFor_of_name pn_3) hisR ?_
  intro p e s m args below meth c s₁ Bd hml0 hP hK
  obtain ⟨rfl, hZ, hh⟩ := hP
  have hx := Bd.exec
  have hby := Bd.bytes
  have hml : c.maxLocals = 7 := hml0
  have hown : s.vm.findClass "com/example/entitygate/entitygate/HtmlNodeDetachPinLaw" = some m.cls := findClass_of_methodNamed Bd.named
  have hnm := (name_of_methodNamed Bd.named Bd.method).1
  have X0 : Stand p l e ({ frames := 0, cells := 0, slots := 0, locals := 0 } : Room) s m #[(.ref ea), (.int (1 : Int32)), (.int (0 : Int32)), (.ref op)] below meth c s₁ [] 0 0 := Stand.of_body Bd
  have e0 : s₁.heap = h0 := by rw [← hh, Bd.state]; rfl
  have N0 := Fr.nil n0
  have hret := Bd.returns
  have hlk : meth.locks = false := Bd.notSynchronized
  refine own_start (ef_2 m ea (1 : Int32) (0 : Int32) op) ?_
  show own_Go p e below s (Q_lk10 Z ea ke op y0 h0 n0) ({ frames := 0, cells := 0, slots := 0, locals := 0 } : Room).cells ({ frames := 0, cells := 0, slots := 0, locals := 0 } : Room).slots (s₁.setTop (mkF m 0 #[.val (.ref ea), .val (.int (1 : Int32)), .val (.int (0 : Int32)), .val (.ref op), .unset, .unset, .unset] []))
  refine g_iload_n X0 hx 1 (hb hby d_method_3_0) rfl rfl ?_
  refine g_iload_n X0 hx 2 (hb hby d_method_3_1) rfl rfl ?_
  refine g_icmpYes X0 hx 7 (hb hby d_method_3_2) (own_ii_lt_t (by decide)) (by decide) (by decide) ?_
  refine g_aload_n X0 hx 8 (hb hby d_method_3_7) rfl rfl rfl ?_
  refine g_iload_n X0 hx 9 (hb hby d_method_3_8) rfl rfl ?_
  obtain ⟨cl390, Ar390, q390, S390, P390, H390, G390⟩ := id V_ea
  have hin390 := inb_of (j := (0 : Int32)) S390 ⟨by decide, by decide⟩
  refine own_aaload X0 hx hZ e0 rfl Ar390 (v := (.ref y0)) hin390 (Has.at H390 hin390 rfl) 10 (hb hby d_method_3_9) rfl ?_
  refine g_astore X0 hx 12 (hb hby d_method_3_10) rfl (l' := #[.val (.ref ea), .val (.int (1 : Int32)), .val (.int (0 : Int32)), .val (.ref op), .val (.ref y0), .unset, .unset]) rfl rfl ?_
  refine g_iload_n X0 hx 13 (hb hby d_method_3_12) rfl rfl ?_
  refine g_ifYes X0 hx 24 (hb hby d_method_3_13) (own_i0_le_t (by decide)) (by decide) (by decide) ?_
  refine g_aconst_null X0 hx 25 (hb hby d_method_3_24) rfl ?_
  refine g_astore X0 hx 27 (hb hby d_method_3_25) rfl (l' := #[.val (.ref ea), .val (.int (1 : Int32)), .val (.int (0 : Int32)), .val (.ref op), .val (.ref y0), .val .null, .unset]) rfl rfl ?_
  refine g_iload_n X0 hx 28 (hb hby d_method_3_27) rfl rfl ?_
  refine g_iconst X0 hx 29 (hb hby d_method_3_28) (1 : Int32) rfl rfl ?_
  refine g_iadd X0 hx 30 (hb hby d_method_3_29) rfl ?_
  show own_Go p e below s _ _ _ (s₁.setTop (mkF m 30 _ [(.int (1 : Int32))]))
  refine g_iload_n X0 hx 31 (hb hby d_method_3_30) rfl rfl ?_
  refine g_icmpYes X0 hx 42 (hb hby d_method_3_31) (own_ii_ge_t (by decide)) (by decide) (by decide) ?_
  refine g_aconst_null X0 hx 43 (hb hby d_method_3_42) rfl ?_
  refine g_astore X0 hx 45 (hb hby d_method_3_43) rfl (l' := #[.val (.ref ea), .val (.int (1 : Int32)), .val (.int (0 : Int32)), .val (.ref op), .val (.ref y0), .val .null, .val .null]) rfl rfl ?_
  refine g_aload X0 hx 47 (hb hby d_method_3_45) rfl rfl rfl ?_
  refine own_getF X0 hx hZ hown (host := "") (Or.inl (hw _ (List.mem_of_getElem? (i := 38) rfl))) Via.refl e0 F_y0_parent 50 (hb hby d_method_3_47) rfl fun T391 X391 e391 => ?_
  refine g_aload_n X391 hx 51 (hb hby d_method_3_50) rfl rfl rfl ?_
  refine g_acmp X391 hx (x := (.ref op)) (y := (.ref op)) (same := true) 54 (hb hby d_method_3_51) rfl rfl (decide_eq_true rfl) (by decide) (by decide) ?_
  refine g_aload X391 hx 56 (hb hby d_method_3_54) rfl rfl rfl ?_
  refine own_getF X391 hx hZ hown (host := "") (Or.inl (hw _ (List.mem_of_getElem? (i := 39) rfl))) Via.refl e391 F_y0_previous 59 (hb hby d_method_3_56) rfl fun T392 X392 e392 => ?_
  refine g_aload X392 hx 61 (hb hby d_method_3_59) rfl rfl rfl ?_
  refine g_acmp X392 hx (x := .null) (y := .null) (same := true) 64 (hb hby d_method_3_61) rfl rfl (decide_eq_true rfl) (by decide) (by decide) ?_
  refine g_aload X392 hx 66 (hb hby d_method_3_64) rfl rfl rfl ?_
  refine own_getF X392 hx hZ hown (host := "") (Or.inl (hw _ (List.mem_of_getElem? (i := 41) rfl))) Via.refl e392 F_y0_next 69 (hb hby d_method_3_66) rfl fun T393 X393 e393 => ?_
  refine g_aload X393 hx 71 (hb hby d_method_3_69) rfl rfl rfl ?_
  refine g_acmp X393 hx (x := .null) (y := .null) (same := true) 74 (hb hby d_method_3_71) rfl rfl (decide_eq_true rfl) (by decide) (by decide) ?_
  refine g_iconst X393 hx 75 (hb hby d_method_3_74) (1 : Int32) rfl rfl ?_
  refine g_goto X393 hx 79 (hb hby d_method_3_75) (by decide) (by decide) ?_
  refine own_retN X393 hx hlk (t := .boolean) hret (by simp) (hb hby d_method_3_79) ?_ (by decide) (by decide)
  rw [e393]
  exact ⟨(own_rb rfl), N0, rfl⟩
def Q_lk11 (Z : State) (ea : Addr) (op : Addr) (h0 : Heap) (n0 : Nat) (v : Option Value) (h : Heap) (L : List Loc) : Prop := v = some (.int (1 : Int32)) ∧ Fr n0 L ∧ h = h0
set_option maxRecDepth 65536 in
set_option maxHeartbeats 40000000 in
theorem rm_lk11 (l : Launch) (Z : State) (a0 : Array Value) (hw : ∀ d ∈ tables_1, d.before a0 Z = true) (ws : List Jvm.Cond) (ea : Addr) (op : Addr) (h0 : Heap) (n0 : Nat) (Z0 : n0 ≤ h0.size) :
    MetFree l (⟨"com/example/entitygate/entitygate/HtmlNodeDetachPinLaw", "linked", "([Lcom/example/entitygate/entitygate/HtmlNode;IILcom/example/entitygate/entitygate/HtmlNode;)Z"⟩ : MethodName) (head1 (Jvm.Cond.code (⟨"com/example/entitygate/entitygate/HtmlNodeDetachPinLaw", "linked", "([Lcom/example/entitygate/entitygate/HtmlNode;IILcom/example/entitygate/entitygate/HtmlNode;)Z"⟩ : MethodName) method_3_code 7 (some .boolean) :: ws) ({ frames := 0, cells := 0, slots := 0, locals := 0 } : Room)) (fun aA U => aA = #[(.ref ea), (.int (1 : Int32)), (.int (1 : Int32)), (.ref op)] ∧ Z.Warmed39 U.vm ∧ U.heap = h0) (fun _ _ _ _ _ => True) (fun _ U oO U' => ∃ vV LL, oO = .returned vV ∧ Q_lk11 Z ea op h0 n0 vV U'.heap LL ∧ FrameEnd U oO U' LL ({ frames := 0, cells := 0, slots := 0, locals := 0 } : Room).cells ({ frames := 0, cells := 0, slots := 0, locals := 0 } : Room).slots) := by
  refine MetFree.of_bodySF (plainFor_of_name pn_3) hisR ?_
  intro p e s m args below meth c s₁ Bd hml0 hP hK
  obtain ⟨rfl, hZ, hh⟩ := hP
  have hx := Bd.exec
  have hby := Bd.bytes
  have hml : c.maxLocals = 7 := hml0
  have hown : s.vm.findClass "com/example/entitygate/entitygate/HtmlNodeDetachPinLaw" = some m.cls := findClass_of_methodNamed Bd.named
  have hnm := (name_of_methodNamed Bd.named Bd.method).1
  have X0 : Stand p l e ({ frames := 0, cells := 0, slots := 0, locals := 0 } : Room) s m #[(.ref ea), (.int (1 : Int32)), (.int (1 : Int32)), (.ref op)] below meth c s₁ [] 0 0 := Stand.of_body Bd
  have e0 : s₁.heap = h0 := by rw [← hh, Bd.state]; rfl
  have N0 := Fr.nil n0
  have hret := Bd.returns
  have hlk : meth.locks = false := Bd.notSynchronized
  refine own_start (ef_2 m ea (1 : Int32) (1 : Int32) op) ?_
  show own_Go p e below s (Q_lk11 Z ea op h0 n0) ({ frames := 0, cells := 0, slots := 0, locals := 0 } : Room).cells ({ frames := 0, cells := 0, slots := 0, locals := 0 } : Room).slots (s₁.setTop (mkF m 0 #[.val (.ref ea), .val (.int (1 : Int32)), .val (.int (1 : Int32)), .val (.ref op), .unset, .unset, .unset] []))
  refine g_iload_n X0 hx 1 (hb hby d_method_3_0) rfl rfl ?_
  refine g_iload_n X0 hx 2 (hb hby d_method_3_1) rfl rfl ?_
  refine g_icmpNo X0 hx 5 (hb hby d_method_3_2) (own_ii_lt_f (by decide)) rfl ?_
  refine g_iconst X0 hx 6 (hb hby d_method_3_5) (1 : Int32) rfl rfl ?_
  refine own_retN X0 hx hlk (t := .boolean) hret (by simp) (hb hby d_method_3_6) ?_ (by decide) (by decide)
  rw [e0]
  exact ⟨(own_rb rfl), N0, rfl⟩
def Q_lk12 (Z : State) (ea : Addr) (op : Addr) (h0 : Heap) (n0 : Nat) (v : Option Value) (h : Heap) (L : List Loc) : Prop := v = some (.int (1 : Int32)) ∧ Fr n0 L ∧ h = h0
set_option maxRecDepth 65536 in
set_option maxHeartbeats 40000000 in
theorem rm_lk12 (l : Launch) (Z : State) (a0 : Array Value) (hw : ∀ d ∈ tables_1, d.before a0 Z = true) (ws : List Jvm.Cond) (ea : Addr) (op : Addr) (h0 : Heap) (n0 : Nat) (Z0 : n0 ≤ h0.size) :
    MetFree l (⟨"com/example/entitygate/entitygate/HtmlNodeDetachPinLaw", "linked", "([Lcom/example/entitygate/entitygate/HtmlNode;IILcom/example/entitygate/entitygate/HtmlNode;)Z"⟩ : MethodName) (head1 (Jvm.Cond.code (⟨"com/example/entitygate/entitygate/HtmlNodeDetachPinLaw", "linked", "([Lcom/example/entitygate/entitygate/HtmlNode;IILcom/example/entitygate/entitygate/HtmlNode;)Z"⟩ : MethodName) method_3_code 7 (some .boolean) :: ws) ({ frames := 0, cells := 0, slots := 0, locals := 0 } : Room)) (fun aA U => aA = #[(.ref ea), (.int (1 : Int32)), (.int (2 : Int32)), (.ref op)] ∧ Z.Warmed39 U.vm ∧ U.heap = h0) (fun _ _ _ _ _ => True) (fun _ U oO U' => ∃ vV LL, oO = .returned vV ∧ Q_lk12 Z ea op h0 n0 vV U'.heap LL ∧ FrameEnd U oO U' LL ({ frames := 0, cells := 0, slots := 0, locals := 0 } : Room).cells ({ frames := 0, cells := 0, slots := 0, locals := 0 } : Room).slots) := by
  refine MetFree.of_bodySF (plainFor_of_name pn_3) hisR ?_
  intro p e s m args below meth c s₁ Bd hml0 hP hK
  obtain ⟨rfl, hZ, hh⟩ := hP
  have hx := Bd.exec
  have hby := Bd.bytes
  have hml : c.maxLocals = 7 := hml0
  have hown : s.vm.findClass "com/example/entitygate/entitygate/HtmlNodeDetachPinLaw" = some m.cls := findClass_of_methodNamed Bd.named
  have hnm := (name_of_methodNamed Bd.named Bd.method).1
  have X0 : Stand p l e ({ frames := 0, cells := 0, slots := 0, locals := 0 } : Room) s m #[(.ref ea), (.int (1 : Int32)), (.int (2 : Int32)), (.ref op)] below meth c s₁ [] 0 0 := Stand.of_body Bd
  have e0 : s₁.heap = h0 := by rw [← hh, Bd.state]; rfl
  have N0 := Fr.nil n0
  have hret := Bd.returns
  have hlk : meth.locks = false := Bd.notSynchronized
  refine own_start (ef_2 m ea (1 : Int32) (2 : Int32) op) ?_
  show own_Go p e below s (Q_lk12 Z ea op h0 n0) ({ frames := 0, cells := 0, slots := 0, locals := 0 } : Room).cells ({ frames := 0, cells := 0, slots := 0, locals := 0 } : Room).slots (s₁.setTop (mkF m 0 #[.val (.ref ea), .val (.int (1 : Int32)), .val (.int (2 : Int32)), .val (.ref op), .unset, .unset, .unset] []))
  refine g_iload_n X0 hx 1 (hb hby d_method_3_0) rfl rfl ?_
  refine g_iload_n X0 hx 2 (hb hby d_method_3_1) rfl rfl ?_
  refine g_icmpNo X0 hx 5 (hb hby d_method_3_2) (own_ii_lt_f (by decide)) rfl ?_
  refine g_iconst X0 hx 6 (hb hby d_method_3_5) (1 : Int32) rfl rfl ?_
  refine own_retN X0 hx hlk (t := .boolean) hret (by simp) (hb hby d_method_3_6) ?_ (by decide) (by decide)
  rw [e0]
  exact ⟨(own_rb rfl), N0, rfl⟩
theorem d_method_3_34 : decode method_3_code 34 = .ok (.aload_n 0, 1) := by decide +kernel
theorem d_method_3_35 : decode method_3_code 35 = .ok (.iload_n 2, 1) := by decide +kernel
theorem d_method_3_36 : decode method_3_code 36 = .ok (.iconst 1, 1) := by decide +kernel
theorem d_method_3_37 : decode method_3_code 37 = .ok (.iadd, 1) := by decide +kernel
theorem d_method_3_38 : decode method_3_code 38 = .ok (.aaload, 1) := by decide +kernel
theorem d_method_3_39 : decode method_3_code 39 = .ok (.goto 4, 3) := by decide +kernel
def Q_lk20 (Z : State) (ea : Addr) (ke : ClassId) (op : Addr) (y0 : Addr) (y1 : Addr) (h0 : Heap) (n0 : Nat) (v : Option Value) (h : Heap) (L : List Loc) : Prop := v = some (.int (1 : Int32)) ∧ Fr n0 L ∧ h = h0
set_option maxRecDepth 65536 in
set_option maxHeartbeats 40000000 in
theorem rm_lk20 (l : Launch) (Z : State) (a0 : Array Value) (hw : ∀ d ∈ tables_1, d.before a0 Z = true) (ws : List Jvm.Cond) (ea : Addr) (ke : ClassId) (op : Addr) (y0 : Addr) (y1 : Addr) (h0 : Heap) (n0 : Nat) (Z0 : n0 ≤ h0.size) (F_y0_parent : Fld Z h0 y0 "com/example/entitygate/entitygate/HtmlNode" "parent" "Lcom/example/entitygate/entitygate/HtmlNode$Parent;" (.ref op)) (F_y0_previous : Fld Z h0 y0 "com/example/entitygate/entitygate/HtmlNode" "previous" "Lcom/example/entitygate/entitygate/HtmlNode;" .null) (F_y0_next : Fld Z h0 y0 "com/example/entitygate/entitygate/HtmlNode" "next" "Lcom/example/entitygate/entitygate/HtmlNode;" (.ref y1)) (V_ea : Arv Z h0 ea ke (.object "com/example/entitygate/entitygate/HtmlNode") (3 : Int32) [(.ref y0), (.ref y1), .null] .null) :
    MetFree l (⟨"com/example/entitygate/entitygate/HtmlNodeDetachPinLaw", "linked", "([Lcom/example/entitygate/entitygate/HtmlNode;IILcom/example/entitygate/entitygate/HtmlNode;)Z"⟩ : MethodName) (head1 (Jvm.Cond.code (⟨"com/example/entitygate/entitygate/HtmlNodeDetachPinLaw", "linked", "([Lcom/example/entitygate/entitygate/HtmlNode;IILcom/example/entitygate/entitygate/HtmlNode;)Z"⟩ : MethodName) method_3_code 7 (some .boolean) :: ws) ({ frames := 0, cells := 0, slots := 0, locals := 0 } : Room)) (fun aA U => aA = #[(.ref ea), (.int (2 : Int32)), (.int (0 : Int32)), (.ref op)] ∧ Z.Warmed39 U.vm ∧ U.heap = h0) (fun _ _ _ _ _ => True) (fun _ U oO U' => ∃ vV LL, oO = .returned vV ∧ Q_lk20 Z ea ke op y0 y1 h0 n0 vV U'.heap LL ∧ FrameEnd U oO U' LL ({ frames := 0, cells := 0, slots := 0, locals := 0 } : Room).cells ({ frames := 0, cells := 0, slots := 0, locals := 0 } : Room).slots) := by
  refine MetFree.of_bodySF (plainFor_of_name pn_3) hisR ?_
  intro p e s m args below meth c s₁ Bd hml0 hP hK
  obtain ⟨rfl, hZ, hh⟩ := hP
  have hx := Bd.exec
  have hby := Bd.bytes
  have hml : c.maxLocals = 7 := hml0
  have hown : s.vm.findClass "com/example/entitygate/entitygate/HtmlNodeDetachPinLaw" = some m.cls := findClass_of_methodNamed Bd.named
  have hnm := (name_of_methodNamed Bd.named Bd.method).1
  have X0 : Stand p l e ({ frames := 0, cells := 0, slots := 0, locals := 0 } : Room) s m #[(.ref ea), (.int (2 : Int32)), (.int (0 : Int32)), (.ref op)] below meth c s₁ [] 0 0 := Stand.of_body Bd
  have e0 : s₁.heap = h0 := by rw [← hh, Bd.state]; rfl
  have N0 := Fr.nil n0
  have hret := Bd.returns
  have hlk : meth.locks = false := Bd.notSynchronized
  refine own_start (ef_2 m ea (2 : Int32) (0 : Int32) op) ?_
  show own_Go p e below s (Q_lk20 Z ea ke op y0 y1 h0 n0) ({ frames := 0, cells := 0, slots := 0, locals := 0 } : Room).cells ({ frames := 0, cells := 0, slots := 0, locals := 0 } : Room).slots (s₁.setTop (mkF m 0 #[.val (.ref ea), .val (.int (2 : Int32)), .val (.int (0 : Int32)), .val (.ref op), .unset, .unset, .unset] []))
  refine g_iload_n X0 hx 1 (hb hby d_method_3_0) rfl rfl ?_
  refine g_iload_n X0 hx 2 (hb hby d_method_3_1) rfl rfl ?_
  refine g_icmpYes X0 hx 7 (hb hby d_method_3_2) (own_ii_lt_t (by decide)) (by decide) (by decide) ?_
  refine g_aload_n X0 hx 8 (hb hby d_method_3_7) rfl rfl rfl ?_
  refine g_iload_n X0 hx 9 (hb hby d_method_3_8) rfl rfl ?_
  obtain ⟨cl394, Ar394, q394, S394, P394, H394, G394⟩ := id V_ea
  have hin394 := inb_of (j := (0 : Int32)) S394 ⟨by decide, by decide⟩
  refine own_aaload X0 hx hZ e0 rfl Ar394 (v := (.ref y0)) hin394 (Has.at H394 hin394 rfl) 10 (hb hby d_method_3_9) rfl ?_
  refine g_astore X0 hx 12 (hb hby d_method_3_10) rfl (l' := #[.val (.ref ea), .val (.int (2 : Int32)), .val (.int (0 : Int32)), .val (.ref op), .val (.ref y0), .unset, .unset]) rfl rfl ?_
  refine g_iload_n X0 hx 13 (hb hby d_method_3_12) rfl rfl ?_
  refine g_ifYes X0 hx 24 (hb hby d_method_3_13) (own_i0_le_t (by decide)) (by decide) (by decide) ?_
  refine g_aconst_null X0 hx 25 (hb hby d_method_3_24) rfl ?_
  refine g_astore X0 hx 27 (hb hby d_method_3_25) rfl (l' := #[.val (.ref ea), .val (.int (2 : Int32)), .val (.int (0 : Int32)), .val (.ref op), .val (.ref y0), .val .null, .unset]) rfl rfl ?_
  refine g_iload_n X0 hx 28 (hb hby d_method_3_27) rfl rfl ?_
  refine g_iconst X0 hx 29 (hb hby d_method_3_28) (1 : Int32) rfl rfl ?_
  refine g_iadd X0 hx 30 (hb hby d_method_3_29) rfl ?_
  show own_Go p e below s _ _ _ (s₁.setTop (mkF m 30 _ [(.int (1 : Int32))]))
  refine g_iload_n X0 hx 31 (hb hby d_method_3_30) rfl rfl ?_
  refine g_icmpNo X0 hx 34 (hb hby d_method_3_31) (own_ii_ge_f (by decide)) rfl ?_
  refine g_aload_n X0 hx 35 (hb hby d_method_3_34) rfl rfl rfl ?_
  refine g_iload_n X0 hx 36 (hb hby d_method_3_35) rfl rfl ?_
  refine g_iconst X0 hx 37 (hb hby d_method_3_36) (1 : Int32) rfl rfl ?_
  refine g_iadd X0 hx 38 (hb hby d_method_3_37) rfl ?_
  show own_Go p e below s _ _ _ (s₁.setTop (mkF m 38 _ [(.int (1 : Int32)), (.ref ea)]))
  obtain ⟨cl395, Ar395, q395, S395, P395, H395, G395⟩ := id V_ea
  have hin395 := inb_of (j := (1 : Int32)) S395 ⟨by decide, by decide⟩
  refine own_aaload X0 hx hZ e0 rfl Ar395 (v := (.ref y1)) hin395 (Has.at H395 hin395 rfl) 39 (hb hby d_method_3_38) rfl ?_
  refine g_goto X0 hx 43 (hb hby d_method_3_39) (by decide) (by decide) ?_
  refine g_astore X0 hx 45 (hb hby d_method_3_43) rfl (l' := #[.val (.ref ea), .val (.int (2 : Int32)), .val (.int (0 : Int32)), .val (.ref op), .val (.ref y0), .val .null, .val (.ref y1)]) rfl rfl ?_
  refine g_aload X0 hx 47 (hb hby d_method_3_45) rfl rfl rfl ?_
  refine own_getF X0 hx hZ hown (host := "") (Or.inl (hw _ (List.mem_of_getElem? (i := 38) rfl))) Via.refl e0 F_y0_parent 50 (hb hby d_method_3_47) rfl fun T396 X396 e396 => ?_
  refine g_aload_n X396 hx 51 (hb hby d_method_3_50) rfl rfl rfl ?_
  refine g_acmp X396 hx (x := (.ref op)) (y := (.ref op)) (same := true) 54 (hb hby d_method_3_51) rfl rfl (decide_eq_true rfl) (by decide) (by decide) ?_
  refine g_aload X396 hx 56 (hb hby d_method_3_54) rfl rfl rfl ?_
  refine own_getF X396 hx hZ hown (host := "") (Or.inl (hw _ (List.mem_of_getElem? (i := 39) rfl))) Via.refl e396 F_y0_previous 59 (hb hby d_method_3_56) rfl fun T397 X397 e397 => ?_
  refine g_aload X397 hx 61 (hb hby d_method_3_59) rfl rfl rfl ?_
  refine g_acmp X397 hx (x := .null) (y := .null) (same := true) 64 (hb hby d_method_3_61) rfl rfl (decide_eq_true rfl) (by decide) (by decide) ?_
  refine g_aload X397 hx 66 (hb hby d_method_3_64) rfl rfl rfl ?_
  refine own_getF X397 hx hZ hown (host := "") (Or.inl (hw _ (List.mem_of_getElem? (i := 41) rfl))) Via.refl e397 F_y0_next 69 (hb hby d_method_3_66) rfl fun T398 X398 e398 => ?_
  refine g_aload X398 hx 71 (hb hby d_method_3_69) rfl rfl rfl ?_
  refine g_acmp X398 hx (x := (.ref y1)) (y := (.ref y1)) (same := true) 74 (hb hby d_method_3_71) rfl rfl (decide_eq_true rfl) (by decide) (by decide) ?_
  refine g_iconst X398 hx 75 (hb hby d_method_3_74) (1 : Int32) rfl rfl ?_
  refine g_goto X398 hx 79 (hb hby d_method_3_75) (by decide) (by decide) ?_
  refine own_retN X398 hx hlk (t := .boolean) hret (by simp) (hb hby d_method_3_79) ?_ (by decide) (by decide)
  rw [e398]
  exact ⟨(own_rb rfl), N0, rfl⟩
theorem d_method_3_16 : decode method_3_code 16 = .ok (.aload_n 0, 1) := by decide +kernel
theorem d_method_3_17 : decode method_3_code 17 = .ok (.iload_n 2, 1) := by decide +kernel
theorem d_method_3_18 : decode method_3_code 18 = .ok (.iconst 1, 1) := by decide +kernel
theorem d_method_3_19 : decode method_3_code 19 = .ok (.isub, 1) := by decide +kernel
theorem d_method_3_20 : decode method_3_code 20 = .ok (.aaload, 1) := by decide +kernel
theorem d_method_3_21 : decode method_3_code 21 = .ok (.goto 4, 3) := by decide +kernel
def Q_lk21 (Z : State) (ea : Addr) (ke : ClassId) (op : Addr) (y0 : Addr) (y1 : Addr) (h0 : Heap) (n0 : Nat) (v : Option Value) (h : Heap) (L : List Loc) : Prop := v = some (.int (1 : Int32)) ∧ Fr n0 L ∧ h = h0
set_option maxRecDepth 65536 in
set_option maxHeartbeats 40000000 in
theorem rm_lk21 (l : Launch) (Z : State) (a0 : Array Value) (hw : ∀ d ∈ tables_1, d.before a0 Z = true) (ws : List Jvm.Cond) (ea : Addr) (ke : ClassId) (op : Addr) (y0 : Addr) (y1 : Addr) (h0 : Heap) (n0 : Nat) (Z0 : n0 ≤ h0.size) (F_y1_parent : Fld Z h0 y1 "com/example/entitygate/entitygate/HtmlNode" "parent" "Lcom/example/entitygate/entitygate/HtmlNode$Parent;" (.ref op)) (F_y1_previous : Fld Z h0 y1 "com/example/entitygate/entitygate/HtmlNode" "previous" "Lcom/example/entitygate/entitygate/HtmlNode;" (.ref y0)) (F_y1_next : Fld Z h0 y1 "com/example/entitygate/entitygate/HtmlNode" "next" "Lcom/example/entitygate/entitygate/HtmlNode;" .null) (V_ea : Arv Z h0 ea ke (.object "com/example/entitygate/entitygate/HtmlNode") (3 : Int32) [(.ref y0), (.ref y1), .null] .null) :
    MetFree l (⟨"com/example/entitygate/entitygate/HtmlNodeDetachPinLaw", "linked", "([Lcom/example/entitygate/entitygate/HtmlNode;IILcom/example/entitygate/entitygate/HtmlNode;)Z"⟩ : MethodName) (head1 (Jvm.Cond.code (⟨"com/example/entitygate/entitygate/HtmlNodeDetachPinLaw", "linked", "([Lcom/example/entitygate/entitygate/HtmlNode;IILcom/example/entitygate/entitygate/HtmlNode;)Z"⟩ : MethodName) method_3_code 7 (some .boolean) :: ws) ({ frames := 0, cells := 0, slots := 0, locals := 0 } : Room)) (fun aA U => aA = #[(.ref ea), (.int (2 : Int32)), (.int (1 : Int32)), (.ref op)] ∧ Z.Warmed39 U.vm ∧ U.heap = h0) (fun _ _ _ _ _ => True) (fun _ U oO U' => ∃ vV LL, oO = .returned vV ∧ Q_lk21 Z ea ke op y0 y1 h0 n0 vV U'.heap LL ∧ FrameEnd U oO U' LL ({ frames := 0, cells := 0, slots := 0, locals := 0 } : Room).cells ({ frames := 0, cells := 0, slots := 0, locals := 0 } : Room).slots) := by
  refine MetFree.of_bodySF (plainFor_of_name pn_3) hisR ?_
  intro p e s m args below meth c s₁ Bd hml0 hP hK
  obtain ⟨rfl, hZ, hh⟩ := hP
  have hx := Bd.exec
  have hby := Bd.bytes
  have hml : c.maxLocals = 7 := hml0
  have hown : s.vm.findClass "com/example/entitygate/entitygate/HtmlNodeDetachPinLaw" = some m.cls := findClass_of_methodNamed Bd.named
  have hnm := (name_of_methodNamed Bd.named Bd.method).1
  have X0 : Stand p l e ({ frames := 0, cells := 0, slots := 0, locals := 0 } : Room) s m #[(.ref ea), (.int (2 : Int32)), (.int (1 : Int32)), (.ref op)] below meth c s₁ [] 0 0 := Stand.of_body Bd
  have e0 : s₁.heap = h0 := by rw [← hh, Bd.state]; rfl
  have N0 := Fr.nil n0
  have hret := Bd.returns
  have hlk : meth.locks = false := Bd.notSynchronized
  refine own_start (ef_2 m ea (2 : Int32) (1 : Int32) op) ?_
  show own_Go p e below s (Q_lk21 Z ea ke op y0 y1 h0 n0) ({ frames := 0, cells := 0, slots := 0, locals := 0 } : Room).cells ({ frames := 0, cells := 0, slots := 0, locals := 0 } : Room).slots (s₁.setTop (mkF m 0 #[.val (.ref ea), .val (.int (2 : Int32)), .val (.int (1 : Int32)), .val (.ref op), .unset, .unset, .unset] []))
  refine g_iload_n X0 hx 1 (hb hby d_method_3_0) rfl rfl ?_
  refine g_iload_n X0 hx 2 (hb hby d_method_3_1) rfl rfl ?_
  refine g_icmpYes X0 hx 7 (hb hby d_method_3_2) (own_ii_lt_t (by decide)) (by decide) (by decide) ?_
  refine g_aload_n X0 hx 8 (hb hby d_method_3_7) rfl rfl rfl ?_
  refine g_iload_n X0 hx 9 (hb hby d_method_3_8) rfl rfl ?_
  obtain ⟨cl399, Ar399, q399, S399, P399, H399, G399⟩ := id V_ea
  have hin399 := inb_of (j := (1 : Int32)) S399 ⟨by decide, by decide⟩
  refine own_aaload X0 hx hZ e0 rfl Ar399 (v := (.ref y1)) hin399 (Has.at H399 hin399 rfl) 10 (hb hby d_method_3_9) rfl ?_
  refine g_astore X0 hx 12 (hb hby d_method_3_10) rfl (l' := #[.val (.ref ea), .val (.int (2 : Int32)), .val (.int (1 : Int32)), .val (.ref op), .val (.ref y1), .unset, .unset]) rfl rfl ?_
  refine g_iload_n X0 hx 13 (hb hby d_method_3_12) rfl rfl ?_
  refine g_ifNo X0 hx 16 (hb hby d_method_3_13) (own_i0_le_f (by decide)) rfl ?_
  refine g_aload_n X0 hx 17 (hb hby d_method_3_16) rfl rfl rfl ?_
  refine g_iload_n X0 hx 18 (hb hby d_method_3_17) rfl rfl ?_
  refine g_iconst X0 hx 19 (hb hby d_method_3_18) (1 : Int32) rfl rfl ?_
  refine g_isub X0 hx 20 (hb hby d_method_3_19) rfl ?_
  show own_Go p e below s _ _ _ (s₁.setTop (mkF m 20 _ [(.int (0 : Int32)), (.ref ea)]))
  obtain ⟨cl400, Ar400, q400, S400, P400, H400, G400⟩ := id V_ea
  have hin400 := inb_of (j := (0 : Int32)) S400 ⟨by decide, by decide⟩
  refine own_aaload X0 hx hZ e0 rfl Ar400 (v := (.ref y0)) hin400 (Has.at H400 hin400 rfl) 21 (hb hby d_method_3_20) rfl ?_
  refine g_goto X0 hx 25 (hb hby d_method_3_21) (by decide) (by decide) ?_
  refine g_astore X0 hx 27 (hb hby d_method_3_25) rfl (l' := #[.val (.ref ea), .val (.int (2 : Int32)), .val (.int (1 : Int32)), .val (.ref op), .val (.ref y1), .val (.ref y0), .unset]) rfl rfl ?_
  refine g_iload_n X0 hx 28 (hb hby d_method_3_27) rfl rfl ?_
  refine g_iconst X0 hx 29 (hb hby d_method_3_28) (1 : Int32) rfl rfl ?_
  refine g_iadd X0 hx 30 (hb hby d_method_3_29) rfl ?_
  show own_Go p e below s _ _ _ (s₁.setTop (mkF m 30 _ [(.int (2 : Int32))]))
  refine g_iload_n X0 hx 31 (hb hby d_method_3_30) rfl rfl ?_
  refine g_icmpYes X0 hx 42 (hb hby d_method_3_31) (own_ii_ge_t (by decide)) (by decide) (by decide) ?_
  refine g_aconst_null X0 hx 43 (hb hby d_method_3_42) rfl ?_
  refine g_astore X0 hx 45 (hb hby d_method_3_43) rfl (l' := #[.val (.ref ea), .val (.int (2 : Int32)), .val (.int (1 : Int32)), .val (.ref op), .val (.ref y1), .val (.ref y0), .val .null]) rfl rfl ?_
  refine g_aload X0 hx 47 (hb hby d_method_3_45) rfl rfl rfl ?_
  refine own_getF X0 hx hZ hown (host := "") (Or.inl (hw _ (List.mem_of_getElem? (i := 38) rfl))) Via.refl e0 F_y1_parent 50 (hb hby d_method_3_47) rfl fun T401 X401 e401 => ?_
  refine g_aload_n X401 hx 51 (hb hby d_method_3_50) rfl rfl rfl ?_
  refine g_acmp X401 hx (x := (.ref op)) (y := (.ref op)) (same := true) 54 (hb hby d_method_3_51) rfl rfl (decide_eq_true rfl) (by decide) (by decide) ?_
  refine g_aload X401 hx 56 (hb hby d_method_3_54) rfl rfl rfl ?_
  refine own_getF X401 hx hZ hown (host := "") (Or.inl (hw _ (List.mem_of_getElem? (i := 39) rfl))) Via.refl e401 F_y1_previous 59 (hb hby d_method_3_56) rfl fun T402 X402 e402 => ?_
  refine g_aload X402 hx 61 (hb hby d_method_3_59) rfl rfl rfl ?_
  refine g_acmp X402 hx (x := (.ref y0)) (y := (.ref y0)) (same := true) 64 (hb hby d_method_3_61) rfl rfl (decide_eq_true rfl) (by decide) (by decide) ?_
  refine g_aload X402 hx 66 (hb hby d_method_3_64) rfl rfl rfl ?_
  refine own_getF X402 hx hZ hown (host := "") (Or.inl (hw _ (List.mem_of_getElem? (i := 41) rfl))) Via.refl e402 F_y1_next 69 (hb hby d_method_3_66) rfl fun T403 X403 e403 => ?_
  refine g_aload X403 hx 71 (hb hby d_method_3_69) rfl rfl rfl ?_
  refine g_acmp X403 hx (x := .null) (y := .null) (same := true) 74 (hb hby d_method_3_71) rfl rfl (decide_eq_true rfl) (by decide) (by decide) ?_
  refine g_iconst X403 hx 75 (hb hby d_method_3_74) (1 : Int32) rfl rfl ?_
  refine g_goto X403 hx 79 (hb hby d_method_3_75) (by decide) (by decide) ?_
  refine own_retN X403 hx hlk (t := .boolean) hret (by simp) (hb hby d_method_3_79) ?_ (by decide) (by decide)
  rw [e403]
  exact ⟨(own_rb rfl), N0, rfl⟩
def Q_lk22 (Z : State) (ea : Addr) (op : Addr) (h0 : Heap) (n0 : Nat) (v : Option Value) (h : Heap) (L : List Loc) : Prop := v = some (.int (1 : Int32)) ∧ Fr n0 L ∧ h = h0
set_option maxRecDepth 65536 in
set_option maxHeartbeats 40000000 in
theorem rm_lk22 (l : Launch) (Z : State) (a0 : Array Value) (hw : ∀ d ∈ tables_1, d.before a0 Z = true) (ws : List Jvm.Cond) (ea : Addr) (op : Addr) (h0 : Heap) (n0 : Nat) (Z0 : n0 ≤ h0.size) :
    MetFree l (⟨"com/example/entitygate/entitygate/HtmlNodeDetachPinLaw", "linked", "([Lcom/example/entitygate/entitygate/HtmlNode;IILcom/example/entitygate/entitygate/HtmlNode;)Z"⟩ : MethodName) (head1 (Jvm.Cond.code (⟨"com/example/entitygate/entitygate/HtmlNodeDetachPinLaw", "linked", "([Lcom/example/entitygate/entitygate/HtmlNode;IILcom/example/entitygate/entitygate/HtmlNode;)Z"⟩ : MethodName) method_3_code 7 (some .boolean) :: ws) ({ frames := 0, cells := 0, slots := 0, locals := 0 } : Room)) (fun aA U => aA = #[(.ref ea), (.int (2 : Int32)), (.int (2 : Int32)), (.ref op)] ∧ Z.Warmed39 U.vm ∧ U.heap = h0) (fun _ _ _ _ _ => True) (fun _ U oO U' => ∃ vV LL, oO = .returned vV ∧ Q_lk22 Z ea op h0 n0 vV U'.heap LL ∧ FrameEnd U oO U' LL ({ frames := 0, cells := 0, slots := 0, locals := 0 } : Room).cells ({ frames := 0, cells := 0, slots := 0, locals := 0 } : Room).slots) := by
  refine MetFree.of_bodySF (plainFor_of_name pn_3) hisR ?_
  intro p e s m args below meth c s₁ Bd hml0 hP hK
  obtain ⟨rfl, hZ, hh⟩ := hP
  have hx := Bd.exec
  have hby := Bd.bytes
  have hml : c.maxLocals = 7 := hml0
  have hown : s.vm.findClass "com/example/entitygate/entitygate/HtmlNodeDetachPinLaw" = some m.cls := findClass_of_methodNamed Bd.named
  have hnm := (name_of_methodNamed Bd.named Bd.method).1
  have X0 : Stand p l e ({ frames := 0, cells := 0, slots := 0, locals := 0 } : Room) s m #[(.ref ea), (.int (2 : Int32)), (.int (2 : Int32)), (.ref op)] below meth c s₁ [] 0 0 := Stand.of_body Bd
  have e0 : s₁.heap = h0 := by rw [← hh, Bd.state]; rfl
  have N0 := Fr.nil n0
  have hret := Bd.returns
  have hlk : meth.locks = false := Bd.notSynchronized
  refine own_start (ef_2 m ea (2 : Int32) (2 : Int32) op) ?_
  show own_Go p e below s (Q_lk22 Z ea op h0 n0) ({ frames := 0, cells := 0, slots := 0, locals := 0 } : Room).cells ({ frames := 0, cells := 0, slots := 0, locals := 0 } : Room).slots (s₁.setTop (mkF m 0 #[.val (.ref ea), .val (.int (2 : Int32)), .val (.int (2 : Int32)), .val (.ref op), .unset, .unset, .unset] []))
  refine g_iload_n X0 hx 1 (hb hby d_method_3_0) rfl rfl ?_
  refine g_iload_n X0 hx 2 (hb hby d_method_3_1) rfl rfl ?_
  refine g_icmpNo X0 hx 5 (hb hby d_method_3_2) (own_ii_lt_f (by decide)) rfl ?_
  refine g_iconst X0 hx 6 (hb hby d_method_3_5) (1 : Int32) rfl rfl ?_
  refine own_retN X0 hx hlk (t := .boolean) hret (by simp) (hb hby d_method_3_6) ?_ (by decide) (by decide)
  rw [e0]
  exact ⟨(own_rb rfl), N0, rfl⟩
def Q_lk30 (Z : State) (ea : Addr) (ke : ClassId) (op : Addr) (y0 : Addr) (y1 : Addr) (y2 : Addr) (h0 : Heap) (n0 : Nat) (v : Option Value) (h : Heap) (L : List Loc) : Prop := v = some (.int (1 : Int32)) ∧ Fr n0 L ∧ h = h0
set_option maxRecDepth 65536 in
set_option maxHeartbeats 40000000 in
theorem rm_lk30 (l : Launch) (Z : State) (a0 : Array Value) (hw : ∀ d ∈ tables_1, d.before a0 Z = true) (ws : List Jvm.Cond) (ea : Addr) (ke : ClassId) (op : Addr) (y0 : Addr) (y1 : Addr) (y2 : Addr) (h0 : Heap) (n0 : Nat) (Z0 : n0 ≤ h0.size) (F_y0_parent : Fld Z h0 y0 "com/example/entitygate/entitygate/HtmlNode" "parent" "Lcom/example/entitygate/entitygate/HtmlNode$Parent;" (.ref op)) (F_y0_previous : Fld Z h0 y0 "com/example/entitygate/entitygate/HtmlNode" "previous" "Lcom/example/entitygate/entitygate/HtmlNode;" .null) (F_y0_next : Fld Z h0 y0 "com/example/entitygate/entitygate/HtmlNode" "next" "Lcom/example/entitygate/entitygate/HtmlNode;" (.ref y1)) (V_ea : Arv Z h0 ea ke (.object "com/example/entitygate/entitygate/HtmlNode") (3 : Int32) [(.ref y0), (.ref y1), (.ref y2)] .null) :
    MetFree l (⟨"com/example/entitygate/entitygate/HtmlNodeDetachPinLaw", "linked", "([Lcom/example/entitygate/entitygate/HtmlNode;IILcom/example/entitygate/entitygate/HtmlNode;)Z"⟩ : MethodName) (head1 (Jvm.Cond.code (⟨"com/example/entitygate/entitygate/HtmlNodeDetachPinLaw", "linked", "([Lcom/example/entitygate/entitygate/HtmlNode;IILcom/example/entitygate/entitygate/HtmlNode;)Z"⟩ : MethodName) method_3_code 7 (some .boolean) :: ws) ({ frames := 0, cells := 0, slots := 0, locals := 0 } : Room)) (fun aA U => aA = #[(.ref ea), (.int (3 : Int32)), (.int (0 : Int32)), (.ref op)] ∧ Z.Warmed39 U.vm ∧ U.heap = h0) (fun _ _ _ _ _ => True) (fun _ U oO U' => ∃ vV LL, oO = .returned vV ∧ Q_lk30 Z ea ke op y0 y1 y2 h0 n0 vV U'.heap LL ∧ FrameEnd U oO U' LL ({ frames := 0, cells := 0, slots := 0, locals := 0 } : Room).cells ({ frames := 0, cells := 0, slots := 0, locals := 0 } : Room).slots) := by
  refine MetFree.of_bodySF (plainFor_of_name pn_3) hisR ?_
  intro p e s m args below meth c s₁ Bd hml0 hP hK
  obtain ⟨rfl, hZ, hh⟩ := hP
  have hx := Bd.exec
  have hby := Bd.bytes
  have hml : c.maxLocals = 7 := hml0
  have hown : s.vm.findClass "com/example/entitygate/entitygate/HtmlNodeDetachPinLaw" = some m.cls := findClass_of_methodNamed Bd.named
  have hnm := (name_of_methodNamed Bd.named Bd.method).1
  have X0 : Stand p l e ({ frames := 0, cells := 0, slots := 0, locals := 0 } : Room) s m #[(.ref ea), (.int (3 : Int32)), (.int (0 : Int32)), (.ref op)] below meth c s₁ [] 0 0 := Stand.of_body Bd
  have e0 : s₁.heap = h0 := by rw [← hh, Bd.state]; rfl
  have N0 := Fr.nil n0
  have hret := Bd.returns
  have hlk : meth.locks = false := Bd.notSynchronized
  refine own_start (ef_2 m ea (3 : Int32) (0 : Int32) op) ?_
  show own_Go p e below s (Q_lk30 Z ea ke op y0 y1 y2 h0 n0) ({ frames := 0, cells := 0, slots := 0, locals := 0 } : Room).cells ({ frames := 0, cells := 0, slots := 0, locals := 0 } : Room).slots (s₁.setTop (mkF m 0 #[.val (.ref ea), .val (.int (3 : Int32)), .val (.int (0 : Int32)), .val (.ref op), .unset, .unset, .unset] []))
  refine g_iload_n X0 hx 1 (hb hby d_method_3_0) rfl rfl ?_
  refine g_iload_n X0 hx 2 (hb hby d_method_3_1) rfl rfl ?_
  refine g_icmpYes X0 hx 7 (hb hby d_method_3_2) (own_ii_lt_t (by decide)) (by decide) (by decide) ?_
  refine g_aload_n X0 hx 8 (hb hby d_method_3_7) rfl rfl rfl ?_
  refine g_iload_n X0 hx 9 (hb hby d_method_3_8) rfl rfl ?_
  obtain ⟨cl404, Ar404, q404, S404, P404, H404, G404⟩ := id V_ea
  have hin404 := inb_of (j := (0 : Int32)) S404 ⟨by decide, by decide⟩
  refine own_aaload X0 hx hZ e0 rfl Ar404 (v := (.ref y0)) hin404 (Has.at H404 hin404 rfl) 10 (hb hby d_method_3_9) rfl ?_
  refine g_astore X0 hx 12 (hb hby d_method_3_10) rfl (l' := #[.val (.ref ea), .val (.int (3 : Int32)), .val (.int (0 : Int32)), .val (.ref op), .val (.ref y0), .unset, .unset]) rfl rfl ?_
  refine g_iload_n X0 hx 13 (hb hby d_method_3_12) rfl rfl ?_
  refine g_ifYes X0 hx 24 (hb hby d_method_3_13) (own_i0_le_t (by decide)) (by decide) (by decide) ?_
  refine g_aconst_null X0 hx 25 (hb hby d_method_3_24) rfl ?_
  refine g_astore X0 hx 27 (hb hby d_method_3_25) rfl (l' := #[.val (.ref ea), .val (.int (3 : Int32)), .val (.int (0 : Int32)), .val (.ref op), .val (.ref y0), .val .null, .unset]) rfl rfl ?_
  refine g_iload_n X0 hx 28 (hb hby d_method_3_27) rfl rfl ?_
  refine g_iconst X0 hx 29 (hb hby d_method_3_28) (1 : Int32) rfl rfl ?_
  refine g_iadd X0 hx 30 (hb hby d_method_3_29) rfl ?_
  show own_Go p e below s _ _ _ (s₁.setTop (mkF m 30 _ [(.int (1 : Int32))]))
  refine g_iload_n X0 hx 31 (hb hby d_method_3_30) rfl rfl ?_
  refine g_icmpNo X0 hx 34 (hb hby d_method_3_31) (own_ii_ge_f (by decide)) rfl ?_
  refine g_aload_n X0 hx 35 (hb hby d_method_3_34) rfl rfl rfl ?_
  refine g_iload_n X0 hx 36 (hb hby d_method_3_35) rfl rfl ?_
  refine g_iconst X0 hx 37 (hb hby d_method_3_36) (1 : Int32) rfl rfl ?_
  refine g_iadd X0 hx 38 (hb hby d_method_3_37) rfl ?_
  show own_Go p e below s _ _ _ (s₁.setTop (mkF m 38 _ [(.int (1 : Int32)), (.ref ea)]))
  obtain ⟨cl405, Ar405, q405, S405, P405, H405, G405⟩ := id V_ea
  have hin405 := inb_of (j := (1 : Int32)) S405 ⟨by decide, by decide⟩
  refine own_aaload X0 hx hZ e0 rfl Ar405 (v := (.ref y1)) hin405 (Has.at H405 hin405 rfl) 39 (hb hby d_method_3_38) rfl ?_
  refine g_goto X0 hx 43 (hb hby d_method_3_39) (by decide) (by decide) ?_
  refine g_astore X0 hx 45 (hb hby d_method_3_43) rfl (l' := #[.val (.ref ea), .val (.int (3 : Int32)), .val (.int (0 : Int32)), .val (.ref op), .val (.ref y0), .val .null, .val (.ref y1)]) rfl rfl ?_
  refine g_aload X0 hx 47 (hb hby d_method_3_45) rfl rfl rfl ?_
  refine own_getF X0 hx hZ hown (host := "") (Or.inl (hw _ (List.mem_of_getElem? (i := 38) rfl))) Via.refl e0 F_y0_parent 50 (hb hby d_method_3_47) rfl fun T406 X406 e406 => ?_
  refine g_aload_n X406 hx 51 (hb hby d_method_3_50) rfl rfl rfl ?_
  refine g_acmp X406 hx (x := (.ref op)) (y := (.ref op)) (same := true) 54 (hb hby d_method_3_51) rfl rfl (decide_eq_true rfl) (by decide) (by decide) ?_
  refine g_aload X406 hx 56 (hb hby d_method_3_54) rfl rfl rfl ?_
  refine own_getF X406 hx hZ hown (host := "") (Or.inl (hw _ (List.mem_of_getElem? (i := 39) rfl))) Via.refl e406 F_y0_previous 59 (hb hby d_method_3_56) rfl fun T407 X407 e407 => ?_
  refine g_aload X407 hx 61 (hb hby d_method_3_59) rfl rfl rfl ?_
  refine g_acmp X407 hx (x := .null) (y := .null) (same := true) 64 (hb hby d_method_3_61) rfl rfl (decide_eq_true rfl) (by decide) (by decide) ?_
  refine g_aload X407 hx 66 (hb hby d_method_3_64) rfl rfl rfl ?_
  refine own_getF X407 hx hZ hown (host := "") (Or.inl (hw _ (List.mem_of_getElem? (i := 41) rfl))) Via.refl e407 F_y0_next 69 (hb hby d_method_3_66) rfl fun T408 X408 e408 => ?_
  refine g_aload X408 hx 71 (hb hby d_method_3_69) rfl rfl rfl ?_
  refine g_acmp X408 hx (x := (.ref y1)) (y := (.ref y1)) (same := true) 74 (hb hby d_method_3_71) rfl rfl (decide_eq_true rfl) (by decide) (by decide) ?_
  refine g_iconst X408 hx 75 (hb hby d_method_3_74) (1 : Int32) rfl rfl ?_
  refine g_goto X408 hx 79 (hb hby d_method_3_75) (by decide) (by decide) ?_
  refine own_retN X408 hx hlk (t := .boolean) hret (by simp) (hb hby d_method_3_79) ?_ (by decide) (by decide)
  rw [e408]
  exact ⟨(own_rb rfl), N0, rfl⟩
def Q_lk31 (Z : State) (ea : Addr) (ke : ClassId) (op : Addr) (y0 : Addr) (y1 : Addr) (y2 : Addr) (h0 : Heap) (n0 : Nat) (v : Option Value) (h : Heap) (L : List Loc) : Prop := v = some (.int (1 : Int32)) ∧ Fr n0 L ∧ h = h0
set_option maxRecDepth 65536 in
set_option maxHeartbeats 40000000 in
theorem rm_lk31 (l : Launch) (Z : State) (a0 : Array Value) (hw : ∀ d ∈ tables_1, d.before a0 Z = true) (ws : List Jvm.Cond) (ea : Addr) (ke : ClassId) (op : Addr) (y0 : Addr) (y1 : Addr) (y2 : Addr) (h0 : Heap) (n0 : Nat) (Z0 : n0 ≤ h0.size) (F_y1_parent : Fld Z h0 y1 "com/example/entitygate/entitygate/HtmlNode" "parent" "Lcom/example/entitygate/entitygate/HtmlNode$Parent;" (.ref op)) (F_y1_previous : Fld Z h0 y1 "com/example/entitygate/entitygate/HtmlNode" "previous" "Lcom/example/entitygate/entitygate/HtmlNode;" (.ref y0)) (F_y1_next : Fld Z h0 y1 "com/example/entitygate/entitygate/HtmlNode" "next" "Lcom/example/entitygate/entitygate/HtmlNode;" (.ref y2)) (V_ea : Arv Z h0 ea ke (.object "com/example/entitygate/entitygate/HtmlNode") (3 : Int32) [(.ref y0), (.ref y1), (.ref y2)] .null) :
    MetFree l (⟨"com/example/entitygate/entitygate/HtmlNodeDetachPinLaw", "linked", "([Lcom/example/entitygate/entitygate/HtmlNode;IILcom/example/entitygate/entitygate/HtmlNode;)Z"⟩ : MethodName) (head1 (Jvm.Cond.code (⟨"com/example/entitygate/entitygate/HtmlNodeDetachPinLaw", "linked", "([Lcom/example/entitygate/entitygate/HtmlNode;IILcom/example/entitygate/entitygate/HtmlNode;)Z"⟩ : MethodName) method_3_code 7 (some .boolean) :: ws) ({ frames := 0, cells := 0, slots := 0, locals := 0 } : Room)) (fun aA U => aA = #[(.ref ea), (.int (3 : Int32)), (.int (1 : Int32)), (.ref op)] ∧ Z.Warmed39 U.vm ∧ U.heap = h0) (fun _ _ _ _ _ => True) (fun _ U oO U' => ∃ vV LL, oO = .returned vV ∧ Q_lk31 Z ea ke op y0 y1 y2 h0 n0 vV U'.heap LL ∧ FrameEnd U oO U' LL ({ frames := 0, cells := 0, slots := 0, locals := 0 } : Room).cells ({ frames := 0, cells := 0, slots := 0, locals := 0 } : Room).slots) := by
  refine MetFree.of_bodySF (plainFor_of_name pn_3) hisR ?_
  intro p e s m args below meth c s₁ Bd hml0 hP hK
  obtain ⟨rfl, hZ, hh⟩ := hP
  have hx := Bd.exec
  have hby := Bd.bytes
  have hml : c.maxLocals = 7 := hml0
  have hown : s.vm.findClass "com/example/entitygate/entitygate/HtmlNodeDetachPinLaw" = some m.cls := findClass_of_methodNamed Bd.named
  have hnm := (name_of_methodNamed Bd.named Bd.method).1
  have X0 : Stand p l e ({ frames := 0, cells := 0, slots := 0, locals := 0 } : Room) s m #[(.ref ea), (.int (3 : Int32)), (.int (1 : Int32)), (.ref op)] below meth c s₁ [] 0 0 := Stand.of_body Bd
  have e0 : s₁.heap = h0 := by rw [← hh, Bd.state]; rfl
  have N0 := Fr.nil n0
  have hret := Bd.returns
  have hlk : meth.locks = false := Bd.notSynchronized
  refine own_start (ef_2 m ea (3 : Int32) (1 : Int32) op) ?_
  show own_Go p e below s (Q_lk31 Z ea ke op y0 y1 y2 h0 n0) ({ frames := 0, cells := 0, slots := 0, locals := 0 } : Room).cells ({ frames := 0, cells := 0, slots := 0, locals := 0 } : Room).slots (s₁.setTop (mkF m 0 #[.val (.ref ea), .val (.int (3 : Int32)), .val (.int (1 : Int32)), .val (.ref op), .unset, .unset, .unset] []))
  refine g_iload_n X0 hx 1 (hb hby d_method_3_0) rfl rfl ?_
  refine g_iload_n X0 hx 2 (hb hby d_method_3_1) rfl rfl ?_
  refine g_icmpYes X0 hx 7 (hb hby d_method_3_2) (own_ii_lt_t (by decide)) (by decide) (by decide) ?_
  refine g_aload_n X0 hx 8 (hb hby d_method_3_7) rfl rfl rfl ?_
  refine g_iload_n X0 hx 9 (hb hby d_method_3_8) rfl rfl ?_
  obtain ⟨cl409, Ar409, q409, S409, P409, H409, G409⟩ := id V_ea
  have hin409 := inb_of (j := (1 : Int32)) S409 ⟨by decide, by decide⟩
  refine own_aaload X0 hx hZ e0 rfl Ar409 (v := (.ref y1)) hin409 (Has.at H409 hin409 rfl) 10 (hb hby d_method_3_9) rfl ?_
  refine g_astore X0 hx 12 (hb hby d_method_3_10) rfl (l' := #[.val (.ref ea), .val (.int (3 : Int32)), .val (.int (1 : Int32)), .val (.ref op), .val (.ref y1), .unset, .unset]) rfl rfl ?_
  refine g_iload_n X0 hx 13 (hb hby d_method_3_12) rfl rfl ?_
  refine g_ifNo X0 hx 16 (hb hby d_method_3_13) (own_i0_le_f (by decide)) rfl ?_
  refine g_aload_n X0 hx 17 (hb hby d_method_3_16) rfl rfl rfl ?_
  refine g_iload_n X0 hx 18 (hb hby d_method_3_17) rfl rfl ?_
  refine g_iconst X0 hx 19 (hb hby d_method_3_18) (1 : Int32) rfl rfl ?_
  refine g_isub X0 hx 20 (hb hby d_method_3_19) rfl ?_
  show own_Go p e below s _ _ _ (s₁.setTop (mkF m 20 _ [(.int (0 : Int32)), (.ref ea)]))
  obtain ⟨cl410, Ar410, q410, S410, P410, H410, G410⟩ := id V_ea
  have hin410 := inb_of (j := (0 : Int32)) S410 ⟨by decide, by decide⟩
  refine own_aaload X0 hx hZ e0 rfl Ar410 (v := (.ref y0)) hin410 (Has.at H410 hin410 rfl) 21 (hb hby d_method_3_20) rfl ?_
  refine g_goto X0 hx 25 (hb hby d_method_3_21) (by decide) (by decide) ?_
  refine g_astore X0 hx 27 (hb hby d_method_3_25) rfl (l' := #[.val (.ref ea), .val (.int (3 : Int32)), .val (.int (1 : Int32)), .val (.ref op), .val (.ref y1), .val (.ref y0), .unset]) rfl rfl ?_
  refine g_iload_n X0 hx 28 (hb hby d_method_3_27) rfl rfl ?_
  refine g_iconst X0 hx 29 (hb hby d_method_3_28) (1 : Int32) rfl rfl ?_
  refine g_iadd X0 hx 30 (hb hby d_method_3_29) rfl ?_
  show own_Go p e below s _ _ _ (s₁.setTop (mkF m 30 _ [(.int (2 : Int32))]))
  refine g_iload_n X0 hx 31 (hb hby d_method_3_30) rfl rfl ?_
  refine g_icmpNo X0 hx 34 (hb hby d_method_3_31) (own_ii_ge_f (by decide)) rfl ?_
  refine g_aload_n X0 hx 35 (hb hby d_method_3_34) rfl rfl rfl ?_
  refine g_iload_n X0 hx 36 (hb hby d_method_3_35) rfl rfl ?_
  refine g_iconst X0 hx 37 (hb hby d_method_3_36) (1 : Int32) rfl rfl ?_
  refine g_iadd X0 hx 38 (hb hby d_method_3_37) rfl ?_
  show own_Go p e below s _ _ _ (s₁.setTop (mkF m 38 _ [(.int (2 : Int32)), (.ref ea)]))
  obtain ⟨cl411, Ar411, q411, S411, P411, H411, G411⟩ := id V_ea
  have hin411 := inb_of (j := (2 : Int32)) S411 ⟨by decide, by decide⟩
  refine own_aaload X0 hx hZ e0 rfl Ar411 (v := (.ref y2)) hin411 (Has.at H411 hin411 rfl) 39 (hb hby d_method_3_38) rfl ?_
  refine g_goto X0 hx 43 (hb hby d_method_3_39) (by decide) (by decide) ?_
  refine g_astore X0 hx 45 (hb hby d_method_3_43) rfl (l' := #[.val (.ref ea), .val (.int (3 : Int32)), .val (.int (1 : Int32)), .val (.ref op), .val (.ref y1), .val (.ref y0), .val (.ref y2)]) rfl rfl ?_
  refine g_aload X0 hx 47 (hb hby d_method_3_45) rfl rfl rfl ?_
  refine own_getF X0 hx hZ hown (host := "") (Or.inl (hw _ (List.mem_of_getElem? (i := 38) rfl))) Via.refl e0 F_y1_parent 50 (hb hby d_method_3_47) rfl fun T412 X412 e412 => ?_
  refine g_aload_n X412 hx 51 (hb hby d_method_3_50) rfl rfl rfl ?_
  refine g_acmp X412 hx (x := (.ref op)) (y := (.ref op)) (same := true) 54 (hb hby d_method_3_51) rfl rfl (decide_eq_true rfl) (by decide) (by decide) ?_
  refine g_aload X412 hx 56 (hb hby d_method_3_54) rfl rfl rfl ?_
  refine own_getF X412 hx hZ hown (host := "") (Or.inl (hw _ (List.mem_of_getElem? (i := 39) rfl))) Via.refl e412 F_y1_previous 59 (hb hby d_method_3_56) rfl fun T413 X413 e413 => ?_
  refine g_aload X413 hx 61 (hb hby d_method_3_59) rfl rfl rfl ?_
  refine g_acmp X413 hx (x := (.ref y0)) (y := (.ref y0)) (same := true) 64 (hb hby d_method_3_61) rfl rfl (decide_eq_true rfl) (by decide) (by decide) ?_
  refine g_aload X413 hx 66 (hb hby d_method_3_64) rfl rfl rfl ?_
  refine own_getF X413 hx hZ hown (host := "") (Or.inl (hw _ (List.mem_of_getElem? (i := 41) rfl))) Via.refl e413 F_y1_next 69 (hb hby d_method_3_66) rfl fun T414 X414 e414 => ?_
  refine g_aload X414 hx 71 (hb hby d_method_3_69) rfl rfl rfl ?_
  refine g_acmp X414 hx (x := (.ref y2)) (y := (.ref y2)) (same := true) 74 (hb hby d_method_3_71) rfl rfl (decide_eq_true rfl) (by decide) (by decide) ?_
  refine g_iconst X414 hx 75 (hb hby d_method_3_74) (1 : Int32) rfl rfl ?_
  refine g_goto X414 hx 79 (hb hby d_method_3_75) (by decide) (by decide) ?_
  refine own_retN X414 hx hlk (t := .boolean) hret (by simp) (hb hby d_method_3_79) ?_ (by decide) (by decide)
  rw [e414]
  exact ⟨(own_rb rfl), N0, rfl⟩
def Q_lk32 (Z : State) (ea : Addr) (ke : ClassId) (op : Addr) (y0 : Addr) (y1 : Addr) (y2 : Addr) (h0 : Heap) (n0 : Nat) (v : Option Value) (h : Heap) (L : List Loc) : Prop := v = some (.int (1 : Int32)) ∧ Fr n0 L ∧ h = h0
set_option maxRecDepth 65536 in
set_option maxHeartbeats 40000000 in
theorem rm_lk32 (l : Launch) (Z : State) (a0 : Array Value) (hw : ∀ d ∈ tables_1, d.before a0 Z = true) (ws : List Jvm.Cond) (ea : Addr) (ke : ClassId) (op : Addr) (y0 : Addr) (y1 : Addr) (y2 : Addr) (h0 : Heap) (n0 : Nat) (Z0 : n0 ≤ h0.size) (F_y2_parent : Fld Z h0 y2 "com/example/entitygate/entitygate/HtmlNode" "parent" "Lcom/example/entitygate/entitygate/HtmlNode$Parent;" (.ref op)) (F_y2_previous : Fld Z h0 y2 "com/example/entitygate/entitygate/HtmlNode" "previous" "Lcom/example/entitygate/entitygate/HtmlNode;" (.ref y1)) (F_y2_next : Fld Z h0 y2 "com/example/entitygate/entitygate/HtmlNode" "next" "Lcom/example/entitygate/entitygate/HtmlNode;" .null) (V_ea : Arv Z h0 ea ke (.object "com/example/entitygate/entitygate/HtmlNode") (3 : Int32) [(.ref y0), (.ref y1), (.ref y2)] .null) :
    MetFree l (⟨"com/example/entitygate/entitygate/HtmlNodeDetachPinLaw", "linked", "([Lcom/example/entitygate/entitygate/HtmlNode;IILcom/example/entitygate/entitygate/HtmlNode;)Z"⟩ : MethodName) (head1 (Jvm.Cond.code (⟨"com/example/entitygate/entitygate/HtmlNodeDetachPinLaw", "linked", "([Lcom/example/entitygate/entitygate/HtmlNode;IILcom/example/entitygate/entitygate/HtmlNode;)Z"⟩ : MethodName) method_3_code 7 (some .boolean) :: ws) ({ frames := 0, cells := 0, slots := 0, locals := 0 } : Room)) (fun aA U => aA = #[(.ref ea), (.int (3 : Int32)), (.int (2 : Int32)), (.ref op)] ∧ Z.Warmed39 U.vm ∧ U.heap = h0) (fun _ _ _ _ _ => True) (fun _ U oO U' => ∃ vV LL, oO = .returned vV ∧ Q_lk32 Z ea ke op y0 y1 y2 h0 n0 vV U'.heap LL ∧ FrameEnd U oO U' LL ({ frames := 0, cells := 0, slots := 0, locals := 0 } : Room).cells ({ frames := 0, cells := 0, slots := 0, locals := 0 } : Room).slots) := by
  refine MetFree.of_bodySF (plainFor_of_name pn_3) hisR ?_
  intro p e s m args below meth c s₁ Bd hml0 hP hK
  obtain ⟨rfl, hZ, hh⟩ := hP
  have hx := Bd.exec
  have hby := Bd.bytes
  have hml : c.maxLocals = 7 := hml0
  have hown : s.vm.findClass "com/example/entitygate/entitygate/HtmlNodeDetachPinLaw" = some m.cls := findClass_of_methodNamed Bd.named
  have hnm := (name_of_methodNamed Bd.named Bd.method).1
  have X0 : Stand p l e ({ frames := 0, cells := 0, slots := 0, locals := 0 } : Room) s m #[(.ref ea), (.int (3 : Int32)), (.int (2 : Int32)), (.ref op)] below meth c s₁ [] 0 0 := Stand.of_body Bd
  have e0 : s₁.heap = h0 := by rw [← hh, Bd.state]; rfl
  have N0 := Fr.nil n0
  have hret := Bd.returns
  have hlk : meth.locks = false := Bd.notSynchronized
  refine own_start (ef_2 m ea (3 : Int32) (2 : Int32) op) ?_
  show own_Go p e below s (Q_lk32 Z ea ke op y0 y1 y2 h0 n0) ({ frames := 0, cells := 0, slots := 0, locals := 0 } : Room).cells ({ frames := 0, cells := 0, slots := 0, locals := 0 } : Room).slots (s₁.setTop (mkF m 0 #[.val (.ref ea), .val (.int (3 : Int32)), .val (.int (2 : Int32)), .val (.ref op), .unset, .unset, .unset] []))
  refine g_iload_n X0 hx 1 (hb hby d_method_3_0) rfl rfl ?_
  refine g_iload_n X0 hx 2 (hb hby d_method_3_1) rfl rfl ?_
  refine g_icmpYes X0 hx 7 (hb hby d_method_3_2) (own_ii_lt_t (by decide)) (by decide) (by decide) ?_
  refine g_aload_n X0 hx 8 (hb hby d_method_3_7) rfl rfl rfl ?_
  refine g_iload_n X0 hx 9 (hb hby d_method_3_8) rfl rfl ?_
  obtain ⟨cl415, Ar415, q415, S415, P415, H415, G415⟩ := id V_ea
  have hin415 := inb_of (j := (2 : Int32)) S415 ⟨by decide, by decide⟩
  refine own_aaload X0 hx hZ e0 rfl Ar415 (v := (.ref y2)) hin415 (Has.at H415 hin415 rfl) 10 (hb hby d_method_3_9) rfl ?_
  refine g_astore X0 hx 12 (hb hby d_method_3_10) rfl (l' := #[.val (.ref ea), .val (.int (3 : Int32)), .val (.int (2 : Int32)), .val (.ref op), .val (.ref y2), .unset, .unset]) rfl rfl ?_
  refine g_iload_n X0 hx 13 (hb hby d_method_3_12) rfl rfl ?_
  refine g_ifNo X0 hx 16 (hb hby d_method_3_13) (own_i0_le_f (by decide)) rfl ?_
  refine g_aload_n X0 hx 17 (hb hby d_method_3_16) rfl rfl rfl ?_
  refine g_iload_n X0 hx 18 (hb hby d_method_3_17) rfl rfl ?_
  refine g_iconst X0 hx 19 (hb hby d_method_3_18) (1 : Int32) rfl rfl ?_
  refine g_isub X0 hx 20 (hb hby d_method_3_19) rfl ?_
  show own_Go p e below s _ _ _ (s₁.setTop (mkF m 20 _ [(.int (1 : Int32)), (.ref ea)]))
  obtain ⟨cl416, Ar416, q416, S416, P416, H416, G416⟩ := id V_ea
  have hin416 := inb_of (j := (1 : Int32)) S416 ⟨by decide, by decide⟩
  refine own_aaload X0 hx hZ e0 rfl Ar416 (v := (.ref y1)) hin416 (Has.at H416 hin416 rfl) 21 (hb hby d_method_3_20) rfl ?_
  refine g_goto X0 hx 25 (hb hby d_method_3_21) (by decide) (by decide) ?_
  refine g_astore X0 hx 27 (hb hby d_method_3_25) rfl (l' := #[.val (.ref ea), .val (.int (3 : Int32)), .val (.int (2 : Int32)), .val (.ref op), .val (.ref y2), .val (.ref y1), .unset]) rfl rfl ?_
  refine g_iload_n X0 hx 28 (hb hby d_method_3_27) rfl rfl ?_
  refine g_iconst X0 hx 29 (hb hby d_method_3_28) (1 : Int32) rfl rfl ?_
  refine g_iadd X0 hx 30 (hb hby d_method_3_29) rfl ?_
  show own_Go p e below s _ _ _ (s₁.setTop (mkF m 30 _ [(.int (3 : Int32))]))
  refine g_iload_n X0 hx 31 (hb hby d_method_3_30) rfl rfl ?_
  refine g_icmpYes X0 hx 42 (hb hby d_method_3_31) (own_ii_ge_t (by decide)) (by decide) (by decide) ?_
  refine g_aconst_null X0 hx 43 (hb hby d_method_3_42) rfl ?_
  refine g_astore X0 hx 45 (hb hby d_method_3_43) rfl (l' := #[.val (.ref ea), .val (.int (3 : Int32)), .val (.int (2 : Int32)), .val (.ref op), .val (.ref y2), .val (.ref y1), .val .null]) rfl rfl ?_
  refine g_aload X0 hx 47 (hb hby d_method_3_45) rfl rfl rfl ?_
  refine own_getF X0 hx hZ hown (host := "") (Or.inl (hw _ (List.mem_of_getElem? (i := 38) rfl))) Via.refl e0 F_y2_parent 50 (hb hby d_method_3_47) rfl fun T417 X417 e417 => ?_
  refine g_aload_n X417 hx 51 (hb hby d_method_3_50) rfl rfl rfl ?_
  refine g_acmp X417 hx (x := (.ref op)) (y := (.ref op)) (same := true) 54 (hb hby d_method_3_51) rfl rfl (decide_eq_true rfl) (by decide) (by decide) ?_
  refine g_aload X417 hx 56 (hb hby d_method_3_54) rfl rfl rfl ?_
  refine own_getF X417 hx hZ hown (host := "") (Or.inl (hw _ (List.mem_of_getElem? (i := 39) rfl))) Via.refl e417 F_y2_previous 59 (hb hby d_method_3_56) rfl fun T418 X418 e418 => ?_
  refine g_aload X418 hx 61 (hb hby d_method_3_59) rfl rfl rfl ?_
  refine g_acmp X418 hx (x := (.ref y1)) (y := (.ref y1)) (same := true) 64 (hb hby d_method_3_61) rfl rfl (decide_eq_true rfl) (by decide) (by decide) ?_
  refine g_aload X418 hx 66 (hb hby d_method_3_64) rfl rfl rfl ?_
  refine own_getF X418 hx hZ hown (host := "") (Or.inl (hw _ (List.mem_of_getElem? (i := 41) rfl))) Via.refl e418 F_y2_next 69 (hb hby d_method_3_66) rfl fun T419 X419 e419 => ?_
  refine g_aload X419 hx 71 (hb hby d_method_3_69) rfl rfl rfl ?_
  refine g_acmp X419 hx (x := .null) (y := .null) (same := true) 74 (hb hby d_method_3_71) rfl rfl (decide_eq_true rfl) (by decide) (by decide) ?_
  refine g_iconst X419 hx 75 (hb hby d_method_3_74) (1 : Int32) rfl rfl ?_
  refine g_goto X419 hx 79 (hb hby d_method_3_75) (by decide) (by decide) ?_
  refine own_retN X419 hx hlk (t := .boolean) hret (by simp) (hb hby d_method_3_79) ?_ (by decide) (by decide)
  rw [e419]
  exact ⟨(own_rb rfl), N0, rfl⟩
theorem pd_1 : parseMethodDescriptor "(Lcom/example/entitygate/entitygate/HtmlNode;)Z" = some ⟨[(.object "com/example/entitygate/entitygate/HtmlNode")], some .boolean⟩ := by decide +kernel
theorem pd_2 : parseMethodDescriptor "([Lcom/example/entitygate/entitygate/HtmlNode;IILcom/example/entitygate/entitygate/HtmlNode;)Z" = some ⟨[(.array (.object "com/example/entitygate/entitygate/HtmlNode")), .int, .int, (.object "com/example/entitygate/entitygate/HtmlNode")], some .boolean⟩ := by decide +kernel
theorem pd_3 : parseMethodDescriptor "(Lcom/example/entitygate/entitygate/HtmlNode;Lcom/example/entitygate/entitygate/HtmlNode;)V" = some ⟨[(.object "com/example/entitygate/entitygate/HtmlNode"), (.object "com/example/entitygate/entitygate/HtmlNode")], none⟩ := by decide +kernel
theorem ef_3 (m : MethodId) (x0 : Int32) (x1 : Int32) : entryFrame m #[(.int x0), (.int x1)] maxLocals = mkF m 0 #[.val (.int x0), .val (.int x1), .unset, .unset, .unset, .unset, .unset, .unset, .unset, .unset, .unset, .unset, .unset, .unset, .unset, .unset, .unset] [] := by first | (simp [entryFrame, mkF, argsToLocals, Value.category, maxLocals]; done) | rfl
def Q_law (Z : State) (p0 p1 : Int32) (h0 : Heap) (n0 : Nat) (v : Option Value) (h : Heap) (L : List Loc) : Prop := v = some (.int 1) ∧ Fr n0 L
set_option maxRecDepth 65536 in
set_option maxHeartbeats 40000000 in
theorem rm_law (l : Launch) (Z : State) (a0 : Array Value) (hw : ∀ d ∈ tables_1, d.before a0 Z = true) (ws : List Jvm.Cond) (p0 p1 : Int32) (h0 : Heap) (n0 : Nat) (Z0 : n0 ≤ h0.size) :
    MetFree l x (head1 (Jvm.Cond.code x code maxLocals ret :: ws) room_1) (fun aA U => aA = #[(.int p0), (.int p1)] ∧ Z.Warmed39 U.vm ∧ U.heap = h0) (fun _ _ _ _ _ => True) (fun _ U oO U' => ∃ vV LL, oO = .returned vV ∧ Q_law Z p0 p1 h0 n0 vV U'.heap LL ∧ FrameEnd U oO U' LL room_1.cells room_1.slots) := by
  refine MetFree.of_bodySF (plainFor_of_name pn_3) hisR ?_
  intro p e s m args below meth c s₁ Bd hml0 hP hK
  obtain ⟨rfl, hZ, hh⟩ := hP
  have hx := Bd.exec
  have hby := Bd.bytes
  have hml : c.maxLocals = 17 := hml0
  have hown : s.vm.findClass "com/example/entitygate/entitygate/HtmlNodeDetachPinLaw" = some m.cls := findClass_of_methodNamed Bd.named
  have hnm := (name_of_methodNamed Bd.named Bd.method).1
  have X0 : Stand p l e room_1 s m #[(.int p0), (.int p1)] below meth c s₁ [] 0 0 := Stand.of_body Bd
  have e0 : s₁.heap = h0 := by rw [← hh, Bd.state]; rfl
  have N0 := Fr.nil n0
  have hret := Bd.returns
  have hlk : meth.locks = false := Bd.notSynchronized
  refine own_start (ef_3 m p0 p1) ?_
  show own_Go p e below s (Q_law Z p0 p1 h0 n0) room_1.cells room_1.slots (s₁.setTop (mkF m 0 #[.val (.int p0), .val (.int p1), .unset, .unset, .unset, .unset, .unset, .unset, .unset, .unset, .unset, .unset, .unset, .unset, .unset, .unset, .unset] []))
  refine g_iload_n X0 hx 1 (hb hby at_0) rfl rfl ?_
  refine g_iconst X0 hx 2 (hb hby at_1) (3 : Int32) rfl rfl ?_
  refine g_iand X0 hx 3 (hb hby at_2) rfl ?_
  obtain ⟨n, q_n⟩ : ∃ z, z = (p0 &&& (3 : Int32)) := ⟨_, rfl⟩
  rw [← q_n]
  refine g_istore_n X0 hx 4 (hb hby at_3) (l' := #[.val (.int p0), .val (.int p1), .val (.int n), .unset, .unset, .unset, .unset, .unset, .unset, .unset, .unset, .unset, .unset, .unset, .unset, .unset, .unset]) rfl rfl ?_
  refine g_iload_n X0 hx 5 (hb hby at_4) rfl rfl ?_
  refine g_iconst X0 hx 6 (hb hby at_5) (3 : Int32) rfl rfl ?_
  refine g_iand X0 hx 7 (hb hby at_6) rfl ?_
  obtain ⟨k, q_k⟩ : ∃ z, z = (p1 &&& (3 : Int32)) := ⟨_, rfl⟩
  rw [← q_k]
  refine g_istore_n X0 hx 8 (hb hby at_7) (l' := #[.val (.int p0), .val (.int p1), .val (.int n), .val (.int k), .unset, .unset, .unset, .unset, .unset, .unset, .unset, .unset, .unset, .unset, .unset, .unset, .unset]) rfl rfl ?_
  refine own_newO X0 hx hZ hown (hw _ (List.mem_of_getElem? (i := 0) rfl)) (hw _ (List.mem_of_getElem? (i := 1) rfl)) (hw _ (List.mem_of_getElem? (i := 2) rfl)) e0 11 (hb hby at_8) rfl (by decide) (by decide) fun T420 h420 b420 X420 e420 g420 E420 A420 D420 => ?_
  have g_b420 : n0 ≤ b420 := Nat.le_trans Z0 (Nat.le_of_eq g420.symm)
  have sz_b420 : h0.size ≤ b420 := Nat.le_trans (Keep.refl h0 []).1 (Nat.le_of_eq g420.symm)
  have K421 : Keep h0 h420 [] := (Keep.refl h0 []).ext E420
  have z422 : n0 ≤ h420.size := (Nat.le_trans Z0 E420.1)
  have f423 : Fld Z h420 b420 "com/example/entitygate/entitygate/HtmlNode" "parent" "Lcom/example/entitygate/entitygate/HtmlNode$Parent;" .null := D420 (Or.inl (hw _ (List.mem_of_getElem? (i := 25) rfl))) (ty := (.object "com/example/entitygate/entitygate/HtmlNode$Parent")) (by decide)
  have f424 : Fld Z h420 b420 "com/example/entitygate/entitygate/HtmlNode$Parent" "first" "Lcom/example/entitygate/entitygate/HtmlNode;" .null := D420 (Or.inl (hw _ (List.mem_of_getElem? (i := 30) rfl))) (ty := (.object "com/example/entitygate/entitygate/HtmlNode")) (by decide)
  have f425 : Fld Z h420 b420 "com/example/entitygate/entitygate/HtmlNode$Parent" "last" "Lcom/example/entitygate/entitygate/HtmlNode;" .null := D420 (Or.inl (hw _ (List.mem_of_getElem? (i := 33) rfl))) (ty := (.object "com/example/entitygate/entitygate/HtmlNode")) (by decide)
  have f426 : Fld Z h420 b420 "com/example/entitygate/entitygate/HtmlNode" "previous" "Lcom/example/entitygate/entitygate/HtmlNode;" .null := D420 (Or.inl (hw _ (List.mem_of_getElem? (i := 40) rfl))) (ty := (.object "com/example/entitygate/entitygate/HtmlNode")) (by decide)
  have f427 : Fld Z h420 b420 "com/example/entitygate/entitygate/HtmlNode" "next" "Lcom/example/entitygate/entitygate/HtmlNode;" .null := D420 (Or.inl (hw _ (List.mem_of_getElem? (i := 42) rfl))) (ty := (.object "com/example/entitygate/entitygate/HtmlNode")) (by decide)
  refine g_dup X420 hx 12 (hb hby at_11) rfl rfl ?_
  refine own_callI X420 hx hZ hown rfl (hw _ (List.mem_of_getElem? (i := 3) rfl)) (hw _ (List.mem_of_getElem? (i := 4) rfl)) (by decide) (rm_init_do l Z a0 hw [] b420 h420 n0 z422 ) (hw _ (List.mem_of_getElem? (i := 5) rfl)) (hw _ (List.mem_of_getElem? (i := 2) rfl)) e420 1 (by decide) (by decide) (by decide) (by decide) b420 [] [(.ref b420)] rfl pd_0 rfl 15 rfl (by rw [hml]; rfl) rfl (hb hby at_12) rfl fun T428 v428 L428 X428 hQ428 => ?_
  obtain ⟨rfl, Nq428, e428⟩ := hQ428
  have N428 := Fr.app N0 Nq428
  show own_Go p e below s _ _ _ (T428.setTop (mkF m 15 _ [(.ref b420)]))
  refine g_astore X428 hx 17 (hb hby at_15) rfl (l' := #[.val (.int p0), .val (.int p1), .val (.int n), .val (.int k), .val (.ref b420), .unset, .unset, .unset, .unset, .unset, .unset, .unset, .unset, .unset, .unset, .unset, .unset]) rfl rfl ?_
  refine own_newO X428 hx hZ hown (hw _ (List.mem_of_getElem? (i := 0) rfl)) (hw _ (List.mem_of_getElem? (i := 1) rfl)) (hw _ (List.mem_of_getElem? (i := 2) rfl)) e428 20 (hb hby at_17) rfl (by decide) (by decide) fun T429 h429 b429 X429 e429 g429 E429 A429 D429 => ?_
  have ne430 : b420 ≠ b429 := Nat.ne_of_lt (Nat.lt_of_lt_of_le A420.lt (Nat.le_of_eq g429.symm))
  have g_b429 : n0 ≤ b429 := Nat.le_trans z422 (Nat.le_of_eq g429.symm)
  have sz_b429 : h0.size ≤ b429 := Nat.le_trans K421.1 (Nat.le_of_eq g429.symm)
  have K431 : Keep h0 h429 [] := K421.ext E429
  have z432 : n0 ≤ h429.size := (Nat.le_trans z422 E429.1)
  have f433 : Fld Z h429 b429 "com/example/entitygate/entitygate/HtmlNode" "parent" "Lcom/example/entitygate/entitygate/HtmlNode$Parent;" .null := D429 (Or.inl (hw _ (List.mem_of_getElem? (i := 25) rfl))) (ty := (.object "com/example/entitygate/entitygate/HtmlNode$Parent")) (by decide)
  have f434 : Fld Z h429 b429 "com/example/entitygate/entitygate/HtmlNode$Parent" "first" "Lcom/example/entitygate/entitygate/HtmlNode;" .null := D429 (Or.inl (hw _ (List.mem_of_getElem? (i := 30) rfl))) (ty := (.object "com/example/entitygate/entitygate/HtmlNode")) (by decide)
  have f435 : Fld Z h429 b429 "com/example/entitygate/entitygate/HtmlNode$Parent" "last" "Lcom/example/entitygate/entitygate/HtmlNode;" .null := D429 (Or.inl (hw _ (List.mem_of_getElem? (i := 33) rfl))) (ty := (.object "com/example/entitygate/entitygate/HtmlNode")) (by decide)
  have f436 : Fld Z h429 b429 "com/example/entitygate/entitygate/HtmlNode" "previous" "Lcom/example/entitygate/entitygate/HtmlNode;" .null := D429 (Or.inl (hw _ (List.mem_of_getElem? (i := 40) rfl))) (ty := (.object "com/example/entitygate/entitygate/HtmlNode")) (by decide)
  have f437 : Fld Z h429 b429 "com/example/entitygate/entitygate/HtmlNode" "next" "Lcom/example/entitygate/entitygate/HtmlNode;" .null := D429 (Or.inl (hw _ (List.mem_of_getElem? (i := 42) rfl))) (ty := (.object "com/example/entitygate/entitygate/HtmlNode")) (by decide)
  refine g_dup X429 hx 21 (hb hby at_20) rfl rfl ?_
  refine own_callI X429 hx hZ hown rfl (hw _ (List.mem_of_getElem? (i := 3) rfl)) (hw _ (List.mem_of_getElem? (i := 4) rfl)) (by decide) (rm_init_do l Z a0 hw [] b429 h429 n0 z432 ) (hw _ (List.mem_of_getElem? (i := 5) rfl)) (hw _ (List.mem_of_getElem? (i := 2) rfl)) e429 1 (by decide) (by decide) (by decide) (by decide) b429 [] [(.ref b429)] rfl pd_0 rfl 24 rfl (by rw [hml]; rfl) rfl (hb hby at_21) rfl fun T438 v438 L438 X438 hQ438 => ?_
  obtain ⟨rfl, Nq438, e438⟩ := hQ438
  have N438 := Fr.app N428 Nq438
  show own_Go p e below s _ _ _ (T438.setTop (mkF m 24 _ [(.ref b429)]))
  refine g_astore X438 hx 26 (hb hby at_24) rfl (l' := #[.val (.int p0), .val (.int p1), .val (.int n), .val (.int k), .val (.ref b420), .val (.ref b429), .unset, .unset, .unset, .unset, .unset, .unset, .unset, .unset, .unset, .unset, .unset]) rfl rfl ?_
  refine own_newO X438 hx hZ hown (hw _ (List.mem_of_getElem? (i := 0) rfl)) (hw _ (List.mem_of_getElem? (i := 1) rfl)) (hw _ (List.mem_of_getElem? (i := 2) rfl)) e438 29 (hb hby at_26) rfl (by decide) (by decide) fun T439 h439 b439 X439 e439 g439 E439 A439 D439 => ?_
  have f440 : Exa Z h429 b420 "com/example/entitygate/entitygate/HtmlNode$Document" := (Exa.ext E429 A420)
  have ne441 : b420 ≠ b439 := Nat.ne_of_lt (Nat.lt_of_lt_of_le f440.lt (Nat.le_of_eq g439.symm))
  have ne442 : b429 ≠ b439 := Nat.ne_of_lt (Nat.lt_of_lt_of_le A429.lt (Nat.le_of_eq g439.symm))
  have g_b439 : n0 ≤ b439 := Nat.le_trans z432 (Nat.le_of_eq g439.symm)
  have sz_b439 : h0.size ≤ b439 := Nat.le_trans K431.1 (Nat.le_of_eq g439.symm)
  have K443 : Keep h0 h439 [] := K431.ext E439
  have z444 : n0 ≤ h439.size := (Nat.le_trans z432 E439.1)
  have f445 : Fld Z h439 b439 "com/example/entitygate/entitygate/HtmlNode" "parent" "Lcom/example/entitygate/entitygate/HtmlNode$Parent;" .null := D439 (Or.inl (hw _ (List.mem_of_getElem? (i := 25) rfl))) (ty := (.object "com/example/entitygate/entitygate/HtmlNode$Parent")) (by decide)
  have f446 : Fld Z h439 b439 "com/example/entitygate/entitygate/HtmlNode$Parent" "first" "Lcom/example/entitygate/entitygate/HtmlNode;" .null := D439 (Or.inl (hw _ (List.mem_of_getElem? (i := 30) rfl))) (ty := (.object "com/example/entitygate/entitygate/HtmlNode")) (by decide)
  have f447 : Fld Z h439 b439 "com/example/entitygate/entitygate/HtmlNode$Parent" "last" "Lcom/example/entitygate/entitygate/HtmlNode;" .null := D439 (Or.inl (hw _ (List.mem_of_getElem? (i := 33) rfl))) (ty := (.object "com/example/entitygate/entitygate/HtmlNode")) (by decide)
  have f448 : Fld Z h439 b439 "com/example/entitygate/entitygate/HtmlNode" "previous" "Lcom/example/entitygate/entitygate/HtmlNode;" .null := D439 (Or.inl (hw _ (List.mem_of_getElem? (i := 40) rfl))) (ty := (.object "com/example/entitygate/entitygate/HtmlNode")) (by decide)
  have f449 : Fld Z h439 b439 "com/example/entitygate/entitygate/HtmlNode" "next" "Lcom/example/entitygate/entitygate/HtmlNode;" .null := D439 (Or.inl (hw _ (List.mem_of_getElem? (i := 42) rfl))) (ty := (.object "com/example/entitygate/entitygate/HtmlNode")) (by decide)
  refine g_dup X439 hx 30 (hb hby at_29) rfl rfl ?_
  refine own_callI X439 hx hZ hown rfl (hw _ (List.mem_of_getElem? (i := 3) rfl)) (hw _ (List.mem_of_getElem? (i := 4) rfl)) (by decide) (rm_init_do l Z a0 hw [] b439 h439 n0 z444 ) (hw _ (List.mem_of_getElem? (i := 5) rfl)) (hw _ (List.mem_of_getElem? (i := 2) rfl)) e439 1 (by decide) (by decide) (by decide) (by decide) b439 [] [(.ref b439)] rfl pd_0 rfl 33 rfl (by rw [hml]; rfl) rfl (hb hby at_30) rfl fun T450 v450 L450 X450 hQ450 => ?_
  obtain ⟨rfl, Nq450, e450⟩ := hQ450
  have N450 := Fr.app N438 Nq450
  show own_Go p e below s _ _ _ (T450.setTop (mkF m 33 _ [(.ref b439)]))
  refine g_astore X450 hx 35 (hb hby at_33) rfl (l' := #[.val (.int p0), .val (.int p1), .val (.int n), .val (.int k), .val (.ref b420), .val (.ref b429), .val (.ref b439), .unset, .unset, .unset, .unset, .unset, .unset, .unset, .unset, .unset, .unset]) rfl rfl ?_
  refine own_newO X450 hx hZ hown (hw _ (List.mem_of_getElem? (i := 0) rfl)) (hw _ (List.mem_of_getElem? (i := 1) rfl)) (hw _ (List.mem_of_getElem? (i := 2) rfl)) e450 38 (hb hby at_35) rfl (by decide) (by decide) fun T451 h451 b451 X451 e451 g451 E451 A451 D451 => ?_
  have f452 : Exa Z h439 b420 "com/example/entitygate/entitygate/HtmlNode$Document" := (Exa.ext E439 f440)
  have ne453 : b420 ≠ b451 := Nat.ne_of_lt (Nat.lt_of_lt_of_le f452.lt (Nat.le_of_eq g451.symm))
  have f454 : Exa Z h439 b429 "com/example/entitygate/entitygate/HtmlNode$Document" := (Exa.ext E439 A429)
  have ne455 : b429 ≠ b451 := Nat.ne_of_lt (Nat.lt_of_lt_of_le f454.lt (Nat.le_of_eq g451.symm))
  have ne456 : b439 ≠ b451 := Nat.ne_of_lt (Nat.lt_of_lt_of_le A439.lt (Nat.le_of_eq g451.symm))
  have g_b451 : n0 ≤ b451 := Nat.le_trans z444 (Nat.le_of_eq g451.symm)
  have sz_b451 : h0.size ≤ b451 := Nat.le_trans K443.1 (Nat.le_of_eq g451.symm)
  have K457 : Keep h0 h451 [] := K443.ext E451
  have z458 : n0 ≤ h451.size := (Nat.le_trans z444 E451.1)
  have f459 : Fld Z h451 b451 "com/example/entitygate/entitygate/HtmlNode" "parent" "Lcom/example/entitygate/entitygate/HtmlNode$Parent;" .null := D451 (Or.inl (hw _ (List.mem_of_getElem? (i := 25) rfl))) (ty := (.object "com/example/entitygate/entitygate/HtmlNode$Parent")) (by decide)
  have f460 : Fld Z h451 b451 "com/example/entitygate/entitygate/HtmlNode$Parent" "first" "Lcom/example/entitygate/entitygate/HtmlNode;" .null := D451 (Or.inl (hw _ (List.mem_of_getElem? (i := 30) rfl))) (ty := (.object "com/example/entitygate/entitygate/HtmlNode")) (by decide)
  have f461 : Fld Z h451 b451 "com/example/entitygate/entitygate/HtmlNode$Parent" "last" "Lcom/example/entitygate/entitygate/HtmlNode;" .null := D451 (Or.inl (hw _ (List.mem_of_getElem? (i := 33) rfl))) (ty := (.object "com/example/entitygate/entitygate/HtmlNode")) (by decide)
  have f462 : Fld Z h451 b451 "com/example/entitygate/entitygate/HtmlNode" "previous" "Lcom/example/entitygate/entitygate/HtmlNode;" .null := D451 (Or.inl (hw _ (List.mem_of_getElem? (i := 40) rfl))) (ty := (.object "com/example/entitygate/entitygate/HtmlNode")) (by decide)
  have f463 : Fld Z h451 b451 "com/example/entitygate/entitygate/HtmlNode" "next" "Lcom/example/entitygate/entitygate/HtmlNode;" .null := D451 (Or.inl (hw _ (List.mem_of_getElem? (i := 42) rfl))) (ty := (.object "com/example/entitygate/entitygate/HtmlNode")) (by decide)
  refine g_dup X451 hx 39 (hb hby at_38) rfl rfl ?_
  refine own_callI X451 hx hZ hown rfl (hw _ (List.mem_of_getElem? (i := 3) rfl)) (hw _ (List.mem_of_getElem? (i := 4) rfl)) (by decide) (rm_init_do l Z a0 hw [] b451 h451 n0 z458 ) (hw _ (List.mem_of_getElem? (i := 5) rfl)) (hw _ (List.mem_of_getElem? (i := 2) rfl)) e451 1 (by decide) (by decide) (by decide) (by decide) b451 [] [(.ref b451)] rfl pd_0 rfl 42 rfl (by rw [hml]; rfl) rfl (hb hby at_39) rfl fun T464 v464 L464 X464 hQ464 => ?_
  obtain ⟨rfl, Nq464, e464⟩ := hQ464
  have N464 := Fr.app N450 Nq464
  show own_Go p e below s _ _ _ (T464.setTop (mkF m 42 _ [(.ref b451)]))
  refine g_astore X464 hx 44 (hb hby at_42) rfl (l' := #[.val (.int p0), .val (.int p1), .val (.int n), .val (.int k), .val (.ref b420), .val (.ref b429), .val (.ref b439), .val (.ref b451), .unset, .unset, .unset, .unset, .unset, .unset, .unset, .unset, .unset]) rfl rfl ?_
  rcases own_four p0 q_n with rfl | rfl | rfl | rfl
  · show own_Go p e below s _ _ _ (T464.setTop (mkF m 44 _ []))
    refine g_iload_n X464 hx 45 (hb hby at_44) rfl rfl ?_
    refine g_iconst X464 hx 46 (hb hby at_45) (1 : Int32) rfl rfl ?_
    refine g_icmpYes X464 hx 57 (hb hby at_46) (own_ii_lt_t (by decide)) (by decide) (by decide) ?_
    refine g_iload_n X464 hx 58 (hb hby at_57) rfl rfl ?_
    refine g_iconst X464 hx 59 (hb hby at_58) (2 : Int32) rfl rfl ?_
    refine g_icmpYes X464 hx 70 (hb hby at_59) (own_ii_lt_t (by decide)) (by decide) (by decide) ?_
    refine g_iload_n X464 hx 71 (hb hby at_70) rfl rfl ?_
    refine g_iconst X464 hx 72 (hb hby at_71) (3 : Int32) rfl rfl ?_
    refine g_icmpYes X464 hx 83 (hb hby at_72) (own_ii_lt_t (by decide)) (by decide) (by decide) ?_
    rcases own_four p1 q_k with rfl | rfl | rfl | rfl
    · show own_Go p e below s _ _ _ (T464.setTop (mkF m 83 _ []))
      refine g_iload_n X464 hx 84 (hb hby at_83) rfl rfl ?_
      refine g_ifNo X464 hx 87 (hb hby at_84) (own_i0_ne_f (by decide)) rfl ?_
      refine g_aload X464 hx 89 (hb hby at_87) rfl rfl rfl ?_
      refine g_goto X464 hx 114 (hb hby at_89) (by decide) (by decide) ?_
      refine g_astore X464 hx 116 (hb hby at_114) rfl (l' := #[.val (.int p0), .val (.int p1), .val (.int (0 : Int32)), .val (.int (0 : Int32)), .val (.ref b420), .val (.ref b429), .val (.ref b439), .val (.ref b451), .val (.ref b429), .unset, .unset, .unset, .unset, .unset, .unset, .unset, .unset]) rfl rfl ?_
      refine g_aload X464 hx 118 (hb hby at_116) rfl rfl rfl ?_
      have f466 : Fld Z h451 b429 "com/example/entitygate/entitygate/HtmlNode" "parent" "Lcom/example/entitygate/entitygate/HtmlNode$Parent;" .null := (Fld.ext E451 (Fld.ext E439 f433))
      have f467 : Exa Z h451 b429 "com/example/entitygate/entitygate/HtmlNode$Document" := (Exa.ext E451 f454)
      refine own_callV X464 hx hZ hown (hw _ (List.mem_of_getElem? (i := 19) rfl)) (hw _ (List.mem_of_getElem? (i := 20) rfl)) (own_nf hZ (hw _ (List.mem_of_getElem? (i := 22) rfl))) (hw _ (List.mem_of_getElem? (i := 22) rfl)) (hw _ (List.mem_of_getElem? (i := 21) rfl)) (by decide) (rm_det0 l Z a0 hw [] b429 h451 n0 z458 f466) (hw _ (List.mem_of_getElem? (i := 23) rfl)) (hw _ (List.mem_of_getElem? (i := 14) rfl)) e464 0 (by decide) (by decide) (by decide) (by decide) f467 [] [] rfl pd_0 rfl 121 rfl (by rw [hml]; rfl) rfl (hb hby at_118) rfl fun T465 v465 L465 X465 hQ465 => ?_
      obtain ⟨rfl, Nq465, e465⟩ := hQ465
      have N465 := Fr.app N464 Nq465
      show own_Go p e below s _ _ _ (T465.setTop (mkF m 121 _ []))
      refine g_iload_n X465 hx 122 (hb hby at_121) rfl rfl ?_
      refine g_iconst X465 hx 123 (hb hby at_122) (1 : Int32) rfl rfl ?_
      refine g_icmpYes X465 hx 134 (hb hby at_123) (own_ii_lt_t (by decide)) (by decide) (by decide) ?_
      refine g_iconst X465 hx 135 (hb hby at_134) (0 : Int32) rfl rfl ?_
      refine g_istore X465 hx 137 (hb hby at_135) (l' := #[.val (.int p0), .val (.int p1), .val (.int (0 : Int32)), .val (.int (0 : Int32)), .val (.ref b420), .val (.ref b429), .val (.ref b439), .val (.ref b451), .val (.ref b429), .val (.int (0 : Int32)), .unset, .unset, .unset, .unset, .unset, .unset, .unset]) rfl rfl ?_
      refine g_iload_n X465 hx 138 (hb hby at_137) rfl rfl ?_
      refine g_iconst X465 hx 139 (hb hby at_138) (2 : Int32) rfl rfl ?_
      refine g_icmpYes X465 hx 151 (hb hby at_139) (own_ii_lt_t (by decide)) (by decide) (by decide) ?_
      refine g_iconst X465 hx 152 (hb hby at_151) (0 : Int32) rfl rfl ?_
      refine g_istore X465 hx 154 (hb hby at_152) (l' := #[.val (.int p0), .val (.int p1), .val (.int (0 : Int32)), .val (.int (0 : Int32)), .val (.ref b420), .val (.ref b429), .val (.ref b439), .val (.ref b451), .val (.ref b429), .val (.int (0 : Int32)), .val (.int (0 : Int32)), .unset, .unset, .unset, .unset, .unset, .unset]) rfl rfl ?_
      refine g_iload_n X465 hx 155 (hb hby at_154) rfl rfl ?_
      refine g_iconst X465 hx 156 (hb hby at_155) (3 : Int32) rfl rfl ?_
      refine g_icmpYes X465 hx 168 (hb hby at_156) (own_ii_lt_t (by decide)) (by decide) (by decide) ?_
      refine g_iconst X465 hx 169 (hb hby at_168) (0 : Int32) rfl rfl ?_
      refine g_istore X465 hx 171 (hb hby at_169) (l' := #[.val (.int p0), .val (.int p1), .val (.int (0 : Int32)), .val (.int (0 : Int32)), .val (.ref b420), .val (.ref b429), .val (.ref b439), .val (.ref b451), .val (.ref b429), .val (.int (0 : Int32)), .val (.int (0 : Int32)), .val (.int (0 : Int32)), .unset, .unset, .unset, .unset, .unset]) rfl rfl ?_
      refine g_iconst X465 hx 172 (hb hby at_171) (3 : Int32) rfl rfl ?_
      refine own_newR X465 hx hZ hown (hw _ (List.mem_of_getElem? (i := 26) rfl)) (hw _ (List.mem_of_getElem? (i := 27) rfl)) e465 175 (hb hby at_172) rfl (by decide) 3 (by decide) (by decide) (by decide) (by decide) fun T468 h468 k468 b468 X468 e468 g468 E468 A468 O468 => ?_
      have f469 : Exa Z h451 b420 "com/example/entitygate/entitygate/HtmlNode$Document" := (Exa.ext E451 f452)
      have ne470 : b420 ≠ b468 := Nat.ne_of_lt (Nat.lt_of_lt_of_le f469.lt (Nat.le_of_eq g468.symm))
      have ne471 : b429 ≠ b468 := Nat.ne_of_lt (Nat.lt_of_lt_of_le f467.lt (Nat.le_of_eq g468.symm))
      have f472 : Exa Z h451 b439 "com/example/entitygate/entitygate/HtmlNode$Document" := (Exa.ext E451 A439)
      have ne473 : b439 ≠ b468 := Nat.ne_of_lt (Nat.lt_of_lt_of_le f472.lt (Nat.le_of_eq g468.symm))
      have ne474 : b451 ≠ b468 := Nat.ne_of_lt (Nat.lt_of_lt_of_le A451.lt (Nat.le_of_eq g468.symm))
      have g_b468 : n0 ≤ b468 := Nat.le_trans z458 (Nat.le_of_eq g468.symm)
      have sz_b468 : h0.size ≤ b468 := Nat.le_trans K457.1 (Nat.le_of_eq g468.symm)
      have K475 : Keep h0 h468 [] := K457.ext E468
      have z476 : n0 ≤ h468.size := (Nat.le_trans z458 E468.1)
      have V468 : Arv Z h468 b468 k468 (.object "com/example/entitygate/entitygate/HtmlNode") (3 : Int32) [.null, .null, .null] .null := (Arv.new A468 (by decide)).pad (pad_rep [] .null 3)
      refine g_astore X468 hx 177 (hb hby at_175) rfl (l' := #[.val (.int p0), .val (.int p1), .val (.int (0 : Int32)), .val (.int (0 : Int32)), .val (.ref b420), .val (.ref b429), .val (.ref b439), .val (.ref b451), .val (.ref b429), .val (.int (0 : Int32)), .val (.int (0 : Int32)), .val (.int (0 : Int32)), .val (.ref b468), .unset, .unset, .unset, .unset]) rfl rfl ?_
      refine g_iconst X468 hx 178 (hb hby at_177) (0 : Int32) rfl rfl ?_
      refine g_istore X468 hx 180 (hb hby at_178) (l' := #[.val (.int p0), .val (.int p1), .val (.int (0 : Int32)), .val (.int (0 : Int32)), .val (.ref b420), .val (.ref b429), .val (.ref b439), .val (.ref b451), .val (.ref b429), .val (.int (0 : Int32)), .val (.int (0 : Int32)), .val (.int (0 : Int32)), .val (.ref b468), .val (.int (0 : Int32)), .unset, .unset, .unset]) rfl rfl ?_
      refine g_iload X468 hx 182 (hb hby at_180) rfl rfl ?_
      refine g_ifYes X468 hx 195 (hb hby at_182) (own_i0_eq_t (by decide)) (by decide) (by decide) ?_
      refine g_iload X468 hx 197 (hb hby at_195) rfl rfl ?_
      refine g_ifYes X468 hx 210 (hb hby at_197) (own_i0_eq_t (by decide)) (by decide) (by decide) ?_
      refine g_iload X468 hx 212 (hb hby at_210) rfl rfl ?_
      refine g_ifYes X468 hx 225 (hb hby at_212) (own_i0_eq_t (by decide)) (by decide) (by decide) ?_
      refine g_iload X468 hx 227 (hb hby at_225) rfl rfl ?_
      refine g_ifYes X468 hx 237 (hb hby at_227) (own_i0_le_t (by decide)) (by decide) (by decide) ?_
      refine g_aconst_null X468 hx 238 (hb hby at_237) rfl ?_
      refine g_astore X468 hx 240 (hb hby at_238) rfl (l' := #[.val (.int p0), .val (.int p1), .val (.int (0 : Int32)), .val (.int (0 : Int32)), .val (.ref b420), .val (.ref b429), .val (.ref b439), .val (.ref b451), .val (.ref b429), .val (.int (0 : Int32)), .val (.int (0 : Int32)), .val (.int (0 : Int32)), .val (.ref b468), .val (.int (0 : Int32)), .val .null, .unset, .unset]) rfl rfl ?_
      refine g_iload X468 hx 242 (hb hby at_240) rfl rfl ?_
      refine g_ifYes X468 hx 255 (hb hby at_242) (own_i0_le_t (by decide)) (by decide) (by decide) ?_
      refine g_aconst_null X468 hx 256 (hb hby at_255) rfl ?_
      refine g_astore X468 hx 258 (hb hby at_256) rfl (l' := #[.val (.int p0), .val (.int p1), .val (.int (0 : Int32)), .val (.int (0 : Int32)), .val (.ref b420), .val (.ref b429), .val (.ref b439), .val (.ref b451), .val (.ref b429), .val (.int (0 : Int32)), .val (.int (0 : Int32)), .val (.int (0 : Int32)), .val (.ref b468), .val (.int (0 : Int32)), .val .null, .val .null, .unset]) rfl rfl ?_
      refine g_aload X468 hx 260 (hb hby at_258) rfl rfl rfl ?_
      have f477 : Fld Z h468 b420 "com/example/entitygate/entitygate/HtmlNode$Parent" "first" "Lcom/example/entitygate/entitygate/HtmlNode;" .null := (Fld.ext E468 (Fld.ext E451 (Fld.ext E439 (Fld.ext E429 f424))))
      refine own_getF X468 hx hZ hown (host := "") (Or.inl (hw _ (List.mem_of_getElem? (i := 28) rfl))) (Via.of (hw _ (List.mem_of_getElem? (i := 29) rfl))) e468 f477 263 (hb hby at_260) rfl fun T478 X478 e478 => ?_
      refine g_aload X478 hx 265 (hb hby at_263) rfl rfl rfl ?_
      refine g_acmp X478 hx (x := .null) (y := .null) (same := true) 268 (hb hby at_265) rfl rfl (decide_eq_true rfl) (by decide) (by decide) ?_
      refine g_aload X478 hx 270 (hb hby at_268) rfl rfl rfl ?_
      have f479 : Fld Z h468 b420 "com/example/entitygate/entitygate/HtmlNode$Parent" "last" "Lcom/example/entitygate/entitygate/HtmlNode;" .null := (Fld.ext E468 (Fld.ext E451 (Fld.ext E439 (Fld.ext E429 f425))))
      refine own_getF X478 hx hZ hown (host := "") (Or.inl (hw _ (List.mem_of_getElem? (i := 31) rfl))) (Via.of (hw _ (List.mem_of_getElem? (i := 32) rfl))) e478 f479 273 (hb hby at_270) rfl fun T480 X480 e480 => ?_
      refine g_aload X480 hx 275 (hb hby at_273) rfl rfl rfl ?_
      refine g_acmp X480 hx (x := .null) (y := .null) (same := true) 278 (hb hby at_275) rfl rfl (decide_eq_true rfl) (by decide) (by decide) ?_
      refine g_aload X480 hx 280 (hb hby at_278) rfl rfl rfl ?_
      have f482 : Fld Z h468 b420 "com/example/entitygate/entitygate/HtmlNode" "parent" "Lcom/example/entitygate/entitygate/HtmlNode$Parent;" .null := (Fld.ext E468 (Fld.ext E451 (Fld.ext E439 (Fld.ext E429 f423))))
      have f483 : Fld Z h468 b420 "com/example/entitygate/entitygate/HtmlNode" "previous" "Lcom/example/entitygate/entitygate/HtmlNode;" .null := (Fld.ext E468 (Fld.ext E451 (Fld.ext E439 (Fld.ext E429 f426))))
      have f484 : Fld Z h468 b420 "com/example/entitygate/entitygate/HtmlNode" "next" "Lcom/example/entitygate/entitygate/HtmlNode;" .null := (Fld.ext E468 (Fld.ext E451 (Fld.ext E439 (Fld.ext E429 f427))))
      refine own_callS X480 hx hZ hown (hw _ (List.mem_of_getElem? (i := 34) rfl)) (hw _ (List.mem_of_getElem? (i := 35) rfl)) (by decide) (rm_free1 l Z a0 hw [] b420 h468 n0 z476 f482 f483 f484) (hw _ (List.mem_of_getElem? (i := 37) rfl)) (hw _ (List.mem_of_getElem? (i := 36) rfl)) e480 0 (by decide) (by decide) (by decide) (by decide) [(.ref b420)] [] rfl pd_1 rfl 283 rfl (by rw [hml]; rfl) rfl (hb hby at_280) rfl fun T481 v481 L481 X481 hQ481 => ?_
      obtain ⟨rfl, Nq481, e481⟩ := hQ481
      have N481 := Fr.app N465 Nq481
      show own_Go p e below s _ _ _ (T481.setTop (mkF m 283 _ [(.int (1 : Int32))]))
      refine g_ifNo X481 hx 286 (hb hby at_283) (own_i0_eq_f (by decide)) rfl ?_
      refine g_iconst X481 hx 287 (hb hby at_286) (1 : Int32) rfl rfl ?_
      refine g_goto X481 hx 291 (hb hby at_287) (by decide) (by decide) ?_
      refine g_istore X481 hx 293 (hb hby at_291) (l' := #[.val (.int p0), .val (.int p1), .val (.int (0 : Int32)), .val (.int (0 : Int32)), .val (.ref b420), .val (.ref b429), .val (.ref b439), .val (.ref b451), .val (.ref b429), .val (.int (0 : Int32)), .val (.int (0 : Int32)), .val (.int (0 : Int32)), .val (.ref b468), .val (.int (0 : Int32)), .val .null, .val .null, .val (.int (1 : Int32))]) rfl rfl ?_
      refine g_iload X481 hx 295 (hb hby at_293) rfl rfl ?_
      refine g_ifNo X481 hx 298 (hb hby at_295) (own_i0_eq_f (by decide)) rfl ?_
      refine g_aload X481 hx 300 (hb hby at_298) rfl rfl rfl ?_
      refine g_iload X481 hx 302 (hb hby at_300) rfl rfl ?_
      refine g_iconst X481 hx 303 (hb hby at_302) (0 : Int32) rfl rfl ?_
      refine g_aload X481 hx 305 (hb hby at_303) rfl rfl rfl ?_
      refine own_callS X481 hx hZ hown (hw _ (List.mem_of_getElem? (i := 43) rfl)) (hw _ (List.mem_of_getElem? (i := 44) rfl)) (by decide) (rm_lk00 l Z a0 hw [] b468 b420 h468 n0 z476 ) (hw _ (List.mem_of_getElem? (i := 45) rfl)) (hw _ (List.mem_of_getElem? (i := 36) rfl)) e481 0 (by decide) (by decide) (by decide) (by decide) [(.ref b468), (.int (0 : Int32)), (.int (0 : Int32)), (.ref b420)] [] rfl pd_2 rfl 308 rfl (by rw [hml]; rfl) rfl (hb hby at_305) rfl fun T485 v485 L485 X485 hQ485 => ?_
      obtain ⟨rfl, Nq485, e485⟩ := hQ485
      have N485 := Fr.app N481 Nq485
      show own_Go p e below s _ _ _ (T485.setTop (mkF m 308 _ [(.int (1 : Int32))]))
      refine g_ifNo X485 hx 311 (hb hby at_308) (own_i0_eq_f (by decide)) rfl ?_
      refine g_aload X485 hx 313 (hb hby at_311) rfl rfl rfl ?_
      refine g_iload X485 hx 315 (hb hby at_313) rfl rfl ?_
      refine g_iconst X485 hx 316 (hb hby at_315) (1 : Int32) rfl rfl ?_
      refine g_aload X485 hx 318 (hb hby at_316) rfl rfl rfl ?_
      refine own_callS X485 hx hZ hown (hw _ (List.mem_of_getElem? (i := 43) rfl)) (hw _ (List.mem_of_getElem? (i := 44) rfl)) (by decide) (rm_lk01 l Z a0 hw [] b468 b420 h468 n0 z476 ) (hw _ (List.mem_of_getElem? (i := 45) rfl)) (hw _ (List.mem_of_getElem? (i := 36) rfl)) e485 0 (by decide) (by decide) (by decide) (by decide) [(.ref b468), (.int (0 : Int32)), (.int (1 : Int32)), (.ref b420)] [] rfl pd_2 rfl 321 rfl (by rw [hml]; rfl) rfl (hb hby at_318) rfl fun T486 v486 L486 X486 hQ486 => ?_
      obtain ⟨rfl, Nq486, e486⟩ := hQ486
      have N486 := Fr.app N485 Nq486
      show own_Go p e below s _ _ _ (T486.setTop (mkF m 321 _ [(.int (1 : Int32))]))
      refine g_ifNo X486 hx 324 (hb hby at_321) (own_i0_eq_f (by decide)) rfl ?_
      refine g_aload X486 hx 326 (hb hby at_324) rfl rfl rfl ?_
      refine g_iload X486 hx 328 (hb hby at_326) rfl rfl ?_
      refine g_iconst X486 hx 329 (hb hby at_328) (2 : Int32) rfl rfl ?_
      refine g_aload X486 hx 331 (hb hby at_329) rfl rfl rfl ?_
      refine own_callS X486 hx hZ hown (hw _ (List.mem_of_getElem? (i := 43) rfl)) (hw _ (List.mem_of_getElem? (i := 44) rfl)) (by decide) (rm_lk02 l Z a0 hw [] b468 b420 h468 n0 z476 ) (hw _ (List.mem_of_getElem? (i := 45) rfl)) (hw _ (List.mem_of_getElem? (i := 36) rfl)) e486 0 (by decide) (by decide) (by decide) (by decide) [(.ref b468), (.int (0 : Int32)), (.int (2 : Int32)), (.ref b420)] [] rfl pd_2 rfl 334 rfl (by rw [hml]; rfl) rfl (hb hby at_331) rfl fun T487 v487 L487 X487 hQ487 => ?_
      obtain ⟨rfl, Nq487, e487⟩ := hQ487
      have N487 := Fr.app N486 Nq487
      show own_Go p e below s _ _ _ (T487.setTop (mkF m 334 _ [(.int (1 : Int32))]))
      refine g_ifNo X487 hx 337 (hb hby at_334) (own_i0_eq_f (by decide)) rfl ?_
      refine g_iconst X487 hx 338 (hb hby at_337) (1 : Int32) rfl rfl ?_
      refine g_goto X487 hx 342 (hb hby at_338) (by decide) (by decide) ?_
      refine g_istore X487 hx 344 (hb hby at_342) (l' := #[.val (.int p0), .val (.int p1), .val (.int (0 : Int32)), .val (.int (0 : Int32)), .val (.ref b420), .val (.ref b429), .val (.ref b439), .val (.ref b451), .val (.ref b429), .val (.int (0 : Int32)), .val (.int (0 : Int32)), .val (.int (0 : Int32)), .val (.ref b468), .val (.int (0 : Int32)), .val .null, .val .null, .val (.int (1 : Int32))]) rfl rfl ?_
      refine g_iload X487 hx 346 (hb hby at_344) rfl rfl ?_
      refine g_ifNo X487 hx 349 (hb hby at_346) (own_i0_eq_f (by decide)) rfl ?_
      refine g_iload X487 hx 351 (hb hby at_349) rfl rfl ?_
      refine g_ifNo X487 hx 354 (hb hby at_351) (own_i0_ne_f (by decide)) rfl ?_
      refine g_aload X487 hx 356 (hb hby at_354) rfl rfl rfl ?_
      have f489 : Fld Z h468 b429 "com/example/entitygate/entitygate/HtmlNode" "parent" "Lcom/example/entitygate/entitygate/HtmlNode$Parent;" .null := (Fld.ext E468 f466)
      have f490 : Fld Z h468 b429 "com/example/entitygate/entitygate/HtmlNode" "previous" "Lcom/example/entitygate/entitygate/HtmlNode;" .null := (Fld.ext E468 (Fld.ext E451 (Fld.ext E439 f436)))
      have f491 : Fld Z h468 b429 "com/example/entitygate/entitygate/HtmlNode" "next" "Lcom/example/entitygate/entitygate/HtmlNode;" .null := (Fld.ext E468 (Fld.ext E451 (Fld.ext E439 f437)))
      refine own_callS X487 hx hZ hown (hw _ (List.mem_of_getElem? (i := 34) rfl)) (hw _ (List.mem_of_getElem? (i := 35) rfl)) (by decide) (rm_free1 l Z a0 hw [] b429 h468 n0 z476 f489 f490 f491) (hw _ (List.mem_of_getElem? (i := 37) rfl)) (hw _ (List.mem_of_getElem? (i := 36) rfl)) e487 0 (by decide) (by decide) (by decide) (by decide) [(.ref b429)] [] rfl pd_1 rfl 359 rfl (by rw [hml]; rfl) rfl (hb hby at_356) rfl fun T488 v488 L488 X488 hQ488 => ?_
      obtain ⟨rfl, Nq488, e488⟩ := hQ488
      have N488 := Fr.app N487 Nq488
      show own_Go p e below s _ _ _ (T488.setTop (mkF m 359 _ [(.int (1 : Int32))]))
      refine g_ifNo X488 hx 362 (hb hby at_359) (own_i0_eq_f (by decide)) rfl ?_
      refine g_iload X488 hx 364 (hb hby at_362) rfl rfl ?_
      refine g_ifNo X488 hx 367 (hb hby at_364) (own_i0_ne_f (by decide)) rfl ?_
      refine g_aload X488 hx 369 (hb hby at_367) rfl rfl rfl ?_
      have f493 : Fld Z h468 b439 "com/example/entitygate/entitygate/HtmlNode" "parent" "Lcom/example/entitygate/entitygate/HtmlNode$Parent;" .null := (Fld.ext E468 (Fld.ext E451 f445))
      have f494 : Fld Z h468 b439 "com/example/entitygate/entitygate/HtmlNode" "previous" "Lcom/example/entitygate/entitygate/HtmlNode;" .null := (Fld.ext E468 (Fld.ext E451 f448))
      have f495 : Fld Z h468 b439 "com/example/entitygate/entitygate/HtmlNode" "next" "Lcom/example/entitygate/entitygate/HtmlNode;" .null := (Fld.ext E468 (Fld.ext E451 f449))
      refine own_callS X488 hx hZ hown (hw _ (List.mem_of_getElem? (i := 34) rfl)) (hw _ (List.mem_of_getElem? (i := 35) rfl)) (by decide) (rm_free1 l Z a0 hw [] b439 h468 n0 z476 f493 f494 f495) (hw _ (List.mem_of_getElem? (i := 37) rfl)) (hw _ (List.mem_of_getElem? (i := 36) rfl)) e488 0 (by decide) (by decide) (by decide) (by decide) [(.ref b439)] [] rfl pd_1 rfl 372 rfl (by rw [hml]; rfl) rfl (hb hby at_369) rfl fun T492 v492 L492 X492 hQ492 => ?_
      obtain ⟨rfl, Nq492, e492⟩ := hQ492
      have N492 := Fr.app N488 Nq492
      show own_Go p e below s _ _ _ (T492.setTop (mkF m 372 _ [(.int (1 : Int32))]))
      refine g_ifNo X492 hx 375 (hb hby at_372) (own_i0_eq_f (by decide)) rfl ?_
      refine g_iload X492 hx 377 (hb hby at_375) rfl rfl ?_
      refine g_ifNo X492 hx 380 (hb hby at_377) (own_i0_ne_f (by decide)) rfl ?_
      refine g_aload X492 hx 382 (hb hby at_380) rfl rfl rfl ?_
      have f497 : Fld Z h468 b451 "com/example/entitygate/entitygate/HtmlNode" "parent" "Lcom/example/entitygate/entitygate/HtmlNode$Parent;" .null := (Fld.ext E468 f459)
      have f498 : Fld Z h468 b451 "com/example/entitygate/entitygate/HtmlNode" "previous" "Lcom/example/entitygate/entitygate/HtmlNode;" .null := (Fld.ext E468 f462)
      have f499 : Fld Z h468 b451 "com/example/entitygate/entitygate/HtmlNode" "next" "Lcom/example/entitygate/entitygate/HtmlNode;" .null := (Fld.ext E468 f463)
      refine own_callS X492 hx hZ hown (hw _ (List.mem_of_getElem? (i := 34) rfl)) (hw _ (List.mem_of_getElem? (i := 35) rfl)) (by decide) (rm_free1 l Z a0 hw [] b451 h468 n0 z476 f497 f498 f499) (hw _ (List.mem_of_getElem? (i := 37) rfl)) (hw _ (List.mem_of_getElem? (i := 36) rfl)) e492 0 (by decide) (by decide) (by decide) (by decide) [(.ref b451)] [] rfl pd_1 rfl 385 rfl (by rw [hml]; rfl) rfl (hb hby at_382) rfl fun T496 v496 L496 X496 hQ496 => ?_
      obtain ⟨rfl, Nq496, e496⟩ := hQ496
      have N496 := Fr.app N492 Nq496
      show own_Go p e below s _ _ _ (T496.setTop (mkF m 385 _ [(.int (1 : Int32))]))
      refine g_ifNo X496 hx 388 (hb hby at_385) (own_i0_eq_f (by decide)) rfl ?_
      refine g_iconst X496 hx 389 (hb hby at_388) (1 : Int32) rfl rfl ?_
      refine g_goto X496 hx 393 (hb hby at_389) (by decide) (by decide) ?_
      refine g_istore X496 hx 395 (hb hby at_393) (l' := #[.val (.int p0), .val (.int p1), .val (.int (0 : Int32)), .val (.int (0 : Int32)), .val (.ref b420), .val (.ref b429), .val (.ref b439), .val (.ref b451), .val (.ref b429), .val (.int (0 : Int32)), .val (.int (0 : Int32)), .val (.int (0 : Int32)), .val (.ref b468), .val (.int (0 : Int32)), .val .null, .val .null, .val (.int (1 : Int32))]) rfl rfl ?_
      refine g_iload X496 hx 397 (hb hby at_395) rfl rfl ?_
      refine own_retN X496 hx hlk (t := .boolean) hret (by simp) (hb hby at_397) ?_ (by decide) (by decide)
      rw [e496]
      exact ⟨rfl, N496⟩
    · show own_Go p e below s _ _ _ (T464.setTop (mkF m 83 _ []))
      refine g_iload_n X464 hx 84 (hb hby at_83) rfl rfl ?_
      refine g_ifYes X464 hx 92 (hb hby at_84) (own_i0_ne_t (by decide)) (by decide) (by decide) ?_
      refine g_iload_n X464 hx 93 (hb hby at_92) rfl rfl ?_
      refine g_iconst X464 hx 94 (hb hby at_93) (1 : Int32) rfl rfl ?_
      refine g_icmpNo X464 hx 97 (hb hby at_94) (own_ii_ne_f (by decide)) rfl ?_
      refine g_aload X464 hx 99 (hb hby at_97) rfl rfl rfl ?_
      refine g_goto X464 hx 114 (hb hby at_99) (by decide) (by decide) ?_
      refine g_astore X464 hx 116 (hb hby at_114) rfl (l' := #[.val (.int p0), .val (.int p1), .val (.int (0 : Int32)), .val (.int (1 : Int32)), .val (.ref b420), .val (.ref b429), .val (.ref b439), .val (.ref b451), .val (.ref b439), .unset, .unset, .unset, .unset, .unset, .unset, .unset, .unset]) rfl rfl ?_
      refine g_aload X464 hx 118 (hb hby at_116) rfl rfl rfl ?_
      have f501 : Fld Z h451 b439 "com/example/entitygate/entitygate/HtmlNode" "parent" "Lcom/example/entitygate/entitygate/HtmlNode$Parent;" .null := (Fld.ext E451 f445)
      have f502 : Exa Z h451 b439 "com/example/entitygate/entitygate/HtmlNode$Document" := (Exa.ext E451 A439)
      refine own_callV X464 hx hZ hown (hw _ (List.mem_of_getElem? (i := 19) rfl)) (hw _ (List.mem_of_getElem? (i := 20) rfl)) (own_nf hZ (hw _ (List.mem_of_getElem? (i := 22) rfl))) (hw _ (List.mem_of_getElem? (i := 22) rfl)) (hw _ (List.mem_of_getElem? (i := 21) rfl)) (by decide) (rm_det0 l Z a0 hw [] b439 h451 n0 z458 f501) (hw _ (List.mem_of_getElem? (i := 23) rfl)) (hw _ (List.mem_of_getElem? (i := 14) rfl)) e464 0 (by decide) (by decide) (by decide) (by decide) f502 [] [] rfl pd_0 rfl 121 rfl (by rw [hml]; rfl) rfl (hb hby at_118) rfl fun T500 v500 L500 X500 hQ500 => ?_
      obtain ⟨rfl, Nq500, e500⟩ := hQ500
      have N500 := Fr.app N464 Nq500
      show own_Go p e below s _ _ _ (T500.setTop (mkF m 121 _ []))
      refine g_iload_n X500 hx 122 (hb hby at_121) rfl rfl ?_
      refine g_iconst X500 hx 123 (hb hby at_122) (1 : Int32) rfl rfl ?_
      refine g_icmpYes X500 hx 134 (hb hby at_123) (own_ii_lt_t (by decide)) (by decide) (by decide) ?_
      refine g_iconst X500 hx 135 (hb hby at_134) (0 : Int32) rfl rfl ?_
      refine g_istore X500 hx 137 (hb hby at_135) (l' := #[.val (.int p0), .val (.int p1), .val (.int (0 : Int32)), .val (.int (1 : Int32)), .val (.ref b420), .val (.ref b429), .val (.ref b439), .val (.ref b451), .val (.ref b439), .val (.int (0 : Int32)), .unset, .unset, .unset, .unset, .unset, .unset, .unset]) rfl rfl ?_
      refine g_iload_n X500 hx 138 (hb hby at_137) rfl rfl ?_
      refine g_iconst X500 hx 139 (hb hby at_138) (2 : Int32) rfl rfl ?_
      refine g_icmpYes X500 hx 151 (hb hby at_139) (own_ii_lt_t (by decide)) (by decide) (by decide) ?_
      refine g_iconst X500 hx 152 (hb hby at_151) (0 : Int32) rfl rfl ?_
      refine g_istore X500 hx 154 (hb hby at_152) (l' := #[.val (.int p0), .val (.int p1), .val (.int (0 : Int32)), .val (.int (1 : Int32)), .val (.ref b420), .val (.ref b429), .val (.ref b439), .val (.ref b451), .val (.ref b439), .val (.int (0 : Int32)), .val (.int (0 : Int32)), .unset, .unset, .unset, .unset, .unset, .unset]) rfl rfl ?_
      refine g_iload_n X500 hx 155 (hb hby at_154) rfl rfl ?_
      refine g_iconst X500 hx 156 (hb hby at_155) (3 : Int32) rfl rfl ?_
      refine g_icmpYes X500 hx 168 (hb hby at_156) (own_ii_lt_t (by decide)) (by decide) (by decide) ?_
      refine g_iconst X500 hx 169 (hb hby at_168) (0 : Int32) rfl rfl ?_
      refine g_istore X500 hx 171 (hb hby at_169) (l' := #[.val (.int p0), .val (.int p1), .val (.int (0 : Int32)), .val (.int (1 : Int32)), .val (.ref b420), .val (.ref b429), .val (.ref b439), .val (.ref b451), .val (.ref b439), .val (.int (0 : Int32)), .val (.int (0 : Int32)), .val (.int (0 : Int32)), .unset, .unset, .unset, .unset, .unset]) rfl rfl ?_
      refine g_iconst X500 hx 172 (hb hby at_171) (3 : Int32) rfl rfl ?_
      refine own_newR X500 hx hZ hown (hw _ (List.mem_of_getElem? (i := 26) rfl)) (hw _ (List.mem_of_getElem? (i := 27) rfl)) e500 175 (hb hby at_172) rfl (by decide) 3 (by decide) (by decide) (by decide) (by decide) fun T503 h503 k503 b503 X503 e503 g503 E503 A503 O503 => ?_
      have f504 : Exa Z h451 b420 "com/example/entitygate/entitygate/HtmlNode$Document" := (Exa.ext E451 f452)
      have ne505 : b420 ≠ b503 := Nat.ne_of_lt (Nat.lt_of_lt_of_le f504.lt (Nat.le_of_eq g503.symm))
      have f506 : Exa Z h451 b429 "com/example/entitygate/entitygate/HtmlNode$Document" := (Exa.ext E451 f454)
      have ne507 : b429 ≠ b503 := Nat.ne_of_lt (Nat.lt_of_lt_of_le f506.lt (Nat.le_of_eq g503.symm))
      have ne508 : b439 ≠ b503 := Nat.ne_of_lt (Nat.lt_of_lt_of_le f502.lt (Nat.le_of_eq g503.symm))
      have ne509 : b451 ≠ b503 := Nat.ne_of_lt (Nat.lt_of_lt_of_le A451.lt (Nat.le_of_eq g503.symm))
      have g_b503 : n0 ≤ b503 := Nat.le_trans z458 (Nat.le_of_eq g503.symm)
      have sz_b503 : h0.size ≤ b503 := Nat.le_trans K457.1 (Nat.le_of_eq g503.symm)
      have K510 : Keep h0 h503 [] := K457.ext E503
      have z511 : n0 ≤ h503.size := (Nat.le_trans z458 E503.1)
      have V503 : Arv Z h503 b503 k503 (.object "com/example/entitygate/entitygate/HtmlNode") (3 : Int32) [.null, .null, .null] .null := (Arv.new A503 (by decide)).pad (pad_rep [] .null 3)
      refine g_astore X503 hx 177 (hb hby at_175) rfl (l' := #[.val (.int p0), .val (.int p1), .val (.int (0 : Int32)), .val (.int (1 : Int32)), .val (.ref b420), .val (.ref b429), .val (.ref b439), .val (.ref b451), .val (.ref b439), .val (.int (0 : Int32)), .val (.int (0 : Int32)), .val (.int (0 : Int32)), .val (.ref b503), .unset, .unset, .unset, .unset]) rfl rfl ?_
      refine g_iconst X503 hx 178 (hb hby at_177) (0 : Int32) rfl rfl ?_
      refine g_istore X503 hx 180 (hb hby at_178) (l' := #[.val (.int p0), .val (.int p1), .val (.int (0 : Int32)), .val (.int (1 : Int32)), .val (.ref b420), .val (.ref b429), .val (.ref b439), .val (.ref b451), .val (.ref b439), .val (.int (0 : Int32)), .val (.int (0 : Int32)), .val (.int (0 : Int32)), .val (.ref b503), .val (.int (0 : Int32)), .unset, .unset, .unset]) rfl rfl ?_
      refine g_iload X503 hx 182 (hb hby at_180) rfl rfl ?_
      refine g_ifYes X503 hx 195 (hb hby at_182) (own_i0_eq_t (by decide)) (by decide) (by decide) ?_
      refine g_iload X503 hx 197 (hb hby at_195) rfl rfl ?_
      refine g_ifYes X503 hx 210 (hb hby at_197) (own_i0_eq_t (by decide)) (by decide) (by decide) ?_
      refine g_iload X503 hx 212 (hb hby at_210) rfl rfl ?_
      refine g_ifYes X503 hx 225 (hb hby at_212) (own_i0_eq_t (by decide)) (by decide) (by decide) ?_
      refine g_iload X503 hx 227 (hb hby at_225) rfl rfl ?_
      refine g_ifYes X503 hx 237 (hb hby at_227) (own_i0_le_t (by decide)) (by decide) (by decide) ?_
      refine g_aconst_null X503 hx 238 (hb hby at_237) rfl ?_
      refine g_astore X503 hx 240 (hb hby at_238) rfl (l' := #[.val (.int p0), .val (.int p1), .val (.int (0 : Int32)), .val (.int (1 : Int32)), .val (.ref b420), .val (.ref b429), .val (.ref b439), .val (.ref b451), .val (.ref b439), .val (.int (0 : Int32)), .val (.int (0 : Int32)), .val (.int (0 : Int32)), .val (.ref b503), .val (.int (0 : Int32)), .val .null, .unset, .unset]) rfl rfl ?_
      refine g_iload X503 hx 242 (hb hby at_240) rfl rfl ?_
      refine g_ifYes X503 hx 255 (hb hby at_242) (own_i0_le_t (by decide)) (by decide) (by decide) ?_
      refine g_aconst_null X503 hx 256 (hb hby at_255) rfl ?_
      refine g_astore X503 hx 258 (hb hby at_256) rfl (l' := #[.val (.int p0), .val (.int p1), .val (.int (0 : Int32)), .val (.int (1 : Int32)), .val (.ref b420), .val (.ref b429), .val (.ref b439), .val (.ref b451), .val (.ref b439), .val (.int (0 : Int32)), .val (.int (0 : Int32)), .val (.int (0 : Int32)), .val (.ref b503), .val (.int (0 : Int32)), .val .null, .val .null, .unset]) rfl rfl ?_
      refine g_aload X503 hx 260 (hb hby at_258) rfl rfl rfl ?_
      have f512 : Fld Z h503 b420 "com/example/entitygate/entitygate/HtmlNode$Parent" "first" "Lcom/example/entitygate/entitygate/HtmlNode;" .null := (Fld.ext E503 (Fld.ext E451 (Fld.ext E439 (Fld.ext E429 f424))))
      refine own_getF X503 hx hZ hown (host := "") (Or.inl (hw _ (List.mem_of_getElem? (i := 28) rfl))) (Via.of (hw _ (List.mem_of_getElem? (i := 29) rfl))) e503 f512 263 (hb hby at_260) rfl fun T513 X513 e513 => ?_
      refine g_aload X513 hx 265 (hb hby at_263) rfl rfl rfl ?_
      refine g_acmp X513 hx (x := .null) (y := .null) (same := true) 268 (hb hby at_265) rfl rfl (decide_eq_true rfl) (by decide) (by decide) ?_
      refine g_aload X513 hx 270 (hb hby at_268) rfl rfl rfl ?_
      have f514 : Fld Z h503 b420 "com/example/entitygate/entitygate/HtmlNode$Parent" "last" "Lcom/example/entitygate/entitygate/HtmlNode;" .null := (Fld.ext E503 (Fld.ext E451 (Fld.ext E439 (Fld.ext E429 f425))))
      refine own_getF X513 hx hZ hown (host := "") (Or.inl (hw _ (List.mem_of_getElem? (i := 31) rfl))) (Via.of (hw _ (List.mem_of_getElem? (i := 32) rfl))) e513 f514 273 (hb hby at_270) rfl fun T515 X515 e515 => ?_
      refine g_aload X515 hx 275 (hb hby at_273) rfl rfl rfl ?_
      refine g_acmp X515 hx (x := .null) (y := .null) (same := true) 278 (hb hby at_275) rfl rfl (decide_eq_true rfl) (by decide) (by decide) ?_
      refine g_aload X515 hx 280 (hb hby at_278) rfl rfl rfl ?_
      have f517 : Fld Z h503 b420 "com/example/entitygate/entitygate/HtmlNode" "parent" "Lcom/example/entitygate/entitygate/HtmlNode$Parent;" .null := (Fld.ext E503 (Fld.ext E451 (Fld.ext E439 (Fld.ext E429 f423))))
      have f518 : Fld Z h503 b420 "com/example/entitygate/entitygate/HtmlNode" "previous" "Lcom/example/entitygate/entitygate/HtmlNode;" .null := (Fld.ext E503 (Fld.ext E451 (Fld.ext E439 (Fld.ext E429 f426))))
      have f519 : Fld Z h503 b420 "com/example/entitygate/entitygate/HtmlNode" "next" "Lcom/example/entitygate/entitygate/HtmlNode;" .null := (Fld.ext E503 (Fld.ext E451 (Fld.ext E439 (Fld.ext E429 f427))))
      refine own_callS X515 hx hZ hown (hw _ (List.mem_of_getElem? (i := 34) rfl)) (hw _ (List.mem_of_getElem? (i := 35) rfl)) (by decide) (rm_free1 l Z a0 hw [] b420 h503 n0 z511 f517 f518 f519) (hw _ (List.mem_of_getElem? (i := 37) rfl)) (hw _ (List.mem_of_getElem? (i := 36) rfl)) e515 0 (by decide) (by decide) (by decide) (by decide) [(.ref b420)] [] rfl pd_1 rfl 283 rfl (by rw [hml]; rfl) rfl (hb hby at_280) rfl fun T516 v516 L516 X516 hQ516 => ?_
      obtain ⟨rfl, Nq516, e516⟩ := hQ516
      have N516 := Fr.app N500 Nq516
      show own_Go p e below s _ _ _ (T516.setTop (mkF m 283 _ [(.int (1 : Int32))]))
      refine g_ifNo X516 hx 286 (hb hby at_283) (own_i0_eq_f (by decide)) rfl ?_
      refine g_iconst X516 hx 287 (hb hby at_286) (1 : Int32) rfl rfl ?_
      refine g_goto X516 hx 291 (hb hby at_287) (by decide) (by decide) ?_
      refine g_istore X516 hx 293 (hb hby at_291) (l' := #[.val (.int p0), .val (.int p1), .val (.int (0 : Int32)), .val (.int (1 : Int32)), .val (.ref b420), .val (.ref b429), .val (.ref b439), .val (.ref b451), .val (.ref b439), .val (.int (0 : Int32)), .val (.int (0 : Int32)), .val (.int (0 : Int32)), .val (.ref b503), .val (.int (0 : Int32)), .val .null, .val .null, .val (.int (1 : Int32))]) rfl rfl ?_
      refine g_iload X516 hx 295 (hb hby at_293) rfl rfl ?_
      refine g_ifNo X516 hx 298 (hb hby at_295) (own_i0_eq_f (by decide)) rfl ?_
      refine g_aload X516 hx 300 (hb hby at_298) rfl rfl rfl ?_
      refine g_iload X516 hx 302 (hb hby at_300) rfl rfl ?_
      refine g_iconst X516 hx 303 (hb hby at_302) (0 : Int32) rfl rfl ?_
      refine g_aload X516 hx 305 (hb hby at_303) rfl rfl rfl ?_
      refine own_callS X516 hx hZ hown (hw _ (List.mem_of_getElem? (i := 43) rfl)) (hw _ (List.mem_of_getElem? (i := 44) rfl)) (by decide) (rm_lk00 l Z a0 hw [] b503 b420 h503 n0 z511 ) (hw _ (List.mem_of_getElem? (i := 45) rfl)) (hw _ (List.mem_of_getElem? (i := 36) rfl)) e516 0 (by decide) (by decide) (by decide) (by decide) [(.ref b503), (.int (0 : Int32)), (.int (0 : Int32)), (.ref b420)] [] rfl pd_2 rfl 308 rfl (by rw [hml]; rfl) rfl (hb hby at_305) rfl fun T520 v520 L520 X520 hQ520 => ?_
      obtain ⟨rfl, Nq520, e520⟩ := hQ520
      have N520 := Fr.app N516 Nq520
      show own_Go p e below s _ _ _ (T520.setTop (mkF m 308 _ [(.int (1 : Int32))]))
      refine g_ifNo X520 hx 311 (hb hby at_308) (own_i0_eq_f (by decide)) rfl ?_
      refine g_aload X520 hx 313 (hb hby at_311) rfl rfl rfl ?_
      refine g_iload X520 hx 315 (hb hby at_313) rfl rfl ?_
      refine g_iconst X520 hx 316 (hb hby at_315) (1 : Int32) rfl rfl ?_
      refine g_aload X520 hx 318 (hb hby at_316) rfl rfl rfl ?_
      refine own_callS X520 hx hZ hown (hw _ (List.mem_of_getElem? (i := 43) rfl)) (hw _ (List.mem_of_getElem? (i := 44) rfl)) (by decide) (rm_lk01 l Z a0 hw [] b503 b420 h503 n0 z511 ) (hw _ (List.mem_of_getElem? (i := 45) rfl)) (hw _ (List.mem_of_getElem? (i := 36) rfl)) e520 0 (by decide) (by decide) (by decide) (by decide) [(.ref b503), (.int (0 : Int32)), (.int (1 : Int32)), (.ref b420)] [] rfl pd_2 rfl 321 rfl (by rw [hml]; rfl) rfl (hb hby at_318) rfl fun T521 v521 L521 X521 hQ521 => ?_
      obtain ⟨rfl, Nq521, e521⟩ := hQ521
      have N521 := Fr.app N520 Nq521
      show own_Go p e below s _ _ _ (T521.setTop (mkF m 321 _ [(.int (1 : Int32))]))
      refine g_ifNo X521 hx 324 (hb hby at_321) (own_i0_eq_f (by decide)) rfl ?_
      refine g_aload X521 hx 326 (hb hby at_324) rfl rfl rfl ?_
      refine g_iload X521 hx 328 (hb hby at_326) rfl rfl ?_
      refine g_iconst X521 hx 329 (hb hby at_328) (2 : Int32) rfl rfl ?_
      refine g_aload X521 hx 331 (hb hby at_329) rfl rfl rfl ?_
      refine own_callS X521 hx hZ hown (hw _ (List.mem_of_getElem? (i := 43) rfl)) (hw _ (List.mem_of_getElem? (i := 44) rfl)) (by decide) (rm_lk02 l Z a0 hw [] b503 b420 h503 n0 z511 ) (hw _ (List.mem_of_getElem? (i := 45) rfl)) (hw _ (List.mem_of_getElem? (i := 36) rfl)) e521 0 (by decide) (by decide) (by decide) (by decide) [(.ref b503), (.int (0 : Int32)), (.int (2 : Int32)), (.ref b420)] [] rfl pd_2 rfl 334 rfl (by rw [hml]; rfl) rfl (hb hby at_331) rfl fun T522 v522 L522 X522 hQ522 => ?_
      obtain ⟨rfl, Nq522, e522⟩ := hQ522
      have N522 := Fr.app N521 Nq522
      show own_Go p e below s _ _ _ (T522.setTop (mkF m 334 _ [(.int (1 : Int32))]))
      refine g_ifNo X522 hx 337 (hb hby at_334) (own_i0_eq_f (by decide)) rfl ?_
      refine g_iconst X522 hx 338 (hb hby at_337) (1 : Int32) rfl rfl ?_
      refine g_goto X522 hx 342 (hb hby at_338) (by decide) (by decide) ?_
      refine g_istore X522 hx 344 (hb hby at_342) (l' := #[.val (.int p0), .val (.int p1), .val (.int (0 : Int32)), .val (.int (1 : Int32)), .val (.ref b420), .val (.ref b429), .val (.ref b439), .val (.ref b451), .val (.ref b439), .val (.int (0 : Int32)), .val (.int (0 : Int32)), .val (.int (0 : Int32)), .val (.ref b503), .val (.int (0 : Int32)), .val .null, .val .null, .val (.int (1 : Int32))]) rfl rfl ?_
      refine g_iload X522 hx 346 (hb hby at_344) rfl rfl ?_
      refine g_ifNo X522 hx 349 (hb hby at_346) (own_i0_eq_f (by decide)) rfl ?_
      refine g_iload X522 hx 351 (hb hby at_349) rfl rfl ?_
      refine g_ifNo X522 hx 354 (hb hby at_351) (own_i0_ne_f (by decide)) rfl ?_
      refine g_aload X522 hx 356 (hb hby at_354) rfl rfl rfl ?_
      have f524 : Fld Z h503 b429 "com/example/entitygate/entitygate/HtmlNode" "parent" "Lcom/example/entitygate/entitygate/HtmlNode$Parent;" .null := (Fld.ext E503 (Fld.ext E451 (Fld.ext E439 f433)))
      have f525 : Fld Z h503 b429 "com/example/entitygate/entitygate/HtmlNode" "previous" "Lcom/example/entitygate/entitygate/HtmlNode;" .null := (Fld.ext E503 (Fld.ext E451 (Fld.ext E439 f436)))
      have f526 : Fld Z h503 b429 "com/example/entitygate/entitygate/HtmlNode" "next" "Lcom/example/entitygate/entitygate/HtmlNode;" .null := (Fld.ext E503 (Fld.ext E451 (Fld.ext E439 f437)))
      refine own_callS X522 hx hZ hown (hw _ (List.mem_of_getElem? (i := 34) rfl)) (hw _ (List.mem_of_getElem? (i := 35) rfl)) (by decide) (rm_free1 l Z a0 hw [] b429 h503 n0 z511 f524 f525 f526) (hw _ (List.mem_of_getElem? (i := 37) rfl)) (hw _ (List.mem_of_getElem? (i := 36) rfl)) e522 0 (by decide) (by decide) (by decide) (by decide) [(.ref b429)] [] rfl pd_1 rfl 359 rfl (by rw [hml]; rfl) rfl (hb hby at_356) rfl fun T523 v523 L523 X523 hQ523 => ?_
      obtain ⟨rfl, Nq523, e523⟩ := hQ523
      have N523 := Fr.app N522 Nq523
      show own_Go p e below s _ _ _ (T523.setTop (mkF m 359 _ [(.int (1 : Int32))]))
      refine g_ifNo X523 hx 362 (hb hby at_359) (own_i0_eq_f (by decide)) rfl ?_
      refine g_iload X523 hx 364 (hb hby at_362) rfl rfl ?_
      refine g_ifNo X523 hx 367 (hb hby at_364) (own_i0_ne_f (by decide)) rfl ?_
      refine g_aload X523 hx 369 (hb hby at_367) rfl rfl rfl ?_
      have f528 : Fld Z h503 b439 "com/example/entitygate/entitygate/HtmlNode" "parent" "Lcom/example/entitygate/entitygate/HtmlNode$Parent;" .null := (Fld.ext E503 f501)
      have f529 : Fld Z h503 b439 "com/example/entitygate/entitygate/HtmlNode" "previous" "Lcom/example/entitygate/entitygate/HtmlNode;" .null := (Fld.ext E503 (Fld.ext E451 f448))
      have f530 : Fld Z h503 b439 "com/example/entitygate/entitygate/HtmlNode" "next" "Lcom/example/entitygate/entitygate/HtmlNode;" .null := (Fld.ext E503 (Fld.ext E451 f449))
      refine own_callS X523 hx hZ hown (hw _ (List.mem_of_getElem? (i := 34) rfl)) (hw _ (List.mem_of_getElem? (i := 35) rfl)) (by decide) (rm_free1 l Z a0 hw [] b439 h503 n0 z511 f528 f529 f530) (hw _ (List.mem_of_getElem? (i := 37) rfl)) (hw _ (List.mem_of_getElem? (i := 36) rfl)) e523 0 (by decide) (by decide) (by decide) (by decide) [(.ref b439)] [] rfl pd_1 rfl 372 rfl (by rw [hml]; rfl) rfl (hb hby at_369) rfl fun T527 v527 L527 X527 hQ527 => ?_
      obtain ⟨rfl, Nq527, e527⟩ := hQ527
      have N527 := Fr.app N523 Nq527
      show own_Go p e below s _ _ _ (T527.setTop (mkF m 372 _ [(.int (1 : Int32))]))
      refine g_ifNo X527 hx 375 (hb hby at_372) (own_i0_eq_f (by decide)) rfl ?_
      refine g_iload X527 hx 377 (hb hby at_375) rfl rfl ?_
      refine g_ifNo X527 hx 380 (hb hby at_377) (own_i0_ne_f (by decide)) rfl ?_
      refine g_aload X527 hx 382 (hb hby at_380) rfl rfl rfl ?_
      have f532 : Fld Z h503 b451 "com/example/entitygate/entitygate/HtmlNode" "parent" "Lcom/example/entitygate/entitygate/HtmlNode$Parent;" .null := (Fld.ext E503 f459)
      have f533 : Fld Z h503 b451 "com/example/entitygate/entitygate/HtmlNode" "previous" "Lcom/example/entitygate/entitygate/HtmlNode;" .null := (Fld.ext E503 f462)
      have f534 : Fld Z h503 b451 "com/example/entitygate/entitygate/HtmlNode" "next" "Lcom/example/entitygate/entitygate/HtmlNode;" .null := (Fld.ext E503 f463)
      refine own_callS X527 hx hZ hown (hw _ (List.mem_of_getElem? (i := 34) rfl)) (hw _ (List.mem_of_getElem? (i := 35) rfl)) (by decide) (rm_free1 l Z a0 hw [] b451 h503 n0 z511 f532 f533 f534) (hw _ (List.mem_of_getElem? (i := 37) rfl)) (hw _ (List.mem_of_getElem? (i := 36) rfl)) e527 0 (by decide) (by decide) (by decide) (by decide) [(.ref b451)] [] rfl pd_1 rfl 385 rfl (by rw [hml]; rfl) rfl (hb hby at_382) rfl fun T531 v531 L531 X531 hQ531 => ?_
      obtain ⟨rfl, Nq531, e531⟩ := hQ531
      have N531 := Fr.app N527 Nq531
      show own_Go p e below s _ _ _ (T531.setTop (mkF m 385 _ [(.int (1 : Int32))]))
      refine g_ifNo X531 hx 388 (hb hby at_385) (own_i0_eq_f (by decide)) rfl ?_
      refine g_iconst X531 hx 389 (hb hby at_388) (1 : Int32) rfl rfl ?_
      refine g_goto X531 hx 393 (hb hby at_389) (by decide) (by decide) ?_
      refine g_istore X531 hx 395 (hb hby at_393) (l' := #[.val (.int p0), .val (.int p1), .val (.int (0 : Int32)), .val (.int (1 : Int32)), .val (.ref b420), .val (.ref b429), .val (.ref b439), .val (.ref b451), .val (.ref b439), .val (.int (0 : Int32)), .val (.int (0 : Int32)), .val (.int (0 : Int32)), .val (.ref b503), .val (.int (0 : Int32)), .val .null, .val .null, .val (.int (1 : Int32))]) rfl rfl ?_
      refine g_iload X531 hx 397 (hb hby at_395) rfl rfl ?_
      refine own_retN X531 hx hlk (t := .boolean) hret (by simp) (hb hby at_397) ?_ (by decide) (by decide)
      rw [e531]
      exact ⟨rfl, N531⟩
    · show own_Go p e below s _ _ _ (T464.setTop (mkF m 83 _ []))
      refine g_iload_n X464 hx 84 (hb hby at_83) rfl rfl ?_
      refine g_ifYes X464 hx 92 (hb hby at_84) (own_i0_ne_t (by decide)) (by decide) (by decide) ?_
      refine g_iload_n X464 hx 93 (hb hby at_92) rfl rfl ?_
      refine g_iconst X464 hx 94 (hb hby at_93) (1 : Int32) rfl rfl ?_
      refine g_icmpYes X464 hx 102 (hb hby at_94) (own_ii_ne_t (by decide)) (by decide) (by decide) ?_
      refine g_iload_n X464 hx 103 (hb hby at_102) rfl rfl ?_
      refine g_iconst X464 hx 104 (hb hby at_103) (2 : Int32) rfl rfl ?_
      refine g_icmpNo X464 hx 107 (hb hby at_104) (own_ii_ne_f (by decide)) rfl ?_
      refine g_aload X464 hx 109 (hb hby at_107) rfl rfl rfl ?_
      refine g_goto X464 hx 114 (hb hby at_109) (by decide) (by decide) ?_
      refine g_astore X464 hx 116 (hb hby at_114) rfl (l' := #[.val (.int p0), .val (.int p1), .val (.int (0 : Int32)), .val (.int (2 : Int32)), .val (.ref b420), .val (.ref b429), .val (.ref b439), .val (.ref b451), .val (.ref b451), .unset, .unset, .unset, .unset, .unset, .unset, .unset, .unset]) rfl rfl ?_
      refine g_aload X464 hx 118 (hb hby at_116) rfl rfl rfl ?_
      refine own_callV X464 hx hZ hown (hw _ (List.mem_of_getElem? (i := 19) rfl)) (hw _ (List.mem_of_getElem? (i := 20) rfl)) (own_nf hZ (hw _ (List.mem_of_getElem? (i := 22) rfl))) (hw _ (List.mem_of_getElem? (i := 22) rfl)) (hw _ (List.mem_of_getElem? (i := 21) rfl)) (by decide) (rm_det0 l Z a0 hw [] b451 h451 n0 z458 f459) (hw _ (List.mem_of_getElem? (i := 23) rfl)) (hw _ (List.mem_of_getElem? (i := 14) rfl)) e464 0 (by decide) (by decide) (by decide) (by decide) A451 [] [] rfl pd_0 rfl 121 rfl (by rw [hml]; rfl) rfl (hb hby at_118) rfl fun T535 v535 L535 X535 hQ535 => ?_
      obtain ⟨rfl, Nq535, e535⟩ := hQ535
      have N535 := Fr.app N464 Nq535
      show own_Go p e below s _ _ _ (T535.setTop (mkF m 121 _ []))
      refine g_iload_n X535 hx 122 (hb hby at_121) rfl rfl ?_
      refine g_iconst X535 hx 123 (hb hby at_122) (1 : Int32) rfl rfl ?_
      refine g_icmpYes X535 hx 134 (hb hby at_123) (own_ii_lt_t (by decide)) (by decide) (by decide) ?_
      refine g_iconst X535 hx 135 (hb hby at_134) (0 : Int32) rfl rfl ?_
      refine g_istore X535 hx 137 (hb hby at_135) (l' := #[.val (.int p0), .val (.int p1), .val (.int (0 : Int32)), .val (.int (2 : Int32)), .val (.ref b420), .val (.ref b429), .val (.ref b439), .val (.ref b451), .val (.ref b451), .val (.int (0 : Int32)), .unset, .unset, .unset, .unset, .unset, .unset, .unset]) rfl rfl ?_
      refine g_iload_n X535 hx 138 (hb hby at_137) rfl rfl ?_
      refine g_iconst X535 hx 139 (hb hby at_138) (2 : Int32) rfl rfl ?_
      refine g_icmpYes X535 hx 151 (hb hby at_139) (own_ii_lt_t (by decide)) (by decide) (by decide) ?_
      refine g_iconst X535 hx 152 (hb hby at_151) (0 : Int32) rfl rfl ?_
      refine g_istore X535 hx 154 (hb hby at_152) (l' := #[.val (.int p0), .val (.int p1), .val (.int (0 : Int32)), .val (.int (2 : Int32)), .val (.ref b420), .val (.ref b429), .val (.ref b439), .val (.ref b451), .val (.ref b451), .val (.int (0 : Int32)), .val (.int (0 : Int32)), .unset, .unset, .unset, .unset, .unset, .unset]) rfl rfl ?_
      refine g_iload_n X535 hx 155 (hb hby at_154) rfl rfl ?_
      refine g_iconst X535 hx 156 (hb hby at_155) (3 : Int32) rfl rfl ?_
      refine g_icmpYes X535 hx 168 (hb hby at_156) (own_ii_lt_t (by decide)) (by decide) (by decide) ?_
      refine g_iconst X535 hx 169 (hb hby at_168) (0 : Int32) rfl rfl ?_
      refine g_istore X535 hx 171 (hb hby at_169) (l' := #[.val (.int p0), .val (.int p1), .val (.int (0 : Int32)), .val (.int (2 : Int32)), .val (.ref b420), .val (.ref b429), .val (.ref b439), .val (.ref b451), .val (.ref b451), .val (.int (0 : Int32)), .val (.int (0 : Int32)), .val (.int (0 : Int32)), .unset, .unset, .unset, .unset, .unset]) rfl rfl ?_
      refine g_iconst X535 hx 172 (hb hby at_171) (3 : Int32) rfl rfl ?_
      refine own_newR X535 hx hZ hown (hw _ (List.mem_of_getElem? (i := 26) rfl)) (hw _ (List.mem_of_getElem? (i := 27) rfl)) e535 175 (hb hby at_172) rfl (by decide) 3 (by decide) (by decide) (by decide) (by decide) fun T536 h536 k536 b536 X536 e536 g536 E536 A536 O536 => ?_
      have f537 : Exa Z h451 b420 "com/example/entitygate/entitygate/HtmlNode$Document" := (Exa.ext E451 f452)
      have ne538 : b420 ≠ b536 := Nat.ne_of_lt (Nat.lt_of_lt_of_le f537.lt (Nat.le_of_eq g536.symm))
      have f539 : Exa Z h451 b429 "com/example/entitygate/entitygate/HtmlNode$Document" := (Exa.ext E451 f454)
      have ne540 : b429 ≠ b536 := Nat.ne_of_lt (Nat.lt_of_lt_of_le f539.lt (Nat.le_of_eq g536.symm))
      have f541 : Exa Z h451 b439 "com/example/entitygate/entitygate/HtmlNode$Document" := (Exa.ext E451 A439)
      have ne542 : b439 ≠ b536 := Nat.ne_of_lt (Nat.lt_of_lt_of_le f541.lt (Nat.le_of_eq g536.symm))
      have ne543 : b451 ≠ b536 := Nat.ne_of_lt (Nat.lt_of_lt_of_le A451.lt (Nat.le_of_eq g536.symm))
      have g_b536 : n0 ≤ b536 := Nat.le_trans z458 (Nat.le_of_eq g536.symm)
      have sz_b536 : h0.size ≤ b536 := Nat.le_trans K457.1 (Nat.le_of_eq g536.symm)
      have K544 : Keep h0 h536 [] := K457.ext E536
      have z545 : n0 ≤ h536.size := (Nat.le_trans z458 E536.1)
      have V536 : Arv Z h536 b536 k536 (.object "com/example/entitygate/entitygate/HtmlNode") (3 : Int32) [.null, .null, .null] .null := (Arv.new A536 (by decide)).pad (pad_rep [] .null 3)
      refine g_astore X536 hx 177 (hb hby at_175) rfl (l' := #[.val (.int p0), .val (.int p1), .val (.int (0 : Int32)), .val (.int (2 : Int32)), .val (.ref b420), .val (.ref b429), .val (.ref b439), .val (.ref b451), .val (.ref b451), .val (.int (0 : Int32)), .val (.int (0 : Int32)), .val (.int (0 : Int32)), .val (.ref b536), .unset, .unset, .unset, .unset]) rfl rfl ?_
      refine g_iconst X536 hx 178 (hb hby at_177) (0 : Int32) rfl rfl ?_
      refine g_istore X536 hx 180 (hb hby at_178) (l' := #[.val (.int p0), .val (.int p1), .val (.int (0 : Int32)), .val (.int (2 : Int32)), .val (.ref b420), .val (.ref b429), .val (.ref b439), .val (.ref b451), .val (.ref b451), .val (.int (0 : Int32)), .val (.int (0 : Int32)), .val (.int (0 : Int32)), .val (.ref b536), .val (.int (0 : Int32)), .unset, .unset, .unset]) rfl rfl ?_
      refine g_iload X536 hx 182 (hb hby at_180) rfl rfl ?_
      refine g_ifYes X536 hx 195 (hb hby at_182) (own_i0_eq_t (by decide)) (by decide) (by decide) ?_
      refine g_iload X536 hx 197 (hb hby at_195) rfl rfl ?_
      refine g_ifYes X536 hx 210 (hb hby at_197) (own_i0_eq_t (by decide)) (by decide) (by decide) ?_
      refine g_iload X536 hx 212 (hb hby at_210) rfl rfl ?_
      refine g_ifYes X536 hx 225 (hb hby at_212) (own_i0_eq_t (by decide)) (by decide) (by decide) ?_
      refine g_iload X536 hx 227 (hb hby at_225) rfl rfl ?_
      refine g_ifYes X536 hx 237 (hb hby at_227) (own_i0_le_t (by decide)) (by decide) (by decide) ?_
      refine g_aconst_null X536 hx 238 (hb hby at_237) rfl ?_
      refine g_astore X536 hx 240 (hb hby at_238) rfl (l' := #[.val (.int p0), .val (.int p1), .val (.int (0 : Int32)), .val (.int (2 : Int32)), .val (.ref b420), .val (.ref b429), .val (.ref b439), .val (.ref b451), .val (.ref b451), .val (.int (0 : Int32)), .val (.int (0 : Int32)), .val (.int (0 : Int32)), .val (.ref b536), .val (.int (0 : Int32)), .val .null, .unset, .unset]) rfl rfl ?_
      refine g_iload X536 hx 242 (hb hby at_240) rfl rfl ?_
      refine g_ifYes X536 hx 255 (hb hby at_242) (own_i0_le_t (by decide)) (by decide) (by decide) ?_
      refine g_aconst_null X536 hx 256 (hb hby at_255) rfl ?_
      refine g_astore X536 hx 258 (hb hby at_256) rfl (l' := #[.val (.int p0), .val (.int p1), .val (.int (0 : Int32)), .val (.int (2 : Int32)), .val (.ref b420), .val (.ref b429), .val (.ref b439), .val (.ref b451), .val (.ref b451), .val (.int (0 : Int32)), .val (.int (0 : Int32)), .val (.int (0 : Int32)), .val (.ref b536), .val (.int (0 : Int32)), .val .null, .val .null, .unset]) rfl rfl ?_
      refine g_aload X536 hx 260 (hb hby at_258) rfl rfl rfl ?_
      have f546 : Fld Z h536 b420 "com/example/entitygate/entitygate/HtmlNode$Parent" "first" "Lcom/example/entitygate/entitygate/HtmlNode;" .null := (Fld.ext E536 (Fld.ext E451 (Fld.ext E439 (Fld.ext E429 f424))))
      refine own_getF X536 hx hZ hown (host := "") (Or.inl (hw _ (List.mem_of_getElem? (i := 28) rfl))) (Via.of (hw _ (List.mem_of_getElem? (i := 29) rfl))) e536 f546 263 (hb hby at_260) rfl fun T547 X547 e547 => ?_
      refine g_aload X547 hx 265 (hb hby at_263) rfl rfl rfl ?_
      refine g_acmp X547 hx (x := .null) (y := .null) (same := true) 268 (hb hby at_265) rfl rfl (decide_eq_true rfl) (by decide) (by decide) ?_
      refine g_aload X547 hx 270 (hb hby at_268) rfl rfl rfl ?_
      have f548 : Fld Z h536 b420 "com/example/entitygate/entitygate/HtmlNode$Parent" "last" "Lcom/example/entitygate/entitygate/HtmlNode;" .null := (Fld.ext E536 (Fld.ext E451 (Fld.ext E439 (Fld.ext E429 f425))))
      refine own_getF X547 hx hZ hown (host := "") (Or.inl (hw _ (List.mem_of_getElem? (i := 31) rfl))) (Via.of (hw _ (List.mem_of_getElem? (i := 32) rfl))) e547 f548 273 (hb hby at_270) rfl fun T549 X549 e549 => ?_
      refine g_aload X549 hx 275 (hb hby at_273) rfl rfl rfl ?_
      refine g_acmp X549 hx (x := .null) (y := .null) (same := true) 278 (hb hby at_275) rfl rfl (decide_eq_true rfl) (by decide) (by decide) ?_
      refine g_aload X549 hx 280 (hb hby at_278) rfl rfl rfl ?_
      have f551 : Fld Z h536 b420 "com/example/entitygate/entitygate/HtmlNode" "parent" "Lcom/example/entitygate/entitygate/HtmlNode$Parent;" .null := (Fld.ext E536 (Fld.ext E451 (Fld.ext E439 (Fld.ext E429 f423))))
      have f552 : Fld Z h536 b420 "com/example/entitygate/entitygate/HtmlNode" "previous" "Lcom/example/entitygate/entitygate/HtmlNode;" .null := (Fld.ext E536 (Fld.ext E451 (Fld.ext E439 (Fld.ext E429 f426))))
      have f553 : Fld Z h536 b420 "com/example/entitygate/entitygate/HtmlNode" "next" "Lcom/example/entitygate/entitygate/HtmlNode;" .null := (Fld.ext E536 (Fld.ext E451 (Fld.ext E439 (Fld.ext E429 f427))))
      refine own_callS X549 hx hZ hown (hw _ (List.mem_of_getElem? (i := 34) rfl)) (hw _ (List.mem_of_getElem? (i := 35) rfl)) (by decide) (rm_free1 l Z a0 hw [] b420 h536 n0 z545 f551 f552 f553) (hw _ (List.mem_of_getElem? (i := 37) rfl)) (hw _ (List.mem_of_getElem? (i := 36) rfl)) e549 0 (by decide) (by decide) (by decide) (by decide) [(.ref b420)] [] rfl pd_1 rfl 283 rfl (by rw [hml]; rfl) rfl (hb hby at_280) rfl fun T550 v550 L550 X550 hQ550 => ?_
      obtain ⟨rfl, Nq550, e550⟩ := hQ550
      have N550 := Fr.app N535 Nq550
      show own_Go p e below s _ _ _ (T550.setTop (mkF m 283 _ [(.int (1 : Int32))]))
      refine g_ifNo X550 hx 286 (hb hby at_283) (own_i0_eq_f (by decide)) rfl ?_
      refine g_iconst X550 hx 287 (hb hby at_286) (1 : Int32) rfl rfl ?_
      refine g_goto X550 hx 291 (hb hby at_287) (by decide) (by decide) ?_
      refine g_istore X550 hx 293 (hb hby at_291) (l' := #[.val (.int p0), .val (.int p1), .val (.int (0 : Int32)), .val (.int (2 : Int32)), .val (.ref b420), .val (.ref b429), .val (.ref b439), .val (.ref b451), .val (.ref b451), .val (.int (0 : Int32)), .val (.int (0 : Int32)), .val (.int (0 : Int32)), .val (.ref b536), .val (.int (0 : Int32)), .val .null, .val .null, .val (.int (1 : Int32))]) rfl rfl ?_
      refine g_iload X550 hx 295 (hb hby at_293) rfl rfl ?_
      refine g_ifNo X550 hx 298 (hb hby at_295) (own_i0_eq_f (by decide)) rfl ?_
      refine g_aload X550 hx 300 (hb hby at_298) rfl rfl rfl ?_
      refine g_iload X550 hx 302 (hb hby at_300) rfl rfl ?_
      refine g_iconst X550 hx 303 (hb hby at_302) (0 : Int32) rfl rfl ?_
      refine g_aload X550 hx 305 (hb hby at_303) rfl rfl rfl ?_
      refine own_callS X550 hx hZ hown (hw _ (List.mem_of_getElem? (i := 43) rfl)) (hw _ (List.mem_of_getElem? (i := 44) rfl)) (by decide) (rm_lk00 l Z a0 hw [] b536 b420 h536 n0 z545 ) (hw _ (List.mem_of_getElem? (i := 45) rfl)) (hw _ (List.mem_of_getElem? (i := 36) rfl)) e550 0 (by decide) (by decide) (by decide) (by decide) [(.ref b536), (.int (0 : Int32)), (.int (0 : Int32)), (.ref b420)] [] rfl pd_2 rfl 308 rfl (by rw [hml]; rfl) rfl (hb hby at_305) rfl fun T554 v554 L554 X554 hQ554 => ?_
      obtain ⟨rfl, Nq554, e554⟩ := hQ554
      have N554 := Fr.app N550 Nq554
      show own_Go p e below s _ _ _ (T554.setTop (mkF m 308 _ [(.int (1 : Int32))]))
      refine g_ifNo X554 hx 311 (hb hby at_308) (own_i0_eq_f (by decide)) rfl ?_
      refine g_aload X554 hx 313 (hb hby at_311) rfl rfl rfl ?_
      refine g_iload X554 hx 315 (hb hby at_313) rfl rfl ?_
      refine g_iconst X554 hx 316 (hb hby at_315) (1 : Int32) rfl rfl ?_
      refine g_aload X554 hx 318 (hb hby at_316) rfl rfl rfl ?_
      refine own_callS X554 hx hZ hown (hw _ (List.mem_of_getElem? (i := 43) rfl)) (hw _ (List.mem_of_getElem? (i := 44) rfl)) (by decide) (rm_lk01 l Z a0 hw [] b536 b420 h536 n0 z545 ) (hw _ (List.mem_of_getElem? (i := 45) rfl)) (hw _ (List.mem_of_getElem? (i := 36) rfl)) e554 0 (by decide) (by decide) (by decide) (by decide) [(.ref b536), (.int (0 : Int32)), (.int (1 : Int32)), (.ref b420)] [] rfl pd_2 rfl 321 rfl (by rw [hml]; rfl) rfl (hb hby at_318) rfl fun T555 v555 L555 X555 hQ555 => ?_
      obtain ⟨rfl, Nq555, e555⟩ := hQ555
      have N555 := Fr.app N554 Nq555
      show own_Go p e below s _ _ _ (T555.setTop (mkF m 321 _ [(.int (1 : Int32))]))
      refine g_ifNo X555 hx 324 (hb hby at_321) (own_i0_eq_f (by decide)) rfl ?_
      refine g_aload X555 hx 326 (hb hby at_324) rfl rfl rfl ?_
      refine g_iload X555 hx 328 (hb hby at_326) rfl rfl ?_
      refine g_iconst X555 hx 329 (hb hby at_328) (2 : Int32) rfl rfl ?_
      refine g_aload X555 hx 331 (hb hby at_329) rfl rfl rfl ?_
      refine own_callS X555 hx hZ hown (hw _ (List.mem_of_getElem? (i := 43) rfl)) (hw _ (List.mem_of_getElem? (i := 44) rfl)) (by decide) (rm_lk02 l Z a0 hw [] b536 b420 h536 n0 z545 ) (hw _ (List.mem_of_getElem? (i := 45) rfl)) (hw _ (List.mem_of_getElem? (i := 36) rfl)) e555 0 (by decide) (by decide) (by decide) (by decide) [(.ref b536), (.int (0 : Int32)), (.int (2 : Int32)), (.ref b420)] [] rfl pd_2 rfl 334 rfl (by rw [hml]; rfl) rfl (hb hby at_331) rfl fun T556 v556 L556 X556 hQ556 => ?_
      obtain ⟨rfl, Nq556, e556⟩ := hQ556
      have N556 := Fr.app N555 Nq556
      show own_Go p e below s _ _ _ (T556.setTop (mkF m 334 _ [(.int (1 : Int32))]))
      refine g_ifNo X556 hx 337 (hb hby at_334) (own_i0_eq_f (by decide)) rfl ?_
      refine g_iconst X556 hx 338 (hb hby at_337) (1 : Int32) rfl rfl ?_
      refine g_goto X556 hx 342 (hb hby at_338) (by decide) (by decide) ?_
      refine g_istore X556 hx 344 (hb hby at_342) (l' := #[.val (.int p0), .val (.int p1), .val (.int (0 : Int32)), .val (.int (2 : Int32)), .val (.ref b420), .val (.ref b429), .val (.ref b439), .val (.ref b451), .val (.ref b451), .val (.int (0 : Int32)), .val (.int (0 : Int32)), .val (.int (0 : Int32)), .val (.ref b536), .val (.int (0 : Int32)), .val .null, .val .null, .val (.int (1 : Int32))]) rfl rfl ?_
      refine g_iload X556 hx 346 (hb hby at_344) rfl rfl ?_
      refine g_ifNo X556 hx 349 (hb hby at_346) (own_i0_eq_f (by decide)) rfl ?_
      refine g_iload X556 hx 351 (hb hby at_349) rfl rfl ?_
      refine g_ifNo X556 hx 354 (hb hby at_351) (own_i0_ne_f (by decide)) rfl ?_
      refine g_aload X556 hx 356 (hb hby at_354) rfl rfl rfl ?_
      have f558 : Fld Z h536 b429 "com/example/entitygate/entitygate/HtmlNode" "parent" "Lcom/example/entitygate/entitygate/HtmlNode$Parent;" .null := (Fld.ext E536 (Fld.ext E451 (Fld.ext E439 f433)))
      have f559 : Fld Z h536 b429 "com/example/entitygate/entitygate/HtmlNode" "previous" "Lcom/example/entitygate/entitygate/HtmlNode;" .null := (Fld.ext E536 (Fld.ext E451 (Fld.ext E439 f436)))
      have f560 : Fld Z h536 b429 "com/example/entitygate/entitygate/HtmlNode" "next" "Lcom/example/entitygate/entitygate/HtmlNode;" .null := (Fld.ext E536 (Fld.ext E451 (Fld.ext E439 f437)))
      refine own_callS X556 hx hZ hown (hw _ (List.mem_of_getElem? (i := 34) rfl)) (hw _ (List.mem_of_getElem? (i := 35) rfl)) (by decide) (rm_free1 l Z a0 hw [] b429 h536 n0 z545 f558 f559 f560) (hw _ (List.mem_of_getElem? (i := 37) rfl)) (hw _ (List.mem_of_getElem? (i := 36) rfl)) e556 0 (by decide) (by decide) (by decide) (by decide) [(.ref b429)] [] rfl pd_1 rfl 359 rfl (by rw [hml]; rfl) rfl (hb hby at_356) rfl fun T557 v557 L557 X557 hQ557 => ?_
      obtain ⟨rfl, Nq557, e557⟩ := hQ557
      have N557 := Fr.app N556 Nq557
      show own_Go p e below s _ _ _ (T557.setTop (mkF m 359 _ [(.int (1 : Int32))]))
      refine g_ifNo X557 hx 362 (hb hby at_359) (own_i0_eq_f (by decide)) rfl ?_
      refine g_iload X557 hx 364 (hb hby at_362) rfl rfl ?_
      refine g_ifNo X557 hx 367 (hb hby at_364) (own_i0_ne_f (by decide)) rfl ?_
      refine g_aload X557 hx 369 (hb hby at_367) rfl rfl rfl ?_
      have f562 : Fld Z h536 b439 "com/example/entitygate/entitygate/HtmlNode" "parent" "Lcom/example/entitygate/entitygate/HtmlNode$Parent;" .null := (Fld.ext E536 (Fld.ext E451 f445))
      have f563 : Fld Z h536 b439 "com/example/entitygate/entitygate/HtmlNode" "previous" "Lcom/example/entitygate/entitygate/HtmlNode;" .null := (Fld.ext E536 (Fld.ext E451 f448))
      have f564 : Fld Z h536 b439 "com/example/entitygate/entitygate/HtmlNode" "next" "Lcom/example/entitygate/entitygate/HtmlNode;" .null := (Fld.ext E536 (Fld.ext E451 f449))
      refine own_callS X557 hx hZ hown (hw _ (List.mem_of_getElem? (i := 34) rfl)) (hw _ (List.mem_of_getElem? (i := 35) rfl)) (by decide) (rm_free1 l Z a0 hw [] b439 h536 n0 z545 f562 f563 f564) (hw _ (List.mem_of_getElem? (i := 37) rfl)) (hw _ (List.mem_of_getElem? (i := 36) rfl)) e557 0 (by decide) (by decide) (by decide) (by decide) [(.ref b439)] [] rfl pd_1 rfl 372 rfl (by rw [hml]; rfl) rfl (hb hby at_369) rfl fun T561 v561 L561 X561 hQ561 => ?_
      obtain ⟨rfl, Nq561, e561⟩ := hQ561
      have N561 := Fr.app N557 Nq561
      show own_Go p e below s _ _ _ (T561.setTop (mkF m 372 _ [(.int (1 : Int32))]))
      refine g_ifNo X561 hx 375 (hb hby at_372) (own_i0_eq_f (by decide)) rfl ?_
      refine g_iload X561 hx 377 (hb hby at_375) rfl rfl ?_
      refine g_ifNo X561 hx 380 (hb hby at_377) (own_i0_ne_f (by decide)) rfl ?_
      refine g_aload X561 hx 382 (hb hby at_380) rfl rfl rfl ?_
      have f566 : Fld Z h536 b451 "com/example/entitygate/entitygate/HtmlNode" "parent" "Lcom/example/entitygate/entitygate/HtmlNode$Parent;" .null := (Fld.ext E536 f459)
      have f567 : Fld Z h536 b451 "com/example/entitygate/entitygate/HtmlNode" "previous" "Lcom/example/entitygate/entitygate/HtmlNode;" .null := (Fld.ext E536 f462)
      have f568 : Fld Z h536 b451 "com/example/entitygate/entitygate/HtmlNode" "next" "Lcom/example/entitygate/entitygate/HtmlNode;" .null := (Fld.ext E536 f463)
      refine own_callS X561 hx hZ hown (hw _ (List.mem_of_getElem? (i := 34) rfl)) (hw _ (List.mem_of_getElem? (i := 35) rfl)) (by decide) (rm_free1 l Z a0 hw [] b451 h536 n0 z545 f566 f567 f568) (hw _ (List.mem_of_getElem? (i := 37) rfl)) (hw _ (List.mem_of_getElem? (i := 36) rfl)) e561 0 (by decide) (by decide) (by decide) (by decide) [(.ref b451)] [] rfl pd_1 rfl 385 rfl (by rw [hml]; rfl) rfl (hb hby at_382) rfl fun T565 v565 L565 X565 hQ565 => ?_
      obtain ⟨rfl, Nq565, e565⟩ := hQ565
      have N565 := Fr.app N561 Nq565
      show own_Go p e below s _ _ _ (T565.setTop (mkF m 385 _ [(.int (1 : Int32))]))
      refine g_ifNo X565 hx 388 (hb hby at_385) (own_i0_eq_f (by decide)) rfl ?_
      refine g_iconst X565 hx 389 (hb hby at_388) (1 : Int32) rfl rfl ?_
      refine g_goto X565 hx 393 (hb hby at_389) (by decide) (by decide) ?_
      refine g_istore X565 hx 395 (hb hby at_393) (l' := #[.val (.int p0), .val (.int p1), .val (.int (0 : Int32)), .val (.int (2 : Int32)), .val (.ref b420), .val (.ref b429), .val (.ref b439), .val (.ref b451), .val (.ref b451), .val (.int (0 : Int32)), .val (.int (0 : Int32)), .val (.int (0 : Int32)), .val (.ref b536), .val (.int (0 : Int32)), .val .null, .val .null, .val (.int (1 : Int32))]) rfl rfl ?_
      refine g_iload X565 hx 397 (hb hby at_395) rfl rfl ?_
      refine own_retN X565 hx hlk (t := .boolean) hret (by simp) (hb hby at_397) ?_ (by decide) (by decide)
      rw [e565]
      exact ⟨rfl, N565⟩
    · show own_Go p e below s _ _ _ (T464.setTop (mkF m 83 _ []))
      refine g_iload_n X464 hx 84 (hb hby at_83) rfl rfl ?_
      refine g_ifYes X464 hx 92 (hb hby at_84) (own_i0_ne_t (by decide)) (by decide) (by decide) ?_
      refine g_iload_n X464 hx 93 (hb hby at_92) rfl rfl ?_
      refine g_iconst X464 hx 94 (hb hby at_93) (1 : Int32) rfl rfl ?_
      refine g_icmpYes X464 hx 102 (hb hby at_94) (own_ii_ne_t (by decide)) (by decide) (by decide) ?_
      refine g_iload_n X464 hx 103 (hb hby at_102) rfl rfl ?_
      refine g_iconst X464 hx 104 (hb hby at_103) (2 : Int32) rfl rfl ?_
      refine g_icmpYes X464 hx 112 (hb hby at_104) (own_ii_ne_t (by decide)) (by decide) (by decide) ?_
      refine g_aload X464 hx 114 (hb hby at_112) rfl rfl rfl ?_
      refine g_astore X464 hx 116 (hb hby at_114) rfl (l' := #[.val (.int p0), .val (.int p1), .val (.int (0 : Int32)), .val (.int (3 : Int32)), .val (.ref b420), .val (.ref b429), .val (.ref b439), .val (.ref b451), .val (.ref b420), .unset, .unset, .unset, .unset, .unset, .unset, .unset, .unset]) rfl rfl ?_
      refine g_aload X464 hx 118 (hb hby at_116) rfl rfl rfl ?_
      have f570 : Fld Z h451 b420 "com/example/entitygate/entitygate/HtmlNode" "parent" "Lcom/example/entitygate/entitygate/HtmlNode$Parent;" .null := (Fld.ext E451 (Fld.ext E439 (Fld.ext E429 f423)))
      have f571 : Exa Z h451 b420 "com/example/entitygate/entitygate/HtmlNode$Document" := (Exa.ext E451 f452)
      refine own_callV X464 hx hZ hown (hw _ (List.mem_of_getElem? (i := 19) rfl)) (hw _ (List.mem_of_getElem? (i := 20) rfl)) (own_nf hZ (hw _ (List.mem_of_getElem? (i := 22) rfl))) (hw _ (List.mem_of_getElem? (i := 22) rfl)) (hw _ (List.mem_of_getElem? (i := 21) rfl)) (by decide) (rm_det0 l Z a0 hw [] b420 h451 n0 z458 f570) (hw _ (List.mem_of_getElem? (i := 23) rfl)) (hw _ (List.mem_of_getElem? (i := 14) rfl)) e464 0 (by decide) (by decide) (by decide) (by decide) f571 [] [] rfl pd_0 rfl 121 rfl (by rw [hml]; rfl) rfl (hb hby at_118) rfl fun T569 v569 L569 X569 hQ569 => ?_
      obtain ⟨rfl, Nq569, e569⟩ := hQ569
      have N569 := Fr.app N464 Nq569
      show own_Go p e below s _ _ _ (T569.setTop (mkF m 121 _ []))
      refine g_iload_n X569 hx 122 (hb hby at_121) rfl rfl ?_
      refine g_iconst X569 hx 123 (hb hby at_122) (1 : Int32) rfl rfl ?_
      refine g_icmpYes X569 hx 134 (hb hby at_123) (own_ii_lt_t (by decide)) (by decide) (by decide) ?_
      refine g_iconst X569 hx 135 (hb hby at_134) (0 : Int32) rfl rfl ?_
      refine g_istore X569 hx 137 (hb hby at_135) (l' := #[.val (.int p0), .val (.int p1), .val (.int (0 : Int32)), .val (.int (3 : Int32)), .val (.ref b420), .val (.ref b429), .val (.ref b439), .val (.ref b451), .val (.ref b420), .val (.int (0 : Int32)), .unset, .unset, .unset, .unset, .unset, .unset, .unset]) rfl rfl ?_
      refine g_iload_n X569 hx 138 (hb hby at_137) rfl rfl ?_
      refine g_iconst X569 hx 139 (hb hby at_138) (2 : Int32) rfl rfl ?_
      refine g_icmpYes X569 hx 151 (hb hby at_139) (own_ii_lt_t (by decide)) (by decide) (by decide) ?_
      refine g_iconst X569 hx 152 (hb hby at_151) (0 : Int32) rfl rfl ?_
      refine g_istore X569 hx 154 (hb hby at_152) (l' := #[.val (.int p0), .val (.int p1), .val (.int (0 : Int32)), .val (.int (3 : Int32)), .val (.ref b420), .val (.ref b429), .val (.ref b439), .val (.ref b451), .val (.ref b420), .val (.int (0 : Int32)), .val (.int (0 : Int32)), .unset, .unset, .unset, .unset, .unset, .unset]) rfl rfl ?_
      refine g_iload_n X569 hx 155 (hb hby at_154) rfl rfl ?_
      refine g_iconst X569 hx 156 (hb hby at_155) (3 : Int32) rfl rfl ?_
      refine g_icmpYes X569 hx 168 (hb hby at_156) (own_ii_lt_t (by decide)) (by decide) (by decide) ?_
      refine g_iconst X569 hx 169 (hb hby at_168) (0 : Int32) rfl rfl ?_
      refine g_istore X569 hx 171 (hb hby at_169) (l' := #[.val (.int p0), .val (.int p1), .val (.int (0 : Int32)), .val (.int (3 : Int32)), .val (.ref b420), .val (.ref b429), .val (.ref b439), .val (.ref b451), .val (.ref b420), .val (.int (0 : Int32)), .val (.int (0 : Int32)), .val (.int (0 : Int32)), .unset, .unset, .unset, .unset, .unset]) rfl rfl ?_
      refine g_iconst X569 hx 172 (hb hby at_171) (3 : Int32) rfl rfl ?_
      refine own_newR X569 hx hZ hown (hw _ (List.mem_of_getElem? (i := 26) rfl)) (hw _ (List.mem_of_getElem? (i := 27) rfl)) e569 175 (hb hby at_172) rfl (by decide) 3 (by decide) (by decide) (by decide) (by decide) fun T572 h572 k572 b572 X572 e572 g572 E572 A572 O572 => ?_
      have ne573 : b420 ≠ b572 := Nat.ne_of_lt (Nat.lt_of_lt_of_le f571.lt (Nat.le_of_eq g572.symm))
      have f574 : Exa Z h451 b429 "com/example/entitygate/entitygate/HtmlNode$Document" := (Exa.ext E451 f454)
      have ne575 : b429 ≠ b572 := Nat.ne_of_lt (Nat.lt_of_lt_of_le f574.lt (Nat.le_of_eq g572.symm))
      have f576 : Exa Z h451 b439 "com/example/entitygate/entitygate/HtmlNode$Document" := (Exa.ext E451 A439)
      have ne577 : b439 ≠ b572 := Nat.ne_of_lt (Nat.lt_of_lt_of_le f576.lt (Nat.le_of_eq g572.symm))
      have ne578 : b451 ≠ b572 := Nat.ne_of_lt (Nat.lt_of_lt_of_le A451.lt (Nat.le_of_eq g572.symm))
      have g_b572 : n0 ≤ b572 := Nat.le_trans z458 (Nat.le_of_eq g572.symm)
      have sz_b572 : h0.size ≤ b572 := Nat.le_trans K457.1 (Nat.le_of_eq g572.symm)
      have K579 : Keep h0 h572 [] := K457.ext E572
      have z580 : n0 ≤ h572.size := (Nat.le_trans z458 E572.1)
      have V572 : Arv Z h572 b572 k572 (.object "com/example/entitygate/entitygate/HtmlNode") (3 : Int32) [.null, .null, .null] .null := (Arv.new A572 (by decide)).pad (pad_rep [] .null 3)
      refine g_astore X572 hx 177 (hb hby at_175) rfl (l' := #[.val (.int p0), .val (.int p1), .val (.int (0 : Int32)), .val (.int (3 : Int32)), .val (.ref b420), .val (.ref b429), .val (.ref b439), .val (.ref b451), .val (.ref b420), .val (.int (0 : Int32)), .val (.int (0 : Int32)), .val (.int (0 : Int32)), .val (.ref b572), .unset, .unset, .unset, .unset]) rfl rfl ?_
      refine g_iconst X572 hx 178 (hb hby at_177) (0 : Int32) rfl rfl ?_
      refine g_istore X572 hx 180 (hb hby at_178) (l' := #[.val (.int p0), .val (.int p1), .val (.int (0 : Int32)), .val (.int (3 : Int32)), .val (.ref b420), .val (.ref b429), .val (.ref b439), .val (.ref b451), .val (.ref b420), .val (.int (0 : Int32)), .val (.int (0 : Int32)), .val (.int (0 : Int32)), .val (.ref b572), .val (.int (0 : Int32)), .unset, .unset, .unset]) rfl rfl ?_
      refine g_iload X572 hx 182 (hb hby at_180) rfl rfl ?_
      refine g_ifYes X572 hx 195 (hb hby at_182) (own_i0_eq_t (by decide)) (by decide) (by decide) ?_
      refine g_iload X572 hx 197 (hb hby at_195) rfl rfl ?_
      refine g_ifYes X572 hx 210 (hb hby at_197) (own_i0_eq_t (by decide)) (by decide) (by decide) ?_
      refine g_iload X572 hx 212 (hb hby at_210) rfl rfl ?_
      refine g_ifYes X572 hx 225 (hb hby at_212) (own_i0_eq_t (by decide)) (by decide) (by decide) ?_
      refine g_iload X572 hx 227 (hb hby at_225) rfl rfl ?_
      refine g_ifYes X572 hx 237 (hb hby at_227) (own_i0_le_t (by decide)) (by decide) (by decide) ?_
      refine g_aconst_null X572 hx 238 (hb hby at_237) rfl ?_
      refine g_astore X572 hx 240 (hb hby at_238) rfl (l' := #[.val (.int p0), .val (.int p1), .val (.int (0 : Int32)), .val (.int (3 : Int32)), .val (.ref b420), .val (.ref b429), .val (.ref b439), .val (.ref b451), .val (.ref b420), .val (.int (0 : Int32)), .val (.int (0 : Int32)), .val (.int (0 : Int32)), .val (.ref b572), .val (.int (0 : Int32)), .val .null, .unset, .unset]) rfl rfl ?_
      refine g_iload X572 hx 242 (hb hby at_240) rfl rfl ?_
      refine g_ifYes X572 hx 255 (hb hby at_242) (own_i0_le_t (by decide)) (by decide) (by decide) ?_
      refine g_aconst_null X572 hx 256 (hb hby at_255) rfl ?_
      refine g_astore X572 hx 258 (hb hby at_256) rfl (l' := #[.val (.int p0), .val (.int p1), .val (.int (0 : Int32)), .val (.int (3 : Int32)), .val (.ref b420), .val (.ref b429), .val (.ref b439), .val (.ref b451), .val (.ref b420), .val (.int (0 : Int32)), .val (.int (0 : Int32)), .val (.int (0 : Int32)), .val (.ref b572), .val (.int (0 : Int32)), .val .null, .val .null, .unset]) rfl rfl ?_
      refine g_aload X572 hx 260 (hb hby at_258) rfl rfl rfl ?_
      have f581 : Fld Z h572 b420 "com/example/entitygate/entitygate/HtmlNode$Parent" "first" "Lcom/example/entitygate/entitygate/HtmlNode;" .null := (Fld.ext E572 (Fld.ext E451 (Fld.ext E439 (Fld.ext E429 f424))))
      refine own_getF X572 hx hZ hown (host := "") (Or.inl (hw _ (List.mem_of_getElem? (i := 28) rfl))) (Via.of (hw _ (List.mem_of_getElem? (i := 29) rfl))) e572 f581 263 (hb hby at_260) rfl fun T582 X582 e582 => ?_
      refine g_aload X582 hx 265 (hb hby at_263) rfl rfl rfl ?_
      refine g_acmp X582 hx (x := .null) (y := .null) (same := true) 268 (hb hby at_265) rfl rfl (decide_eq_true rfl) (by decide) (by decide) ?_
      refine g_aload X582 hx 270 (hb hby at_268) rfl rfl rfl ?_
      have f583 : Fld Z h572 b420 "com/example/entitygate/entitygate/HtmlNode$Parent" "last" "Lcom/example/entitygate/entitygate/HtmlNode;" .null := (Fld.ext E572 (Fld.ext E451 (Fld.ext E439 (Fld.ext E429 f425))))
      refine own_getF X582 hx hZ hown (host := "") (Or.inl (hw _ (List.mem_of_getElem? (i := 31) rfl))) (Via.of (hw _ (List.mem_of_getElem? (i := 32) rfl))) e582 f583 273 (hb hby at_270) rfl fun T584 X584 e584 => ?_
      refine g_aload X584 hx 275 (hb hby at_273) rfl rfl rfl ?_
      refine g_acmp X584 hx (x := .null) (y := .null) (same := true) 278 (hb hby at_275) rfl rfl (decide_eq_true rfl) (by decide) (by decide) ?_
      refine g_aload X584 hx 280 (hb hby at_278) rfl rfl rfl ?_
      have f586 : Fld Z h572 b420 "com/example/entitygate/entitygate/HtmlNode" "parent" "Lcom/example/entitygate/entitygate/HtmlNode$Parent;" .null := (Fld.ext E572 f570)
      have f587 : Fld Z h572 b420 "com/example/entitygate/entitygate/HtmlNode" "previous" "Lcom/example/entitygate/entitygate/HtmlNode;" .null := (Fld.ext E572 (Fld.ext E451 (Fld.ext E439 (Fld.ext E429 f426))))
      have f588 : Fld Z h572 b420 "com/example/entitygate/entitygate/HtmlNode" "next" "Lcom/example/entitygate/entitygate/HtmlNode;" .null := (Fld.ext E572 (Fld.ext E451 (Fld.ext E439 (Fld.ext E429 f427))))
      refine own_callS X584 hx hZ hown (hw _ (List.mem_of_getElem? (i := 34) rfl)) (hw _ (List.mem_of_getElem? (i := 35) rfl)) (by decide) (rm_free1 l Z a0 hw [] b420 h572 n0 z580 f586 f587 f588) (hw _ (List.mem_of_getElem? (i := 37) rfl)) (hw _ (List.mem_of_getElem? (i := 36) rfl)) e584 0 (by decide) (by decide) (by decide) (by decide) [(.ref b420)] [] rfl pd_1 rfl 283 rfl (by rw [hml]; rfl) rfl (hb hby at_280) rfl fun T585 v585 L585 X585 hQ585 => ?_
      obtain ⟨rfl, Nq585, e585⟩ := hQ585
      have N585 := Fr.app N569 Nq585
      show own_Go p e below s _ _ _ (T585.setTop (mkF m 283 _ [(.int (1 : Int32))]))
      refine g_ifNo X585 hx 286 (hb hby at_283) (own_i0_eq_f (by decide)) rfl ?_
      refine g_iconst X585 hx 287 (hb hby at_286) (1 : Int32) rfl rfl ?_
      refine g_goto X585 hx 291 (hb hby at_287) (by decide) (by decide) ?_
      refine g_istore X585 hx 293 (hb hby at_291) (l' := #[.val (.int p0), .val (.int p1), .val (.int (0 : Int32)), .val (.int (3 : Int32)), .val (.ref b420), .val (.ref b429), .val (.ref b439), .val (.ref b451), .val (.ref b420), .val (.int (0 : Int32)), .val (.int (0 : Int32)), .val (.int (0 : Int32)), .val (.ref b572), .val (.int (0 : Int32)), .val .null, .val .null, .val (.int (1 : Int32))]) rfl rfl ?_
      refine g_iload X585 hx 295 (hb hby at_293) rfl rfl ?_
      refine g_ifNo X585 hx 298 (hb hby at_295) (own_i0_eq_f (by decide)) rfl ?_
      refine g_aload X585 hx 300 (hb hby at_298) rfl rfl rfl ?_
      refine g_iload X585 hx 302 (hb hby at_300) rfl rfl ?_
      refine g_iconst X585 hx 303 (hb hby at_302) (0 : Int32) rfl rfl ?_
      refine g_aload X585 hx 305 (hb hby at_303) rfl rfl rfl ?_
      refine own_callS X585 hx hZ hown (hw _ (List.mem_of_getElem? (i := 43) rfl)) (hw _ (List.mem_of_getElem? (i := 44) rfl)) (by decide) (rm_lk00 l Z a0 hw [] b572 b420 h572 n0 z580 ) (hw _ (List.mem_of_getElem? (i := 45) rfl)) (hw _ (List.mem_of_getElem? (i := 36) rfl)) e585 0 (by decide) (by decide) (by decide) (by decide) [(.ref b572), (.int (0 : Int32)), (.int (0 : Int32)), (.ref b420)] [] rfl pd_2 rfl 308 rfl (by rw [hml]; rfl) rfl (hb hby at_305) rfl fun T589 v589 L589 X589 hQ589 => ?_
      obtain ⟨rfl, Nq589, e589⟩ := hQ589
      have N589 := Fr.app N585 Nq589
      show own_Go p e below s _ _ _ (T589.setTop (mkF m 308 _ [(.int (1 : Int32))]))
      refine g_ifNo X589 hx 311 (hb hby at_308) (own_i0_eq_f (by decide)) rfl ?_
      refine g_aload X589 hx 313 (hb hby at_311) rfl rfl rfl ?_
      refine g_iload X589 hx 315 (hb hby at_313) rfl rfl ?_
      refine g_iconst X589 hx 316 (hb hby at_315) (1 : Int32) rfl rfl ?_
      refine g_aload X589 hx 318 (hb hby at_316) rfl rfl rfl ?_
      refine own_callS X589 hx hZ hown (hw _ (List.mem_of_getElem? (i := 43) rfl)) (hw _ (List.mem_of_getElem? (i := 44) rfl)) (by decide) (rm_lk01 l Z a0 hw [] b572 b420 h572 n0 z580 ) (hw _ (List.mem_of_getElem? (i := 45) rfl)) (hw _ (List.mem_of_getElem? (i := 36) rfl)) e589 0 (by decide) (by decide) (by decide) (by decide) [(.ref b572), (.int (0 : Int32)), (.int (1 : Int32)), (.ref b420)] [] rfl pd_2 rfl 321 rfl (by rw [hml]; rfl) rfl (hb hby at_318) rfl fun T590 v590 L590 X590 hQ590 => ?_
      obtain ⟨rfl, Nq590, e590⟩ := hQ590
      have N590 := Fr.app N589 Nq590
      show own_Go p e below s _ _ _ (T590.setTop (mkF m 321 _ [(.int (1 : Int32))]))
      refine g_ifNo X590 hx 324 (hb hby at_321) (own_i0_eq_f (by decide)) rfl ?_
      refine g_aload X590 hx 326 (hb hby at_324) rfl rfl rfl ?_
      refine g_iload X590 hx 328 (hb hby at_326) rfl rfl ?_
      refine g_iconst X590 hx 329 (hb hby at_328) (2 : Int32) rfl rfl ?_
      refine g_aload X590 hx 331 (hb hby at_329) rfl rfl rfl ?_
      refine own_callS X590 hx hZ hown (hw _ (List.mem_of_getElem? (i := 43) rfl)) (hw _ (List.mem_of_getElem? (i := 44) rfl)) (by decide) (rm_lk02 l Z a0 hw [] b572 b420 h572 n0 z580 ) (hw _ (List.mem_of_getElem? (i := 45) rfl)) (hw _ (List.mem_of_getElem? (i := 36) rfl)) e590 0 (by decide) (by decide) (by decide) (by decide) [(.ref b572), (.int (0 : Int32)), (.int (2 : Int32)), (.ref b420)] [] rfl pd_2 rfl 334 rfl (by rw [hml]; rfl) rfl (hb hby at_331) rfl fun T591 v591 L591 X591 hQ591 => ?_
      obtain ⟨rfl, Nq591, e591⟩ := hQ591
      have N591 := Fr.app N590 Nq591
      show own_Go p e below s _ _ _ (T591.setTop (mkF m 334 _ [(.int (1 : Int32))]))
      refine g_ifNo X591 hx 337 (hb hby at_334) (own_i0_eq_f (by decide)) rfl ?_
      refine g_iconst X591 hx 338 (hb hby at_337) (1 : Int32) rfl rfl ?_
      refine g_goto X591 hx 342 (hb hby at_338) (by decide) (by decide) ?_
      refine g_istore X591 hx 344 (hb hby at_342) (l' := #[.val (.int p0), .val (.int p1), .val (.int (0 : Int32)), .val (.int (3 : Int32)), .val (.ref b420), .val (.ref b429), .val (.ref b439), .val (.ref b451), .val (.ref b420), .val (.int (0 : Int32)), .val (.int (0 : Int32)), .val (.int (0 : Int32)), .val (.ref b572), .val (.int (0 : Int32)), .val .null, .val .null, .val (.int (1 : Int32))]) rfl rfl ?_
      refine g_iload X591 hx 346 (hb hby at_344) rfl rfl ?_
      refine g_ifNo X591 hx 349 (hb hby at_346) (own_i0_eq_f (by decide)) rfl ?_
      refine g_iload X591 hx 351 (hb hby at_349) rfl rfl ?_
      refine g_ifNo X591 hx 354 (hb hby at_351) (own_i0_ne_f (by decide)) rfl ?_
      refine g_aload X591 hx 356 (hb hby at_354) rfl rfl rfl ?_
      have f593 : Fld Z h572 b429 "com/example/entitygate/entitygate/HtmlNode" "parent" "Lcom/example/entitygate/entitygate/HtmlNode$Parent;" .null := (Fld.ext E572 (Fld.ext E451 (Fld.ext E439 f433)))
      have f594 : Fld Z h572 b429 "com/example/entitygate/entitygate/HtmlNode" "previous" "Lcom/example/entitygate/entitygate/HtmlNode;" .null := (Fld.ext E572 (Fld.ext E451 (Fld.ext E439 f436)))
      have f595 : Fld Z h572 b429 "com/example/entitygate/entitygate/HtmlNode" "next" "Lcom/example/entitygate/entitygate/HtmlNode;" .null := (Fld.ext E572 (Fld.ext E451 (Fld.ext E439 f437)))
      refine own_callS X591 hx hZ hown (hw _ (List.mem_of_getElem? (i := 34) rfl)) (hw _ (List.mem_of_getElem? (i := 35) rfl)) (by decide) (rm_free1 l Z a0 hw [] b429 h572 n0 z580 f593 f594 f595) (hw _ (List.mem_of_getElem? (i := 37) rfl)) (hw _ (List.mem_of_getElem? (i := 36) rfl)) e591 0 (by decide) (by decide) (by decide) (by decide) [(.ref b429)] [] rfl pd_1 rfl 359 rfl (by rw [hml]; rfl) rfl (hb hby at_356) rfl fun T592 v592 L592 X592 hQ592 => ?_
      obtain ⟨rfl, Nq592, e592⟩ := hQ592
      have N592 := Fr.app N591 Nq592
      show own_Go p e below s _ _ _ (T592.setTop (mkF m 359 _ [(.int (1 : Int32))]))
      refine g_ifNo X592 hx 362 (hb hby at_359) (own_i0_eq_f (by decide)) rfl ?_
      refine g_iload X592 hx 364 (hb hby at_362) rfl rfl ?_
      refine g_ifNo X592 hx 367 (hb hby at_364) (own_i0_ne_f (by decide)) rfl ?_
      refine g_aload X592 hx 369 (hb hby at_367) rfl rfl rfl ?_
      have f597 : Fld Z h572 b439 "com/example/entitygate/entitygate/HtmlNode" "parent" "Lcom/example/entitygate/entitygate/HtmlNode$Parent;" .null := (Fld.ext E572 (Fld.ext E451 f445))
      have f598 : Fld Z h572 b439 "com/example/entitygate/entitygate/HtmlNode" "previous" "Lcom/example/entitygate/entitygate/HtmlNode;" .null := (Fld.ext E572 (Fld.ext E451 f448))
      have f599 : Fld Z h572 b439 "com/example/entitygate/entitygate/HtmlNode" "next" "Lcom/example/entitygate/entitygate/HtmlNode;" .null := (Fld.ext E572 (Fld.ext E451 f449))
      refine own_callS X592 hx hZ hown (hw _ (List.mem_of_getElem? (i := 34) rfl)) (hw _ (List.mem_of_getElem? (i := 35) rfl)) (by decide) (rm_free1 l Z a0 hw [] b439 h572 n0 z580 f597 f598 f599) (hw _ (List.mem_of_getElem? (i := 37) rfl)) (hw _ (List.mem_of_getElem? (i := 36) rfl)) e592 0 (by decide) (by decide) (by decide) (by decide) [(.ref b439)] [] rfl pd_1 rfl 372 rfl (by rw [hml]; rfl) rfl (hb hby at_369) rfl fun T596 v596 L596 X596 hQ596 => ?_
      obtain ⟨rfl, Nq596, e596⟩ := hQ596
      have N596 := Fr.app N592 Nq596
      show own_Go p e below s _ _ _ (T596.setTop (mkF m 372 _ [(.int (1 : Int32))]))
      refine g_ifNo X596 hx 375 (hb hby at_372) (own_i0_eq_f (by decide)) rfl ?_
      refine g_iload X596 hx 377 (hb hby at_375) rfl rfl ?_
      refine g_ifNo X596 hx 380 (hb hby at_377) (own_i0_ne_f (by decide)) rfl ?_
      refine g_aload X596 hx 382 (hb hby at_380) rfl rfl rfl ?_
      have f601 : Fld Z h572 b451 "com/example/entitygate/entitygate/HtmlNode" "parent" "Lcom/example/entitygate/entitygate/HtmlNode$Parent;" .null := (Fld.ext E572 f459)
      have f602 : Fld Z h572 b451 "com/example/entitygate/entitygate/HtmlNode" "previous" "Lcom/example/entitygate/entitygate/HtmlNode;" .null := (Fld.ext E572 f462)
      have f603 : Fld Z h572 b451 "com/example/entitygate/entitygate/HtmlNode" "next" "Lcom/example/entitygate/entitygate/HtmlNode;" .null := (Fld.ext E572 f463)
      refine own_callS X596 hx hZ hown (hw _ (List.mem_of_getElem? (i := 34) rfl)) (hw _ (List.mem_of_getElem? (i := 35) rfl)) (by decide) (rm_free1 l Z a0 hw [] b451 h572 n0 z580 f601 f602 f603) (hw _ (List.mem_of_getElem? (i := 37) rfl)) (hw _ (List.mem_of_getElem? (i := 36) rfl)) e596 0 (by decide) (by decide) (by decide) (by decide) [(.ref b451)] [] rfl pd_1 rfl 385 rfl (by rw [hml]; rfl) rfl (hb hby at_382) rfl fun T600 v600 L600 X600 hQ600 => ?_
      obtain ⟨rfl, Nq600, e600⟩ := hQ600
      have N600 := Fr.app N596 Nq600
      show own_Go p e below s _ _ _ (T600.setTop (mkF m 385 _ [(.int (1 : Int32))]))
      refine g_ifNo X600 hx 388 (hb hby at_385) (own_i0_eq_f (by decide)) rfl ?_
      refine g_iconst X600 hx 389 (hb hby at_388) (1 : Int32) rfl rfl ?_
      refine g_goto X600 hx 393 (hb hby at_389) (by decide) (by decide) ?_
      refine g_istore X600 hx 395 (hb hby at_393) (l' := #[.val (.int p0), .val (.int p1), .val (.int (0 : Int32)), .val (.int (3 : Int32)), .val (.ref b420), .val (.ref b429), .val (.ref b439), .val (.ref b451), .val (.ref b420), .val (.int (0 : Int32)), .val (.int (0 : Int32)), .val (.int (0 : Int32)), .val (.ref b572), .val (.int (0 : Int32)), .val .null, .val .null, .val (.int (1 : Int32))]) rfl rfl ?_
      refine g_iload X600 hx 397 (hb hby at_395) rfl rfl ?_
      refine own_retN X600 hx hlk (t := .boolean) hret (by simp) (hb hby at_397) ?_ (by decide) (by decide)
      rw [e600]
      exact ⟨rfl, N600⟩
  · show own_Go p e below s _ _ _ (T464.setTop (mkF m 44 _ []))
    refine g_iload_n X464 hx 45 (hb hby at_44) rfl rfl ?_
    refine g_iconst X464 hx 46 (hb hby at_45) (1 : Int32) rfl rfl ?_
    refine g_icmpNo X464 hx 49 (hb hby at_46) (own_ii_lt_f (by decide)) rfl ?_
    refine g_aload X464 hx 51 (hb hby at_49) rfl rfl rfl ?_
    refine g_aload X464 hx 53 (hb hby at_51) rfl rfl rfl ?_
    refine g_aconst_null X464 hx 54 (hb hby at_53) rfl ?_
    have f605 : Exa Z h451 b420 "com/example/entitygate/entitygate/HtmlNode$Document" := (Exa.ext E451 f452)
    have f606 : Exa Z h451 b429 "com/example/entitygate/entitygate/HtmlNode$Document" := (Exa.ext E451 f454)
    have f607 : Exa Z h451 b439 "com/example/entitygate/entitygate/HtmlNode$Document" := (Exa.ext E451 A439)
    have f608 : Fld Z h451 b420 "com/example/entitygate/entitygate/HtmlNode" "parent" "Lcom/example/entitygate/entitygate/HtmlNode$Parent;" .null := (Fld.ext E451 (Fld.ext E439 (Fld.ext E429 f423)))
    have f609 : Fld Z h451 b420 "com/example/entitygate/entitygate/HtmlNode" "previous" "Lcom/example/entitygate/entitygate/HtmlNode;" .null := (Fld.ext E451 (Fld.ext E439 (Fld.ext E429 f426)))
    have f610 : Fld Z h451 b420 "com/example/entitygate/entitygate/HtmlNode" "next" "Lcom/example/entitygate/entitygate/HtmlNode;" .null := (Fld.ext E451 (Fld.ext E439 (Fld.ext E429 f427)))
    have f611 : Fld Z h451 b420 "com/example/entitygate/entitygate/HtmlNode$Parent" "first" "Lcom/example/entitygate/entitygate/HtmlNode;" .null := (Fld.ext E451 (Fld.ext E439 (Fld.ext E429 f424)))
    have f612 : Fld Z h451 b420 "com/example/entitygate/entitygate/HtmlNode$Parent" "last" "Lcom/example/entitygate/entitygate/HtmlNode;" .null := (Fld.ext E451 (Fld.ext E439 (Fld.ext E429 f425)))
    have f613 : Fld Z h451 b429 "com/example/entitygate/entitygate/HtmlNode" "parent" "Lcom/example/entitygate/entitygate/HtmlNode$Parent;" .null := (Fld.ext E451 (Fld.ext E439 f433))
    have f614 : Fld Z h451 b429 "com/example/entitygate/entitygate/HtmlNode" "previous" "Lcom/example/entitygate/entitygate/HtmlNode;" .null := (Fld.ext E451 (Fld.ext E439 f436))
    have f615 : Fld Z h451 b429 "com/example/entitygate/entitygate/HtmlNode" "next" "Lcom/example/entitygate/entitygate/HtmlNode;" .null := (Fld.ext E451 (Fld.ext E439 f437))
    have f616 : Fld Z h451 b429 "com/example/entitygate/entitygate/HtmlNode$Parent" "first" "Lcom/example/entitygate/entitygate/HtmlNode;" .null := (Fld.ext E451 (Fld.ext E439 f434))
    have f617 : Fld Z h451 b429 "com/example/entitygate/entitygate/HtmlNode$Parent" "last" "Lcom/example/entitygate/entitygate/HtmlNode;" .null := (Fld.ext E451 (Fld.ext E439 f435))
    have f618 : Fld Z h451 b439 "com/example/entitygate/entitygate/HtmlNode" "parent" "Lcom/example/entitygate/entitygate/HtmlNode$Parent;" .null := (Fld.ext E451 f445)
    have f619 : Fld Z h451 b439 "com/example/entitygate/entitygate/HtmlNode" "previous" "Lcom/example/entitygate/entitygate/HtmlNode;" .null := (Fld.ext E451 f448)
    have f620 : Fld Z h451 b439 "com/example/entitygate/entitygate/HtmlNode" "next" "Lcom/example/entitygate/entitygate/HtmlNode;" .null := (Fld.ext E451 f449)
    have f621 : Fld Z h451 b439 "com/example/entitygate/entitygate/HtmlNode$Parent" "first" "Lcom/example/entitygate/entitygate/HtmlNode;" .null := (Fld.ext E451 f446)
    have f622 : Fld Z h451 b439 "com/example/entitygate/entitygate/HtmlNode$Parent" "last" "Lcom/example/entitygate/entitygate/HtmlNode;" .null := (Fld.ext E451 f447)
    refine own_callU X464 hx hZ hown (hw _ (List.mem_of_getElem? (i := 46) rfl)) (hw _ (List.mem_of_getElem? (i := 47) rfl)) (hw _ (List.mem_of_getElem? (i := 48) rfl)) (by decide) (hw _ (List.mem_of_getElem? (i := 50) rfl)) (hw _ (List.mem_of_getElem? (i := 49) rfl)) (rm_ins0 l Z a0 hw [] b420 b429 b439 b451 h451 n0 z458 f605 f606 f607 A451 f608 f609 f610 f611 f612 f613 f614 f615 f616 f617 f618 f619 f620 f621 f622 f459 f462 f463 f460 f461 ne430 ne441 ne453 ne442 ne455 ne456 g_b420 g_b429 g_b439 g_b451) (hw _ (List.mem_of_getElem? (i := 51) rfl)) (hw _ (List.mem_of_getElem? (i := 9) rfl)) e464 0 (by decide) (by decide) (by decide) (by decide) f605 [(.ref b429), .null] [] rfl pd_3 rfl 57 rfl (by rw [hml]; rfl) rfl (hb hby at_54) rfl fun T604 v604 L604 X604 hQ604 => ?_
    obtain ⟨rfl, Nq604, Kq604, f604_0, f604_1, f604_2, f604_3, f604_4, f604_5, f604_6, f604_7, f604_8, f604_9⟩ := hQ604
    have N604 := Fr.app N464 Nq604
    have K623 : Keep h0 T604.heap [] := K457.trans Kq604 (allS (Or.inr sz_b429) (allS (Or.inr sz_b420) all0))
    have z624 : n0 ≤ T604.heap.size := (Nat.le_trans z458 Kq604.1)
    show own_Go p e below s _ _ _ (T604.setTop (mkF m 57 _ []))
    refine g_iload_n X604 hx 58 (hb hby at_57) rfl rfl ?_
    refine g_iconst X604 hx 59 (hb hby at_58) (2 : Int32) rfl rfl ?_
    refine g_icmpYes X604 hx 70 (hb hby at_59) (own_ii_lt_t (by decide)) (by decide) (by decide) ?_
    refine g_iload_n X604 hx 71 (hb hby at_70) rfl rfl ?_
    refine g_iconst X604 hx 72 (hb hby at_71) (3 : Int32) rfl rfl ?_
    refine g_icmpYes X604 hx 83 (hb hby at_72) (own_ii_lt_t (by decide)) (by decide) (by decide) ?_
    rcases own_four p1 q_k with rfl | rfl | rfl | rfl
    · show own_Go p e below s _ _ _ (T604.setTop (mkF m 83 _ []))
      refine g_iload_n X604 hx 84 (hb hby at_83) rfl rfl ?_
      refine g_ifNo X604 hx 87 (hb hby at_84) (own_i0_ne_f (by decide)) rfl ?_
      refine g_aload X604 hx 89 (hb hby at_87) rfl rfl rfl ?_
      refine g_goto X604 hx 114 (hb hby at_89) (by decide) (by decide) ?_
      refine g_astore X604 hx 116 (hb hby at_114) rfl (l' := #[.val (.int p0), .val (.int p1), .val (.int (1 : Int32)), .val (.int (0 : Int32)), .val (.ref b420), .val (.ref b429), .val (.ref b439), .val (.ref b451), .val (.ref b429), .unset, .unset, .unset, .unset, .unset, .unset, .unset, .unset]) rfl rfl ?_
      refine g_aload X604 hx 118 (hb hby at_116) rfl rfl rfl ?_
      have f626 : Exa Z T604.heap b420 "com/example/entitygate/entitygate/HtmlNode$Document" := (f605.keep Kq604)
      have f627 : Exa Z T604.heap b429 "com/example/entitygate/entitygate/HtmlNode$Document" := (f606.keep Kq604)
      have f628 : Exa Z T604.heap b439 "com/example/entitygate/entitygate/HtmlNode$Document" := (f607.keep Kq604)
      have f629 : Exa Z T604.heap b451 "com/example/entitygate/entitygate/HtmlNode$Document" := (A451.keep Kq604)
      have f630 : Fld Z T604.heap b439 "com/example/entitygate/entitygate/HtmlNode" "parent" "Lcom/example/entitygate/entitygate/HtmlNode$Parent;" .null := (f618.keep Kq604 (ninS (Ne.symm ne442) (ninS (Ne.symm ne441) nin0)))
      have f631 : Fld Z T604.heap b439 "com/example/entitygate/entitygate/HtmlNode" "previous" "Lcom/example/entitygate/entitygate/HtmlNode;" .null := (f619.keep Kq604 (ninS (Ne.symm ne442) (ninS (Ne.symm ne441) nin0)))
      have f632 : Fld Z T604.heap b439 "com/example/entitygate/entitygate/HtmlNode" "next" "Lcom/example/entitygate/entitygate/HtmlNode;" .null := (f620.keep Kq604 (ninS (Ne.symm ne442) (ninS (Ne.symm ne441) nin0)))
      have f633 : Fld Z T604.heap b439 "com/example/entitygate/entitygate/HtmlNode$Parent" "first" "Lcom/example/entitygate/entitygate/HtmlNode;" .null := (f621.keep Kq604 (ninS (Ne.symm ne442) (ninS (Ne.symm ne441) nin0)))
      have f634 : Fld Z T604.heap b439 "com/example/entitygate/entitygate/HtmlNode$Parent" "last" "Lcom/example/entitygate/entitygate/HtmlNode;" .null := (f622.keep Kq604 (ninS (Ne.symm ne442) (ninS (Ne.symm ne441) nin0)))
      have f635 : Fld Z T604.heap b451 "com/example/entitygate/entitygate/HtmlNode" "parent" "Lcom/example/entitygate/entitygate/HtmlNode$Parent;" .null := (f459.keep Kq604 (ninS (Ne.symm ne455) (ninS (Ne.symm ne453) nin0)))
      have f636 : Fld Z T604.heap b451 "com/example/entitygate/entitygate/HtmlNode" "previous" "Lcom/example/entitygate/entitygate/HtmlNode;" .null := (f462.keep Kq604 (ninS (Ne.symm ne455) (ninS (Ne.symm ne453) nin0)))
      have f637 : Fld Z T604.heap b451 "com/example/entitygate/entitygate/HtmlNode" "next" "Lcom/example/entitygate/entitygate/HtmlNode;" .null := (f463.keep Kq604 (ninS (Ne.symm ne455) (ninS (Ne.symm ne453) nin0)))
      have f638 : Fld Z T604.heap b451 "com/example/entitygate/entitygate/HtmlNode$Parent" "first" "Lcom/example/entitygate/entitygate/HtmlNode;" .null := (f460.keep Kq604 (ninS (Ne.symm ne455) (ninS (Ne.symm ne453) nin0)))
      have f639 : Fld Z T604.heap b451 "com/example/entitygate/entitygate/HtmlNode$Parent" "last" "Lcom/example/entitygate/entitygate/HtmlNode;" .null := (f461.keep Kq604 (ninS (Ne.symm ne455) (ninS (Ne.symm ne453) nin0)))
      refine own_callV X604 hx hZ hown (hw _ (List.mem_of_getElem? (i := 19) rfl)) (hw _ (List.mem_of_getElem? (i := 20) rfl)) (own_nf hZ (hw _ (List.mem_of_getElem? (i := 22) rfl))) (hw _ (List.mem_of_getElem? (i := 22) rfl)) (hw _ (List.mem_of_getElem? (i := 21) rfl)) (by decide) (rm_det10 l Z a0 hw [] b420 b429 b439 b451 T604.heap n0 z624 f626 f627 f628 f629 f604_5 f604_6 f604_7 f604_8 f604_9 f604_0 f604_1 f604_2 f604_3 f604_4 f630 f631 f632 f633 f634 f635 f636 f637 f638 f639 ne430 ne441 ne453 ne442 ne455 ne456 g_b420 g_b429 g_b439 g_b451) (hw _ (List.mem_of_getElem? (i := 23) rfl)) (hw _ (List.mem_of_getElem? (i := 14) rfl)) rfl 0 (by decide) (by decide) (by decide) (by decide) f627 [] [] rfl pd_0 rfl 121 rfl (by rw [hml]; rfl) rfl (hb hby at_118) rfl fun T625 v625 L625 X625 hQ625 => ?_
      obtain ⟨rfl, Nq625, Kq625, f625_0, f625_1, f625_2, f625_3, f625_4, f625_5, f625_6, f625_7, f625_8, f625_9⟩ := hQ625
      have N625 := Fr.app N604 Nq625
      have K640 : Keep h0 T625.heap [] := K623.trans Kq625 (allS (Or.inr sz_b429) (allS (Or.inr sz_b420) all0))
      have z641 : n0 ≤ T625.heap.size := (Nat.le_trans z624 Kq625.1)
      show own_Go p e below s _ _ _ (T625.setTop (mkF m 121 _ []))
      refine g_iload_n X625 hx 122 (hb hby at_121) rfl rfl ?_
      refine g_iconst X625 hx 123 (hb hby at_122) (1 : Int32) rfl rfl ?_
      refine g_icmpNo X625 hx 126 (hb hby at_123) (own_ii_lt_f (by decide)) rfl ?_
      refine g_iload_n X625 hx 127 (hb hby at_126) rfl rfl ?_
      refine g_ifYes X625 hx 134 (hb hby at_127) (own_i0_eq_t (by decide)) (by decide) (by decide) ?_
      refine g_iconst X625 hx 135 (hb hby at_134) (0 : Int32) rfl rfl ?_
      refine g_istore X625 hx 137 (hb hby at_135) (l' := #[.val (.int p0), .val (.int p1), .val (.int (1 : Int32)), .val (.int (0 : Int32)), .val (.ref b420), .val (.ref b429), .val (.ref b439), .val (.ref b451), .val (.ref b429), .val (.int (0 : Int32)), .unset, .unset, .unset, .unset, .unset, .unset, .unset]) rfl rfl ?_
      refine g_iload_n X625 hx 138 (hb hby at_137) rfl rfl ?_
      refine g_iconst X625 hx 139 (hb hby at_138) (2 : Int32) rfl rfl ?_
      refine g_icmpYes X625 hx 151 (hb hby at_139) (own_ii_lt_t (by decide)) (by decide) (by decide) ?_
      refine g_iconst X625 hx 152 (hb hby at_151) (0 : Int32) rfl rfl ?_
      refine g_istore X625 hx 154 (hb hby at_152) (l' := #[.val (.int p0), .val (.int p1), .val (.int (1 : Int32)), .val (.int (0 : Int32)), .val (.ref b420), .val (.ref b429), .val (.ref b439), .val (.ref b451), .val (.ref b429), .val (.int (0 : Int32)), .val (.int (0 : Int32)), .unset, .unset, .unset, .unset, .unset, .unset]) rfl rfl ?_
      refine g_iload_n X625 hx 155 (hb hby at_154) rfl rfl ?_
      refine g_iconst X625 hx 156 (hb hby at_155) (3 : Int32) rfl rfl ?_
      refine g_icmpYes X625 hx 168 (hb hby at_156) (own_ii_lt_t (by decide)) (by decide) (by decide) ?_
      refine g_iconst X625 hx 169 (hb hby at_168) (0 : Int32) rfl rfl ?_
      refine g_istore X625 hx 171 (hb hby at_169) (l' := #[.val (.int p0), .val (.int p1), .val (.int (1 : Int32)), .val (.int (0 : Int32)), .val (.ref b420), .val (.ref b429), .val (.ref b439), .val (.ref b451), .val (.ref b429), .val (.int (0 : Int32)), .val (.int (0 : Int32)), .val (.int (0 : Int32)), .unset, .unset, .unset, .unset, .unset]) rfl rfl ?_
      refine g_iconst X625 hx 172 (hb hby at_171) (3 : Int32) rfl rfl ?_
      refine own_newR X625 hx hZ hown (hw _ (List.mem_of_getElem? (i := 26) rfl)) (hw _ (List.mem_of_getElem? (i := 27) rfl)) rfl 175 (hb hby at_172) rfl (by decide) 3 (by decide) (by decide) (by decide) (by decide) fun T642 h642 k642 b642 X642 e642 g642 E642 A642 O642 => ?_
      have f643 : Exa Z T625.heap b420 "com/example/entitygate/entitygate/HtmlNode$Document" := (f626.keep Kq625)
      have ne644 : b420 ≠ b642 := Nat.ne_of_lt (Nat.lt_of_lt_of_le f643.lt (Nat.le_of_eq g642.symm))
      have f645 : Exa Z T625.heap b429 "com/example/entitygate/entitygate/HtmlNode$Document" := (f627.keep Kq625)
      have ne646 : b429 ≠ b642 := Nat.ne_of_lt (Nat.lt_of_lt_of_le f645.lt (Nat.le_of_eq g642.symm))
      have f647 : Exa Z T625.heap b439 "com/example/entitygate/entitygate/HtmlNode$Document" := (f628.keep Kq625)
      have ne648 : b439 ≠ b642 := Nat.ne_of_lt (Nat.lt_of_lt_of_le f647.lt (Nat.le_of_eq g642.symm))
      have f649 : Exa Z T625.heap b451 "com/example/entitygate/entitygate/HtmlNode$Document" := (f629.keep Kq625)
      have ne650 : b451 ≠ b642 := Nat.ne_of_lt (Nat.lt_of_lt_of_le f649.lt (Nat.le_of_eq g642.symm))
      have g_b642 : n0 ≤ b642 := Nat.le_trans z641 (Nat.le_of_eq g642.symm)
      have sz_b642 : h0.size ≤ b642 := Nat.le_trans K640.1 (Nat.le_of_eq g642.symm)
      have K651 : Keep h0 h642 [] := K640.ext E642
      have z652 : n0 ≤ h642.size := (Nat.le_trans z641 E642.1)
      have V642 : Arv Z h642 b642 k642 (.object "com/example/entitygate/entitygate/HtmlNode") (3 : Int32) [.null, .null, .null] .null := (Arv.new A642 (by decide)).pad (pad_rep [] .null 3)
      refine g_astore X642 hx 177 (hb hby at_175) rfl (l' := #[.val (.int p0), .val (.int p1), .val (.int (1 : Int32)), .val (.int (0 : Int32)), .val (.ref b420), .val (.ref b429), .val (.ref b439), .val (.ref b451), .val (.ref b429), .val (.int (0 : Int32)), .val (.int (0 : Int32)), .val (.int (0 : Int32)), .val (.ref b642), .unset, .unset, .unset, .unset]) rfl rfl ?_
      refine g_iconst X642 hx 178 (hb hby at_177) (0 : Int32) rfl rfl ?_
      refine g_istore X642 hx 180 (hb hby at_178) (l' := #[.val (.int p0), .val (.int p1), .val (.int (1 : Int32)), .val (.int (0 : Int32)), .val (.ref b420), .val (.ref b429), .val (.ref b439), .val (.ref b451), .val (.ref b429), .val (.int (0 : Int32)), .val (.int (0 : Int32)), .val (.int (0 : Int32)), .val (.ref b642), .val (.int (0 : Int32)), .unset, .unset, .unset]) rfl rfl ?_
      refine g_iload X642 hx 182 (hb hby at_180) rfl rfl ?_
      refine g_ifYes X642 hx 195 (hb hby at_182) (own_i0_eq_t (by decide)) (by decide) (by decide) ?_
      refine g_iload X642 hx 197 (hb hby at_195) rfl rfl ?_
      refine g_ifYes X642 hx 210 (hb hby at_197) (own_i0_eq_t (by decide)) (by decide) (by decide) ?_
      refine g_iload X642 hx 212 (hb hby at_210) rfl rfl ?_
      refine g_ifYes X642 hx 225 (hb hby at_212) (own_i0_eq_t (by decide)) (by decide) (by decide) ?_
      refine g_iload X642 hx 227 (hb hby at_225) rfl rfl ?_
      refine g_ifYes X642 hx 237 (hb hby at_227) (own_i0_le_t (by decide)) (by decide) (by decide) ?_
      refine g_aconst_null X642 hx 238 (hb hby at_237) rfl ?_
      refine g_astore X642 hx 240 (hb hby at_238) rfl (l' := #[.val (.int p0), .val (.int p1), .val (.int (1 : Int32)), .val (.int (0 : Int32)), .val (.ref b420), .val (.ref b429), .val (.ref b439), .val (.ref b451), .val (.ref b429), .val (.int (0 : Int32)), .val (.int (0 : Int32)), .val (.int (0 : Int32)), .val (.ref b642), .val (.int (0 : Int32)), .val .null, .unset, .unset]) rfl rfl ?_
      refine g_iload X642 hx 242 (hb hby at_240) rfl rfl ?_
      refine g_ifYes X642 hx 255 (hb hby at_242) (own_i0_le_t (by decide)) (by decide) (by decide) ?_
      refine g_aconst_null X642 hx 256 (hb hby at_255) rfl ?_
      refine g_astore X642 hx 258 (hb hby at_256) rfl (l' := #[.val (.int p0), .val (.int p1), .val (.int (1 : Int32)), .val (.int (0 : Int32)), .val (.ref b420), .val (.ref b429), .val (.ref b439), .val (.ref b451), .val (.ref b429), .val (.int (0 : Int32)), .val (.int (0 : Int32)), .val (.int (0 : Int32)), .val (.ref b642), .val (.int (0 : Int32)), .val .null, .val .null, .unset]) rfl rfl ?_
      refine g_aload X642 hx 260 (hb hby at_258) rfl rfl rfl ?_
      have f653 : Fld Z h642 b420 "com/example/entitygate/entitygate/HtmlNode$Parent" "first" "Lcom/example/entitygate/entitygate/HtmlNode;" .null := (Fld.ext E642 f625_8)
      refine own_getF X642 hx hZ hown (host := "") (Or.inl (hw _ (List.mem_of_getElem? (i := 28) rfl))) (Via.of (hw _ (List.mem_of_getElem? (i := 29) rfl))) e642 f653 263 (hb hby at_260) rfl fun T654 X654 e654 => ?_
      refine g_aload X654 hx 265 (hb hby at_263) rfl rfl rfl ?_
      refine g_acmp X654 hx (x := .null) (y := .null) (same := true) 268 (hb hby at_265) rfl rfl (decide_eq_true rfl) (by decide) (by decide) ?_
      refine g_aload X654 hx 270 (hb hby at_268) rfl rfl rfl ?_
      have f655 : Fld Z h642 b420 "com/example/entitygate/entitygate/HtmlNode$Parent" "last" "Lcom/example/entitygate/entitygate/HtmlNode;" .null := (Fld.ext E642 f625_9)
      refine own_getF X654 hx hZ hown (host := "") (Or.inl (hw _ (List.mem_of_getElem? (i := 31) rfl))) (Via.of (hw _ (List.mem_of_getElem? (i := 32) rfl))) e654 f655 273 (hb hby at_270) rfl fun T656 X656 e656 => ?_
      refine g_aload X656 hx 275 (hb hby at_273) rfl rfl rfl ?_
      refine g_acmp X656 hx (x := .null) (y := .null) (same := true) 278 (hb hby at_275) rfl rfl (decide_eq_true rfl) (by decide) (by decide) ?_
      refine g_aload X656 hx 280 (hb hby at_278) rfl rfl rfl ?_
      have f658 : Fld Z h642 b420 "com/example/entitygate/entitygate/HtmlNode" "parent" "Lcom/example/entitygate/entitygate/HtmlNode$Parent;" .null := (Fld.ext E642 f625_5)
      have f659 : Fld Z h642 b420 "com/example/entitygate/entitygate/HtmlNode" "previous" "Lcom/example/entitygate/entitygate/HtmlNode;" .null := (Fld.ext E642 f625_6)
      have f660 : Fld Z h642 b420 "com/example/entitygate/entitygate/HtmlNode" "next" "Lcom/example/entitygate/entitygate/HtmlNode;" .null := (Fld.ext E642 f625_7)
      refine own_callS X656 hx hZ hown (hw _ (List.mem_of_getElem? (i := 34) rfl)) (hw _ (List.mem_of_getElem? (i := 35) rfl)) (by decide) (rm_free1 l Z a0 hw [] b420 h642 n0 z652 f658 f659 f660) (hw _ (List.mem_of_getElem? (i := 37) rfl)) (hw _ (List.mem_of_getElem? (i := 36) rfl)) e656 0 (by decide) (by decide) (by decide) (by decide) [(.ref b420)] [] rfl pd_1 rfl 283 rfl (by rw [hml]; rfl) rfl (hb hby at_280) rfl fun T657 v657 L657 X657 hQ657 => ?_
      obtain ⟨rfl, Nq657, e657⟩ := hQ657
      have N657 := Fr.app N625 Nq657
      show own_Go p e below s _ _ _ (T657.setTop (mkF m 283 _ [(.int (1 : Int32))]))
      refine g_ifNo X657 hx 286 (hb hby at_283) (own_i0_eq_f (by decide)) rfl ?_
      refine g_iconst X657 hx 287 (hb hby at_286) (1 : Int32) rfl rfl ?_
      refine g_goto X657 hx 291 (hb hby at_287) (by decide) (by decide) ?_
      refine g_istore X657 hx 293 (hb hby at_291) (l' := #[.val (.int p0), .val (.int p1), .val (.int (1 : Int32)), .val (.int (0 : Int32)), .val (.ref b420), .val (.ref b429), .val (.ref b439), .val (.ref b451), .val (.ref b429), .val (.int (0 : Int32)), .val (.int (0 : Int32)), .val (.int (0 : Int32)), .val (.ref b642), .val (.int (0 : Int32)), .val .null, .val .null, .val (.int (1 : Int32))]) rfl rfl ?_
      refine g_iload X657 hx 295 (hb hby at_293) rfl rfl ?_
      refine g_ifNo X657 hx 298 (hb hby at_295) (own_i0_eq_f (by decide)) rfl ?_
      refine g_aload X657 hx 300 (hb hby at_298) rfl rfl rfl ?_
      refine g_iload X657 hx 302 (hb hby at_300) rfl rfl ?_
      refine g_iconst X657 hx 303 (hb hby at_302) (0 : Int32) rfl rfl ?_
      refine g_aload X657 hx 305 (hb hby at_303) rfl rfl rfl ?_
      refine own_callS X657 hx hZ hown (hw _ (List.mem_of_getElem? (i := 43) rfl)) (hw _ (List.mem_of_getElem? (i := 44) rfl)) (by decide) (rm_lk00 l Z a0 hw [] b642 b420 h642 n0 z652 ) (hw _ (List.mem_of_getElem? (i := 45) rfl)) (hw _ (List.mem_of_getElem? (i := 36) rfl)) e657 0 (by decide) (by decide) (by decide) (by decide) [(.ref b642), (.int (0 : Int32)), (.int (0 : Int32)), (.ref b420)] [] rfl pd_2 rfl 308 rfl (by rw [hml]; rfl) rfl (hb hby at_305) rfl fun T661 v661 L661 X661 hQ661 => ?_
      obtain ⟨rfl, Nq661, e661⟩ := hQ661
      have N661 := Fr.app N657 Nq661
      show own_Go p e below s _ _ _ (T661.setTop (mkF m 308 _ [(.int (1 : Int32))]))
      refine g_ifNo X661 hx 311 (hb hby at_308) (own_i0_eq_f (by decide)) rfl ?_
      refine g_aload X661 hx 313 (hb hby at_311) rfl rfl rfl ?_
      refine g_iload X661 hx 315 (hb hby at_313) rfl rfl ?_
      refine g_iconst X661 hx 316 (hb hby at_315) (1 : Int32) rfl rfl ?_
      refine g_aload X661 hx 318 (hb hby at_316) rfl rfl rfl ?_
      refine own_callS X661 hx hZ hown (hw _ (List.mem_of_getElem? (i := 43) rfl)) (hw _ (List.mem_of_getElem? (i := 44) rfl)) (by decide) (rm_lk01 l Z a0 hw [] b642 b420 h642 n0 z652 ) (hw _ (List.mem_of_getElem? (i := 45) rfl)) (hw _ (List.mem_of_getElem? (i := 36) rfl)) e661 0 (by decide) (by decide) (by decide) (by decide) [(.ref b642), (.int (0 : Int32)), (.int (1 : Int32)), (.ref b420)] [] rfl pd_2 rfl 321 rfl (by rw [hml]; rfl) rfl (hb hby at_318) rfl fun T662 v662 L662 X662 hQ662 => ?_
      obtain ⟨rfl, Nq662, e662⟩ := hQ662
      have N662 := Fr.app N661 Nq662
      show own_Go p e below s _ _ _ (T662.setTop (mkF m 321 _ [(.int (1 : Int32))]))
      refine g_ifNo X662 hx 324 (hb hby at_321) (own_i0_eq_f (by decide)) rfl ?_
      refine g_aload X662 hx 326 (hb hby at_324) rfl rfl rfl ?_
      refine g_iload X662 hx 328 (hb hby at_326) rfl rfl ?_
      refine g_iconst X662 hx 329 (hb hby at_328) (2 : Int32) rfl rfl ?_
      refine g_aload X662 hx 331 (hb hby at_329) rfl rfl rfl ?_
      refine own_callS X662 hx hZ hown (hw _ (List.mem_of_getElem? (i := 43) rfl)) (hw _ (List.mem_of_getElem? (i := 44) rfl)) (by decide) (rm_lk02 l Z a0 hw [] b642 b420 h642 n0 z652 ) (hw _ (List.mem_of_getElem? (i := 45) rfl)) (hw _ (List.mem_of_getElem? (i := 36) rfl)) e662 0 (by decide) (by decide) (by decide) (by decide) [(.ref b642), (.int (0 : Int32)), (.int (2 : Int32)), (.ref b420)] [] rfl pd_2 rfl 334 rfl (by rw [hml]; rfl) rfl (hb hby at_331) rfl fun T663 v663 L663 X663 hQ663 => ?_
      obtain ⟨rfl, Nq663, e663⟩ := hQ663
      have N663 := Fr.app N662 Nq663
      show own_Go p e below s _ _ _ (T663.setTop (mkF m 334 _ [(.int (1 : Int32))]))
      refine g_ifNo X663 hx 337 (hb hby at_334) (own_i0_eq_f (by decide)) rfl ?_
      refine g_iconst X663 hx 338 (hb hby at_337) (1 : Int32) rfl rfl ?_
      refine g_goto X663 hx 342 (hb hby at_338) (by decide) (by decide) ?_
      refine g_istore X663 hx 344 (hb hby at_342) (l' := #[.val (.int p0), .val (.int p1), .val (.int (1 : Int32)), .val (.int (0 : Int32)), .val (.ref b420), .val (.ref b429), .val (.ref b439), .val (.ref b451), .val (.ref b429), .val (.int (0 : Int32)), .val (.int (0 : Int32)), .val (.int (0 : Int32)), .val (.ref b642), .val (.int (0 : Int32)), .val .null, .val .null, .val (.int (1 : Int32))]) rfl rfl ?_
      refine g_iload X663 hx 346 (hb hby at_344) rfl rfl ?_
      refine g_ifNo X663 hx 349 (hb hby at_346) (own_i0_eq_f (by decide)) rfl ?_
      refine g_iload X663 hx 351 (hb hby at_349) rfl rfl ?_
      refine g_ifNo X663 hx 354 (hb hby at_351) (own_i0_ne_f (by decide)) rfl ?_
      refine g_aload X663 hx 356 (hb hby at_354) rfl rfl rfl ?_
      have f665 : Fld Z h642 b429 "com/example/entitygate/entitygate/HtmlNode" "parent" "Lcom/example/entitygate/entitygate/HtmlNode$Parent;" .null := (Fld.ext E642 f625_0)
      have f666 : Fld Z h642 b429 "com/example/entitygate/entitygate/HtmlNode" "previous" "Lcom/example/entitygate/entitygate/HtmlNode;" .null := (Fld.ext E642 f625_1)
      have f667 : Fld Z h642 b429 "com/example/entitygate/entitygate/HtmlNode" "next" "Lcom/example/entitygate/entitygate/HtmlNode;" .null := (Fld.ext E642 f625_2)
      refine own_callS X663 hx hZ hown (hw _ (List.mem_of_getElem? (i := 34) rfl)) (hw _ (List.mem_of_getElem? (i := 35) rfl)) (by decide) (rm_free1 l Z a0 hw [] b429 h642 n0 z652 f665 f666 f667) (hw _ (List.mem_of_getElem? (i := 37) rfl)) (hw _ (List.mem_of_getElem? (i := 36) rfl)) e663 0 (by decide) (by decide) (by decide) (by decide) [(.ref b429)] [] rfl pd_1 rfl 359 rfl (by rw [hml]; rfl) rfl (hb hby at_356) rfl fun T664 v664 L664 X664 hQ664 => ?_
      obtain ⟨rfl, Nq664, e664⟩ := hQ664
      have N664 := Fr.app N663 Nq664
      show own_Go p e below s _ _ _ (T664.setTop (mkF m 359 _ [(.int (1 : Int32))]))
      refine g_ifNo X664 hx 362 (hb hby at_359) (own_i0_eq_f (by decide)) rfl ?_
      refine g_iload X664 hx 364 (hb hby at_362) rfl rfl ?_
      refine g_ifNo X664 hx 367 (hb hby at_364) (own_i0_ne_f (by decide)) rfl ?_
      refine g_aload X664 hx 369 (hb hby at_367) rfl rfl rfl ?_
      have f669 : Fld Z h642 b439 "com/example/entitygate/entitygate/HtmlNode" "parent" "Lcom/example/entitygate/entitygate/HtmlNode$Parent;" .null := (Fld.ext E642 (f630.keep Kq625 (ninS (Ne.symm ne442) (ninS (Ne.symm ne441) nin0))))
      have f670 : Fld Z h642 b439 "com/example/entitygate/entitygate/HtmlNode" "previous" "Lcom/example/entitygate/entitygate/HtmlNode;" .null := (Fld.ext E642 (f631.keep Kq625 (ninS (Ne.symm ne442) (ninS (Ne.symm ne441) nin0))))
      have f671 : Fld Z h642 b439 "com/example/entitygate/entitygate/HtmlNode" "next" "Lcom/example/entitygate/entitygate/HtmlNode;" .null := (Fld.ext E642 (f632.keep Kq625 (ninS (Ne.symm ne442) (ninS (Ne.symm ne441) nin0))))
      refine own_callS X664 hx hZ hown (hw _ (List.mem_of_getElem? (i := 34) rfl)) (hw _ (List.mem_of_getElem? (i := 35) rfl)) (by decide) (rm_free1 l Z a0 hw [] b439 h642 n0 z652 f669 f670 f671) (hw _ (List.mem_of_getElem? (i := 37) rfl)) (hw _ (List.mem_of_getElem? (i := 36) rfl)) e664 0 (by decide) (by decide) (by decide) (by decide) [(.ref b439)] [] rfl pd_1 rfl 372 rfl (by rw [hml]; rfl) rfl (hb hby at_369) rfl fun T668 v668 L668 X668 hQ668 => ?_
      obtain ⟨rfl, Nq668, e668⟩ := hQ668
      have N668 := Fr.app N664 Nq668
      show own_Go p e below s _ _ _ (T668.setTop (mkF m 372 _ [(.int (1 : Int32))]))
      refine g_ifNo X668 hx 375 (hb hby at_372) (own_i0_eq_f (by decide)) rfl ?_
      refine g_iload X668 hx 377 (hb hby at_375) rfl rfl ?_
      refine g_ifNo X668 hx 380 (hb hby at_377) (own_i0_ne_f (by decide)) rfl ?_
      refine g_aload X668 hx 382 (hb hby at_380) rfl rfl rfl ?_
      have f673 : Fld Z h642 b451 "com/example/entitygate/entitygate/HtmlNode" "parent" "Lcom/example/entitygate/entitygate/HtmlNode$Parent;" .null := (Fld.ext E642 (f635.keep Kq625 (ninS (Ne.symm ne455) (ninS (Ne.symm ne453) nin0))))
      have f674 : Fld Z h642 b451 "com/example/entitygate/entitygate/HtmlNode" "previous" "Lcom/example/entitygate/entitygate/HtmlNode;" .null := (Fld.ext E642 (f636.keep Kq625 (ninS (Ne.symm ne455) (ninS (Ne.symm ne453) nin0))))
      have f675 : Fld Z h642 b451 "com/example/entitygate/entitygate/HtmlNode" "next" "Lcom/example/entitygate/entitygate/HtmlNode;" .null := (Fld.ext E642 (f637.keep Kq625 (ninS (Ne.symm ne455) (ninS (Ne.symm ne453) nin0))))
      refine own_callS X668 hx hZ hown (hw _ (List.mem_of_getElem? (i := 34) rfl)) (hw _ (List.mem_of_getElem? (i := 35) rfl)) (by decide) (rm_free1 l Z a0 hw [] b451 h642 n0 z652 f673 f674 f675) (hw _ (List.mem_of_getElem? (i := 37) rfl)) (hw _ (List.mem_of_getElem? (i := 36) rfl)) e668 0 (by decide) (by decide) (by decide) (by decide) [(.ref b451)] [] rfl pd_1 rfl 385 rfl (by rw [hml]; rfl) rfl (hb hby at_382) rfl fun T672 v672 L672 X672 hQ672 => ?_
      obtain ⟨rfl, Nq672, e672⟩ := hQ672
      have N672 := Fr.app N668 Nq672
      show own_Go p e below s _ _ _ (T672.setTop (mkF m 385 _ [(.int (1 : Int32))]))
      refine g_ifNo X672 hx 388 (hb hby at_385) (own_i0_eq_f (by decide)) rfl ?_
      refine g_iconst X672 hx 389 (hb hby at_388) (1 : Int32) rfl rfl ?_
      refine g_goto X672 hx 393 (hb hby at_389) (by decide) (by decide) ?_
      refine g_istore X672 hx 395 (hb hby at_393) (l' := #[.val (.int p0), .val (.int p1), .val (.int (1 : Int32)), .val (.int (0 : Int32)), .val (.ref b420), .val (.ref b429), .val (.ref b439), .val (.ref b451), .val (.ref b429), .val (.int (0 : Int32)), .val (.int (0 : Int32)), .val (.int (0 : Int32)), .val (.ref b642), .val (.int (0 : Int32)), .val .null, .val .null, .val (.int (1 : Int32))]) rfl rfl ?_
      refine g_iload X672 hx 397 (hb hby at_395) rfl rfl ?_
      refine own_retN X672 hx hlk (t := .boolean) hret (by simp) (hb hby at_397) ?_ (by decide) (by decide)
      rw [e672]
      exact ⟨rfl, N672⟩
    · show own_Go p e below s _ _ _ (T604.setTop (mkF m 83 _ []))
      refine g_iload_n X604 hx 84 (hb hby at_83) rfl rfl ?_
      refine g_ifYes X604 hx 92 (hb hby at_84) (own_i0_ne_t (by decide)) (by decide) (by decide) ?_
      refine g_iload_n X604 hx 93 (hb hby at_92) rfl rfl ?_
      refine g_iconst X604 hx 94 (hb hby at_93) (1 : Int32) rfl rfl ?_
      refine g_icmpNo X604 hx 97 (hb hby at_94) (own_ii_ne_f (by decide)) rfl ?_
      refine g_aload X604 hx 99 (hb hby at_97) rfl rfl rfl ?_
      refine g_goto X604 hx 114 (hb hby at_99) (by decide) (by decide) ?_
      refine g_astore X604 hx 116 (hb hby at_114) rfl (l' := #[.val (.int p0), .val (.int p1), .val (.int (1 : Int32)), .val (.int (1 : Int32)), .val (.ref b420), .val (.ref b429), .val (.ref b439), .val (.ref b451), .val (.ref b439), .unset, .unset, .unset, .unset, .unset, .unset, .unset, .unset]) rfl rfl ?_
      refine g_aload X604 hx 118 (hb hby at_116) rfl rfl rfl ?_
      have f677 : Fld Z T604.heap b439 "com/example/entitygate/entitygate/HtmlNode" "parent" "Lcom/example/entitygate/entitygate/HtmlNode$Parent;" .null := (f618.keep Kq604 (ninS (Ne.symm ne442) (ninS (Ne.symm ne441) nin0)))
      have f678 : Exa Z T604.heap b439 "com/example/entitygate/entitygate/HtmlNode$Document" := (f607.keep Kq604)
      refine own_callV X604 hx hZ hown (hw _ (List.mem_of_getElem? (i := 19) rfl)) (hw _ (List.mem_of_getElem? (i := 20) rfl)) (own_nf hZ (hw _ (List.mem_of_getElem? (i := 22) rfl))) (hw _ (List.mem_of_getElem? (i := 22) rfl)) (hw _ (List.mem_of_getElem? (i := 21) rfl)) (by decide) (rm_det0 l Z a0 hw [] b439 T604.heap n0 z624 f677) (hw _ (List.mem_of_getElem? (i := 23) rfl)) (hw _ (List.mem_of_getElem? (i := 14) rfl)) rfl 0 (by decide) (by decide) (by decide) (by decide) f678 [] [] rfl pd_0 rfl 121 rfl (by rw [hml]; rfl) rfl (hb hby at_118) rfl fun T676 v676 L676 X676 hQ676 => ?_
      obtain ⟨rfl, Nq676, e676⟩ := hQ676
      have N676 := Fr.app N604 Nq676
      show own_Go p e below s _ _ _ (T676.setTop (mkF m 121 _ []))
      refine g_iload_n X676 hx 122 (hb hby at_121) rfl rfl ?_
      refine g_iconst X676 hx 123 (hb hby at_122) (1 : Int32) rfl rfl ?_
      refine g_icmpNo X676 hx 126 (hb hby at_123) (own_ii_lt_f (by decide)) rfl ?_
      refine g_iload_n X676 hx 127 (hb hby at_126) rfl rfl ?_
      refine g_ifNo X676 hx 130 (hb hby at_127) (own_i0_eq_f (by decide)) rfl ?_
      refine g_iconst X676 hx 131 (hb hby at_130) (1 : Int32) rfl rfl ?_
      refine g_goto X676 hx 135 (hb hby at_131) (by decide) (by decide) ?_
      refine g_istore X676 hx 137 (hb hby at_135) (l' := #[.val (.int p0), .val (.int p1), .val (.int (1 : Int32)), .val (.int (1 : Int32)), .val (.ref b420), .val (.ref b429), .val (.ref b439), .val (.ref b451), .val (.ref b439), .val (.int (1 : Int32)), .unset, .unset, .unset, .unset, .unset, .unset, .unset]) rfl rfl ?_
      refine g_iload_n X676 hx 138 (hb hby at_137) rfl rfl ?_
      refine g_iconst X676 hx 139 (hb hby at_138) (2 : Int32) rfl rfl ?_
      refine g_icmpYes X676 hx 151 (hb hby at_139) (own_ii_lt_t (by decide)) (by decide) (by decide) ?_
      refine g_iconst X676 hx 152 (hb hby at_151) (0 : Int32) rfl rfl ?_
      refine g_istore X676 hx 154 (hb hby at_152) (l' := #[.val (.int p0), .val (.int p1), .val (.int (1 : Int32)), .val (.int (1 : Int32)), .val (.ref b420), .val (.ref b429), .val (.ref b439), .val (.ref b451), .val (.ref b439), .val (.int (1 : Int32)), .val (.int (0 : Int32)), .unset, .unset, .unset, .unset, .unset, .unset]) rfl rfl ?_
      refine g_iload_n X676 hx 155 (hb hby at_154) rfl rfl ?_
      refine g_iconst X676 hx 156 (hb hby at_155) (3 : Int32) rfl rfl ?_
      refine g_icmpYes X676 hx 168 (hb hby at_156) (own_ii_lt_t (by decide)) (by decide) (by decide) ?_
      refine g_iconst X676 hx 169 (hb hby at_168) (0 : Int32) rfl rfl ?_
      refine g_istore X676 hx 171 (hb hby at_169) (l' := #[.val (.int p0), .val (.int p1), .val (.int (1 : Int32)), .val (.int (1 : Int32)), .val (.ref b420), .val (.ref b429), .val (.ref b439), .val (.ref b451), .val (.ref b439), .val (.int (1 : Int32)), .val (.int (0 : Int32)), .val (.int (0 : Int32)), .unset, .unset, .unset, .unset, .unset]) rfl rfl ?_
      refine g_iconst X676 hx 172 (hb hby at_171) (3 : Int32) rfl rfl ?_
      refine own_newR X676 hx hZ hown (hw _ (List.mem_of_getElem? (i := 26) rfl)) (hw _ (List.mem_of_getElem? (i := 27) rfl)) e676 175 (hb hby at_172) rfl (by decide) 3 (by decide) (by decide) (by decide) (by decide) fun T679 h679 k679 b679 X679 e679 g679 E679 A679 O679 => ?_
      have f680 : Exa Z T604.heap b420 "com/example/entitygate/entitygate/HtmlNode$Document" := (f605.keep Kq604)
      have ne681 : b420 ≠ b679 := Nat.ne_of_lt (Nat.lt_of_lt_of_le f680.lt (Nat.le_of_eq g679.symm))
      have f682 : Exa Z T604.heap b429 "com/example/entitygate/entitygate/HtmlNode$Document" := (f606.keep Kq604)
      have ne683 : b429 ≠ b679 := Nat.ne_of_lt (Nat.lt_of_lt_of_le f682.lt (Nat.le_of_eq g679.symm))
      have ne684 : b439 ≠ b679 := Nat.ne_of_lt (Nat.lt_of_lt_of_le f678.lt (Nat.le_of_eq g679.symm))
      have f685 : Exa Z T604.heap b451 "com/example/entitygate/entitygate/HtmlNode$Document" := (A451.keep Kq604)
      have ne686 : b451 ≠ b679 := Nat.ne_of_lt (Nat.lt_of_lt_of_le f685.lt (Nat.le_of_eq g679.symm))
      have g_b679 : n0 ≤ b679 := Nat.le_trans z624 (Nat.le_of_eq g679.symm)
      have sz_b679 : h0.size ≤ b679 := Nat.le_trans K623.1 (Nat.le_of_eq g679.symm)
      have K687 : Keep h0 h679 [] := K623.ext E679
      have z688 : n0 ≤ h679.size := (Nat.le_trans z624 E679.1)
      have V679 : Arv Z h679 b679 k679 (.object "com/example/entitygate/entitygate/HtmlNode") (3 : Int32) [.null, .null, .null] .null := (Arv.new A679 (by decide)).pad (pad_rep [] .null 3)
      refine g_astore X679 hx 177 (hb hby at_175) rfl (l' := #[.val (.int p0), .val (.int p1), .val (.int (1 : Int32)), .val (.int (1 : Int32)), .val (.ref b420), .val (.ref b429), .val (.ref b439), .val (.ref b451), .val (.ref b439), .val (.int (1 : Int32)), .val (.int (0 : Int32)), .val (.int (0 : Int32)), .val (.ref b679), .unset, .unset, .unset, .unset]) rfl rfl ?_
      refine g_iconst X679 hx 178 (hb hby at_177) (0 : Int32) rfl rfl ?_
      refine g_istore X679 hx 180 (hb hby at_178) (l' := #[.val (.int p0), .val (.int p1), .val (.int (1 : Int32)), .val (.int (1 : Int32)), .val (.ref b420), .val (.ref b429), .val (.ref b439), .val (.ref b451), .val (.ref b439), .val (.int (1 : Int32)), .val (.int (0 : Int32)), .val (.int (0 : Int32)), .val (.ref b679), .val (.int (0 : Int32)), .unset, .unset, .unset]) rfl rfl ?_
      refine g_iload X679 hx 182 (hb hby at_180) rfl rfl ?_
      refine g_ifNo X679 hx 185 (hb hby at_182) (own_i0_eq_f (by decide)) rfl ?_
      refine g_aload X679 hx 187 (hb hby at_185) rfl rfl rfl ?_
      refine g_iload X679 hx 189 (hb hby at_187) rfl rfl ?_
      refine g_aload X679 hx 191 (hb hby at_189) rfl rfl rfl ?_
      obtain ⟨cl689, Ar689, q689, S689, P689, H689, G689⟩ := id V679
      have hin689 := inb_of (j := (0 : Int32)) S689 ⟨by decide, by decide⟩
      have f690 : Exa Z h679 b429 "com/example/entitygate/entitygate/HtmlNode$Document" := (Exa.ext E679 f682)
      refine own_stR X679 hx hZ e679 Ar689 hin689 rfl (Sto.ofV Ar689 q689 O679 (Ins.of_exa f690 (hw _ (List.mem_of_getElem? (i := 61) rfl)))) 192 (hb hby at_191) rfl fun T689 h689 X689 e689 W689 => ?_
      have V689 : Arv Z h689 b679 k679 (.object "com/example/entitygate/entitygate/HtmlNode") (3 : Int32) [(.ref b429), .null, .null] .null := Arv.set Ar689 q689 S689 P689 H689 G689 (v := (.ref b429)) rfl W689 0 rfl (Nat.le_of_ble_eq_true rfl)
      have N689 := Fr.snoc X689 N676 g_b679
      have z691 : n0 ≤ h689.size := (Nat.le_trans z688 (Keep.of_wr W689).1)
      have K692 : Keep h0 h689 [] := K687.wr W689 (Or.inr sz_b679)
      refine g_iinc X689 hx 195 (hb hby at_192) (z := (1 : Int32)) rfl rfl (l' := #[.val (.int p0), .val (.int p1), .val (.int (1 : Int32)), .val (.int (1 : Int32)), .val (.ref b420), .val (.ref b429), .val (.ref b439), .val (.ref b451), .val (.ref b439), .val (.int (1 : Int32)), .val (.int (0 : Int32)), .val (.int (0 : Int32)), .val (.ref b679), .val (.int (1 : Int32)), .unset, .unset, .unset]) rfl rfl ?_
      refine g_iload X689 hx 197 (hb hby at_195) rfl rfl ?_
      refine g_ifYes X689 hx 210 (hb hby at_197) (own_i0_eq_t (by decide)) (by decide) (by decide) ?_
      refine g_iload X689 hx 212 (hb hby at_210) rfl rfl ?_
      refine g_ifYes X689 hx 225 (hb hby at_212) (own_i0_eq_t (by decide)) (by decide) (by decide) ?_
      refine g_iload X689 hx 227 (hb hby at_225) rfl rfl ?_
      refine g_ifNo X689 hx 230 (hb hby at_227) (own_i0_le_f (by decide)) rfl ?_
      refine g_aload X689 hx 232 (hb hby at_230) rfl rfl rfl ?_
      refine g_iconst X689 hx 233 (hb hby at_232) (0 : Int32) rfl rfl ?_
      obtain ⟨cl693, Ar693, q693, S693, P693, H693, G693⟩ := id V689
      have hin693 := inb_of (j := (0 : Int32)) S693 ⟨by decide, by decide⟩
      refine own_aaload X689 hx hZ e689 rfl Ar693 (v := (.ref b429)) hin693 (Has.at H693 hin693 rfl) 234 (hb hby at_233) rfl ?_
      refine g_goto X689 hx 238 (hb hby at_234) (by decide) (by decide) ?_
      refine g_astore X689 hx 240 (hb hby at_238) rfl (l' := #[.val (.int p0), .val (.int p1), .val (.int (1 : Int32)), .val (.int (1 : Int32)), .val (.ref b420), .val (.ref b429), .val (.ref b439), .val (.ref b451), .val (.ref b439), .val (.int (1 : Int32)), .val (.int (0 : Int32)), .val (.int (0 : Int32)), .val (.ref b679), .val (.int (1 : Int32)), .val (.ref b429), .unset, .unset]) rfl rfl ?_
      refine g_iload X689 hx 242 (hb hby at_240) rfl rfl ?_
      refine g_ifNo X689 hx 245 (hb hby at_242) (own_i0_le_f (by decide)) rfl ?_
      refine g_aload X689 hx 247 (hb hby at_245) rfl rfl rfl ?_
      refine g_iload X689 hx 249 (hb hby at_247) rfl rfl ?_
      refine g_iconst X689 hx 250 (hb hby at_249) (1 : Int32) rfl rfl ?_
      refine g_isub X689 hx 251 (hb hby at_250) rfl ?_
      show own_Go p e below s _ _ _ (T689.setTop (mkF m 251 _ [(.int (0 : Int32)), (.ref b679)]))
      obtain ⟨cl694, Ar694, q694, S694, P694, H694, G694⟩ := id V689
      have hin694 := inb_of (j := (0 : Int32)) S694 ⟨by decide, by decide⟩
      refine own_aaload X689 hx hZ e689 rfl Ar694 (v := (.ref b429)) hin694 (Has.at H694 hin694 rfl) 252 (hb hby at_251) rfl ?_
      refine g_goto X689 hx 256 (hb hby at_252) (by decide) (by decide) ?_
      refine g_astore X689 hx 258 (hb hby at_256) rfl (l' := #[.val (.int p0), .val (.int p1), .val (.int (1 : Int32)), .val (.int (1 : Int32)), .val (.ref b420), .val (.ref b429), .val (.ref b439), .val (.ref b451), .val (.ref b439), .val (.int (1 : Int32)), .val (.int (0 : Int32)), .val (.int (0 : Int32)), .val (.ref b679), .val (.int (1 : Int32)), .val (.ref b429), .val (.ref b429), .unset]) rfl rfl ?_
      refine g_aload X689 hx 260 (hb hby at_258) rfl rfl rfl ?_
      have f695 : Fld Z h689 b420 "com/example/entitygate/entitygate/HtmlNode$Parent" "first" "Lcom/example/entitygate/entitygate/HtmlNode;" (.ref b429) := (Fld.other W689 (Fld.ext E679 f604_8) (Or.inl ne681))
      refine own_getF X689 hx hZ hown (host := "") (Or.inl (hw _ (List.mem_of_getElem? (i := 28) rfl))) (Via.of (hw _ (List.mem_of_getElem? (i := 29) rfl))) e689 f695 263 (hb hby at_260) rfl fun T696 X696 e696 => ?_
      refine g_aload X696 hx 265 (hb hby at_263) rfl rfl rfl ?_
      refine g_acmp X696 hx (x := (.ref b429)) (y := (.ref b429)) (same := true) 268 (hb hby at_265) rfl rfl (decide_eq_true rfl) (by decide) (by decide) ?_
      refine g_aload X696 hx 270 (hb hby at_268) rfl rfl rfl ?_
      have f697 : Fld Z h689 b420 "com/example/entitygate/entitygate/HtmlNode$Parent" "last" "Lcom/example/entitygate/entitygate/HtmlNode;" (.ref b429) := (Fld.other W689 (Fld.ext E679 f604_9) (Or.inl ne681))
      refine own_getF X696 hx hZ hown (host := "") (Or.inl (hw _ (List.mem_of_getElem? (i := 31) rfl))) (Via.of (hw _ (List.mem_of_getElem? (i := 32) rfl))) e696 f697 273 (hb hby at_270) rfl fun T698 X698 e698 => ?_
      refine g_aload X698 hx 275 (hb hby at_273) rfl rfl rfl ?_
      refine g_acmp X698 hx (x := (.ref b429)) (y := (.ref b429)) (same := true) 278 (hb hby at_275) rfl rfl (decide_eq_true rfl) (by decide) (by decide) ?_
      refine g_aload X698 hx 280 (hb hby at_278) rfl rfl rfl ?_
      have f700 : Fld Z h689 b420 "com/example/entitygate/entitygate/HtmlNode" "parent" "Lcom/example/entitygate/entitygate/HtmlNode$Parent;" .null := (Fld.other W689 (Fld.ext E679 f604_5) (Or.inl ne681))
      have f701 : Fld Z h689 b420 "com/example/entitygate/entitygate/HtmlNode" "previous" "Lcom/example/entitygate/entitygate/HtmlNode;" .null := (Fld.other W689 (Fld.ext E679 f604_6) (Or.inl ne681))
      have f702 : Fld Z h689 b420 "com/example/entitygate/entitygate/HtmlNode" "next" "Lcom/example/entitygate/entitygate/HtmlNode;" .null := (Fld.other W689 (Fld.ext E679 f604_7) (Or.inl ne681))
      refine own_callS X698 hx hZ hown (hw _ (List.mem_of_getElem? (i := 34) rfl)) (hw _ (List.mem_of_getElem? (i := 35) rfl)) (by decide) (rm_free1 l Z a0 hw [] b420 h689 n0 z691 f700 f701 f702) (hw _ (List.mem_of_getElem? (i := 37) rfl)) (hw _ (List.mem_of_getElem? (i := 36) rfl)) e698 0 (by decide) (by decide) (by decide) (by decide) [(.ref b420)] [] rfl pd_1 rfl 283 rfl (by rw [hml]; rfl) rfl (hb hby at_280) rfl fun T699 v699 L699 X699 hQ699 => ?_
      obtain ⟨rfl, Nq699, e699⟩ := hQ699
      have N699 := Fr.app N689 Nq699
      show own_Go p e below s _ _ _ (T699.setTop (mkF m 283 _ [(.int (1 : Int32))]))
      refine g_ifNo X699 hx 286 (hb hby at_283) (own_i0_eq_f (by decide)) rfl ?_
      refine g_iconst X699 hx 287 (hb hby at_286) (1 : Int32) rfl rfl ?_
      refine g_goto X699 hx 291 (hb hby at_287) (by decide) (by decide) ?_
      refine g_istore X699 hx 293 (hb hby at_291) (l' := #[.val (.int p0), .val (.int p1), .val (.int (1 : Int32)), .val (.int (1 : Int32)), .val (.ref b420), .val (.ref b429), .val (.ref b439), .val (.ref b451), .val (.ref b439), .val (.int (1 : Int32)), .val (.int (0 : Int32)), .val (.int (0 : Int32)), .val (.ref b679), .val (.int (1 : Int32)), .val (.ref b429), .val (.ref b429), .val (.int (1 : Int32))]) rfl rfl ?_
      refine g_iload X699 hx 295 (hb hby at_293) rfl rfl ?_
      refine g_ifNo X699 hx 298 (hb hby at_295) (own_i0_eq_f (by decide)) rfl ?_
      refine g_aload X699 hx 300 (hb hby at_298) rfl rfl rfl ?_
      refine g_iload X699 hx 302 (hb hby at_300) rfl rfl ?_
      refine g_iconst X699 hx 303 (hb hby at_302) (0 : Int32) rfl rfl ?_
      refine g_aload X699 hx 305 (hb hby at_303) rfl rfl rfl ?_
      have f704 : Fld Z h689 b429 "com/example/entitygate/entitygate/HtmlNode" "parent" "Lcom/example/entitygate/entitygate/HtmlNode$Parent;" (.ref b420) := (Fld.other W689 (Fld.ext E679 f604_0) (Or.inl ne683))
      have f705 : Fld Z h689 b429 "com/example/entitygate/entitygate/HtmlNode" "previous" "Lcom/example/entitygate/entitygate/HtmlNode;" .null := (Fld.other W689 (Fld.ext E679 f604_1) (Or.inl ne683))
      have f706 : Fld Z h689 b429 "com/example/entitygate/entitygate/HtmlNode" "next" "Lcom/example/entitygate/entitygate/HtmlNode;" .null := (Fld.other W689 (Fld.ext E679 f604_2) (Or.inl ne683))
      refine own_callS X699 hx hZ hown (hw _ (List.mem_of_getElem? (i := 43) rfl)) (hw _ (List.mem_of_getElem? (i := 44) rfl)) (by decide) (rm_lk10 l Z a0 hw [] b679 k679 b420 b429 h689 n0 z691 f704 f705 f706 V689) (hw _ (List.mem_of_getElem? (i := 45) rfl)) (hw _ (List.mem_of_getElem? (i := 36) rfl)) e699 0 (by decide) (by decide) (by decide) (by decide) [(.ref b679), (.int (1 : Int32)), (.int (0 : Int32)), (.ref b420)] [] rfl pd_2 rfl 308 rfl (by rw [hml]; rfl) rfl (hb hby at_305) rfl fun T703 v703 L703 X703 hQ703 => ?_
      obtain ⟨rfl, Nq703, e703⟩ := hQ703
      have N703 := Fr.app N699 Nq703
      show own_Go p e below s _ _ _ (T703.setTop (mkF m 308 _ [(.int (1 : Int32))]))
      refine g_ifNo X703 hx 311 (hb hby at_308) (own_i0_eq_f (by decide)) rfl ?_
      refine g_aload X703 hx 313 (hb hby at_311) rfl rfl rfl ?_
      refine g_iload X703 hx 315 (hb hby at_313) rfl rfl ?_
      refine g_iconst X703 hx 316 (hb hby at_315) (1 : Int32) rfl rfl ?_
      refine g_aload X703 hx 318 (hb hby at_316) rfl rfl rfl ?_
      refine own_callS X703 hx hZ hown (hw _ (List.mem_of_getElem? (i := 43) rfl)) (hw _ (List.mem_of_getElem? (i := 44) rfl)) (by decide) (rm_lk11 l Z a0 hw [] b679 b420 h689 n0 z691 ) (hw _ (List.mem_of_getElem? (i := 45) rfl)) (hw _ (List.mem_of_getElem? (i := 36) rfl)) e703 0 (by decide) (by decide) (by decide) (by decide) [(.ref b679), (.int (1 : Int32)), (.int (1 : Int32)), (.ref b420)] [] rfl pd_2 rfl 321 rfl (by rw [hml]; rfl) rfl (hb hby at_318) rfl fun T707 v707 L707 X707 hQ707 => ?_
      obtain ⟨rfl, Nq707, e707⟩ := hQ707
      have N707 := Fr.app N703 Nq707
      show own_Go p e below s _ _ _ (T707.setTop (mkF m 321 _ [(.int (1 : Int32))]))
      refine g_ifNo X707 hx 324 (hb hby at_321) (own_i0_eq_f (by decide)) rfl ?_
      refine g_aload X707 hx 326 (hb hby at_324) rfl rfl rfl ?_
      refine g_iload X707 hx 328 (hb hby at_326) rfl rfl ?_
      refine g_iconst X707 hx 329 (hb hby at_328) (2 : Int32) rfl rfl ?_
      refine g_aload X707 hx 331 (hb hby at_329) rfl rfl rfl ?_
      refine own_callS X707 hx hZ hown (hw _ (List.mem_of_getElem? (i := 43) rfl)) (hw _ (List.mem_of_getElem? (i := 44) rfl)) (by decide) (rm_lk12 l Z a0 hw [] b679 b420 h689 n0 z691 ) (hw _ (List.mem_of_getElem? (i := 45) rfl)) (hw _ (List.mem_of_getElem? (i := 36) rfl)) e707 0 (by decide) (by decide) (by decide) (by decide) [(.ref b679), (.int (1 : Int32)), (.int (2 : Int32)), (.ref b420)] [] rfl pd_2 rfl 334 rfl (by rw [hml]; rfl) rfl (hb hby at_331) rfl fun T708 v708 L708 X708 hQ708 => ?_
      obtain ⟨rfl, Nq708, e708⟩ := hQ708
      have N708 := Fr.app N707 Nq708
      show own_Go p e below s _ _ _ (T708.setTop (mkF m 334 _ [(.int (1 : Int32))]))
      refine g_ifNo X708 hx 337 (hb hby at_334) (own_i0_eq_f (by decide)) rfl ?_
      refine g_iconst X708 hx 338 (hb hby at_337) (1 : Int32) rfl rfl ?_
      refine g_goto X708 hx 342 (hb hby at_338) (by decide) (by decide) ?_
      refine g_istore X708 hx 344 (hb hby at_342) (l' := #[.val (.int p0), .val (.int p1), .val (.int (1 : Int32)), .val (.int (1 : Int32)), .val (.ref b420), .val (.ref b429), .val (.ref b439), .val (.ref b451), .val (.ref b439), .val (.int (1 : Int32)), .val (.int (0 : Int32)), .val (.int (0 : Int32)), .val (.ref b679), .val (.int (1 : Int32)), .val (.ref b429), .val (.ref b429), .val (.int (1 : Int32))]) rfl rfl ?_
      refine g_iload X708 hx 346 (hb hby at_344) rfl rfl ?_
      refine g_ifNo X708 hx 349 (hb hby at_346) (own_i0_eq_f (by decide)) rfl ?_
      refine g_iload X708 hx 351 (hb hby at_349) rfl rfl ?_
      refine g_ifYes X708 hx 362 (hb hby at_351) (own_i0_ne_t (by decide)) (by decide) (by decide) ?_
      refine g_iload X708 hx 364 (hb hby at_362) rfl rfl ?_
      refine g_ifNo X708 hx 367 (hb hby at_364) (own_i0_ne_f (by decide)) rfl ?_
      refine g_aload X708 hx 369 (hb hby at_367) rfl rfl rfl ?_
      have f710 : Fld Z h689 b439 "com/example/entitygate/entitygate/HtmlNode" "parent" "Lcom/example/entitygate/entitygate/HtmlNode$Parent;" .null := (Fld.other W689 (Fld.ext E679 f677) (Or.inl ne684))
      have f711 : Fld Z h689 b439 "com/example/entitygate/entitygate/HtmlNode" "previous" "Lcom/example/entitygate/entitygate/HtmlNode;" .null := (Fld.other W689 (Fld.ext E679 (f619.keep Kq604 (ninS (Ne.symm ne442) (ninS (Ne.symm ne441) nin0)))) (Or.inl ne684))
      have f712 : Fld Z h689 b439 "com/example/entitygate/entitygate/HtmlNode" "next" "Lcom/example/entitygate/entitygate/HtmlNode;" .null := (Fld.other W689 (Fld.ext E679 (f620.keep Kq604 (ninS (Ne.symm ne442) (ninS (Ne.symm ne441) nin0)))) (Or.inl ne684))
      refine own_callS X708 hx hZ hown (hw _ (List.mem_of_getElem? (i := 34) rfl)) (hw _ (List.mem_of_getElem? (i := 35) rfl)) (by decide) (rm_free1 l Z a0 hw [] b439 h689 n0 z691 f710 f711 f712) (hw _ (List.mem_of_getElem? (i := 37) rfl)) (hw _ (List.mem_of_getElem? (i := 36) rfl)) e708 0 (by decide) (by decide) (by decide) (by decide) [(.ref b439)] [] rfl pd_1 rfl 372 rfl (by rw [hml]; rfl) rfl (hb hby at_369) rfl fun T709 v709 L709 X709 hQ709 => ?_
      obtain ⟨rfl, Nq709, e709⟩ := hQ709
      have N709 := Fr.app N708 Nq709
      show own_Go p e below s _ _ _ (T709.setTop (mkF m 372 _ [(.int (1 : Int32))]))
      refine g_ifNo X709 hx 375 (hb hby at_372) (own_i0_eq_f (by decide)) rfl ?_
      refine g_iload X709 hx 377 (hb hby at_375) rfl rfl ?_
      refine g_ifNo X709 hx 380 (hb hby at_377) (own_i0_ne_f (by decide)) rfl ?_
      refine g_aload X709 hx 382 (hb hby at_380) rfl rfl rfl ?_
      have f714 : Fld Z h689 b451 "com/example/entitygate/entitygate/HtmlNode" "parent" "Lcom/example/entitygate/entitygate/HtmlNode$Parent;" .null := (Fld.other W689 (Fld.ext E679 (f459.keep Kq604 (ninS (Ne.symm ne455) (ninS (Ne.symm ne453) nin0)))) (Or.inl ne686))
      have f715 : Fld Z h689 b451 "com/example/entitygate/entitygate/HtmlNode" "previous" "Lcom/example/entitygate/entitygate/HtmlNode;" .null := (Fld.other W689 (Fld.ext E679 (f462.keep Kq604 (ninS (Ne.symm ne455) (ninS (Ne.symm ne453) nin0)))) (Or.inl ne686))
      have f716 : Fld Z h689 b451 "com/example/entitygate/entitygate/HtmlNode" "next" "Lcom/example/entitygate/entitygate/HtmlNode;" .null := (Fld.other W689 (Fld.ext E679 (f463.keep Kq604 (ninS (Ne.symm ne455) (ninS (Ne.symm ne453) nin0)))) (Or.inl ne686))
      refine own_callS X709 hx hZ hown (hw _ (List.mem_of_getElem? (i := 34) rfl)) (hw _ (List.mem_of_getElem? (i := 35) rfl)) (by decide) (rm_free1 l Z a0 hw [] b451 h689 n0 z691 f714 f715 f716) (hw _ (List.mem_of_getElem? (i := 37) rfl)) (hw _ (List.mem_of_getElem? (i := 36) rfl)) e709 0 (by decide) (by decide) (by decide) (by decide) [(.ref b451)] [] rfl pd_1 rfl 385 rfl (by rw [hml]; rfl) rfl (hb hby at_382) rfl fun T713 v713 L713 X713 hQ713 => ?_
      obtain ⟨rfl, Nq713, e713⟩ := hQ713
      have N713 := Fr.app N709 Nq713
      show own_Go p e below s _ _ _ (T713.setTop (mkF m 385 _ [(.int (1 : Int32))]))
      refine g_ifNo X713 hx 388 (hb hby at_385) (own_i0_eq_f (by decide)) rfl ?_
      refine g_iconst X713 hx 389 (hb hby at_388) (1 : Int32) rfl rfl ?_
      refine g_goto X713 hx 393 (hb hby at_389) (by decide) (by decide) ?_
      refine g_istore X713 hx 395 (hb hby at_393) (l' := #[.val (.int p0), .val (.int p1), .val (.int (1 : Int32)), .val (.int (1 : Int32)), .val (.ref b420), .val (.ref b429), .val (.ref b439), .val (.ref b451), .val (.ref b439), .val (.int (1 : Int32)), .val (.int (0 : Int32)), .val (.int (0 : Int32)), .val (.ref b679), .val (.int (1 : Int32)), .val (.ref b429), .val (.ref b429), .val (.int (1 : Int32))]) rfl rfl ?_
      refine g_iload X713 hx 397 (hb hby at_395) rfl rfl ?_
      refine own_retN X713 hx hlk (t := .boolean) hret (by simp) (hb hby at_397) ?_ (by decide) (by decide)
      rw [e713]
      exact ⟨rfl, N713⟩
    · show own_Go p e below s _ _ _ (T604.setTop (mkF m 83 _ []))
      refine g_iload_n X604 hx 84 (hb hby at_83) rfl rfl ?_
      refine g_ifYes X604 hx 92 (hb hby at_84) (own_i0_ne_t (by decide)) (by decide) (by decide) ?_
      refine g_iload_n X604 hx 93 (hb hby at_92) rfl rfl ?_
      refine g_iconst X604 hx 94 (hb hby at_93) (1 : Int32) rfl rfl ?_
      refine g_icmpYes X604 hx 102 (hb hby at_94) (own_ii_ne_t (by decide)) (by decide) (by decide) ?_
      refine g_iload_n X604 hx 103 (hb hby at_102) rfl rfl ?_
      refine g_iconst X604 hx 104 (hb hby at_103) (2 : Int32) rfl rfl ?_
      refine g_icmpNo X604 hx 107 (hb hby at_104) (own_ii_ne_f (by decide)) rfl ?_
      refine g_aload X604 hx 109 (hb hby at_107) rfl rfl rfl ?_
      refine g_goto X604 hx 114 (hb hby at_109) (by decide) (by decide) ?_
      refine g_astore X604 hx 116 (hb hby at_114) rfl (l' := #[.val (.int p0), .val (.int p1), .val (.int (1 : Int32)), .val (.int (2 : Int32)), .val (.ref b420), .val (.ref b429), .val (.ref b439), .val (.ref b451), .val (.ref b451), .unset, .unset, .unset, .unset, .unset, .unset, .unset, .unset]) rfl rfl ?_
      refine g_aload X604 hx 118 (hb hby at_116) rfl rfl rfl ?_
      have f718 : Fld Z T604.heap b451 "com/example/entitygate/entitygate/HtmlNode" "parent" "Lcom/example/entitygate/entitygate/HtmlNode$Parent;" .null := (f459.keep Kq604 (ninS (Ne.symm ne455) (ninS (Ne.symm ne453) nin0)))
      have f719 : Exa Z T604.heap b451 "com/example/entitygate/entitygate/HtmlNode$Document" := (A451.keep Kq604)
      refine own_callV X604 hx hZ hown (hw _ (List.mem_of_getElem? (i := 19) rfl)) (hw _ (List.mem_of_getElem? (i := 20) rfl)) (own_nf hZ (hw _ (List.mem_of_getElem? (i := 22) rfl))) (hw _ (List.mem_of_getElem? (i := 22) rfl)) (hw _ (List.mem_of_getElem? (i := 21) rfl)) (by decide) (rm_det0 l Z a0 hw [] b451 T604.heap n0 z624 f718) (hw _ (List.mem_of_getElem? (i := 23) rfl)) (hw _ (List.mem_of_getElem? (i := 14) rfl)) rfl 0 (by decide) (by decide) (by decide) (by decide) f719 [] [] rfl pd_0 rfl 121 rfl (by rw [hml]; rfl) rfl (hb hby at_118) rfl fun T717 v717 L717 X717 hQ717 => ?_
      obtain ⟨rfl, Nq717, e717⟩ := hQ717
      have N717 := Fr.app N604 Nq717
      show own_Go p e below s _ _ _ (T717.setTop (mkF m 121 _ []))
      refine g_iload_n X717 hx 122 (hb hby at_121) rfl rfl ?_
      refine g_iconst X717 hx 123 (hb hby at_122) (1 : Int32) rfl rfl ?_
      refine g_icmpNo X717 hx 126 (hb hby at_123) (own_ii_lt_f (by decide)) rfl ?_
      refine g_iload_n X717 hx 127 (hb hby at_126) rfl rfl ?_
      refine g_ifNo X717 hx 130 (hb hby at_127) (own_i0_eq_f (by decide)) rfl ?_
      refine g_iconst X717 hx 131 (hb hby at_130) (1 : Int32) rfl rfl ?_
      refine g_goto X717 hx 135 (hb hby at_131) (by decide) (by decide) ?_
      refine g_istore X717 hx 137 (hb hby at_135) (l' := #[.val (.int p0), .val (.int p1), .val (.int (1 : Int32)), .val (.int (2 : Int32)), .val (.ref b420), .val (.ref b429), .val (.ref b439), .val (.ref b451), .val (.ref b451), .val (.int (1 : Int32)), .unset, .unset, .unset, .unset, .unset, .unset, .unset]) rfl rfl ?_
      refine g_iload_n X717 hx 138 (hb hby at_137) rfl rfl ?_
      refine g_iconst X717 hx 139 (hb hby at_138) (2 : Int32) rfl rfl ?_
      refine g_icmpYes X717 hx 151 (hb hby at_139) (own_ii_lt_t (by decide)) (by decide) (by decide) ?_
      refine g_iconst X717 hx 152 (hb hby at_151) (0 : Int32) rfl rfl ?_
      refine g_istore X717 hx 154 (hb hby at_152) (l' := #[.val (.int p0), .val (.int p1), .val (.int (1 : Int32)), .val (.int (2 : Int32)), .val (.ref b420), .val (.ref b429), .val (.ref b439), .val (.ref b451), .val (.ref b451), .val (.int (1 : Int32)), .val (.int (0 : Int32)), .unset, .unset, .unset, .unset, .unset, .unset]) rfl rfl ?_
      refine g_iload_n X717 hx 155 (hb hby at_154) rfl rfl ?_
      refine g_iconst X717 hx 156 (hb hby at_155) (3 : Int32) rfl rfl ?_
      refine g_icmpYes X717 hx 168 (hb hby at_156) (own_ii_lt_t (by decide)) (by decide) (by decide) ?_
      refine g_iconst X717 hx 169 (hb hby at_168) (0 : Int32) rfl rfl ?_
      refine g_istore X717 hx 171 (hb hby at_169) (l' := #[.val (.int p0), .val (.int p1), .val (.int (1 : Int32)), .val (.int (2 : Int32)), .val (.ref b420), .val (.ref b429), .val (.ref b439), .val (.ref b451), .val (.ref b451), .val (.int (1 : Int32)), .val (.int (0 : Int32)), .val (.int (0 : Int32)), .unset, .unset, .unset, .unset, .unset]) rfl rfl ?_
      refine g_iconst X717 hx 172 (hb hby at_171) (3 : Int32) rfl rfl ?_
      refine own_newR X717 hx hZ hown (hw _ (List.mem_of_getElem? (i := 26) rfl)) (hw _ (List.mem_of_getElem? (i := 27) rfl)) e717 175 (hb hby at_172) rfl (by decide) 3 (by decide) (by decide) (by decide) (by decide) fun T720 h720 k720 b720 X720 e720 g720 E720 A720 O720 => ?_
      have f721 : Exa Z T604.heap b420 "com/example/entitygate/entitygate/HtmlNode$Document" := (f605.keep Kq604)
      have ne722 : b420 ≠ b720 := Nat.ne_of_lt (Nat.lt_of_lt_of_le f721.lt (Nat.le_of_eq g720.symm))
      have f723 : Exa Z T604.heap b429 "com/example/entitygate/entitygate/HtmlNode$Document" := (f606.keep Kq604)
      have ne724 : b429 ≠ b720 := Nat.ne_of_lt (Nat.lt_of_lt_of_le f723.lt (Nat.le_of_eq g720.symm))
      have f725 : Exa Z T604.heap b439 "com/example/entitygate/entitygate/HtmlNode$Document" := (f607.keep Kq604)
      have ne726 : b439 ≠ b720 := Nat.ne_of_lt (Nat.lt_of_lt_of_le f725.lt (Nat.le_of_eq g720.symm))
      have ne727 : b451 ≠ b720 := Nat.ne_of_lt (Nat.lt_of_lt_of_le f719.lt (Nat.le_of_eq g720.symm))
      have g_b720 : n0 ≤ b720 := Nat.le_trans z624 (Nat.le_of_eq g720.symm)
      have sz_b720 : h0.size ≤ b720 := Nat.le_trans K623.1 (Nat.le_of_eq g720.symm)
      have K728 : Keep h0 h720 [] := K623.ext E720
      have z729 : n0 ≤ h720.size := (Nat.le_trans z624 E720.1)
      have V720 : Arv Z h720 b720 k720 (.object "com/example/entitygate/entitygate/HtmlNode") (3 : Int32) [.null, .null, .null] .null := (Arv.new A720 (by decide)).pad (pad_rep [] .null 3)
      refine g_astore X720 hx 177 (hb hby at_175) rfl (l' := #[.val (.int p0), .val (.int p1), .val (.int (1 : Int32)), .val (.int (2 : Int32)), .val (.ref b420), .val (.ref b429), .val (.ref b439), .val (.ref b451), .val (.ref b451), .val (.int (1 : Int32)), .val (.int (0 : Int32)), .val (.int (0 : Int32)), .val (.ref b720), .unset, .unset, .unset, .unset]) rfl rfl ?_
      refine g_iconst X720 hx 178 (hb hby at_177) (0 : Int32) rfl rfl ?_
      refine g_istore X720 hx 180 (hb hby at_178) (l' := #[.val (.int p0), .val (.int p1), .val (.int (1 : Int32)), .val (.int (2 : Int32)), .val (.ref b420), .val (.ref b429), .val (.ref b439), .val (.ref b451), .val (.ref b451), .val (.int (1 : Int32)), .val (.int (0 : Int32)), .val (.int (0 : Int32)), .val (.ref b720), .val (.int (0 : Int32)), .unset, .unset, .unset]) rfl rfl ?_
      refine g_iload X720 hx 182 (hb hby at_180) rfl rfl ?_
      refine g_ifNo X720 hx 185 (hb hby at_182) (own_i0_eq_f (by decide)) rfl ?_
      refine g_aload X720 hx 187 (hb hby at_185) rfl rfl rfl ?_
      refine g_iload X720 hx 189 (hb hby at_187) rfl rfl ?_
      refine g_aload X720 hx 191 (hb hby at_189) rfl rfl rfl ?_
      obtain ⟨cl730, Ar730, q730, S730, P730, H730, G730⟩ := id V720
      have hin730 := inb_of (j := (0 : Int32)) S730 ⟨by decide, by decide⟩
      have f731 : Exa Z h720 b429 "com/example/entitygate/entitygate/HtmlNode$Document" := (Exa.ext E720 f723)
      refine own_stR X720 hx hZ e720 Ar730 hin730 rfl (Sto.ofV Ar730 q730 O720 (Ins.of_exa f731 (hw _ (List.mem_of_getElem? (i := 61) rfl)))) 192 (hb hby at_191) rfl fun T730 h730 X730 e730 W730 => ?_
      have V730 : Arv Z h730 b720 k720 (.object "com/example/entitygate/entitygate/HtmlNode") (3 : Int32) [(.ref b429), .null, .null] .null := Arv.set Ar730 q730 S730 P730 H730 G730 (v := (.ref b429)) rfl W730 0 rfl (Nat.le_of_ble_eq_true rfl)
      have N730 := Fr.snoc X730 N717 g_b720
      have z732 : n0 ≤ h730.size := (Nat.le_trans z729 (Keep.of_wr W730).1)
      have K733 : Keep h0 h730 [] := K728.wr W730 (Or.inr sz_b720)
      refine g_iinc X730 hx 195 (hb hby at_192) (z := (1 : Int32)) rfl rfl (l' := #[.val (.int p0), .val (.int p1), .val (.int (1 : Int32)), .val (.int (2 : Int32)), .val (.ref b420), .val (.ref b429), .val (.ref b439), .val (.ref b451), .val (.ref b451), .val (.int (1 : Int32)), .val (.int (0 : Int32)), .val (.int (0 : Int32)), .val (.ref b720), .val (.int (1 : Int32)), .unset, .unset, .unset]) rfl rfl ?_
      refine g_iload X730 hx 197 (hb hby at_195) rfl rfl ?_
      refine g_ifYes X730 hx 210 (hb hby at_197) (own_i0_eq_t (by decide)) (by decide) (by decide) ?_
      refine g_iload X730 hx 212 (hb hby at_210) rfl rfl ?_
      refine g_ifYes X730 hx 225 (hb hby at_212) (own_i0_eq_t (by decide)) (by decide) (by decide) ?_
      refine g_iload X730 hx 227 (hb hby at_225) rfl rfl ?_
      refine g_ifNo X730 hx 230 (hb hby at_227) (own_i0_le_f (by decide)) rfl ?_
      refine g_aload X730 hx 232 (hb hby at_230) rfl rfl rfl ?_
      refine g_iconst X730 hx 233 (hb hby at_232) (0 : Int32) rfl rfl ?_
      obtain ⟨cl734, Ar734, q734, S734, P734, H734, G734⟩ := id V730
      have hin734 := inb_of (j := (0 : Int32)) S734 ⟨by decide, by decide⟩
      refine own_aaload X730 hx hZ e730 rfl Ar734 (v := (.ref b429)) hin734 (Has.at H734 hin734 rfl) 234 (hb hby at_233) rfl ?_
      refine g_goto X730 hx 238 (hb hby at_234) (by decide) (by decide) ?_
      refine g_astore X730 hx 240 (hb hby at_238) rfl (l' := #[.val (.int p0), .val (.int p1), .val (.int (1 : Int32)), .val (.int (2 : Int32)), .val (.ref b420), .val (.ref b429), .val (.ref b439), .val (.ref b451), .val (.ref b451), .val (.int (1 : Int32)), .val (.int (0 : Int32)), .val (.int (0 : Int32)), .val (.ref b720), .val (.int (1 : Int32)), .val (.ref b429), .unset, .unset]) rfl rfl ?_
      refine g_iload X730 hx 242 (hb hby at_240) rfl rfl ?_
      refine g_ifNo X730 hx 245 (hb hby at_242) (own_i0_le_f (by decide)) rfl ?_
      refine g_aload X730 hx 247 (hb hby at_245) rfl rfl rfl ?_
      refine g_iload X730 hx 249 (hb hby at_247) rfl rfl ?_
      refine g_iconst X730 hx 250 (hb hby at_249) (1 : Int32) rfl rfl ?_
      refine g_isub X730 hx 251 (hb hby at_250) rfl ?_
      show own_Go p e below s _ _ _ (T730.setTop (mkF m 251 _ [(.int (0 : Int32)), (.ref b720)]))
      obtain ⟨cl735, Ar735, q735, S735, P735, H735, G735⟩ := id V730
      have hin735 := inb_of (j := (0 : Int32)) S735 ⟨by decide, by decide⟩
      refine own_aaload X730 hx hZ e730 rfl Ar735 (v := (.ref b429)) hin735 (Has.at H735 hin735 rfl) 252 (hb hby at_251) rfl ?_
      refine g_goto X730 hx 256 (hb hby at_252) (by decide) (by decide) ?_
      refine g_astore X730 hx 258 (hb hby at_256) rfl (l' := #[.val (.int p0), .val (.int p1), .val (.int (1 : Int32)), .val (.int (2 : Int32)), .val (.ref b420), .val (.ref b429), .val (.ref b439), .val (.ref b451), .val (.ref b451), .val (.int (1 : Int32)), .val (.int (0 : Int32)), .val (.int (0 : Int32)), .val (.ref b720), .val (.int (1 : Int32)), .val (.ref b429), .val (.ref b429), .unset]) rfl rfl ?_
      refine g_aload X730 hx 260 (hb hby at_258) rfl rfl rfl ?_
      have f736 : Fld Z h730 b420 "com/example/entitygate/entitygate/HtmlNode$Parent" "first" "Lcom/example/entitygate/entitygate/HtmlNode;" (.ref b429) := (Fld.other W730 (Fld.ext E720 f604_8) (Or.inl ne722))
      refine own_getF X730 hx hZ hown (host := "") (Or.inl (hw _ (List.mem_of_getElem? (i := 28) rfl))) (Via.of (hw _ (List.mem_of_getElem? (i := 29) rfl))) e730 f736 263 (hb hby at_260) rfl fun T737 X737 e737 => ?_
      refine g_aload X737 hx 265 (hb hby at_263) rfl rfl rfl ?_
      refine g_acmp X737 hx (x := (.ref b429)) (y := (.ref b429)) (same := true) 268 (hb hby at_265) rfl rfl (decide_eq_true rfl) (by decide) (by decide) ?_
      refine g_aload X737 hx 270 (hb hby at_268) rfl rfl rfl ?_
      have f738 : Fld Z h730 b420 "com/example/entitygate/entitygate/HtmlNode$Parent" "last" "Lcom/example/entitygate/entitygate/HtmlNode;" (.ref b429) := (Fld.other W730 (Fld.ext E720 f604_9) (Or.inl ne722))
      refine own_getF X737 hx hZ hown (host := "") (Or.inl (hw _ (List.mem_of_getElem? (i := 31) rfl))) (Via.of (hw _ (List.mem_of_getElem? (i := 32) rfl))) e737 f738 273 (hb hby at_270) rfl fun T739 X739 e739 => ?_
      refine g_aload X739 hx 275 (hb hby at_273) rfl rfl rfl ?_
      refine g_acmp X739 hx (x := (.ref b429)) (y := (.ref b429)) (same := true) 278 (hb hby at_275) rfl rfl (decide_eq_true rfl) (by decide) (by decide) ?_
      refine g_aload X739 hx 280 (hb hby at_278) rfl rfl rfl ?_
      have f741 : Fld Z h730 b420 "com/example/entitygate/entitygate/HtmlNode" "parent" "Lcom/example/entitygate/entitygate/HtmlNode$Parent;" .null := (Fld.other W730 (Fld.ext E720 f604_5) (Or.inl ne722))
      have f742 : Fld Z h730 b420 "com/example/entitygate/entitygate/HtmlNode" "previous" "Lcom/example/entitygate/entitygate/HtmlNode;" .null := (Fld.other W730 (Fld.ext E720 f604_6) (Or.inl ne722))
      have f743 : Fld Z h730 b420 "com/example/entitygate/entitygate/HtmlNode" "next" "Lcom/example/entitygate/entitygate/HtmlNode;" .null := (Fld.other W730 (Fld.ext E720 f604_7) (Or.inl ne722))
      refine own_callS X739 hx hZ hown (hw _ (List.mem_of_getElem? (i := 34) rfl)) (hw _ (List.mem_of_getElem? (i := 35) rfl)) (by decide) (rm_free1 l Z a0 hw [] b420 h730 n0 z732 f741 f742 f743) (hw _ (List.mem_of_getElem? (i := 37) rfl)) (hw _ (List.mem_of_getElem? (i := 36) rfl)) e739 0 (by decide) (by decide) (by decide) (by decide) [(.ref b420)] [] rfl pd_1 rfl 283 rfl (by rw [hml]; rfl) rfl (hb hby at_280) rfl fun T740 v740 L740 X740 hQ740 => ?_
      obtain ⟨rfl, Nq740, e740⟩ := hQ740
      have N740 := Fr.app N730 Nq740
      show own_Go p e below s _ _ _ (T740.setTop (mkF m 283 _ [(.int (1 : Int32))]))
      refine g_ifNo X740 hx 286 (hb hby at_283) (own_i0_eq_f (by decide)) rfl ?_
      refine g_iconst X740 hx 287 (hb hby at_286) (1 : Int32) rfl rfl ?_
      refine g_goto X740 hx 291 (hb hby at_287) (by decide) (by decide) ?_
      refine g_istore X740 hx 293 (hb hby at_291) (l' := #[.val (.int p0), .val (.int p1), .val (.int (1 : Int32)), .val (.int (2 : Int32)), .val (.ref b420), .val (.ref b429), .val (.ref b439), .val (.ref b451), .val (.ref b451), .val (.int (1 : Int32)), .val (.int (0 : Int32)), .val (.int (0 : Int32)), .val (.ref b720), .val (.int (1 : Int32)), .val (.ref b429), .val (.ref b429), .val (.int (1 : Int32))]) rfl rfl ?_
      refine g_iload X740 hx 295 (hb hby at_293) rfl rfl ?_
      refine g_ifNo X740 hx 298 (hb hby at_295) (own_i0_eq_f (by decide)) rfl ?_
      refine g_aload X740 hx 300 (hb hby at_298) rfl rfl rfl ?_
      refine g_iload X740 hx 302 (hb hby at_300) rfl rfl ?_
      refine g_iconst X740 hx 303 (hb hby at_302) (0 : Int32) rfl rfl ?_
      refine g_aload X740 hx 305 (hb hby at_303) rfl rfl rfl ?_
      have f745 : Fld Z h730 b429 "com/example/entitygate/entitygate/HtmlNode" "parent" "Lcom/example/entitygate/entitygate/HtmlNode$Parent;" (.ref b420) := (Fld.other W730 (Fld.ext E720 f604_0) (Or.inl ne724))
      have f746 : Fld Z h730 b429 "com/example/entitygate/entitygate/HtmlNode" "previous" "Lcom/example/entitygate/entitygate/HtmlNode;" .null := (Fld.other W730 (Fld.ext E720 f604_1) (Or.inl ne724))
      have f747 : Fld Z h730 b429 "com/example/entitygate/entitygate/HtmlNode" "next" "Lcom/example/entitygate/entitygate/HtmlNode;" .null := (Fld.other W730 (Fld.ext E720 f604_2) (Or.inl ne724))
      refine own_callS X740 hx hZ hown (hw _ (List.mem_of_getElem? (i := 43) rfl)) (hw _ (List.mem_of_getElem? (i := 44) rfl)) (by decide) (rm_lk10 l Z a0 hw [] b720 k720 b420 b429 h730 n0 z732 f745 f746 f747 V730) (hw _ (List.mem_of_getElem? (i := 45) rfl)) (hw _ (List.mem_of_getElem? (i := 36) rfl)) e740 0 (by decide) (by decide) (by decide) (by decide) [(.ref b720), (.int (1 : Int32)), (.int (0 : Int32)), (.ref b420)] [] rfl pd_2 rfl 308 rfl (by rw [hml]; rfl) rfl (hb hby at_305) rfl fun T744 v744 L744 X744 hQ744 => ?_
      obtain ⟨rfl, Nq744, e744⟩ := hQ744
      have N744 := Fr.app N740 Nq744
      show own_Go p e below s _ _ _ (T744.setTop (mkF m 308 _ [(.int (1 : Int32))]))
      refine g_ifNo X744 hx 311 (hb hby at_308) (own_i0_eq_f (by decide)) rfl ?_
      refine g_aload X744 hx 313 (hb hby at_311) rfl rfl rfl ?_
      refine g_iload X744 hx 315 (hb hby at_313) rfl rfl ?_
      refine g_iconst X744 hx 316 (hb hby at_315) (1 : Int32) rfl rfl ?_
      refine g_aload X744 hx 318 (hb hby at_316) rfl rfl rfl ?_
      refine own_callS X744 hx hZ hown (hw _ (List.mem_of_getElem? (i := 43) rfl)) (hw _ (List.mem_of_getElem? (i := 44) rfl)) (by decide) (rm_lk11 l Z a0 hw [] b720 b420 h730 n0 z732 ) (hw _ (List.mem_of_getElem? (i := 45) rfl)) (hw _ (List.mem_of_getElem? (i := 36) rfl)) e744 0 (by decide) (by decide) (by decide) (by decide) [(.ref b720), (.int (1 : Int32)), (.int (1 : Int32)), (.ref b420)] [] rfl pd_2 rfl 321 rfl (by rw [hml]; rfl) rfl (hb hby at_318) rfl fun T748 v748 L748 X748 hQ748 => ?_
      obtain ⟨rfl, Nq748, e748⟩ := hQ748
      have N748 := Fr.app N744 Nq748
      show own_Go p e below s _ _ _ (T748.setTop (mkF m 321 _ [(.int (1 : Int32))]))
      refine g_ifNo X748 hx 324 (hb hby at_321) (own_i0_eq_f (by decide)) rfl ?_
      refine g_aload X748 hx 326 (hb hby at_324) rfl rfl rfl ?_
      refine g_iload X748 hx 328 (hb hby at_326) rfl rfl ?_
      refine g_iconst X748 hx 329 (hb hby at_328) (2 : Int32) rfl rfl ?_
      refine g_aload X748 hx 331 (hb hby at_329) rfl rfl rfl ?_
      refine own_callS X748 hx hZ hown (hw _ (List.mem_of_getElem? (i := 43) rfl)) (hw _ (List.mem_of_getElem? (i := 44) rfl)) (by decide) (rm_lk12 l Z a0 hw [] b720 b420 h730 n0 z732 ) (hw _ (List.mem_of_getElem? (i := 45) rfl)) (hw _ (List.mem_of_getElem? (i := 36) rfl)) e748 0 (by decide) (by decide) (by decide) (by decide) [(.ref b720), (.int (1 : Int32)), (.int (2 : Int32)), (.ref b420)] [] rfl pd_2 rfl 334 rfl (by rw [hml]; rfl) rfl (hb hby at_331) rfl fun T749 v749 L749 X749 hQ749 => ?_
      obtain ⟨rfl, Nq749, e749⟩ := hQ749
      have N749 := Fr.app N748 Nq749
      show own_Go p e below s _ _ _ (T749.setTop (mkF m 334 _ [(.int (1 : Int32))]))
      refine g_ifNo X749 hx 337 (hb hby at_334) (own_i0_eq_f (by decide)) rfl ?_
      refine g_iconst X749 hx 338 (hb hby at_337) (1 : Int32) rfl rfl ?_
      refine g_goto X749 hx 342 (hb hby at_338) (by decide) (by decide) ?_
      refine g_istore X749 hx 344 (hb hby at_342) (l' := #[.val (.int p0), .val (.int p1), .val (.int (1 : Int32)), .val (.int (2 : Int32)), .val (.ref b420), .val (.ref b429), .val (.ref b439), .val (.ref b451), .val (.ref b451), .val (.int (1 : Int32)), .val (.int (0 : Int32)), .val (.int (0 : Int32)), .val (.ref b720), .val (.int (1 : Int32)), .val (.ref b429), .val (.ref b429), .val (.int (1 : Int32))]) rfl rfl ?_
      refine g_iload X749 hx 346 (hb hby at_344) rfl rfl ?_
      refine g_ifNo X749 hx 349 (hb hby at_346) (own_i0_eq_f (by decide)) rfl ?_
      refine g_iload X749 hx 351 (hb hby at_349) rfl rfl ?_
      refine g_ifYes X749 hx 362 (hb hby at_351) (own_i0_ne_t (by decide)) (by decide) (by decide) ?_
      refine g_iload X749 hx 364 (hb hby at_362) rfl rfl ?_
      refine g_ifNo X749 hx 367 (hb hby at_364) (own_i0_ne_f (by decide)) rfl ?_
      refine g_aload X749 hx 369 (hb hby at_367) rfl rfl rfl ?_
      have f751 : Fld Z h730 b439 "com/example/entitygate/entitygate/HtmlNode" "parent" "Lcom/example/entitygate/entitygate/HtmlNode$Parent;" .null := (Fld.other W730 (Fld.ext E720 (f618.keep Kq604 (ninS (Ne.symm ne442) (ninS (Ne.symm ne441) nin0)))) (Or.inl ne726))
      have f752 : Fld Z h730 b439 "com/example/entitygate/entitygate/HtmlNode" "previous" "Lcom/example/entitygate/entitygate/HtmlNode;" .null := (Fld.other W730 (Fld.ext E720 (f619.keep Kq604 (ninS (Ne.symm ne442) (ninS (Ne.symm ne441) nin0)))) (Or.inl ne726))
      have f753 : Fld Z h730 b439 "com/example/entitygate/entitygate/HtmlNode" "next" "Lcom/example/entitygate/entitygate/HtmlNode;" .null := (Fld.other W730 (Fld.ext E720 (f620.keep Kq604 (ninS (Ne.symm ne442) (ninS (Ne.symm ne441) nin0)))) (Or.inl ne726))
      refine own_callS X749 hx hZ hown (hw _ (List.mem_of_getElem? (i := 34) rfl)) (hw _ (List.mem_of_getElem? (i := 35) rfl)) (by decide) (rm_free1 l Z a0 hw [] b439 h730 n0 z732 f751 f752 f753) (hw _ (List.mem_of_getElem? (i := 37) rfl)) (hw _ (List.mem_of_getElem? (i := 36) rfl)) e749 0 (by decide) (by decide) (by decide) (by decide) [(.ref b439)] [] rfl pd_1 rfl 372 rfl (by rw [hml]; rfl) rfl (hb hby at_369) rfl fun T750 v750 L750 X750 hQ750 => ?_
      obtain ⟨rfl, Nq750, e750⟩ := hQ750
      have N750 := Fr.app N749 Nq750
      show own_Go p e below s _ _ _ (T750.setTop (mkF m 372 _ [(.int (1 : Int32))]))
      refine g_ifNo X750 hx 375 (hb hby at_372) (own_i0_eq_f (by decide)) rfl ?_
      refine g_iload X750 hx 377 (hb hby at_375) rfl rfl ?_
      refine g_ifNo X750 hx 380 (hb hby at_377) (own_i0_ne_f (by decide)) rfl ?_
      refine g_aload X750 hx 382 (hb hby at_380) rfl rfl rfl ?_
      have f755 : Fld Z h730 b451 "com/example/entitygate/entitygate/HtmlNode" "parent" "Lcom/example/entitygate/entitygate/HtmlNode$Parent;" .null := (Fld.other W730 (Fld.ext E720 f718) (Or.inl ne727))
      have f756 : Fld Z h730 b451 "com/example/entitygate/entitygate/HtmlNode" "previous" "Lcom/example/entitygate/entitygate/HtmlNode;" .null := (Fld.other W730 (Fld.ext E720 (f462.keep Kq604 (ninS (Ne.symm ne455) (ninS (Ne.symm ne453) nin0)))) (Or.inl ne727))
      have f757 : Fld Z h730 b451 "com/example/entitygate/entitygate/HtmlNode" "next" "Lcom/example/entitygate/entitygate/HtmlNode;" .null := (Fld.other W730 (Fld.ext E720 (f463.keep Kq604 (ninS (Ne.symm ne455) (ninS (Ne.symm ne453) nin0)))) (Or.inl ne727))
      refine own_callS X750 hx hZ hown (hw _ (List.mem_of_getElem? (i := 34) rfl)) (hw _ (List.mem_of_getElem? (i := 35) rfl)) (by decide) (rm_free1 l Z a0 hw [] b451 h730 n0 z732 f755 f756 f757) (hw _ (List.mem_of_getElem? (i := 37) rfl)) (hw _ (List.mem_of_getElem? (i := 36) rfl)) e750 0 (by decide) (by decide) (by decide) (by decide) [(.ref b451)] [] rfl pd_1 rfl 385 rfl (by rw [hml]; rfl) rfl (hb hby at_382) rfl fun T754 v754 L754 X754 hQ754 => ?_
      obtain ⟨rfl, Nq754, e754⟩ := hQ754
      have N754 := Fr.app N750 Nq754
      show own_Go p e below s _ _ _ (T754.setTop (mkF m 385 _ [(.int (1 : Int32))]))
      refine g_ifNo X754 hx 388 (hb hby at_385) (own_i0_eq_f (by decide)) rfl ?_
      refine g_iconst X754 hx 389 (hb hby at_388) (1 : Int32) rfl rfl ?_
      refine g_goto X754 hx 393 (hb hby at_389) (by decide) (by decide) ?_
      refine g_istore X754 hx 395 (hb hby at_393) (l' := #[.val (.int p0), .val (.int p1), .val (.int (1 : Int32)), .val (.int (2 : Int32)), .val (.ref b420), .val (.ref b429), .val (.ref b439), .val (.ref b451), .val (.ref b451), .val (.int (1 : Int32)), .val (.int (0 : Int32)), .val (.int (0 : Int32)), .val (.ref b720), .val (.int (1 : Int32)), .val (.ref b429), .val (.ref b429), .val (.int (1 : Int32))]) rfl rfl ?_
      refine g_iload X754 hx 397 (hb hby at_395) rfl rfl ?_
      refine own_retN X754 hx hlk (t := .boolean) hret (by simp) (hb hby at_397) ?_ (by decide) (by decide)
      rw [e754]
      exact ⟨rfl, N754⟩
    · show own_Go p e below s _ _ _ (T604.setTop (mkF m 83 _ []))
      refine g_iload_n X604 hx 84 (hb hby at_83) rfl rfl ?_
      refine g_ifYes X604 hx 92 (hb hby at_84) (own_i0_ne_t (by decide)) (by decide) (by decide) ?_
      refine g_iload_n X604 hx 93 (hb hby at_92) rfl rfl ?_
      refine g_iconst X604 hx 94 (hb hby at_93) (1 : Int32) rfl rfl ?_
      refine g_icmpYes X604 hx 102 (hb hby at_94) (own_ii_ne_t (by decide)) (by decide) (by decide) ?_
      refine g_iload_n X604 hx 103 (hb hby at_102) rfl rfl ?_
      refine g_iconst X604 hx 104 (hb hby at_103) (2 : Int32) rfl rfl ?_
      refine g_icmpYes X604 hx 112 (hb hby at_104) (own_ii_ne_t (by decide)) (by decide) (by decide) ?_
      refine g_aload X604 hx 114 (hb hby at_112) rfl rfl rfl ?_
      refine g_astore X604 hx 116 (hb hby at_114) rfl (l' := #[.val (.int p0), .val (.int p1), .val (.int (1 : Int32)), .val (.int (3 : Int32)), .val (.ref b420), .val (.ref b429), .val (.ref b439), .val (.ref b451), .val (.ref b420), .unset, .unset, .unset, .unset, .unset, .unset, .unset, .unset]) rfl rfl ?_
      refine g_aload X604 hx 118 (hb hby at_116) rfl rfl rfl ?_
      have f759 : Exa Z T604.heap b420 "com/example/entitygate/entitygate/HtmlNode$Document" := (f605.keep Kq604)
      refine own_callV X604 hx hZ hown (hw _ (List.mem_of_getElem? (i := 19) rfl)) (hw _ (List.mem_of_getElem? (i := 20) rfl)) (own_nf hZ (hw _ (List.mem_of_getElem? (i := 22) rfl))) (hw _ (List.mem_of_getElem? (i := 22) rfl)) (hw _ (List.mem_of_getElem? (i := 21) rfl)) (by decide) (rm_det0 l Z a0 hw [] b420 T604.heap n0 z624 f604_5) (hw _ (List.mem_of_getElem? (i := 23) rfl)) (hw _ (List.mem_of_getElem? (i := 14) rfl)) rfl 0 (by decide) (by decide) (by decide) (by decide) f759 [] [] rfl pd_0 rfl 121 rfl (by rw [hml]; rfl) rfl (hb hby at_118) rfl fun T758 v758 L758 X758 hQ758 => ?_
      obtain ⟨rfl, Nq758, e758⟩ := hQ758
      have N758 := Fr.app N604 Nq758
      show own_Go p e below s _ _ _ (T758.setTop (mkF m 121 _ []))
      refine g_iload_n X758 hx 122 (hb hby at_121) rfl rfl ?_
      refine g_iconst X758 hx 123 (hb hby at_122) (1 : Int32) rfl rfl ?_
      refine g_icmpNo X758 hx 126 (hb hby at_123) (own_ii_lt_f (by decide)) rfl ?_
      refine g_iload_n X758 hx 127 (hb hby at_126) rfl rfl ?_
      refine g_ifNo X758 hx 130 (hb hby at_127) (own_i0_eq_f (by decide)) rfl ?_
      refine g_iconst X758 hx 131 (hb hby at_130) (1 : Int32) rfl rfl ?_
      refine g_goto X758 hx 135 (hb hby at_131) (by decide) (by decide) ?_
      refine g_istore X758 hx 137 (hb hby at_135) (l' := #[.val (.int p0), .val (.int p1), .val (.int (1 : Int32)), .val (.int (3 : Int32)), .val (.ref b420), .val (.ref b429), .val (.ref b439), .val (.ref b451), .val (.ref b420), .val (.int (1 : Int32)), .unset, .unset, .unset, .unset, .unset, .unset, .unset]) rfl rfl ?_
      refine g_iload_n X758 hx 138 (hb hby at_137) rfl rfl ?_
      refine g_iconst X758 hx 139 (hb hby at_138) (2 : Int32) rfl rfl ?_
      refine g_icmpYes X758 hx 151 (hb hby at_139) (own_ii_lt_t (by decide)) (by decide) (by decide) ?_
      refine g_iconst X758 hx 152 (hb hby at_151) (0 : Int32) rfl rfl ?_
      refine g_istore X758 hx 154 (hb hby at_152) (l' := #[.val (.int p0), .val (.int p1), .val (.int (1 : Int32)), .val (.int (3 : Int32)), .val (.ref b420), .val (.ref b429), .val (.ref b439), .val (.ref b451), .val (.ref b420), .val (.int (1 : Int32)), .val (.int (0 : Int32)), .unset, .unset, .unset, .unset, .unset, .unset]) rfl rfl ?_
      refine g_iload_n X758 hx 155 (hb hby at_154) rfl rfl ?_
      refine g_iconst X758 hx 156 (hb hby at_155) (3 : Int32) rfl rfl ?_
      refine g_icmpYes X758 hx 168 (hb hby at_156) (own_ii_lt_t (by decide)) (by decide) (by decide) ?_
      refine g_iconst X758 hx 169 (hb hby at_168) (0 : Int32) rfl rfl ?_
      refine g_istore X758 hx 171 (hb hby at_169) (l' := #[.val (.int p0), .val (.int p1), .val (.int (1 : Int32)), .val (.int (3 : Int32)), .val (.ref b420), .val (.ref b429), .val (.ref b439), .val (.ref b451), .val (.ref b420), .val (.int (1 : Int32)), .val (.int (0 : Int32)), .val (.int (0 : Int32)), .unset, .unset, .unset, .unset, .unset]) rfl rfl ?_
      refine g_iconst X758 hx 172 (hb hby at_171) (3 : Int32) rfl rfl ?_
      refine own_newR X758 hx hZ hown (hw _ (List.mem_of_getElem? (i := 26) rfl)) (hw _ (List.mem_of_getElem? (i := 27) rfl)) e758 175 (hb hby at_172) rfl (by decide) 3 (by decide) (by decide) (by decide) (by decide) fun T760 h760 k760 b760 X760 e760 g760 E760 A760 O760 => ?_
      have ne761 : b420 ≠ b760 := Nat.ne_of_lt (Nat.lt_of_lt_of_le f759.lt (Nat.le_of_eq g760.symm))
      have f762 : Exa Z T604.heap b429 "com/example/entitygate/entitygate/HtmlNode$Document" := (f606.keep Kq604)
      have ne763 : b429 ≠ b760 := Nat.ne_of_lt (Nat.lt_of_lt_of_le f762.lt (Nat.le_of_eq g760.symm))
      have f764 : Exa Z T604.heap b439 "com/example/entitygate/entitygate/HtmlNode$Document" := (f607.keep Kq604)
      have ne765 : b439 ≠ b760 := Nat.ne_of_lt (Nat.lt_of_lt_of_le f764.lt (Nat.le_of_eq g760.symm))
      have f766 : Exa Z T604.heap b451 "com/example/entitygate/entitygate/HtmlNode$Document" := (A451.keep Kq604)
      have ne767 : b451 ≠ b760 := Nat.ne_of_lt (Nat.lt_of_lt_of_le f766.lt (Nat.le_of_eq g760.symm))
      have g_b760 : n0 ≤ b760 := Nat.le_trans z624 (Nat.le_of_eq g760.symm)
      have sz_b760 : h0.size ≤ b760 := Nat.le_trans K623.1 (Nat.le_of_eq g760.symm)
      have K768 : Keep h0 h760 [] := K623.ext E760
      have z769 : n0 ≤ h760.size := (Nat.le_trans z624 E760.1)
      have V760 : Arv Z h760 b760 k760 (.object "com/example/entitygate/entitygate/HtmlNode") (3 : Int32) [.null, .null, .null] .null := (Arv.new A760 (by decide)).pad (pad_rep [] .null 3)
      refine g_astore X760 hx 177 (hb hby at_175) rfl (l' := #[.val (.int p0), .val (.int p1), .val (.int (1 : Int32)), .val (.int (3 : Int32)), .val (.ref b420), .val (.ref b429), .val (.ref b439), .val (.ref b451), .val (.ref b420), .val (.int (1 : Int32)), .val (.int (0 : Int32)), .val (.int (0 : Int32)), .val (.ref b760), .unset, .unset, .unset, .unset]) rfl rfl ?_
      refine g_iconst X760 hx 178 (hb hby at_177) (0 : Int32) rfl rfl ?_
      refine g_istore X760 hx 180 (hb hby at_178) (l' := #[.val (.int p0), .val (.int p1), .val (.int (1 : Int32)), .val (.int (3 : Int32)), .val (.ref b420), .val (.ref b429), .val (.ref b439), .val (.ref b451), .val (.ref b420), .val (.int (1 : Int32)), .val (.int (0 : Int32)), .val (.int (0 : Int32)), .val (.ref b760), .val (.int (0 : Int32)), .unset, .unset, .unset]) rfl rfl ?_
      refine g_iload X760 hx 182 (hb hby at_180) rfl rfl ?_
      refine g_ifNo X760 hx 185 (hb hby at_182) (own_i0_eq_f (by decide)) rfl ?_
      refine g_aload X760 hx 187 (hb hby at_185) rfl rfl rfl ?_
      refine g_iload X760 hx 189 (hb hby at_187) rfl rfl ?_
      refine g_aload X760 hx 191 (hb hby at_189) rfl rfl rfl ?_
      obtain ⟨cl770, Ar770, q770, S770, P770, H770, G770⟩ := id V760
      have hin770 := inb_of (j := (0 : Int32)) S770 ⟨by decide, by decide⟩
      have f771 : Exa Z h760 b429 "com/example/entitygate/entitygate/HtmlNode$Document" := (Exa.ext E760 f762)
      refine own_stR X760 hx hZ e760 Ar770 hin770 rfl (Sto.ofV Ar770 q770 O760 (Ins.of_exa f771 (hw _ (List.mem_of_getElem? (i := 61) rfl)))) 192 (hb hby at_191) rfl fun T770 h770 X770 e770 W770 => ?_
      have V770 : Arv Z h770 b760 k760 (.object "com/example/entitygate/entitygate/HtmlNode") (3 : Int32) [(.ref b429), .null, .null] .null := Arv.set Ar770 q770 S770 P770 H770 G770 (v := (.ref b429)) rfl W770 0 rfl (Nat.le_of_ble_eq_true rfl)
      have N770 := Fr.snoc X770 N758 g_b760
      have z772 : n0 ≤ h770.size := (Nat.le_trans z769 (Keep.of_wr W770).1)
      have K773 : Keep h0 h770 [] := K768.wr W770 (Or.inr sz_b760)
      refine g_iinc X770 hx 195 (hb hby at_192) (z := (1 : Int32)) rfl rfl (l' := #[.val (.int p0), .val (.int p1), .val (.int (1 : Int32)), .val (.int (3 : Int32)), .val (.ref b420), .val (.ref b429), .val (.ref b439), .val (.ref b451), .val (.ref b420), .val (.int (1 : Int32)), .val (.int (0 : Int32)), .val (.int (0 : Int32)), .val (.ref b760), .val (.int (1 : Int32)), .unset, .unset, .unset]) rfl rfl ?_
      refine g_iload X770 hx 197 (hb hby at_195) rfl rfl ?_
      refine g_ifYes X770 hx 210 (hb hby at_197) (own_i0_eq_t (by decide)) (by decide) (by decide) ?_
      refine g_iload X770 hx 212 (hb hby at_210) rfl rfl ?_
      refine g_ifYes X770 hx 225 (hb hby at_212) (own_i0_eq_t (by decide)) (by decide) (by decide) ?_
      refine g_iload X770 hx 227 (hb hby at_225) rfl rfl ?_
      refine g_ifNo X770 hx 230 (hb hby at_227) (own_i0_le_f (by decide)) rfl ?_
      refine g_aload X770 hx 232 (hb hby at_230) rfl rfl rfl ?_
      refine g_iconst X770 hx 233 (hb hby at_232) (0 : Int32) rfl rfl ?_
      obtain ⟨cl774, Ar774, q774, S774, P774, H774, G774⟩ := id V770
      have hin774 := inb_of (j := (0 : Int32)) S774 ⟨by decide, by decide⟩
      refine own_aaload X770 hx hZ e770 rfl Ar774 (v := (.ref b429)) hin774 (Has.at H774 hin774 rfl) 234 (hb hby at_233) rfl ?_
      refine g_goto X770 hx 238 (hb hby at_234) (by decide) (by decide) ?_
      refine g_astore X770 hx 240 (hb hby at_238) rfl (l' := #[.val (.int p0), .val (.int p1), .val (.int (1 : Int32)), .val (.int (3 : Int32)), .val (.ref b420), .val (.ref b429), .val (.ref b439), .val (.ref b451), .val (.ref b420), .val (.int (1 : Int32)), .val (.int (0 : Int32)), .val (.int (0 : Int32)), .val (.ref b760), .val (.int (1 : Int32)), .val (.ref b429), .unset, .unset]) rfl rfl ?_
      refine g_iload X770 hx 242 (hb hby at_240) rfl rfl ?_
      refine g_ifNo X770 hx 245 (hb hby at_242) (own_i0_le_f (by decide)) rfl ?_
      refine g_aload X770 hx 247 (hb hby at_245) rfl rfl rfl ?_
      refine g_iload X770 hx 249 (hb hby at_247) rfl rfl ?_
      refine g_iconst X770 hx 250 (hb hby at_249) (1 : Int32) rfl rfl ?_
      refine g_isub X770 hx 251 (hb hby at_250) rfl ?_
      show own_Go p e below s _ _ _ (T770.setTop (mkF m 251 _ [(.int (0 : Int32)), (.ref b760)]))
      obtain ⟨cl775, Ar775, q775, S775, P775, H775, G775⟩ := id V770
      have hin775 := inb_of (j := (0 : Int32)) S775 ⟨by decide, by decide⟩
      refine own_aaload X770 hx hZ e770 rfl Ar775 (v := (.ref b429)) hin775 (Has.at H775 hin775 rfl) 252 (hb hby at_251) rfl ?_
      refine g_goto X770 hx 256 (hb hby at_252) (by decide) (by decide) ?_
      refine g_astore X770 hx 258 (hb hby at_256) rfl (l' := #[.val (.int p0), .val (.int p1), .val (.int (1 : Int32)), .val (.int (3 : Int32)), .val (.ref b420), .val (.ref b429), .val (.ref b439), .val (.ref b451), .val (.ref b420), .val (.int (1 : Int32)), .val (.int (0 : Int32)), .val (.int (0 : Int32)), .val (.ref b760), .val (.int (1 : Int32)), .val (.ref b429), .val (.ref b429), .unset]) rfl rfl ?_
      refine g_aload X770 hx 260 (hb hby at_258) rfl rfl rfl ?_
      have f776 : Fld Z h770 b420 "com/example/entitygate/entitygate/HtmlNode$Parent" "first" "Lcom/example/entitygate/entitygate/HtmlNode;" (.ref b429) := (Fld.other W770 (Fld.ext E760 f604_8) (Or.inl ne761))
      refine own_getF X770 hx hZ hown (host := "") (Or.inl (hw _ (List.mem_of_getElem? (i := 28) rfl))) (Via.of (hw _ (List.mem_of_getElem? (i := 29) rfl))) e770 f776 263 (hb hby at_260) rfl fun T777 X777 e777 => ?_
      refine g_aload X777 hx 265 (hb hby at_263) rfl rfl rfl ?_
      refine g_acmp X777 hx (x := (.ref b429)) (y := (.ref b429)) (same := true) 268 (hb hby at_265) rfl rfl (decide_eq_true rfl) (by decide) (by decide) ?_
      refine g_aload X777 hx 270 (hb hby at_268) rfl rfl rfl ?_
      have f778 : Fld Z h770 b420 "com/example/entitygate/entitygate/HtmlNode$Parent" "last" "Lcom/example/entitygate/entitygate/HtmlNode;" (.ref b429) := (Fld.other W770 (Fld.ext E760 f604_9) (Or.inl ne761))
      refine own_getF X777 hx hZ hown (host := "") (Or.inl (hw _ (List.mem_of_getElem? (i := 31) rfl))) (Via.of (hw _ (List.mem_of_getElem? (i := 32) rfl))) e777 f778 273 (hb hby at_270) rfl fun T779 X779 e779 => ?_
      refine g_aload X779 hx 275 (hb hby at_273) rfl rfl rfl ?_
      refine g_acmp X779 hx (x := (.ref b429)) (y := (.ref b429)) (same := true) 278 (hb hby at_275) rfl rfl (decide_eq_true rfl) (by decide) (by decide) ?_
      refine g_aload X779 hx 280 (hb hby at_278) rfl rfl rfl ?_
      have f781 : Fld Z h770 b420 "com/example/entitygate/entitygate/HtmlNode" "parent" "Lcom/example/entitygate/entitygate/HtmlNode$Parent;" .null := (Fld.other W770 (Fld.ext E760 f604_5) (Or.inl ne761))
      have f782 : Fld Z h770 b420 "com/example/entitygate/entitygate/HtmlNode" "previous" "Lcom/example/entitygate/entitygate/HtmlNode;" .null := (Fld.other W770 (Fld.ext E760 f604_6) (Or.inl ne761))
      have f783 : Fld Z h770 b420 "com/example/entitygate/entitygate/HtmlNode" "next" "Lcom/example/entitygate/entitygate/HtmlNode;" .null := (Fld.other W770 (Fld.ext E760 f604_7) (Or.inl ne761))
      refine own_callS X779 hx hZ hown (hw _ (List.mem_of_getElem? (i := 34) rfl)) (hw _ (List.mem_of_getElem? (i := 35) rfl)) (by decide) (rm_free1 l Z a0 hw [] b420 h770 n0 z772 f781 f782 f783) (hw _ (List.mem_of_getElem? (i := 37) rfl)) (hw _ (List.mem_of_getElem? (i := 36) rfl)) e779 0 (by decide) (by decide) (by decide) (by decide) [(.ref b420)] [] rfl pd_1 rfl 283 rfl (by rw [hml]; rfl) rfl (hb hby at_280) rfl fun T780 v780 L780 X780 hQ780 => ?_
      obtain ⟨rfl, Nq780, e780⟩ := hQ780
      have N780 := Fr.app N770 Nq780
      show own_Go p e below s _ _ _ (T780.setTop (mkF m 283 _ [(.int (1 : Int32))]))
      refine g_ifNo X780 hx 286 (hb hby at_283) (own_i0_eq_f (by decide)) rfl ?_
      refine g_iconst X780 hx 287 (hb hby at_286) (1 : Int32) rfl rfl ?_
      refine g_goto X780 hx 291 (hb hby at_287) (by decide) (by decide) ?_
      refine g_istore X780 hx 293 (hb hby at_291) (l' := #[.val (.int p0), .val (.int p1), .val (.int (1 : Int32)), .val (.int (3 : Int32)), .val (.ref b420), .val (.ref b429), .val (.ref b439), .val (.ref b451), .val (.ref b420), .val (.int (1 : Int32)), .val (.int (0 : Int32)), .val (.int (0 : Int32)), .val (.ref b760), .val (.int (1 : Int32)), .val (.ref b429), .val (.ref b429), .val (.int (1 : Int32))]) rfl rfl ?_
      refine g_iload X780 hx 295 (hb hby at_293) rfl rfl ?_
      refine g_ifNo X780 hx 298 (hb hby at_295) (own_i0_eq_f (by decide)) rfl ?_
      refine g_aload X780 hx 300 (hb hby at_298) rfl rfl rfl ?_
      refine g_iload X780 hx 302 (hb hby at_300) rfl rfl ?_
      refine g_iconst X780 hx 303 (hb hby at_302) (0 : Int32) rfl rfl ?_
      refine g_aload X780 hx 305 (hb hby at_303) rfl rfl rfl ?_
      have f785 : Fld Z h770 b429 "com/example/entitygate/entitygate/HtmlNode" "parent" "Lcom/example/entitygate/entitygate/HtmlNode$Parent;" (.ref b420) := (Fld.other W770 (Fld.ext E760 f604_0) (Or.inl ne763))
      have f786 : Fld Z h770 b429 "com/example/entitygate/entitygate/HtmlNode" "previous" "Lcom/example/entitygate/entitygate/HtmlNode;" .null := (Fld.other W770 (Fld.ext E760 f604_1) (Or.inl ne763))
      have f787 : Fld Z h770 b429 "com/example/entitygate/entitygate/HtmlNode" "next" "Lcom/example/entitygate/entitygate/HtmlNode;" .null := (Fld.other W770 (Fld.ext E760 f604_2) (Or.inl ne763))
      refine own_callS X780 hx hZ hown (hw _ (List.mem_of_getElem? (i := 43) rfl)) (hw _ (List.mem_of_getElem? (i := 44) rfl)) (by decide) (rm_lk10 l Z a0 hw [] b760 k760 b420 b429 h770 n0 z772 f785 f786 f787 V770) (hw _ (List.mem_of_getElem? (i := 45) rfl)) (hw _ (List.mem_of_getElem? (i := 36) rfl)) e780 0 (by decide) (by decide) (by decide) (by decide) [(.ref b760), (.int (1 : Int32)), (.int (0 : Int32)), (.ref b420)] [] rfl pd_2 rfl 308 rfl (by rw [hml]; rfl) rfl (hb hby at_305) rfl fun T784 v784 L784 X784 hQ784 => ?_
      obtain ⟨rfl, Nq784, e784⟩ := hQ784
      have N784 := Fr.app N780 Nq784
      show own_Go p e below s _ _ _ (T784.setTop (mkF m 308 _ [(.int (1 : Int32))]))
      refine g_ifNo X784 hx 311 (hb hby at_308) (own_i0_eq_f (by decide)) rfl ?_
      refine g_aload X784 hx 313 (hb hby at_311) rfl rfl rfl ?_
      refine g_iload X784 hx 315 (hb hby at_313) rfl rfl ?_
      refine g_iconst X784 hx 316 (hb hby at_315) (1 : Int32) rfl rfl ?_
      refine g_aload X784 hx 318 (hb hby at_316) rfl rfl rfl ?_
      refine own_callS X784 hx hZ hown (hw _ (List.mem_of_getElem? (i := 43) rfl)) (hw _ (List.mem_of_getElem? (i := 44) rfl)) (by decide) (rm_lk11 l Z a0 hw [] b760 b420 h770 n0 z772 ) (hw _ (List.mem_of_getElem? (i := 45) rfl)) (hw _ (List.mem_of_getElem? (i := 36) rfl)) e784 0 (by decide) (by decide) (by decide) (by decide) [(.ref b760), (.int (1 : Int32)), (.int (1 : Int32)), (.ref b420)] [] rfl pd_2 rfl 321 rfl (by rw [hml]; rfl) rfl (hb hby at_318) rfl fun T788 v788 L788 X788 hQ788 => ?_
      obtain ⟨rfl, Nq788, e788⟩ := hQ788
      have N788 := Fr.app N784 Nq788
      show own_Go p e below s _ _ _ (T788.setTop (mkF m 321 _ [(.int (1 : Int32))]))
      refine g_ifNo X788 hx 324 (hb hby at_321) (own_i0_eq_f (by decide)) rfl ?_
      refine g_aload X788 hx 326 (hb hby at_324) rfl rfl rfl ?_
      refine g_iload X788 hx 328 (hb hby at_326) rfl rfl ?_
      refine g_iconst X788 hx 329 (hb hby at_328) (2 : Int32) rfl rfl ?_
      refine g_aload X788 hx 331 (hb hby at_329) rfl rfl rfl ?_
      refine own_callS X788 hx hZ hown (hw _ (List.mem_of_getElem? (i := 43) rfl)) (hw _ (List.mem_of_getElem? (i := 44) rfl)) (by decide) (rm_lk12 l Z a0 hw [] b760 b420 h770 n0 z772 ) (hw _ (List.mem_of_getElem? (i := 45) rfl)) (hw _ (List.mem_of_getElem? (i := 36) rfl)) e788 0 (by decide) (by decide) (by decide) (by decide) [(.ref b760), (.int (1 : Int32)), (.int (2 : Int32)), (.ref b420)] [] rfl pd_2 rfl 334 rfl (by rw [hml]; rfl) rfl (hb hby at_331) rfl fun T789 v789 L789 X789 hQ789 => ?_
      obtain ⟨rfl, Nq789, e789⟩ := hQ789
      have N789 := Fr.app N788 Nq789
      show own_Go p e below s _ _ _ (T789.setTop (mkF m 334 _ [(.int (1 : Int32))]))
      refine g_ifNo X789 hx 337 (hb hby at_334) (own_i0_eq_f (by decide)) rfl ?_
      refine g_iconst X789 hx 338 (hb hby at_337) (1 : Int32) rfl rfl ?_
      refine g_goto X789 hx 342 (hb hby at_338) (by decide) (by decide) ?_
      refine g_istore X789 hx 344 (hb hby at_342) (l' := #[.val (.int p0), .val (.int p1), .val (.int (1 : Int32)), .val (.int (3 : Int32)), .val (.ref b420), .val (.ref b429), .val (.ref b439), .val (.ref b451), .val (.ref b420), .val (.int (1 : Int32)), .val (.int (0 : Int32)), .val (.int (0 : Int32)), .val (.ref b760), .val (.int (1 : Int32)), .val (.ref b429), .val (.ref b429), .val (.int (1 : Int32))]) rfl rfl ?_
      refine g_iload X789 hx 346 (hb hby at_344) rfl rfl ?_
      refine g_ifNo X789 hx 349 (hb hby at_346) (own_i0_eq_f (by decide)) rfl ?_
      refine g_iload X789 hx 351 (hb hby at_349) rfl rfl ?_
      refine g_ifYes X789 hx 362 (hb hby at_351) (own_i0_ne_t (by decide)) (by decide) (by decide) ?_
      refine g_iload X789 hx 364 (hb hby at_362) rfl rfl ?_
      refine g_ifNo X789 hx 367 (hb hby at_364) (own_i0_ne_f (by decide)) rfl ?_
      refine g_aload X789 hx 369 (hb hby at_367) rfl rfl rfl ?_
      have f791 : Fld Z h770 b439 "com/example/entitygate/entitygate/HtmlNode" "parent" "Lcom/example/entitygate/entitygate/HtmlNode$Parent;" .null := (Fld.other W770 (Fld.ext E760 (f618.keep Kq604 (ninS (Ne.symm ne442) (ninS (Ne.symm ne441) nin0)))) (Or.inl ne765))
      have f792 : Fld Z h770 b439 "com/example/entitygate/entitygate/HtmlNode" "previous" "Lcom/example/entitygate/entitygate/HtmlNode;" .null := (Fld.other W770 (Fld.ext E760 (f619.keep Kq604 (ninS (Ne.symm ne442) (ninS (Ne.symm ne441) nin0)))) (Or.inl ne765))
      have f793 : Fld Z h770 b439 "com/example/entitygate/entitygate/HtmlNode" "next" "Lcom/example/entitygate/entitygate/HtmlNode;" .null := (Fld.other W770 (Fld.ext E760 (f620.keep Kq604 (ninS (Ne.symm ne442) (ninS (Ne.symm ne441) nin0)))) (Or.inl ne765))
      refine own_callS X789 hx hZ hown (hw _ (List.mem_of_getElem? (i := 34) rfl)) (hw _ (List.mem_of_getElem? (i := 35) rfl)) (by decide) (rm_free1 l Z a0 hw [] b439 h770 n0 z772 f791 f792 f793) (hw _ (List.mem_of_getElem? (i := 37) rfl)) (hw _ (List.mem_of_getElem? (i := 36) rfl)) e789 0 (by decide) (by decide) (by decide) (by decide) [(.ref b439)] [] rfl pd_1 rfl 372 rfl (by rw [hml]; rfl) rfl (hb hby at_369) rfl fun T790 v790 L790 X790 hQ790 => ?_
      obtain ⟨rfl, Nq790, e790⟩ := hQ790
      have N790 := Fr.app N789 Nq790
      show own_Go p e below s _ _ _ (T790.setTop (mkF m 372 _ [(.int (1 : Int32))]))
      refine g_ifNo X790 hx 375 (hb hby at_372) (own_i0_eq_f (by decide)) rfl ?_
      refine g_iload X790 hx 377 (hb hby at_375) rfl rfl ?_
      refine g_ifNo X790 hx 380 (hb hby at_377) (own_i0_ne_f (by decide)) rfl ?_
      refine g_aload X790 hx 382 (hb hby at_380) rfl rfl rfl ?_
      have f795 : Fld Z h770 b451 "com/example/entitygate/entitygate/HtmlNode" "parent" "Lcom/example/entitygate/entitygate/HtmlNode$Parent;" .null := (Fld.other W770 (Fld.ext E760 (f459.keep Kq604 (ninS (Ne.symm ne455) (ninS (Ne.symm ne453) nin0)))) (Or.inl ne767))
      have f796 : Fld Z h770 b451 "com/example/entitygate/entitygate/HtmlNode" "previous" "Lcom/example/entitygate/entitygate/HtmlNode;" .null := (Fld.other W770 (Fld.ext E760 (f462.keep Kq604 (ninS (Ne.symm ne455) (ninS (Ne.symm ne453) nin0)))) (Or.inl ne767))
      have f797 : Fld Z h770 b451 "com/example/entitygate/entitygate/HtmlNode" "next" "Lcom/example/entitygate/entitygate/HtmlNode;" .null := (Fld.other W770 (Fld.ext E760 (f463.keep Kq604 (ninS (Ne.symm ne455) (ninS (Ne.symm ne453) nin0)))) (Or.inl ne767))
      refine own_callS X790 hx hZ hown (hw _ (List.mem_of_getElem? (i := 34) rfl)) (hw _ (List.mem_of_getElem? (i := 35) rfl)) (by decide) (rm_free1 l Z a0 hw [] b451 h770 n0 z772 f795 f796 f797) (hw _ (List.mem_of_getElem? (i := 37) rfl)) (hw _ (List.mem_of_getElem? (i := 36) rfl)) e790 0 (by decide) (by decide) (by decide) (by decide) [(.ref b451)] [] rfl pd_1 rfl 385 rfl (by rw [hml]; rfl) rfl (hb hby at_382) rfl fun T794 v794 L794 X794 hQ794 => ?_
      obtain ⟨rfl, Nq794, e794⟩ := hQ794
      have N794 := Fr.app N790 Nq794
      show own_Go p e below s _ _ _ (T794.setTop (mkF m 385 _ [(.int (1 : Int32))]))
      refine g_ifNo X794 hx 388 (hb hby at_385) (own_i0_eq_f (by decide)) rfl ?_
      refine g_iconst X794 hx 389 (hb hby at_388) (1 : Int32) rfl rfl ?_
      refine g_goto X794 hx 393 (hb hby at_389) (by decide) (by decide) ?_
      refine g_istore X794 hx 395 (hb hby at_393) (l' := #[.val (.int p0), .val (.int p1), .val (.int (1 : Int32)), .val (.int (3 : Int32)), .val (.ref b420), .val (.ref b429), .val (.ref b439), .val (.ref b451), .val (.ref b420), .val (.int (1 : Int32)), .val (.int (0 : Int32)), .val (.int (0 : Int32)), .val (.ref b760), .val (.int (1 : Int32)), .val (.ref b429), .val (.ref b429), .val (.int (1 : Int32))]) rfl rfl ?_
      refine g_iload X794 hx 397 (hb hby at_395) rfl rfl ?_
      refine own_retN X794 hx hlk (t := .boolean) hret (by simp) (hb hby at_397) ?_ (by decide) (by decide)
      rw [e794]
      exact ⟨rfl, N794⟩
  · show own_Go p e below s _ _ _ (T464.setTop (mkF m 44 _ []))
    refine g_iload_n X464 hx 45 (hb hby at_44) rfl rfl ?_
    refine g_iconst X464 hx 46 (hb hby at_45) (1 : Int32) rfl rfl ?_
    refine g_icmpNo X464 hx 49 (hb hby at_46) (own_ii_lt_f (by decide)) rfl ?_
    refine g_aload X464 hx 51 (hb hby at_49) rfl rfl rfl ?_
    refine g_aload X464 hx 53 (hb hby at_51) rfl rfl rfl ?_
    refine g_aconst_null X464 hx 54 (hb hby at_53) rfl ?_
    have f799 : Exa Z h451 b420 "com/example/entitygate/entitygate/HtmlNode$Document" := (Exa.ext E451 f452)
    have f800 : Exa Z h451 b429 "com/example/entitygate/entitygate/HtmlNode$Document" := (Exa.ext E451 f454)
    have f801 : Exa Z h451 b439 "com/example/entitygate/entitygate/HtmlNode$Document" := (Exa.ext E451 A439)
    have f802 : Fld Z h451 b420 "com/example/entitygate/entitygate/HtmlNode" "parent" "Lcom/example/entitygate/entitygate/HtmlNode$Parent;" .null := (Fld.ext E451 (Fld.ext E439 (Fld.ext E429 f423)))
    have f803 : Fld Z h451 b420 "com/example/entitygate/entitygate/HtmlNode" "previous" "Lcom/example/entitygate/entitygate/HtmlNode;" .null := (Fld.ext E451 (Fld.ext E439 (Fld.ext E429 f426)))
    have f804 : Fld Z h451 b420 "com/example/entitygate/entitygate/HtmlNode" "next" "Lcom/example/entitygate/entitygate/HtmlNode;" .null := (Fld.ext E451 (Fld.ext E439 (Fld.ext E429 f427)))
    have f805 : Fld Z h451 b420 "com/example/entitygate/entitygate/HtmlNode$Parent" "first" "Lcom/example/entitygate/entitygate/HtmlNode;" .null := (Fld.ext E451 (Fld.ext E439 (Fld.ext E429 f424)))
    have f806 : Fld Z h451 b420 "com/example/entitygate/entitygate/HtmlNode$Parent" "last" "Lcom/example/entitygate/entitygate/HtmlNode;" .null := (Fld.ext E451 (Fld.ext E439 (Fld.ext E429 f425)))
    have f807 : Fld Z h451 b429 "com/example/entitygate/entitygate/HtmlNode" "parent" "Lcom/example/entitygate/entitygate/HtmlNode$Parent;" .null := (Fld.ext E451 (Fld.ext E439 f433))
    have f808 : Fld Z h451 b429 "com/example/entitygate/entitygate/HtmlNode" "previous" "Lcom/example/entitygate/entitygate/HtmlNode;" .null := (Fld.ext E451 (Fld.ext E439 f436))
    have f809 : Fld Z h451 b429 "com/example/entitygate/entitygate/HtmlNode" "next" "Lcom/example/entitygate/entitygate/HtmlNode;" .null := (Fld.ext E451 (Fld.ext E439 f437))
    have f810 : Fld Z h451 b429 "com/example/entitygate/entitygate/HtmlNode$Parent" "first" "Lcom/example/entitygate/entitygate/HtmlNode;" .null := (Fld.ext E451 (Fld.ext E439 f434))
    have f811 : Fld Z h451 b429 "com/example/entitygate/entitygate/HtmlNode$Parent" "last" "Lcom/example/entitygate/entitygate/HtmlNode;" .null := (Fld.ext E451 (Fld.ext E439 f435))
    have f812 : Fld Z h451 b439 "com/example/entitygate/entitygate/HtmlNode" "parent" "Lcom/example/entitygate/entitygate/HtmlNode$Parent;" .null := (Fld.ext E451 f445)
    have f813 : Fld Z h451 b439 "com/example/entitygate/entitygate/HtmlNode" "previous" "Lcom/example/entitygate/entitygate/HtmlNode;" .null := (Fld.ext E451 f448)
    have f814 : Fld Z h451 b439 "com/example/entitygate/entitygate/HtmlNode" "next" "Lcom/example/entitygate/entitygate/HtmlNode;" .null := (Fld.ext E451 f449)
    have f815 : Fld Z h451 b439 "com/example/entitygate/entitygate/HtmlNode$Parent" "first" "Lcom/example/entitygate/entitygate/HtmlNode;" .null := (Fld.ext E451 f446)
    have f816 : Fld Z h451 b439 "com/example/entitygate/entitygate/HtmlNode$Parent" "last" "Lcom/example/entitygate/entitygate/HtmlNode;" .null := (Fld.ext E451 f447)
    refine own_callU X464 hx hZ hown (hw _ (List.mem_of_getElem? (i := 46) rfl)) (hw _ (List.mem_of_getElem? (i := 47) rfl)) (hw _ (List.mem_of_getElem? (i := 48) rfl)) (by decide) (hw _ (List.mem_of_getElem? (i := 50) rfl)) (hw _ (List.mem_of_getElem? (i := 49) rfl)) (rm_ins0 l Z a0 hw [] b420 b429 b439 b451 h451 n0 z458 f799 f800 f801 A451 f802 f803 f804 f805 f806 f807 f808 f809 f810 f811 f812 f813 f814 f815 f816 f459 f462 f463 f460 f461 ne430 ne441 ne453 ne442 ne455 ne456 g_b420 g_b429 g_b439 g_b451) (hw _ (List.mem_of_getElem? (i := 51) rfl)) (hw _ (List.mem_of_getElem? (i := 9) rfl)) e464 0 (by decide) (by decide) (by decide) (by decide) f799 [(.ref b429), .null] [] rfl pd_3 rfl 57 rfl (by rw [hml]; rfl) rfl (hb hby at_54) rfl fun T798 v798 L798 X798 hQ798 => ?_
    obtain ⟨rfl, Nq798, Kq798, f798_0, f798_1, f798_2, f798_3, f798_4, f798_5, f798_6, f798_7, f798_8, f798_9⟩ := hQ798
    have N798 := Fr.app N464 Nq798
    have K817 : Keep h0 T798.heap [] := K457.trans Kq798 (allS (Or.inr sz_b429) (allS (Or.inr sz_b420) all0))
    have z818 : n0 ≤ T798.heap.size := (Nat.le_trans z458 Kq798.1)
    show own_Go p e below s _ _ _ (T798.setTop (mkF m 57 _ []))
    refine g_iload_n X798 hx 58 (hb hby at_57) rfl rfl ?_
    refine g_iconst X798 hx 59 (hb hby at_58) (2 : Int32) rfl rfl ?_
    refine g_icmpNo X798 hx 62 (hb hby at_59) (own_ii_lt_f (by decide)) rfl ?_
    refine g_aload X798 hx 64 (hb hby at_62) rfl rfl rfl ?_
    refine g_aload X798 hx 66 (hb hby at_64) rfl rfl rfl ?_
    refine g_aconst_null X798 hx 67 (hb hby at_66) rfl ?_
    have f820 : Exa Z T798.heap b420 "com/example/entitygate/entitygate/HtmlNode$Document" := (f799.keep Kq798)
    have f821 : Exa Z T798.heap b429 "com/example/entitygate/entitygate/HtmlNode$Document" := (f800.keep Kq798)
    have f822 : Exa Z T798.heap b439 "com/example/entitygate/entitygate/HtmlNode$Document" := (f801.keep Kq798)
    have f823 : Exa Z T798.heap b451 "com/example/entitygate/entitygate/HtmlNode$Document" := (A451.keep Kq798)
    have f824 : Fld Z T798.heap b439 "com/example/entitygate/entitygate/HtmlNode" "parent" "Lcom/example/entitygate/entitygate/HtmlNode$Parent;" .null := (f812.keep Kq798 (ninS (Ne.symm ne442) (ninS (Ne.symm ne441) nin0)))
    have f825 : Fld Z T798.heap b439 "com/example/entitygate/entitygate/HtmlNode" "previous" "Lcom/example/entitygate/entitygate/HtmlNode;" .null := (f813.keep Kq798 (ninS (Ne.symm ne442) (ninS (Ne.symm ne441) nin0)))
    have f826 : Fld Z T798.heap b439 "com/example/entitygate/entitygate/HtmlNode" "next" "Lcom/example/entitygate/entitygate/HtmlNode;" .null := (f814.keep Kq798 (ninS (Ne.symm ne442) (ninS (Ne.symm ne441) nin0)))
    have f827 : Fld Z T798.heap b439 "com/example/entitygate/entitygate/HtmlNode$Parent" "first" "Lcom/example/entitygate/entitygate/HtmlNode;" .null := (f815.keep Kq798 (ninS (Ne.symm ne442) (ninS (Ne.symm ne441) nin0)))
    have f828 : Fld Z T798.heap b439 "com/example/entitygate/entitygate/HtmlNode$Parent" "last" "Lcom/example/entitygate/entitygate/HtmlNode;" .null := (f816.keep Kq798 (ninS (Ne.symm ne442) (ninS (Ne.symm ne441) nin0)))
    have f829 : Fld Z T798.heap b451 "com/example/entitygate/entitygate/HtmlNode" "parent" "Lcom/example/entitygate/entitygate/HtmlNode$Parent;" .null := (f459.keep Kq798 (ninS (Ne.symm ne455) (ninS (Ne.symm ne453) nin0)))
    have f830 : Fld Z T798.heap b451 "com/example/entitygate/entitygate/HtmlNode" "previous" "Lcom/example/entitygate/entitygate/HtmlNode;" .null := (f462.keep Kq798 (ninS (Ne.symm ne455) (ninS (Ne.symm ne453) nin0)))
    have f831 : Fld Z T798.heap b451 "com/example/entitygate/entitygate/HtmlNode" "next" "Lcom/example/entitygate/entitygate/HtmlNode;" .null := (f463.keep Kq798 (ninS (Ne.symm ne455) (ninS (Ne.symm ne453) nin0)))
    have f832 : Fld Z T798.heap b451 "com/example/entitygate/entitygate/HtmlNode$Parent" "first" "Lcom/example/entitygate/entitygate/HtmlNode;" .null := (f460.keep Kq798 (ninS (Ne.symm ne455) (ninS (Ne.symm ne453) nin0)))
    have f833 : Fld Z T798.heap b451 "com/example/entitygate/entitygate/HtmlNode$Parent" "last" "Lcom/example/entitygate/entitygate/HtmlNode;" .null := (f461.keep Kq798 (ninS (Ne.symm ne455) (ninS (Ne.symm ne453) nin0)))
    refine own_callU X798 hx hZ hown (hw _ (List.mem_of_getElem? (i := 46) rfl)) (hw _ (List.mem_of_getElem? (i := 47) rfl)) (hw _ (List.mem_of_getElem? (i := 48) rfl)) (by decide) (hw _ (List.mem_of_getElem? (i := 50) rfl)) (hw _ (List.mem_of_getElem? (i := 49) rfl)) (rm_ins1 l Z a0 hw [] b420 b429 b439 b451 T798.heap n0 z818 f820 f821 f822 f823 f798_5 f798_6 f798_7 f798_8 f798_9 f798_0 f798_1 f798_2 f798_3 f798_4 f824 f825 f826 f827 f828 f829 f830 f831 f832 f833 ne430 ne441 ne453 ne442 ne455 ne456 g_b420 g_b429 g_b439 g_b451) (hw _ (List.mem_of_getElem? (i := 51) rfl)) (hw _ (List.mem_of_getElem? (i := 9) rfl)) rfl 0 (by decide) (by decide) (by decide) (by decide) f820 [(.ref b439), .null] [] rfl pd_3 rfl 70 rfl (by rw [hml]; rfl) rfl (hb hby at_67) rfl fun T819 v819 L819 X819 hQ819 => ?_
    obtain ⟨rfl, Nq819, Kq819, f819_0, f819_1, f819_2, f819_3, f819_4, f819_5, f819_6, f819_7, f819_8, f819_9, f819_10, f819_11, f819_12, f819_13, f819_14⟩ := hQ819
    have N819 := Fr.app N798 Nq819
    have K834 : Keep h0 T819.heap [] := K817.trans Kq819 (allS (Or.inr sz_b439) (allS (Or.inr sz_b429) (allS (Or.inr sz_b420) all0)))
    have z835 : n0 ≤ T819.heap.size := (Nat.le_trans z818 Kq819.1)
    show own_Go p e below s _ _ _ (T819.setTop (mkF m 70 _ []))
    refine g_iload_n X819 hx 71 (hb hby at_70) rfl rfl ?_
    refine g_iconst X819 hx 72 (hb hby at_71) (3 : Int32) rfl rfl ?_
    refine g_icmpYes X819 hx 83 (hb hby at_72) (own_ii_lt_t (by decide)) (by decide) (by decide) ?_
    rcases own_four p1 q_k with rfl | rfl | rfl | rfl
    · show own_Go p e below s _ _ _ (T819.setTop (mkF m 83 _ []))
      refine g_iload_n X819 hx 84 (hb hby at_83) rfl rfl ?_
      refine g_ifNo X819 hx 87 (hb hby at_84) (own_i0_ne_f (by decide)) rfl ?_
      refine g_aload X819 hx 89 (hb hby at_87) rfl rfl rfl ?_
      refine g_goto X819 hx 114 (hb hby at_89) (by decide) (by decide) ?_
      refine g_astore X819 hx 116 (hb hby at_114) rfl (l' := #[.val (.int p0), .val (.int p1), .val (.int (2 : Int32)), .val (.int (0 : Int32)), .val (.ref b420), .val (.ref b429), .val (.ref b439), .val (.ref b451), .val (.ref b429), .unset, .unset, .unset, .unset, .unset, .unset, .unset, .unset]) rfl rfl ?_
      refine g_aload X819 hx 118 (hb hby at_116) rfl rfl rfl ?_
      have f837 : Exa Z T819.heap b420 "com/example/entitygate/entitygate/HtmlNode$Document" := (f820.keep Kq819)
      have f838 : Exa Z T819.heap b429 "com/example/entitygate/entitygate/HtmlNode$Document" := (f821.keep Kq819)
      have f839 : Exa Z T819.heap b439 "com/example/entitygate/entitygate/HtmlNode$Document" := (f822.keep Kq819)
      have f840 : Exa Z T819.heap b451 "com/example/entitygate/entitygate/HtmlNode$Document" := (f823.keep Kq819)
      have f841 : Fld Z T819.heap b451 "com/example/entitygate/entitygate/HtmlNode" "parent" "Lcom/example/entitygate/entitygate/HtmlNode$Parent;" .null := (f829.keep Kq819 (ninS (Ne.symm ne456) (ninS (Ne.symm ne455) (ninS (Ne.symm ne453) nin0))))
      have f842 : Fld Z T819.heap b451 "com/example/entitygate/entitygate/HtmlNode" "previous" "Lcom/example/entitygate/entitygate/HtmlNode;" .null := (f830.keep Kq819 (ninS (Ne.symm ne456) (ninS (Ne.symm ne455) (ninS (Ne.symm ne453) nin0))))
      have f843 : Fld Z T819.heap b451 "com/example/entitygate/entitygate/HtmlNode" "next" "Lcom/example/entitygate/entitygate/HtmlNode;" .null := (f831.keep Kq819 (ninS (Ne.symm ne456) (ninS (Ne.symm ne455) (ninS (Ne.symm ne453) nin0))))
      have f844 : Fld Z T819.heap b451 "com/example/entitygate/entitygate/HtmlNode$Parent" "first" "Lcom/example/entitygate/entitygate/HtmlNode;" .null := (f832.keep Kq819 (ninS (Ne.symm ne456) (ninS (Ne.symm ne455) (ninS (Ne.symm ne453) nin0))))
      have f845 : Fld Z T819.heap b451 "com/example/entitygate/entitygate/HtmlNode$Parent" "last" "Lcom/example/entitygate/entitygate/HtmlNode;" .null := (f833.keep Kq819 (ninS (Ne.symm ne456) (ninS (Ne.symm ne455) (ninS (Ne.symm ne453) nin0))))
      refine own_callV X819 hx hZ hown (hw _ (List.mem_of_getElem? (i := 19) rfl)) (hw _ (List.mem_of_getElem? (i := 20) rfl)) (own_nf hZ (hw _ (List.mem_of_getElem? (i := 22) rfl))) (hw _ (List.mem_of_getElem? (i := 22) rfl)) (hw _ (List.mem_of_getElem? (i := 21) rfl)) (by decide) (rm_det20 l Z a0 hw [] b420 b429 b439 b451 T819.heap n0 z835 f837 f838 f839 f840 f819_10 f819_11 f819_12 f819_13 f819_14 f819_5 f819_6 f819_7 f819_8 f819_9 f819_0 f819_1 f819_2 f819_3 f819_4 f841 f842 f843 f844 f845 ne430 ne441 ne453 ne442 ne455 ne456 g_b420 g_b429 g_b439 g_b451) (hw _ (List.mem_of_getElem? (i := 23) rfl)) (hw _ (List.mem_of_getElem? (i := 14) rfl)) rfl 0 (by decide) (by decide) (by decide) (by decide) f838 [] [] rfl pd_0 rfl 121 rfl (by rw [hml]; rfl) rfl (hb hby at_118) rfl fun T836 v836 L836 X836 hQ836 => ?_
      obtain ⟨rfl, Nq836, Kq836, f836_0, f836_1, f836_2, f836_3, f836_4, f836_5, f836_6, f836_7, f836_8, f836_9, f836_10, f836_11, f836_12, f836_13, f836_14⟩ := hQ836
      have N836 := Fr.app N819 Nq836
      have K846 : Keep h0 T836.heap [] := K834.trans Kq836 (allS (Or.inr sz_b429) (allS (Or.inr sz_b420) (allS (Or.inr sz_b439) all0)))
      have z847 : n0 ≤ T836.heap.size := (Nat.le_trans z835 Kq836.1)
      show own_Go p e below s _ _ _ (T836.setTop (mkF m 121 _ []))
      refine g_iload_n X836 hx 122 (hb hby at_121) rfl rfl ?_
      refine g_iconst X836 hx 123 (hb hby at_122) (1 : Int32) rfl rfl ?_
      refine g_icmpNo X836 hx 126 (hb hby at_123) (own_ii_lt_f (by decide)) rfl ?_
      refine g_iload_n X836 hx 127 (hb hby at_126) rfl rfl ?_
      refine g_ifYes X836 hx 134 (hb hby at_127) (own_i0_eq_t (by decide)) (by decide) (by decide) ?_
      refine g_iconst X836 hx 135 (hb hby at_134) (0 : Int32) rfl rfl ?_
      refine g_istore X836 hx 137 (hb hby at_135) (l' := #[.val (.int p0), .val (.int p1), .val (.int (2 : Int32)), .val (.int (0 : Int32)), .val (.ref b420), .val (.ref b429), .val (.ref b439), .val (.ref b451), .val (.ref b429), .val (.int (0 : Int32)), .unset, .unset, .unset, .unset, .unset, .unset, .unset]) rfl rfl ?_
      refine g_iload_n X836 hx 138 (hb hby at_137) rfl rfl ?_
      refine g_iconst X836 hx 139 (hb hby at_138) (2 : Int32) rfl rfl ?_
      refine g_icmpNo X836 hx 142 (hb hby at_139) (own_ii_lt_f (by decide)) rfl ?_
      refine g_iload_n X836 hx 143 (hb hby at_142) rfl rfl ?_
      refine g_iconst X836 hx 144 (hb hby at_143) (1 : Int32) rfl rfl ?_
      refine g_icmpNo X836 hx 147 (hb hby at_144) (own_ii_eq_f (by decide)) rfl ?_
      refine g_iconst X836 hx 148 (hb hby at_147) (1 : Int32) rfl rfl ?_
      refine g_goto X836 hx 152 (hb hby at_148) (by decide) (by decide) ?_
      refine g_istore X836 hx 154 (hb hby at_152) (l' := #[.val (.int p0), .val (.int p1), .val (.int (2 : Int32)), .val (.int (0 : Int32)), .val (.ref b420), .val (.ref b429), .val (.ref b439), .val (.ref b451), .val (.ref b429), .val (.int (0 : Int32)), .val (.int (1 : Int32)), .unset, .unset, .unset, .unset, .unset, .unset]) rfl rfl ?_
      refine g_iload_n X836 hx 155 (hb hby at_154) rfl rfl ?_
      refine g_iconst X836 hx 156 (hb hby at_155) (3 : Int32) rfl rfl ?_
      refine g_icmpYes X836 hx 168 (hb hby at_156) (own_ii_lt_t (by decide)) (by decide) (by decide) ?_
      refine g_iconst X836 hx 169 (hb hby at_168) (0 : Int32) rfl rfl ?_
      refine g_istore X836 hx 171 (hb hby at_169) (l' := #[.val (.int p0), .val (.int p1), .val (.int (2 : Int32)), .val (.int (0 : Int32)), .val (.ref b420), .val (.ref b429), .val (.ref b439), .val (.ref b451), .val (.ref b429), .val (.int (0 : Int32)), .val (.int (1 : Int32)), .val (.int (0 : Int32)), .unset, .unset, .unset, .unset, .unset]) rfl rfl ?_
      refine g_iconst X836 hx 172 (hb hby at_171) (3 : Int32) rfl rfl ?_
      refine own_newR X836 hx hZ hown (hw _ (List.mem_of_getElem? (i := 26) rfl)) (hw _ (List.mem_of_getElem? (i := 27) rfl)) rfl 175 (hb hby at_172) rfl (by decide) 3 (by decide) (by decide) (by decide) (by decide) fun T848 h848 k848 b848 X848 e848 g848 E848 A848 O848 => ?_
      have f849 : Exa Z T836.heap b420 "com/example/entitygate/entitygate/HtmlNode$Document" := (f837.keep Kq836)
      have ne850 : b420 ≠ b848 := Nat.ne_of_lt (Nat.lt_of_lt_of_le f849.lt (Nat.le_of_eq g848.symm))
      have f851 : Exa Z T836.heap b429 "com/example/entitygate/entitygate/HtmlNode$Document" := (f838.keep Kq836)
      have ne852 : b429 ≠ b848 := Nat.ne_of_lt (Nat.lt_of_lt_of_le f851.lt (Nat.le_of_eq g848.symm))
      have f853 : Exa Z T836.heap b439 "com/example/entitygate/entitygate/HtmlNode$Document" := (f839.keep Kq836)
      have ne854 : b439 ≠ b848 := Nat.ne_of_lt (Nat.lt_of_lt_of_le f853.lt (Nat.le_of_eq g848.symm))
      have f855 : Exa Z T836.heap b451 "com/example/entitygate/entitygate/HtmlNode$Document" := (f840.keep Kq836)
      have ne856 : b451 ≠ b848 := Nat.ne_of_lt (Nat.lt_of_lt_of_le f855.lt (Nat.le_of_eq g848.symm))
      have g_b848 : n0 ≤ b848 := Nat.le_trans z847 (Nat.le_of_eq g848.symm)
      have sz_b848 : h0.size ≤ b848 := Nat.le_trans K846.1 (Nat.le_of_eq g848.symm)
      have K857 : Keep h0 h848 [] := K846.ext E848
      have z858 : n0 ≤ h848.size := (Nat.le_trans z847 E848.1)
      have V848 : Arv Z h848 b848 k848 (.object "com/example/entitygate/entitygate/HtmlNode") (3 : Int32) [.null, .null, .null] .null := (Arv.new A848 (by decide)).pad (pad_rep [] .null 3)
      refine g_astore X848 hx 177 (hb hby at_175) rfl (l' := #[.val (.int p0), .val (.int p1), .val (.int (2 : Int32)), .val (.int (0 : Int32)), .val (.ref b420), .val (.ref b429), .val (.ref b439), .val (.ref b451), .val (.ref b429), .val (.int (0 : Int32)), .val (.int (1 : Int32)), .val (.int (0 : Int32)), .val (.ref b848), .unset, .unset, .unset, .unset]) rfl rfl ?_
      refine g_iconst X848 hx 178 (hb hby at_177) (0 : Int32) rfl rfl ?_
      refine g_istore X848 hx 180 (hb hby at_178) (l' := #[.val (.int p0), .val (.int p1), .val (.int (2 : Int32)), .val (.int (0 : Int32)), .val (.ref b420), .val (.ref b429), .val (.ref b439), .val (.ref b451), .val (.ref b429), .val (.int (0 : Int32)), .val (.int (1 : Int32)), .val (.int (0 : Int32)), .val (.ref b848), .val (.int (0 : Int32)), .unset, .unset, .unset]) rfl rfl ?_
      refine g_iload X848 hx 182 (hb hby at_180) rfl rfl ?_
      refine g_ifYes X848 hx 195 (hb hby at_182) (own_i0_eq_t (by decide)) (by decide) (by decide) ?_
      refine g_iload X848 hx 197 (hb hby at_195) rfl rfl ?_
      refine g_ifNo X848 hx 200 (hb hby at_197) (own_i0_eq_f (by decide)) rfl ?_
      refine g_aload X848 hx 202 (hb hby at_200) rfl rfl rfl ?_
      refine g_iload X848 hx 204 (hb hby at_202) rfl rfl ?_
      refine g_aload X848 hx 206 (hb hby at_204) rfl rfl rfl ?_
      obtain ⟨cl859, Ar859, q859, S859, P859, H859, G859⟩ := id V848
      have hin859 := inb_of (j := (0 : Int32)) S859 ⟨by decide, by decide⟩
      have f860 : Exa Z h848 b439 "com/example/entitygate/entitygate/HtmlNode$Document" := (Exa.ext E848 f853)
      refine own_stR X848 hx hZ e848 Ar859 hin859 rfl (Sto.ofV Ar859 q859 O848 (Ins.of_exa f860 (hw _ (List.mem_of_getElem? (i := 61) rfl)))) 207 (hb hby at_206) rfl fun T859 h859 X859 e859 W859 => ?_
      have V859 : Arv Z h859 b848 k848 (.object "com/example/entitygate/entitygate/HtmlNode") (3 : Int32) [(.ref b439), .null, .null] .null := Arv.set Ar859 q859 S859 P859 H859 G859 (v := (.ref b439)) rfl W859 0 rfl (Nat.le_of_ble_eq_true rfl)
      have N859 := Fr.snoc X859 N836 g_b848
      have z861 : n0 ≤ h859.size := (Nat.le_trans z858 (Keep.of_wr W859).1)
      have K862 : Keep h0 h859 [] := K857.wr W859 (Or.inr sz_b848)
      refine g_iinc X859 hx 210 (hb hby at_207) (z := (1 : Int32)) rfl rfl (l' := #[.val (.int p0), .val (.int p1), .val (.int (2 : Int32)), .val (.int (0 : Int32)), .val (.ref b420), .val (.ref b429), .val (.ref b439), .val (.ref b451), .val (.ref b429), .val (.int (0 : Int32)), .val (.int (1 : Int32)), .val (.int (0 : Int32)), .val (.ref b848), .val (.int (1 : Int32)), .unset, .unset, .unset]) rfl rfl ?_
      refine g_iload X859 hx 212 (hb hby at_210) rfl rfl ?_
      refine g_ifYes X859 hx 225 (hb hby at_212) (own_i0_eq_t (by decide)) (by decide) (by decide) ?_
      refine g_iload X859 hx 227 (hb hby at_225) rfl rfl ?_
      refine g_ifNo X859 hx 230 (hb hby at_227) (own_i0_le_f (by decide)) rfl ?_
      refine g_aload X859 hx 232 (hb hby at_230) rfl rfl rfl ?_
      refine g_iconst X859 hx 233 (hb hby at_232) (0 : Int32) rfl rfl ?_
      obtain ⟨cl863, Ar863, q863, S863, P863, H863, G863⟩ := id V859
      have hin863 := inb_of (j := (0 : Int32)) S863 ⟨by decide, by decide⟩
      refine own_aaload X859 hx hZ e859 rfl Ar863 (v := (.ref b439)) hin863 (Has.at H863 hin863 rfl) 234 (hb hby at_233) rfl ?_
      refine g_goto X859 hx 238 (hb hby at_234) (by decide) (by decide) ?_
      refine g_astore X859 hx 240 (hb hby at_238) rfl (l' := #[.val (.int p0), .val (.int p1), .val (.int (2 : Int32)), .val (.int (0 : Int32)), .val (.ref b420), .val (.ref b429), .val (.ref b439), .val (.ref b451), .val (.ref b429), .val (.int (0 : Int32)), .val (.int (1 : Int32)), .val (.int (0 : Int32)), .val (.ref b848), .val (.int (1 : Int32)), .val (.ref b439), .unset, .unset]) rfl rfl ?_
      refine g_iload X859 hx 242 (hb hby at_240) rfl rfl ?_
      refine g_ifNo X859 hx 245 (hb hby at_242) (own_i0_le_f (by decide)) rfl ?_
      refine g_aload X859 hx 247 (hb hby at_245) rfl rfl rfl ?_
      refine g_iload X859 hx 249 (hb hby at_247) rfl rfl ?_
      refine g_iconst X859 hx 250 (hb hby at_249) (1 : Int32) rfl rfl ?_
      refine g_isub X859 hx 251 (hb hby at_250) rfl ?_
      show own_Go p e below s _ _ _ (T859.setTop (mkF m 251 _ [(.int (0 : Int32)), (.ref b848)]))
      obtain ⟨cl864, Ar864, q864, S864, P864, H864, G864⟩ := id V859
      have hin864 := inb_of (j := (0 : Int32)) S864 ⟨by decide, by decide⟩
      refine own_aaload X859 hx hZ e859 rfl Ar864 (v := (.ref b439)) hin864 (Has.at H864 hin864 rfl) 252 (hb hby at_251) rfl ?_
      refine g_goto X859 hx 256 (hb hby at_252) (by decide) (by decide) ?_
      refine g_astore X859 hx 258 (hb hby at_256) rfl (l' := #[.val (.int p0), .val (.int p1), .val (.int (2 : Int32)), .val (.int (0 : Int32)), .val (.ref b420), .val (.ref b429), .val (.ref b439), .val (.ref b451), .val (.ref b429), .val (.int (0 : Int32)), .val (.int (1 : Int32)), .val (.int (0 : Int32)), .val (.ref b848), .val (.int (1 : Int32)), .val (.ref b439), .val (.ref b439), .unset]) rfl rfl ?_
      refine g_aload X859 hx 260 (hb hby at_258) rfl rfl rfl ?_
      have f865 : Fld Z h859 b420 "com/example/entitygate/entitygate/HtmlNode$Parent" "first" "Lcom/example/entitygate/entitygate/HtmlNode;" (.ref b439) := (Fld.other W859 (Fld.ext E848 f836_8) (Or.inl ne850))
      refine own_getF X859 hx hZ hown (host := "") (Or.inl (hw _ (List.mem_of_getElem? (i := 28) rfl))) (Via.of (hw _ (List.mem_of_getElem? (i := 29) rfl))) e859 f865 263 (hb hby at_260) rfl fun T866 X866 e866 => ?_
      refine g_aload X866 hx 265 (hb hby at_263) rfl rfl rfl ?_
      refine g_acmp X866 hx (x := (.ref b439)) (y := (.ref b439)) (same := true) 268 (hb hby at_265) rfl rfl (decide_eq_true rfl) (by decide) (by decide) ?_
      refine g_aload X866 hx 270 (hb hby at_268) rfl rfl rfl ?_
      have f867 : Fld Z h859 b420 "com/example/entitygate/entitygate/HtmlNode$Parent" "last" "Lcom/example/entitygate/entitygate/HtmlNode;" (.ref b439) := (Fld.other W859 (Fld.ext E848 f836_9) (Or.inl ne850))
      refine own_getF X866 hx hZ hown (host := "") (Or.inl (hw _ (List.mem_of_getElem? (i := 31) rfl))) (Via.of (hw _ (List.mem_of_getElem? (i := 32) rfl))) e866 f867 273 (hb hby at_270) rfl fun T868 X868 e868 => ?_
      refine g_aload X868 hx 275 (hb hby at_273) rfl rfl rfl ?_
      refine g_acmp X868 hx (x := (.ref b439)) (y := (.ref b439)) (same := true) 278 (hb hby at_275) rfl rfl (decide_eq_true rfl) (by decide) (by decide) ?_
      refine g_aload X868 hx 280 (hb hby at_278) rfl rfl rfl ?_
      have f870 : Fld Z h859 b420 "com/example/entitygate/entitygate/HtmlNode" "parent" "Lcom/example/entitygate/entitygate/HtmlNode$Parent;" .null := (Fld.other W859 (Fld.ext E848 f836_5) (Or.inl ne850))
      have f871 : Fld Z h859 b420 "com/example/entitygate/entitygate/HtmlNode" "previous" "Lcom/example/entitygate/entitygate/HtmlNode;" .null := (Fld.other W859 (Fld.ext E848 f836_6) (Or.inl ne850))
      have f872 : Fld Z h859 b420 "com/example/entitygate/entitygate/HtmlNode" "next" "Lcom/example/entitygate/entitygate/HtmlNode;" .null := (Fld.other W859 (Fld.ext E848 f836_7) (Or.inl ne850))
      refine own_callS X868 hx hZ hown (hw _ (List.mem_of_getElem? (i := 34) rfl)) (hw _ (List.mem_of_getElem? (i := 35) rfl)) (by decide) (rm_free1 l Z a0 hw [] b420 h859 n0 z861 f870 f871 f872) (hw _ (List.mem_of_getElem? (i := 37) rfl)) (hw _ (List.mem_of_getElem? (i := 36) rfl)) e868 0 (by decide) (by decide) (by decide) (by decide) [(.ref b420)] [] rfl pd_1 rfl 283 rfl (by rw [hml]; rfl) rfl (hb hby at_280) rfl fun T869 v869 L869 X869 hQ869 => ?_
      obtain ⟨rfl, Nq869, e869⟩ := hQ869
      have N869 := Fr.app N859 Nq869
      show own_Go p e below s _ _ _ (T869.setTop (mkF m 283 _ [(.int (1 : Int32))]))
      refine g_ifNo X869 hx 286 (hb hby at_283) (own_i0_eq_f (by decide)) rfl ?_
      refine g_iconst X869 hx 287 (hb hby at_286) (1 : Int32) rfl rfl ?_
      refine g_goto X869 hx 291 (hb hby at_287) (by decide) (by decide) ?_
      refine g_istore X869 hx 293 (hb hby at_291) (l' := #[.val (.int p0), .val (.int p1), .val (.int (2 : Int32)), .val (.int (0 : Int32)), .val (.ref b420), .val (.ref b429), .val (.ref b439), .val (.ref b451), .val (.ref b429), .val (.int (0 : Int32)), .val (.int (1 : Int32)), .val (.int (0 : Int32)), .val (.ref b848), .val (.int (1 : Int32)), .val (.ref b439), .val (.ref b439), .val (.int (1 : Int32))]) rfl rfl ?_
      refine g_iload X869 hx 295 (hb hby at_293) rfl rfl ?_
      refine g_ifNo X869 hx 298 (hb hby at_295) (own_i0_eq_f (by decide)) rfl ?_
      refine g_aload X869 hx 300 (hb hby at_298) rfl rfl rfl ?_
      refine g_iload X869 hx 302 (hb hby at_300) rfl rfl ?_
      refine g_iconst X869 hx 303 (hb hby at_302) (0 : Int32) rfl rfl ?_
      refine g_aload X869 hx 305 (hb hby at_303) rfl rfl rfl ?_
      have f874 : Fld Z h859 b439 "com/example/entitygate/entitygate/HtmlNode" "parent" "Lcom/example/entitygate/entitygate/HtmlNode$Parent;" (.ref b420) := (Fld.other W859 (Fld.ext E848 f836_10) (Or.inl ne854))
      have f875 : Fld Z h859 b439 "com/example/entitygate/entitygate/HtmlNode" "previous" "Lcom/example/entitygate/entitygate/HtmlNode;" .null := (Fld.other W859 (Fld.ext E848 f836_11) (Or.inl ne854))
      have f876 : Fld Z h859 b439 "com/example/entitygate/entitygate/HtmlNode" "next" "Lcom/example/entitygate/entitygate/HtmlNode;" .null := (Fld.other W859 (Fld.ext E848 f836_12) (Or.inl ne854))
      refine own_callS X869 hx hZ hown (hw _ (List.mem_of_getElem? (i := 43) rfl)) (hw _ (List.mem_of_getElem? (i := 44) rfl)) (by decide) (rm_lk10 l Z a0 hw [] b848 k848 b420 b439 h859 n0 z861 f874 f875 f876 V859) (hw _ (List.mem_of_getElem? (i := 45) rfl)) (hw _ (List.mem_of_getElem? (i := 36) rfl)) e869 0 (by decide) (by decide) (by decide) (by decide) [(.ref b848), (.int (1 : Int32)), (.int (0 : Int32)), (.ref b420)] [] rfl pd_2 rfl 308 rfl (by rw [hml]; rfl) rfl (hb hby at_305) rfl fun T873 v873 L873 X873 hQ873 => ?_
      obtain ⟨rfl, Nq873, e873⟩ := hQ873
      have N873 := Fr.app N869 Nq873
      show own_Go p e below s _ _ _ (T873.setTop (mkF m 308 _ [(.int (1 : Int32))]))
      refine g_ifNo X873 hx 311 (hb hby at_308) (own_i0_eq_f (by decide)) rfl ?_
      refine g_aload X873 hx 313 (hb hby at_311) rfl rfl rfl ?_
      refine g_iload X873 hx 315 (hb hby at_313) rfl rfl ?_
      refine g_iconst X873 hx 316 (hb hby at_315) (1 : Int32) rfl rfl ?_
      refine g_aload X873 hx 318 (hb hby at_316) rfl rfl rfl ?_
      refine own_callS X873 hx hZ hown (hw _ (List.mem_of_getElem? (i := 43) rfl)) (hw _ (List.mem_of_getElem? (i := 44) rfl)) (by decide) (rm_lk11 l Z a0 hw [] b848 b420 h859 n0 z861 ) (hw _ (List.mem_of_getElem? (i := 45) rfl)) (hw _ (List.mem_of_getElem? (i := 36) rfl)) e873 0 (by decide) (by decide) (by decide) (by decide) [(.ref b848), (.int (1 : Int32)), (.int (1 : Int32)), (.ref b420)] [] rfl pd_2 rfl 321 rfl (by rw [hml]; rfl) rfl (hb hby at_318) rfl fun T877 v877 L877 X877 hQ877 => ?_
      obtain ⟨rfl, Nq877, e877⟩ := hQ877
      have N877 := Fr.app N873 Nq877
      show own_Go p e below s _ _ _ (T877.setTop (mkF m 321 _ [(.int (1 : Int32))]))
      refine g_ifNo X877 hx 324 (hb hby at_321) (own_i0_eq_f (by decide)) rfl ?_
      refine g_aload X877 hx 326 (hb hby at_324) rfl rfl rfl ?_
      refine g_iload X877 hx 328 (hb hby at_326) rfl rfl ?_
      refine g_iconst X877 hx 329 (hb hby at_328) (2 : Int32) rfl rfl ?_
      refine g_aload X877 hx 331 (hb hby at_329) rfl rfl rfl ?_
      refine own_callS X877 hx hZ hown (hw _ (List.mem_of_getElem? (i := 43) rfl)) (hw _ (List.mem_of_getElem? (i := 44) rfl)) (by decide) (rm_lk12 l Z a0 hw [] b848 b420 h859 n0 z861 ) (hw _ (List.mem_of_getElem? (i := 45) rfl)) (hw _ (List.mem_of_getElem? (i := 36) rfl)) e877 0 (by decide) (by decide) (by decide) (by decide) [(.ref b848), (.int (1 : Int32)), (.int (2 : Int32)), (.ref b420)] [] rfl pd_2 rfl 334 rfl (by rw [hml]; rfl) rfl (hb hby at_331) rfl fun T878 v878 L878 X878 hQ878 => ?_
      obtain ⟨rfl, Nq878, e878⟩ := hQ878
      have N878 := Fr.app N877 Nq878
      show own_Go p e below s _ _ _ (T878.setTop (mkF m 334 _ [(.int (1 : Int32))]))
      refine g_ifNo X878 hx 337 (hb hby at_334) (own_i0_eq_f (by decide)) rfl ?_
      refine g_iconst X878 hx 338 (hb hby at_337) (1 : Int32) rfl rfl ?_
      refine g_goto X878 hx 342 (hb hby at_338) (by decide) (by decide) ?_
      refine g_istore X878 hx 344 (hb hby at_342) (l' := #[.val (.int p0), .val (.int p1), .val (.int (2 : Int32)), .val (.int (0 : Int32)), .val (.ref b420), .val (.ref b429), .val (.ref b439), .val (.ref b451), .val (.ref b429), .val (.int (0 : Int32)), .val (.int (1 : Int32)), .val (.int (0 : Int32)), .val (.ref b848), .val (.int (1 : Int32)), .val (.ref b439), .val (.ref b439), .val (.int (1 : Int32))]) rfl rfl ?_
      refine g_iload X878 hx 346 (hb hby at_344) rfl rfl ?_
      refine g_ifNo X878 hx 349 (hb hby at_346) (own_i0_eq_f (by decide)) rfl ?_
      refine g_iload X878 hx 351 (hb hby at_349) rfl rfl ?_
      refine g_ifNo X878 hx 354 (hb hby at_351) (own_i0_ne_f (by decide)) rfl ?_
      refine g_aload X878 hx 356 (hb hby at_354) rfl rfl rfl ?_
      have f880 : Fld Z h859 b429 "com/example/entitygate/entitygate/HtmlNode" "parent" "Lcom/example/entitygate/entitygate/HtmlNode$Parent;" .null := (Fld.other W859 (Fld.ext E848 f836_0) (Or.inl ne852))
      have f881 : Fld Z h859 b429 "com/example/entitygate/entitygate/HtmlNode" "previous" "Lcom/example/entitygate/entitygate/HtmlNode;" .null := (Fld.other W859 (Fld.ext E848 f836_1) (Or.inl ne852))
      have f882 : Fld Z h859 b429 "com/example/entitygate/entitygate/HtmlNode" "next" "Lcom/example/entitygate/entitygate/HtmlNode;" .null := (Fld.other W859 (Fld.ext E848 f836_2) (Or.inl ne852))
      refine own_callS X878 hx hZ hown (hw _ (List.mem_of_getElem? (i := 34) rfl)) (hw _ (List.mem_of_getElem? (i := 35) rfl)) (by decide) (rm_free1 l Z a0 hw [] b429 h859 n0 z861 f880 f881 f882) (hw _ (List.mem_of_getElem? (i := 37) rfl)) (hw _ (List.mem_of_getElem? (i := 36) rfl)) e878 0 (by decide) (by decide) (by decide) (by decide) [(.ref b429)] [] rfl pd_1 rfl 359 rfl (by rw [hml]; rfl) rfl (hb hby at_356) rfl fun T879 v879 L879 X879 hQ879 => ?_
      obtain ⟨rfl, Nq879, e879⟩ := hQ879
      have N879 := Fr.app N878 Nq879
      show own_Go p e below s _ _ _ (T879.setTop (mkF m 359 _ [(.int (1 : Int32))]))
      refine g_ifNo X879 hx 362 (hb hby at_359) (own_i0_eq_f (by decide)) rfl ?_
      refine g_iload X879 hx 364 (hb hby at_362) rfl rfl ?_
      refine g_ifYes X879 hx 375 (hb hby at_364) (own_i0_ne_t (by decide)) (by decide) (by decide) ?_
      refine g_iload X879 hx 377 (hb hby at_375) rfl rfl ?_
      refine g_ifNo X879 hx 380 (hb hby at_377) (own_i0_ne_f (by decide)) rfl ?_
      refine g_aload X879 hx 382 (hb hby at_380) rfl rfl rfl ?_
      have f884 : Fld Z h859 b451 "com/example/entitygate/entitygate/HtmlNode" "parent" "Lcom/example/entitygate/entitygate/HtmlNode$Parent;" .null := (Fld.other W859 (Fld.ext E848 (f841.keep Kq836 (ninS (Ne.symm ne455) (ninS (Ne.symm ne453) (ninS (Ne.symm ne456) nin0))))) (Or.inl ne856))
      have f885 : Fld Z h859 b451 "com/example/entitygate/entitygate/HtmlNode" "previous" "Lcom/example/entitygate/entitygate/HtmlNode;" .null := (Fld.other W859 (Fld.ext E848 (f842.keep Kq836 (ninS (Ne.symm ne455) (ninS (Ne.symm ne453) (ninS (Ne.symm ne456) nin0))))) (Or.inl ne856))
      have f886 : Fld Z h859 b451 "com/example/entitygate/entitygate/HtmlNode" "next" "Lcom/example/entitygate/entitygate/HtmlNode;" .null := (Fld.other W859 (Fld.ext E848 (f843.keep Kq836 (ninS (Ne.symm ne455) (ninS (Ne.symm ne453) (ninS (Ne.symm ne456) nin0))))) (Or.inl ne856))
      refine own_callS X879 hx hZ hown (hw _ (List.mem_of_getElem? (i := 34) rfl)) (hw _ (List.mem_of_getElem? (i := 35) rfl)) (by decide) (rm_free1 l Z a0 hw [] b451 h859 n0 z861 f884 f885 f886) (hw _ (List.mem_of_getElem? (i := 37) rfl)) (hw _ (List.mem_of_getElem? (i := 36) rfl)) e879 0 (by decide) (by decide) (by decide) (by decide) [(.ref b451)] [] rfl pd_1 rfl 385 rfl (by rw [hml]; rfl) rfl (hb hby at_382) rfl fun T883 v883 L883 X883 hQ883 => ?_
      obtain ⟨rfl, Nq883, e883⟩ := hQ883
      have N883 := Fr.app N879 Nq883
      show own_Go p e below s _ _ _ (T883.setTop (mkF m 385 _ [(.int (1 : Int32))]))
      refine g_ifNo X883 hx 388 (hb hby at_385) (own_i0_eq_f (by decide)) rfl ?_
      refine g_iconst X883 hx 389 (hb hby at_388) (1 : Int32) rfl rfl ?_
      refine g_goto X883 hx 393 (hb hby at_389) (by decide) (by decide) ?_
      refine g_istore X883 hx 395 (hb hby at_393) (l' := #[.val (.int p0), .val (.int p1), .val (.int (2 : Int32)), .val (.int (0 : Int32)), .val (.ref b420), .val (.ref b429), .val (.ref b439), .val (.ref b451), .val (.ref b429), .val (.int (0 : Int32)), .val (.int (1 : Int32)), .val (.int (0 : Int32)), .val (.ref b848), .val (.int (1 : Int32)), .val (.ref b439), .val (.ref b439), .val (.int (1 : Int32))]) rfl rfl ?_
      refine g_iload X883 hx 397 (hb hby at_395) rfl rfl ?_
      refine own_retN X883 hx hlk (t := .boolean) hret (by simp) (hb hby at_397) ?_ (by decide) (by decide)
      rw [e883]
      exact ⟨rfl, N883⟩
    · show own_Go p e below s _ _ _ (T819.setTop (mkF m 83 _ []))
      refine g_iload_n X819 hx 84 (hb hby at_83) rfl rfl ?_
      refine g_ifYes X819 hx 92 (hb hby at_84) (own_i0_ne_t (by decide)) (by decide) (by decide) ?_
      refine g_iload_n X819 hx 93 (hb hby at_92) rfl rfl ?_
      refine g_iconst X819 hx 94 (hb hby at_93) (1 : Int32) rfl rfl ?_
      refine g_icmpNo X819 hx 97 (hb hby at_94) (own_ii_ne_f (by decide)) rfl ?_
      refine g_aload X819 hx 99 (hb hby at_97) rfl rfl rfl ?_
      refine g_goto X819 hx 114 (hb hby at_99) (by decide) (by decide) ?_
      refine g_astore X819 hx 116 (hb hby at_114) rfl (l' := #[.val (.int p0), .val (.int p1), .val (.int (2 : Int32)), .val (.int (1 : Int32)), .val (.ref b420), .val (.ref b429), .val (.ref b439), .val (.ref b451), .val (.ref b439), .unset, .unset, .unset, .unset, .unset, .unset, .unset, .unset]) rfl rfl ?_
      refine g_aload X819 hx 118 (hb hby at_116) rfl rfl rfl ?_
      have f888 : Exa Z T819.heap b420 "com/example/entitygate/entitygate/HtmlNode$Document" := (f820.keep Kq819)
      have f889 : Exa Z T819.heap b429 "com/example/entitygate/entitygate/HtmlNode$Document" := (f821.keep Kq819)
      have f890 : Exa Z T819.heap b439 "com/example/entitygate/entitygate/HtmlNode$Document" := (f822.keep Kq819)
      have f891 : Exa Z T819.heap b451 "com/example/entitygate/entitygate/HtmlNode$Document" := (f823.keep Kq819)
      have f892 : Fld Z T819.heap b451 "com/example/entitygate/entitygate/HtmlNode" "parent" "Lcom/example/entitygate/entitygate/HtmlNode$Parent;" .null := (f829.keep Kq819 (ninS (Ne.symm ne456) (ninS (Ne.symm ne455) (ninS (Ne.symm ne453) nin0))))
      have f893 : Fld Z T819.heap b451 "com/example/entitygate/entitygate/HtmlNode" "previous" "Lcom/example/entitygate/entitygate/HtmlNode;" .null := (f830.keep Kq819 (ninS (Ne.symm ne456) (ninS (Ne.symm ne455) (ninS (Ne.symm ne453) nin0))))
      have f894 : Fld Z T819.heap b451 "com/example/entitygate/entitygate/HtmlNode" "next" "Lcom/example/entitygate/entitygate/HtmlNode;" .null := (f831.keep Kq819 (ninS (Ne.symm ne456) (ninS (Ne.symm ne455) (ninS (Ne.symm ne453) nin0))))
      have f895 : Fld Z T819.heap b451 "com/example/entitygate/entitygate/HtmlNode$Parent" "first" "Lcom/example/entitygate/entitygate/HtmlNode;" .null := (f832.keep Kq819 (ninS (Ne.symm ne456) (ninS (Ne.symm ne455) (ninS (Ne.symm ne453) nin0))))
      have f896 : Fld Z T819.heap b451 "com/example/entitygate/entitygate/HtmlNode$Parent" "last" "Lcom/example/entitygate/entitygate/HtmlNode;" .null := (f833.keep Kq819 (ninS (Ne.symm ne456) (ninS (Ne.symm ne455) (ninS (Ne.symm ne453) nin0))))
      refine own_callV X819 hx hZ hown (hw _ (List.mem_of_getElem? (i := 19) rfl)) (hw _ (List.mem_of_getElem? (i := 20) rfl)) (own_nf hZ (hw _ (List.mem_of_getElem? (i := 22) rfl))) (hw _ (List.mem_of_getElem? (i := 22) rfl)) (hw _ (List.mem_of_getElem? (i := 21) rfl)) (by decide) (rm_det21 l Z a0 hw [] b420 b429 b439 b451 T819.heap n0 z835 f888 f889 f890 f891 f819_10 f819_11 f819_12 f819_13 f819_14 f819_5 f819_6 f819_7 f819_8 f819_9 f819_0 f819_1 f819_2 f819_3 f819_4 f892 f893 f894 f895 f896 ne430 ne441 ne453 ne442 ne455 ne456 g_b420 g_b429 g_b439 g_b451) (hw _ (List.mem_of_getElem? (i := 23) rfl)) (hw _ (List.mem_of_getElem? (i := 14) rfl)) rfl 0 (by decide) (by decide) (by decide) (by decide) f890 [] [] rfl pd_0 rfl 121 rfl (by rw [hml]; rfl) rfl (hb hby at_118) rfl fun T887 v887 L887 X887 hQ887 => ?_
      obtain ⟨rfl, Nq887, Kq887, f887_0, f887_1, f887_2, f887_3, f887_4, f887_5, f887_6, f887_7, f887_8, f887_9, f887_10, f887_11, f887_12, f887_13, f887_14⟩ := hQ887
      have N887 := Fr.app N819 Nq887
      have K897 : Keep h0 T887.heap [] := K834.trans Kq887 (allS (Or.inr sz_b439) (allS (Or.inr sz_b429) (allS (Or.inr sz_b420) all0)))
      have z898 : n0 ≤ T887.heap.size := (Nat.le_trans z835 Kq887.1)
      show own_Go p e below s _ _ _ (T887.setTop (mkF m 121 _ []))
      refine g_iload_n X887 hx 122 (hb hby at_121) rfl rfl ?_
      refine g_iconst X887 hx 123 (hb hby at_122) (1 : Int32) rfl rfl ?_
      refine g_icmpNo X887 hx 126 (hb hby at_123) (own_ii_lt_f (by decide)) rfl ?_
      refine g_iload_n X887 hx 127 (hb hby at_126) rfl rfl ?_
      refine g_ifNo X887 hx 130 (hb hby at_127) (own_i0_eq_f (by decide)) rfl ?_
      refine g_iconst X887 hx 131 (hb hby at_130) (1 : Int32) rfl rfl ?_
      refine g_goto X887 hx 135 (hb hby at_131) (by decide) (by decide) ?_
      refine g_istore X887 hx 137 (hb hby at_135) (l' := #[.val (.int p0), .val (.int p1), .val (.int (2 : Int32)), .val (.int (1 : Int32)), .val (.ref b420), .val (.ref b429), .val (.ref b439), .val (.ref b451), .val (.ref b439), .val (.int (1 : Int32)), .unset, .unset, .unset, .unset, .unset, .unset, .unset]) rfl rfl ?_
      refine g_iload_n X887 hx 138 (hb hby at_137) rfl rfl ?_
      refine g_iconst X887 hx 139 (hb hby at_138) (2 : Int32) rfl rfl ?_
      refine g_icmpNo X887 hx 142 (hb hby at_139) (own_ii_lt_f (by decide)) rfl ?_
      refine g_iload_n X887 hx 143 (hb hby at_142) rfl rfl ?_
      refine g_iconst X887 hx 144 (hb hby at_143) (1 : Int32) rfl rfl ?_
      refine g_icmpYes X887 hx 151 (hb hby at_144) (own_ii_eq_t (by decide)) (by decide) (by decide) ?_
      refine g_iconst X887 hx 152 (hb hby at_151) (0 : Int32) rfl rfl ?_
      refine g_istore X887 hx 154 (hb hby at_152) (l' := #[.val (.int p0), .val (.int p1), .val (.int (2 : Int32)), .val (.int (1 : Int32)), .val (.ref b420), .val (.ref b429), .val (.ref b439), .val (.ref b451), .val (.ref b439), .val (.int (1 : Int32)), .val (.int (0 : Int32)), .unset, .unset, .unset, .unset, .unset, .unset]) rfl rfl ?_
      refine g_iload_n X887 hx 155 (hb hby at_154) rfl rfl ?_
      refine g_iconst X887 hx 156 (hb hby at_155) (3 : Int32) rfl rfl ?_
      refine g_icmpYes X887 hx 168 (hb hby at_156) (own_ii_lt_t (by decide)) (by decide) (by decide) ?_
      refine g_iconst X887 hx 169 (hb hby at_168) (0 : Int32) rfl rfl ?_
      refine g_istore X887 hx 171 (hb hby at_169) (l' := #[.val (.int p0), .val (.int p1), .val (.int (2 : Int32)), .val (.int (1 : Int32)), .val (.ref b420), .val (.ref b429), .val (.ref b439), .val (.ref b451), .val (.ref b439), .val (.int (1 : Int32)), .val (.int (0 : Int32)), .val (.int (0 : Int32)), .unset, .unset, .unset, .unset, .unset]) rfl rfl ?_
      refine g_iconst X887 hx 172 (hb hby at_171) (3 : Int32) rfl rfl ?_
      refine own_newR X887 hx hZ hown (hw _ (List.mem_of_getElem? (i := 26) rfl)) (hw _ (List.mem_of_getElem? (i := 27) rfl)) rfl 175 (hb hby at_172) rfl (by decide) 3 (by decide) (by decide) (by decide) (by decide) fun T899 h899 k899 b899 X899 e899 g899 E899 A899 O899 => ?_
      have f900 : Exa Z T887.heap b420 "com/example/entitygate/entitygate/HtmlNode$Document" := (f888.keep Kq887)
      have ne901 : b420 ≠ b899 := Nat.ne_of_lt (Nat.lt_of_lt_of_le f900.lt (Nat.le_of_eq g899.symm))
      have f902 : Exa Z T887.heap b429 "com/example/entitygate/entitygate/HtmlNode$Document" := (f889.keep Kq887)
      have ne903 : b429 ≠ b899 := Nat.ne_of_lt (Nat.lt_of_lt_of_le f902.lt (Nat.le_of_eq g899.symm))
      have f904 : Exa Z T887.heap b439 "com/example/entitygate/entitygate/HtmlNode$Document" := (f890.keep Kq887)
      have ne905 : b439 ≠ b899 := Nat.ne_of_lt (Nat.lt_of_lt_of_le f904.lt (Nat.le_of_eq g899.symm))
      have f906 : Exa Z T887.heap b451 "com/example/entitygate/entitygate/HtmlNode$Document" := (f891.keep Kq887)
      have ne907 : b451 ≠ b899 := Nat.ne_of_lt (Nat.lt_of_lt_of_le f906.lt (Nat.le_of_eq g899.symm))
      have g_b899 : n0 ≤ b899 := Nat.le_trans z898 (Nat.le_of_eq g899.symm)
      have sz_b899 : h0.size ≤ b899 := Nat.le_trans K897.1 (Nat.le_of_eq g899.symm)
      have K908 : Keep h0 h899 [] := K897.ext E899
      have z909 : n0 ≤ h899.size := (Nat.le_trans z898 E899.1)
      have V899 : Arv Z h899 b899 k899 (.object "com/example/entitygate/entitygate/HtmlNode") (3 : Int32) [.null, .null, .null] .null := (Arv.new A899 (by decide)).pad (pad_rep [] .null 3)
      refine g_astore X899 hx 177 (hb hby at_175) rfl (l' := #[.val (.int p0), .val (.int p1), .val (.int (2 : Int32)), .val (.int (1 : Int32)), .val (.ref b420), .val (.ref b429), .val (.ref b439), .val (.ref b451), .val (.ref b439), .val (.int (1 : Int32)), .val (.int (0 : Int32)), .val (.int (0 : Int32)), .val (.ref b899), .unset, .unset, .unset, .unset]) rfl rfl ?_
      refine g_iconst X899 hx 178 (hb hby at_177) (0 : Int32) rfl rfl ?_
      refine g_istore X899 hx 180 (hb hby at_178) (l' := #[.val (.int p0), .val (.int p1), .val (.int (2 : Int32)), .val (.int (1 : Int32)), .val (.ref b420), .val (.ref b429), .val (.ref b439), .val (.ref b451), .val (.ref b439), .val (.int (1 : Int32)), .val (.int (0 : Int32)), .val (.int (0 : Int32)), .val (.ref b899), .val (.int (0 : Int32)), .unset, .unset, .unset]) rfl rfl ?_
      refine g_iload X899 hx 182 (hb hby at_180) rfl rfl ?_
      refine g_ifNo X899 hx 185 (hb hby at_182) (own_i0_eq_f (by decide)) rfl ?_
      refine g_aload X899 hx 187 (hb hby at_185) rfl rfl rfl ?_
      refine g_iload X899 hx 189 (hb hby at_187) rfl rfl ?_
      refine g_aload X899 hx 191 (hb hby at_189) rfl rfl rfl ?_
      obtain ⟨cl910, Ar910, q910, S910, P910, H910, G910⟩ := id V899
      have hin910 := inb_of (j := (0 : Int32)) S910 ⟨by decide, by decide⟩
      have f911 : Exa Z h899 b429 "com/example/entitygate/entitygate/HtmlNode$Document" := (Exa.ext E899 f902)
      refine own_stR X899 hx hZ e899 Ar910 hin910 rfl (Sto.ofV Ar910 q910 O899 (Ins.of_exa f911 (hw _ (List.mem_of_getElem? (i := 61) rfl)))) 192 (hb hby at_191) rfl fun T910 h910 X910 e910 W910 => ?_
      have V910 : Arv Z h910 b899 k899 (.object "com/example/entitygate/entitygate/HtmlNode") (3 : Int32) [(.ref b429), .null, .null] .null := Arv.set Ar910 q910 S910 P910 H910 G910 (v := (.ref b429)) rfl W910 0 rfl (Nat.le_of_ble_eq_true rfl)
      have N910 := Fr.snoc X910 N887 g_b899
      have z912 : n0 ≤ h910.size := (Nat.le_trans z909 (Keep.of_wr W910).1)
      have K913 : Keep h0 h910 [] := K908.wr W910 (Or.inr sz_b899)
      refine g_iinc X910 hx 195 (hb hby at_192) (z := (1 : Int32)) rfl rfl (l' := #[.val (.int p0), .val (.int p1), .val (.int (2 : Int32)), .val (.int (1 : Int32)), .val (.ref b420), .val (.ref b429), .val (.ref b439), .val (.ref b451), .val (.ref b439), .val (.int (1 : Int32)), .val (.int (0 : Int32)), .val (.int (0 : Int32)), .val (.ref b899), .val (.int (1 : Int32)), .unset, .unset, .unset]) rfl rfl ?_
      refine g_iload X910 hx 197 (hb hby at_195) rfl rfl ?_
      refine g_ifYes X910 hx 210 (hb hby at_197) (own_i0_eq_t (by decide)) (by decide) (by decide) ?_
      refine g_iload X910 hx 212 (hb hby at_210) rfl rfl ?_
      refine g_ifYes X910 hx 225 (hb hby at_212) (own_i0_eq_t (by decide)) (by decide) (by decide) ?_
      refine g_iload X910 hx 227 (hb hby at_225) rfl rfl ?_
      refine g_ifNo X910 hx 230 (hb hby at_227) (own_i0_le_f (by decide)) rfl ?_
      refine g_aload X910 hx 232 (hb hby at_230) rfl rfl rfl ?_
      refine g_iconst X910 hx 233 (hb hby at_232) (0 : Int32) rfl rfl ?_
      obtain ⟨cl914, Ar914, q914, S914, P914, H914, G914⟩ := id V910
      have hin914 := inb_of (j := (0 : Int32)) S914 ⟨by decide, by decide⟩
      refine own_aaload X910 hx hZ e910 rfl Ar914 (v := (.ref b429)) hin914 (Has.at H914 hin914 rfl) 234 (hb hby at_233) rfl ?_
      refine g_goto X910 hx 238 (hb hby at_234) (by decide) (by decide) ?_
      refine g_astore X910 hx 240 (hb hby at_238) rfl (l' := #[.val (.int p0), .val (.int p1), .val (.int (2 : Int32)), .val (.int (1 : Int32)), .val (.ref b420), .val (.ref b429), .val (.ref b439), .val (.ref b451), .val (.ref b439), .val (.int (1 : Int32)), .val (.int (0 : Int32)), .val (.int (0 : Int32)), .val (.ref b899), .val (.int (1 : Int32)), .val (.ref b429), .unset, .unset]) rfl rfl ?_
      refine g_iload X910 hx 242 (hb hby at_240) rfl rfl ?_
      refine g_ifNo X910 hx 245 (hb hby at_242) (own_i0_le_f (by decide)) rfl ?_
      refine g_aload X910 hx 247 (hb hby at_245) rfl rfl rfl ?_
      refine g_iload X910 hx 249 (hb hby at_247) rfl rfl ?_
      refine g_iconst X910 hx 250 (hb hby at_249) (1 : Int32) rfl rfl ?_
      refine g_isub X910 hx 251 (hb hby at_250) rfl ?_
      show own_Go p e below s _ _ _ (T910.setTop (mkF m 251 _ [(.int (0 : Int32)), (.ref b899)]))
      obtain ⟨cl915, Ar915, q915, S915, P915, H915, G915⟩ := id V910
      have hin915 := inb_of (j := (0 : Int32)) S915 ⟨by decide, by decide⟩
      refine own_aaload X910 hx hZ e910 rfl Ar915 (v := (.ref b429)) hin915 (Has.at H915 hin915 rfl) 252 (hb hby at_251) rfl ?_
      refine g_goto X910 hx 256 (hb hby at_252) (by decide) (by decide) ?_
      refine g_astore X910 hx 258 (hb hby at_256) rfl (l' := #[.val (.int p0), .val (.int p1), .val (.int (2 : Int32)), .val (.int (1 : Int32)), .val (.ref b420), .val (.ref b429), .val (.ref b439), .val (.ref b451), .val (.ref b439), .val (.int (1 : Int32)), .val (.int (0 : Int32)), .val (.int (0 : Int32)), .val (.ref b899), .val (.int (1 : Int32)), .val (.ref b429), .val (.ref b429), .unset]) rfl rfl ?_
      refine g_aload X910 hx 260 (hb hby at_258) rfl rfl rfl ?_
      have f916 : Fld Z h910 b420 "com/example/entitygate/entitygate/HtmlNode$Parent" "first" "Lcom/example/entitygate/entitygate/HtmlNode;" (.ref b429) := (Fld.other W910 (Fld.ext E899 f887_13) (Or.inl ne901))
      refine own_getF X910 hx hZ hown (host := "") (Or.inl (hw _ (List.mem_of_getElem? (i := 28) rfl))) (Via.of (hw _ (List.mem_of_getElem? (i := 29) rfl))) e910 f916 263 (hb hby at_260) rfl fun T917 X917 e917 => ?_
      refine g_aload X917 hx 265 (hb hby at_263) rfl rfl rfl ?_
      refine g_acmp X917 hx (x := (.ref b429)) (y := (.ref b429)) (same := true) 268 (hb hby at_265) rfl rfl (decide_eq_true rfl) (by decide) (by decide) ?_
      refine g_aload X917 hx 270 (hb hby at_268) rfl rfl rfl ?_
      have f918 : Fld Z h910 b420 "com/example/entitygate/entitygate/HtmlNode$Parent" "last" "Lcom/example/entitygate/entitygate/HtmlNode;" (.ref b429) := (Fld.other W910 (Fld.ext E899 f887_14) (Or.inl ne901))
      refine own_getF X917 hx hZ hown (host := "") (Or.inl (hw _ (List.mem_of_getElem? (i := 31) rfl))) (Via.of (hw _ (List.mem_of_getElem? (i := 32) rfl))) e917 f918 273 (hb hby at_270) rfl fun T919 X919 e919 => ?_
      refine g_aload X919 hx 275 (hb hby at_273) rfl rfl rfl ?_
      refine g_acmp X919 hx (x := (.ref b429)) (y := (.ref b429)) (same := true) 278 (hb hby at_275) rfl rfl (decide_eq_true rfl) (by decide) (by decide) ?_
      refine g_aload X919 hx 280 (hb hby at_278) rfl rfl rfl ?_
      have f921 : Fld Z h910 b420 "com/example/entitygate/entitygate/HtmlNode" "parent" "Lcom/example/entitygate/entitygate/HtmlNode$Parent;" .null := (Fld.other W910 (Fld.ext E899 f887_10) (Or.inl ne901))
      have f922 : Fld Z h910 b420 "com/example/entitygate/entitygate/HtmlNode" "previous" "Lcom/example/entitygate/entitygate/HtmlNode;" .null := (Fld.other W910 (Fld.ext E899 f887_11) (Or.inl ne901))
      have f923 : Fld Z h910 b420 "com/example/entitygate/entitygate/HtmlNode" "next" "Lcom/example/entitygate/entitygate/HtmlNode;" .null := (Fld.other W910 (Fld.ext E899 f887_12) (Or.inl ne901))
      refine own_callS X919 hx hZ hown (hw _ (List.mem_of_getElem? (i := 34) rfl)) (hw _ (List.mem_of_getElem? (i := 35) rfl)) (by decide) (rm_free1 l Z a0 hw [] b420 h910 n0 z912 f921 f922 f923) (hw _ (List.mem_of_getElem? (i := 37) rfl)) (hw _ (List.mem_of_getElem? (i := 36) rfl)) e919 0 (by decide) (by decide) (by decide) (by decide) [(.ref b420)] [] rfl pd_1 rfl 283 rfl (by rw [hml]; rfl) rfl (hb hby at_280) rfl fun T920 v920 L920 X920 hQ920 => ?_
      obtain ⟨rfl, Nq920, e920⟩ := hQ920
      have N920 := Fr.app N910 Nq920
      show own_Go p e below s _ _ _ (T920.setTop (mkF m 283 _ [(.int (1 : Int32))]))
      refine g_ifNo X920 hx 286 (hb hby at_283) (own_i0_eq_f (by decide)) rfl ?_
      refine g_iconst X920 hx 287 (hb hby at_286) (1 : Int32) rfl rfl ?_
      refine g_goto X920 hx 291 (hb hby at_287) (by decide) (by decide) ?_
      refine g_istore X920 hx 293 (hb hby at_291) (l' := #[.val (.int p0), .val (.int p1), .val (.int (2 : Int32)), .val (.int (1 : Int32)), .val (.ref b420), .val (.ref b429), .val (.ref b439), .val (.ref b451), .val (.ref b439), .val (.int (1 : Int32)), .val (.int (0 : Int32)), .val (.int (0 : Int32)), .val (.ref b899), .val (.int (1 : Int32)), .val (.ref b429), .val (.ref b429), .val (.int (1 : Int32))]) rfl rfl ?_
      refine g_iload X920 hx 295 (hb hby at_293) rfl rfl ?_
      refine g_ifNo X920 hx 298 (hb hby at_295) (own_i0_eq_f (by decide)) rfl ?_
      refine g_aload X920 hx 300 (hb hby at_298) rfl rfl rfl ?_
      refine g_iload X920 hx 302 (hb hby at_300) rfl rfl ?_
      refine g_iconst X920 hx 303 (hb hby at_302) (0 : Int32) rfl rfl ?_
      refine g_aload X920 hx 305 (hb hby at_303) rfl rfl rfl ?_
      have f925 : Fld Z h910 b429 "com/example/entitygate/entitygate/HtmlNode" "parent" "Lcom/example/entitygate/entitygate/HtmlNode$Parent;" (.ref b420) := (Fld.other W910 (Fld.ext E899 f887_5) (Or.inl ne903))
      have f926 : Fld Z h910 b429 "com/example/entitygate/entitygate/HtmlNode" "previous" "Lcom/example/entitygate/entitygate/HtmlNode;" .null := (Fld.other W910 (Fld.ext E899 f887_6) (Or.inl ne903))
      have f927 : Fld Z h910 b429 "com/example/entitygate/entitygate/HtmlNode" "next" "Lcom/example/entitygate/entitygate/HtmlNode;" .null := (Fld.other W910 (Fld.ext E899 f887_7) (Or.inl ne903))
      refine own_callS X920 hx hZ hown (hw _ (List.mem_of_getElem? (i := 43) rfl)) (hw _ (List.mem_of_getElem? (i := 44) rfl)) (by decide) (rm_lk10 l Z a0 hw [] b899 k899 b420 b429 h910 n0 z912 f925 f926 f927 V910) (hw _ (List.mem_of_getElem? (i := 45) rfl)) (hw _ (List.mem_of_getElem? (i := 36) rfl)) e920 0 (by decide) (by decide) (by decide) (by decide) [(.ref b899), (.int (1 : Int32)), (.int (0 : Int32)), (.ref b420)] [] rfl pd_2 rfl 308 rfl (by rw [hml]; rfl) rfl (hb hby at_305) rfl fun T924 v924 L924 X924 hQ924 => ?_
      obtain ⟨rfl, Nq924, e924⟩ := hQ924
      have N924 := Fr.app N920 Nq924
      show own_Go p e below s _ _ _ (T924.setTop (mkF m 308 _ [(.int (1 : Int32))]))
      refine g_ifNo X924 hx 311 (hb hby at_308) (own_i0_eq_f (by decide)) rfl ?_
      refine g_aload X924 hx 313 (hb hby at_311) rfl rfl rfl ?_
      refine g_iload X924 hx 315 (hb hby at_313) rfl rfl ?_
      refine g_iconst X924 hx 316 (hb hby at_315) (1 : Int32) rfl rfl ?_
      refine g_aload X924 hx 318 (hb hby at_316) rfl rfl rfl ?_
      refine own_callS X924 hx hZ hown (hw _ (List.mem_of_getElem? (i := 43) rfl)) (hw _ (List.mem_of_getElem? (i := 44) rfl)) (by decide) (rm_lk11 l Z a0 hw [] b899 b420 h910 n0 z912 ) (hw _ (List.mem_of_getElem? (i := 45) rfl)) (hw _ (List.mem_of_getElem? (i := 36) rfl)) e924 0 (by decide) (by decide) (by decide) (by decide) [(.ref b899), (.int (1 : Int32)), (.int (1 : Int32)), (.ref b420)] [] rfl pd_2 rfl 321 rfl (by rw [hml]; rfl) rfl (hb hby at_318) rfl fun T928 v928 L928 X928 hQ928 => ?_
      obtain ⟨rfl, Nq928, e928⟩ := hQ928
      have N928 := Fr.app N924 Nq928
      show own_Go p e below s _ _ _ (T928.setTop (mkF m 321 _ [(.int (1 : Int32))]))
      refine g_ifNo X928 hx 324 (hb hby at_321) (own_i0_eq_f (by decide)) rfl ?_
      refine g_aload X928 hx 326 (hb hby at_324) rfl rfl rfl ?_
      refine g_iload X928 hx 328 (hb hby at_326) rfl rfl ?_
      refine g_iconst X928 hx 329 (hb hby at_328) (2 : Int32) rfl rfl ?_
      refine g_aload X928 hx 331 (hb hby at_329) rfl rfl rfl ?_
      refine own_callS X928 hx hZ hown (hw _ (List.mem_of_getElem? (i := 43) rfl)) (hw _ (List.mem_of_getElem? (i := 44) rfl)) (by decide) (rm_lk12 l Z a0 hw [] b899 b420 h910 n0 z912 ) (hw _ (List.mem_of_getElem? (i := 45) rfl)) (hw _ (List.mem_of_getElem? (i := 36) rfl)) e928 0 (by decide) (by decide) (by decide) (by decide) [(.ref b899), (.int (1 : Int32)), (.int (2 : Int32)), (.ref b420)] [] rfl pd_2 rfl 334 rfl (by rw [hml]; rfl) rfl (hb hby at_331) rfl fun T929 v929 L929 X929 hQ929 => ?_
      obtain ⟨rfl, Nq929, e929⟩ := hQ929
      have N929 := Fr.app N928 Nq929
      show own_Go p e below s _ _ _ (T929.setTop (mkF m 334 _ [(.int (1 : Int32))]))
      refine g_ifNo X929 hx 337 (hb hby at_334) (own_i0_eq_f (by decide)) rfl ?_
      refine g_iconst X929 hx 338 (hb hby at_337) (1 : Int32) rfl rfl ?_
      refine g_goto X929 hx 342 (hb hby at_338) (by decide) (by decide) ?_
      refine g_istore X929 hx 344 (hb hby at_342) (l' := #[.val (.int p0), .val (.int p1), .val (.int (2 : Int32)), .val (.int (1 : Int32)), .val (.ref b420), .val (.ref b429), .val (.ref b439), .val (.ref b451), .val (.ref b439), .val (.int (1 : Int32)), .val (.int (0 : Int32)), .val (.int (0 : Int32)), .val (.ref b899), .val (.int (1 : Int32)), .val (.ref b429), .val (.ref b429), .val (.int (1 : Int32))]) rfl rfl ?_
      refine g_iload X929 hx 346 (hb hby at_344) rfl rfl ?_
      refine g_ifNo X929 hx 349 (hb hby at_346) (own_i0_eq_f (by decide)) rfl ?_
      refine g_iload X929 hx 351 (hb hby at_349) rfl rfl ?_
      refine g_ifYes X929 hx 362 (hb hby at_351) (own_i0_ne_t (by decide)) (by decide) (by decide) ?_
      refine g_iload X929 hx 364 (hb hby at_362) rfl rfl ?_
      refine g_ifNo X929 hx 367 (hb hby at_364) (own_i0_ne_f (by decide)) rfl ?_
      refine g_aload X929 hx 369 (hb hby at_367) rfl rfl rfl ?_
      have f931 : Fld Z h910 b439 "com/example/entitygate/entitygate/HtmlNode" "parent" "Lcom/example/entitygate/entitygate/HtmlNode$Parent;" .null := (Fld.other W910 (Fld.ext E899 f887_0) (Or.inl ne905))
      have f932 : Fld Z h910 b439 "com/example/entitygate/entitygate/HtmlNode" "previous" "Lcom/example/entitygate/entitygate/HtmlNode;" .null := (Fld.other W910 (Fld.ext E899 f887_1) (Or.inl ne905))
      have f933 : Fld Z h910 b439 "com/example/entitygate/entitygate/HtmlNode" "next" "Lcom/example/entitygate/entitygate/HtmlNode;" .null := (Fld.other W910 (Fld.ext E899 f887_2) (Or.inl ne905))
      refine own_callS X929 hx hZ hown (hw _ (List.mem_of_getElem? (i := 34) rfl)) (hw _ (List.mem_of_getElem? (i := 35) rfl)) (by decide) (rm_free1 l Z a0 hw [] b439 h910 n0 z912 f931 f932 f933) (hw _ (List.mem_of_getElem? (i := 37) rfl)) (hw _ (List.mem_of_getElem? (i := 36) rfl)) e929 0 (by decide) (by decide) (by decide) (by decide) [(.ref b439)] [] rfl pd_1 rfl 372 rfl (by rw [hml]; rfl) rfl (hb hby at_369) rfl fun T930 v930 L930 X930 hQ930 => ?_
      obtain ⟨rfl, Nq930, e930⟩ := hQ930
      have N930 := Fr.app N929 Nq930
      show own_Go p e below s _ _ _ (T930.setTop (mkF m 372 _ [(.int (1 : Int32))]))
      refine g_ifNo X930 hx 375 (hb hby at_372) (own_i0_eq_f (by decide)) rfl ?_
      refine g_iload X930 hx 377 (hb hby at_375) rfl rfl ?_
      refine g_ifNo X930 hx 380 (hb hby at_377) (own_i0_ne_f (by decide)) rfl ?_
      refine g_aload X930 hx 382 (hb hby at_380) rfl rfl rfl ?_
      have f935 : Fld Z h910 b451 "com/example/entitygate/entitygate/HtmlNode" "parent" "Lcom/example/entitygate/entitygate/HtmlNode$Parent;" .null := (Fld.other W910 (Fld.ext E899 (f892.keep Kq887 (ninS (Ne.symm ne456) (ninS (Ne.symm ne455) (ninS (Ne.symm ne453) nin0))))) (Or.inl ne907))
      have f936 : Fld Z h910 b451 "com/example/entitygate/entitygate/HtmlNode" "previous" "Lcom/example/entitygate/entitygate/HtmlNode;" .null := (Fld.other W910 (Fld.ext E899 (f893.keep Kq887 (ninS (Ne.symm ne456) (ninS (Ne.symm ne455) (ninS (Ne.symm ne453) nin0))))) (Or.inl ne907))
      have f937 : Fld Z h910 b451 "com/example/entitygate/entitygate/HtmlNode" "next" "Lcom/example/entitygate/entitygate/HtmlNode;" .null := (Fld.other W910 (Fld.ext E899 (f894.keep Kq887 (ninS (Ne.symm ne456) (ninS (Ne.symm ne455) (ninS (Ne.symm ne453) nin0))))) (Or.inl ne907))
      refine own_callS X930 hx hZ hown (hw _ (List.mem_of_getElem? (i := 34) rfl)) (hw _ (List.mem_of_getElem? (i := 35) rfl)) (by decide) (rm_free1 l Z a0 hw [] b451 h910 n0 z912 f935 f936 f937) (hw _ (List.mem_of_getElem? (i := 37) rfl)) (hw _ (List.mem_of_getElem? (i := 36) rfl)) e930 0 (by decide) (by decide) (by decide) (by decide) [(.ref b451)] [] rfl pd_1 rfl 385 rfl (by rw [hml]; rfl) rfl (hb hby at_382) rfl fun T934 v934 L934 X934 hQ934 => ?_
      obtain ⟨rfl, Nq934, e934⟩ := hQ934
      have N934 := Fr.app N930 Nq934
      show own_Go p e below s _ _ _ (T934.setTop (mkF m 385 _ [(.int (1 : Int32))]))
      refine g_ifNo X934 hx 388 (hb hby at_385) (own_i0_eq_f (by decide)) rfl ?_
      refine g_iconst X934 hx 389 (hb hby at_388) (1 : Int32) rfl rfl ?_
      refine g_goto X934 hx 393 (hb hby at_389) (by decide) (by decide) ?_
      refine g_istore X934 hx 395 (hb hby at_393) (l' := #[.val (.int p0), .val (.int p1), .val (.int (2 : Int32)), .val (.int (1 : Int32)), .val (.ref b420), .val (.ref b429), .val (.ref b439), .val (.ref b451), .val (.ref b439), .val (.int (1 : Int32)), .val (.int (0 : Int32)), .val (.int (0 : Int32)), .val (.ref b899), .val (.int (1 : Int32)), .val (.ref b429), .val (.ref b429), .val (.int (1 : Int32))]) rfl rfl ?_
      refine g_iload X934 hx 397 (hb hby at_395) rfl rfl ?_
      refine own_retN X934 hx hlk (t := .boolean) hret (by simp) (hb hby at_397) ?_ (by decide) (by decide)
      rw [e934]
      exact ⟨rfl, N934⟩
    · show own_Go p e below s _ _ _ (T819.setTop (mkF m 83 _ []))
      refine g_iload_n X819 hx 84 (hb hby at_83) rfl rfl ?_
      refine g_ifYes X819 hx 92 (hb hby at_84) (own_i0_ne_t (by decide)) (by decide) (by decide) ?_
      refine g_iload_n X819 hx 93 (hb hby at_92) rfl rfl ?_
      refine g_iconst X819 hx 94 (hb hby at_93) (1 : Int32) rfl rfl ?_
      refine g_icmpYes X819 hx 102 (hb hby at_94) (own_ii_ne_t (by decide)) (by decide) (by decide) ?_
      refine g_iload_n X819 hx 103 (hb hby at_102) rfl rfl ?_
      refine g_iconst X819 hx 104 (hb hby at_103) (2 : Int32) rfl rfl ?_
      refine g_icmpNo X819 hx 107 (hb hby at_104) (own_ii_ne_f (by decide)) rfl ?_
      refine g_aload X819 hx 109 (hb hby at_107) rfl rfl rfl ?_
      refine g_goto X819 hx 114 (hb hby at_109) (by decide) (by decide) ?_
      refine g_astore X819 hx 116 (hb hby at_114) rfl (l' := #[.val (.int p0), .val (.int p1), .val (.int (2 : Int32)), .val (.int (2 : Int32)), .val (.ref b420), .val (.ref b429), .val (.ref b439), .val (.ref b451), .val (.ref b451), .unset, .unset, .unset, .unset, .unset, .unset, .unset, .unset]) rfl rfl ?_
      refine g_aload X819 hx 118 (hb hby at_116) rfl rfl rfl ?_
      have f939 : Fld Z T819.heap b451 "com/example/entitygate/entitygate/HtmlNode" "parent" "Lcom/example/entitygate/entitygate/HtmlNode$Parent;" .null := (f829.keep Kq819 (ninS (Ne.symm ne456) (ninS (Ne.symm ne455) (ninS (Ne.symm ne453) nin0))))
      have f940 : Exa Z T819.heap b451 "com/example/entitygate/entitygate/HtmlNode$Document" := (f823.keep Kq819)
      refine own_callV X819 hx hZ hown (hw _ (List.mem_of_getElem? (i := 19) rfl)) (hw _ (List.mem_of_getElem? (i := 20) rfl)) (own_nf hZ (hw _ (List.mem_of_getElem? (i := 22) rfl))) (hw _ (List.mem_of_getElem? (i := 22) rfl)) (hw _ (List.mem_of_getElem? (i := 21) rfl)) (by decide) (rm_det0 l Z a0 hw [] b451 T819.heap n0 z835 f939) (hw _ (List.mem_of_getElem? (i := 23) rfl)) (hw _ (List.mem_of_getElem? (i := 14) rfl)) rfl 0 (by decide) (by decide) (by decide) (by decide) f940 [] [] rfl pd_0 rfl 121 rfl (by rw [hml]; rfl) rfl (hb hby at_118) rfl fun T938 v938 L938 X938 hQ938 => ?_
      obtain ⟨rfl, Nq938, e938⟩ := hQ938
      have N938 := Fr.app N819 Nq938
      show own_Go p e below s _ _ _ (T938.setTop (mkF m 121 _ []))
      refine g_iload_n X938 hx 122 (hb hby at_121) rfl rfl ?_
      refine g_iconst X938 hx 123 (hb hby at_122) (1 : Int32) rfl rfl ?_
      refine g_icmpNo X938 hx 126 (hb hby at_123) (own_ii_lt_f (by decide)) rfl ?_
      refine g_iload_n X938 hx 127 (hb hby at_126) rfl rfl ?_
      refine g_ifNo X938 hx 130 (hb hby at_127) (own_i0_eq_f (by decide)) rfl ?_
      refine g_iconst X938 hx 131 (hb hby at_130) (1 : Int32) rfl rfl ?_
      refine g_goto X938 hx 135 (hb hby at_131) (by decide) (by decide) ?_
      refine g_istore X938 hx 137 (hb hby at_135) (l' := #[.val (.int p0), .val (.int p1), .val (.int (2 : Int32)), .val (.int (2 : Int32)), .val (.ref b420), .val (.ref b429), .val (.ref b439), .val (.ref b451), .val (.ref b451), .val (.int (1 : Int32)), .unset, .unset, .unset, .unset, .unset, .unset, .unset]) rfl rfl ?_
      refine g_iload_n X938 hx 138 (hb hby at_137) rfl rfl ?_
      refine g_iconst X938 hx 139 (hb hby at_138) (2 : Int32) rfl rfl ?_
      refine g_icmpNo X938 hx 142 (hb hby at_139) (own_ii_lt_f (by decide)) rfl ?_
      refine g_iload_n X938 hx 143 (hb hby at_142) rfl rfl ?_
      refine g_iconst X938 hx 144 (hb hby at_143) (1 : Int32) rfl rfl ?_
      refine g_icmpNo X938 hx 147 (hb hby at_144) (own_ii_eq_f (by decide)) rfl ?_
      refine g_iconst X938 hx 148 (hb hby at_147) (1 : Int32) rfl rfl ?_
      refine g_goto X938 hx 152 (hb hby at_148) (by decide) (by decide) ?_
      refine g_istore X938 hx 154 (hb hby at_152) (l' := #[.val (.int p0), .val (.int p1), .val (.int (2 : Int32)), .val (.int (2 : Int32)), .val (.ref b420), .val (.ref b429), .val (.ref b439), .val (.ref b451), .val (.ref b451), .val (.int (1 : Int32)), .val (.int (1 : Int32)), .unset, .unset, .unset, .unset, .unset, .unset]) rfl rfl ?_
      refine g_iload_n X938 hx 155 (hb hby at_154) rfl rfl ?_
      refine g_iconst X938 hx 156 (hb hby at_155) (3 : Int32) rfl rfl ?_
      refine g_icmpYes X938 hx 168 (hb hby at_156) (own_ii_lt_t (by decide)) (by decide) (by decide) ?_
      refine g_iconst X938 hx 169 (hb hby at_168) (0 : Int32) rfl rfl ?_
      refine g_istore X938 hx 171 (hb hby at_169) (l' := #[.val (.int p0), .val (.int p1), .val (.int (2 : Int32)), .val (.int (2 : Int32)), .val (.ref b420), .val (.ref b429), .val (.ref b439), .val (.ref b451), .val (.ref b451), .val (.int (1 : Int32)), .val (.int (1 : Int32)), .val (.int (0 : Int32)), .unset, .unset, .unset, .unset, .unset]) rfl rfl ?_
      refine g_iconst X938 hx 172 (hb hby at_171) (3 : Int32) rfl rfl ?_
      refine own_newR X938 hx hZ hown (hw _ (List.mem_of_getElem? (i := 26) rfl)) (hw _ (List.mem_of_getElem? (i := 27) rfl)) e938 175 (hb hby at_172) rfl (by decide) 3 (by decide) (by decide) (by decide) (by decide) fun T941 h941 k941 b941 X941 e941 g941 E941 A941 O941 => ?_
      have f942 : Exa Z T819.heap b420 "com/example/entitygate/entitygate/HtmlNode$Document" := (f820.keep Kq819)
      have ne943 : b420 ≠ b941 := Nat.ne_of_lt (Nat.lt_of_lt_of_le f942.lt (Nat.le_of_eq g941.symm))
      have f944 : Exa Z T819.heap b429 "com/example/entitygate/entitygate/HtmlNode$Document" := (f821.keep Kq819)
      have ne945 : b429 ≠ b941 := Nat.ne_of_lt (Nat.lt_of_lt_of_le f944.lt (Nat.le_of_eq g941.symm))
      have f946 : Exa Z T819.heap b439 "com/example/entitygate/entitygate/HtmlNode$Document" := (f822.keep Kq819)
      have ne947 : b439 ≠ b941 := Nat.ne_of_lt (Nat.lt_of_lt_of_le f946.lt (Nat.le_of_eq g941.symm))
      have ne948 : b451 ≠ b941 := Nat.ne_of_lt (Nat.lt_of_lt_of_le f940.lt (Nat.le_of_eq g941.symm))
      have g_b941 : n0 ≤ b941 := Nat.le_trans z835 (Nat.le_of_eq g941.symm)
      have sz_b941 : h0.size ≤ b941 := Nat.le_trans K834.1 (Nat.le_of_eq g941.symm)
      have K949 : Keep h0 h941 [] := K834.ext E941
      have z950 : n0 ≤ h941.size := (Nat.le_trans z835 E941.1)
      have V941 : Arv Z h941 b941 k941 (.object "com/example/entitygate/entitygate/HtmlNode") (3 : Int32) [.null, .null, .null] .null := (Arv.new A941 (by decide)).pad (pad_rep [] .null 3)
      refine g_astore X941 hx 177 (hb hby at_175) rfl (l' := #[.val (.int p0), .val (.int p1), .val (.int (2 : Int32)), .val (.int (2 : Int32)), .val (.ref b420), .val (.ref b429), .val (.ref b439), .val (.ref b451), .val (.ref b451), .val (.int (1 : Int32)), .val (.int (1 : Int32)), .val (.int (0 : Int32)), .val (.ref b941), .unset, .unset, .unset, .unset]) rfl rfl ?_
      refine g_iconst X941 hx 178 (hb hby at_177) (0 : Int32) rfl rfl ?_
      refine g_istore X941 hx 180 (hb hby at_178) (l' := #[.val (.int p0), .val (.int p1), .val (.int (2 : Int32)), .val (.int (2 : Int32)), .val (.ref b420), .val (.ref b429), .val (.ref b439), .val (.ref b451), .val (.ref b451), .val (.int (1 : Int32)), .val (.int (1 : Int32)), .val (.int (0 : Int32)), .val (.ref b941), .val (.int (0 : Int32)), .unset, .unset, .unset]) rfl rfl ?_
      refine g_iload X941 hx 182 (hb hby at_180) rfl rfl ?_
      refine g_ifNo X941 hx 185 (hb hby at_182) (own_i0_eq_f (by decide)) rfl ?_
      refine g_aload X941 hx 187 (hb hby at_185) rfl rfl rfl ?_
      refine g_iload X941 hx 189 (hb hby at_187) rfl rfl ?_
      refine g_aload X941 hx 191 (hb hby at_189) rfl rfl rfl ?_
      obtain ⟨cl951, Ar951, q951, S951, P951, H951, G951⟩ := id V941
      have hin951 := inb_of (j := (0 : Int32)) S951 ⟨by decide, by decide⟩
      have f952 : Exa Z h941 b429 "com/example/entitygate/entitygate/HtmlNode$Document" := (Exa.ext E941 f944)
      refine own_stR X941 hx hZ e941 Ar951 hin951 rfl (Sto.ofV Ar951 q951 O941 (Ins.of_exa f952 (hw _ (List.mem_of_getElem? (i := 61) rfl)))) 192 (hb hby at_191) rfl fun T951 h951 X951 e951 W951 => ?_
      have V951 : Arv Z h951 b941 k941 (.object "com/example/entitygate/entitygate/HtmlNode") (3 : Int32) [(.ref b429), .null, .null] .null := Arv.set Ar951 q951 S951 P951 H951 G951 (v := (.ref b429)) rfl W951 0 rfl (Nat.le_of_ble_eq_true rfl)
      have N951 := Fr.snoc X951 N938 g_b941
      have z953 : n0 ≤ h951.size := (Nat.le_trans z950 (Keep.of_wr W951).1)
      have K954 : Keep h0 h951 [] := K949.wr W951 (Or.inr sz_b941)
      refine g_iinc X951 hx 195 (hb hby at_192) (z := (1 : Int32)) rfl rfl (l' := #[.val (.int p0), .val (.int p1), .val (.int (2 : Int32)), .val (.int (2 : Int32)), .val (.ref b420), .val (.ref b429), .val (.ref b439), .val (.ref b451), .val (.ref b451), .val (.int (1 : Int32)), .val (.int (1 : Int32)), .val (.int (0 : Int32)), .val (.ref b941), .val (.int (1 : Int32)), .unset, .unset, .unset]) rfl rfl ?_
      refine g_iload X951 hx 197 (hb hby at_195) rfl rfl ?_
      refine g_ifNo X951 hx 200 (hb hby at_197) (own_i0_eq_f (by decide)) rfl ?_
      refine g_aload X951 hx 202 (hb hby at_200) rfl rfl rfl ?_
      refine g_iload X951 hx 204 (hb hby at_202) rfl rfl ?_
      refine g_aload X951 hx 206 (hb hby at_204) rfl rfl rfl ?_
      obtain ⟨cl955, Ar955, q955, S955, P955, H955, G955⟩ := id V951
      have hin955 := inb_of (j := (1 : Int32)) S955 ⟨by decide, by decide⟩
      have f956 : Exa Z h951 b439 "com/example/entitygate/entitygate/HtmlNode$Document" := (Exa.wr W951 (Exa.ext E941 f946))
      refine own_stR X951 hx hZ e951 Ar955 hin955 rfl (Sto.ofV Ar955 q955 O941 (Ins.of_exa f956 (hw _ (List.mem_of_getElem? (i := 61) rfl)))) 207 (hb hby at_206) rfl fun T955 h955 X955 e955 W955 => ?_
      have V955 : Arv Z h955 b941 k941 (.object "com/example/entitygate/entitygate/HtmlNode") (3 : Int32) [(.ref b429), (.ref b439), .null] .null := Arv.set Ar955 q955 S955 P955 H955 G955 (v := (.ref b439)) rfl W955 1 rfl (Nat.le_of_ble_eq_true rfl)
      have N955 := Fr.snoc X955 N951 g_b941
      have z957 : n0 ≤ h955.size := (Nat.le_trans z953 (Keep.of_wr W955).1)
      have K958 : Keep h0 h955 [] := K954.wr W955 (Or.inr sz_b941)
      refine g_iinc X955 hx 210 (hb hby at_207) (z := (2 : Int32)) rfl rfl (l' := #[.val (.int p0), .val (.int p1), .val (.int (2 : Int32)), .val (.int (2 : Int32)), .val (.ref b420), .val (.ref b429), .val (.ref b439), .val (.ref b451), .val (.ref b451), .val (.int (1 : Int32)), .val (.int (1 : Int32)), .val (.int (0 : Int32)), .val (.ref b941), .val (.int (2 : Int32)), .unset, .unset, .unset]) rfl rfl ?_
      refine g_iload X955 hx 212 (hb hby at_210) rfl rfl ?_
      refine g_ifYes X955 hx 225 (hb hby at_212) (own_i0_eq_t (by decide)) (by decide) (by decide) ?_
      refine g_iload X955 hx 227 (hb hby at_225) rfl rfl ?_
      refine g_ifNo X955 hx 230 (hb hby at_227) (own_i0_le_f (by decide)) rfl ?_
      refine g_aload X955 hx 232 (hb hby at_230) rfl rfl rfl ?_
      refine g_iconst X955 hx 233 (hb hby at_232) (0 : Int32) rfl rfl ?_
      obtain ⟨cl959, Ar959, q959, S959, P959, H959, G959⟩ := id V955
      have hin959 := inb_of (j := (0 : Int32)) S959 ⟨by decide, by decide⟩
      refine own_aaload X955 hx hZ e955 rfl Ar959 (v := (.ref b429)) hin959 (Has.at H959 hin959 rfl) 234 (hb hby at_233) rfl ?_
      refine g_goto X955 hx 238 (hb hby at_234) (by decide) (by decide) ?_
      refine g_astore X955 hx 240 (hb hby at_238) rfl (l' := #[.val (.int p0), .val (.int p1), .val (.int (2 : Int32)), .val (.int (2 : Int32)), .val (.ref b420), .val (.ref b429), .val (.ref b439), .val (.ref b451), .val (.ref b451), .val (.int (1 : Int32)), .val (.int (1 : Int32)), .val (.int (0 : Int32)), .val (.ref b941), .val (.int (2 : Int32)), .val (.ref b429), .unset, .unset]) rfl rfl ?_
      refine g_iload X955 hx 242 (hb hby at_240) rfl rfl ?_
      refine g_ifNo X955 hx 245 (hb hby at_242) (own_i0_le_f (by decide)) rfl ?_
      refine g_aload X955 hx 247 (hb hby at_245) rfl rfl rfl ?_
      refine g_iload X955 hx 249 (hb hby at_247) rfl rfl ?_
      refine g_iconst X955 hx 250 (hb hby at_249) (1 : Int32) rfl rfl ?_
      refine g_isub X955 hx 251 (hb hby at_250) rfl ?_
      show own_Go p e below s _ _ _ (T955.setTop (mkF m 251 _ [(.int (1 : Int32)), (.ref b941)]))
      obtain ⟨cl960, Ar960, q960, S960, P960, H960, G960⟩ := id V955
      have hin960 := inb_of (j := (1 : Int32)) S960 ⟨by decide, by decide⟩
      refine own_aaload X955 hx hZ e955 rfl Ar960 (v := (.ref b439)) hin960 (Has.at H960 hin960 rfl) 252 (hb hby at_251) rfl ?_
      refine g_goto X955 hx 256 (hb hby at_252) (by decide) (by decide) ?_
      refine g_astore X955 hx 258 (hb hby at_256) rfl (l' := #[.val (.int p0), .val (.int p1), .val (.int (2 : Int32)), .val (.int (2 : Int32)), .val (.ref b420), .val (.ref b429), .val (.ref b439), .val (.ref b451), .val (.ref b451), .val (.int (1 : Int32)), .val (.int (1 : Int32)), .val (.int (0 : Int32)), .val (.ref b941), .val (.int (2 : Int32)), .val (.ref b429), .val (.ref b439), .unset]) rfl rfl ?_
      refine g_aload X955 hx 260 (hb hby at_258) rfl rfl rfl ?_
      have f961 : Fld Z h955 b420 "com/example/entitygate/entitygate/HtmlNode$Parent" "first" "Lcom/example/entitygate/entitygate/HtmlNode;" (.ref b429) := (Fld.other W955 (Fld.other W951 (Fld.ext E941 f819_13) (Or.inl ne943)) (Or.inl ne943))
      refine own_getF X955 hx hZ hown (host := "") (Or.inl (hw _ (List.mem_of_getElem? (i := 28) rfl))) (Via.of (hw _ (List.mem_of_getElem? (i := 29) rfl))) e955 f961 263 (hb hby at_260) rfl fun T962 X962 e962 => ?_
      refine g_aload X962 hx 265 (hb hby at_263) rfl rfl rfl ?_
      refine g_acmp X962 hx (x := (.ref b429)) (y := (.ref b429)) (same := true) 268 (hb hby at_265) rfl rfl (decide_eq_true rfl) (by decide) (by decide) ?_
      refine g_aload X962 hx 270 (hb hby at_268) rfl rfl rfl ?_
      have f963 : Fld Z h955 b420 "com/example/entitygate/entitygate/HtmlNode$Parent" "last" "Lcom/example/entitygate/entitygate/HtmlNode;" (.ref b439) := (Fld.other W955 (Fld.other W951 (Fld.ext E941 f819_14) (Or.inl ne943)) (Or.inl ne943))
      refine own_getF X962 hx hZ hown (host := "") (Or.inl (hw _ (List.mem_of_getElem? (i := 31) rfl))) (Via.of (hw _ (List.mem_of_getElem? (i := 32) rfl))) e962 f963 273 (hb hby at_270) rfl fun T964 X964 e964 => ?_
      refine g_aload X964 hx 275 (hb hby at_273) rfl rfl rfl ?_
      refine g_acmp X964 hx (x := (.ref b439)) (y := (.ref b439)) (same := true) 278 (hb hby at_275) rfl rfl (decide_eq_true rfl) (by decide) (by decide) ?_
      refine g_aload X964 hx 280 (hb hby at_278) rfl rfl rfl ?_
      have f966 : Fld Z h955 b420 "com/example/entitygate/entitygate/HtmlNode" "parent" "Lcom/example/entitygate/entitygate/HtmlNode$Parent;" .null := (Fld.other W955 (Fld.other W951 (Fld.ext E941 f819_10) (Or.inl ne943)) (Or.inl ne943))
      have f967 : Fld Z h955 b420 "com/example/entitygate/entitygate/HtmlNode" "previous" "Lcom/example/entitygate/entitygate/HtmlNode;" .null := (Fld.other W955 (Fld.other W951 (Fld.ext E941 f819_11) (Or.inl ne943)) (Or.inl ne943))
      have f968 : Fld Z h955 b420 "com/example/entitygate/entitygate/HtmlNode" "next" "Lcom/example/entitygate/entitygate/HtmlNode;" .null := (Fld.other W955 (Fld.other W951 (Fld.ext E941 f819_12) (Or.inl ne943)) (Or.inl ne943))
      refine own_callS X964 hx hZ hown (hw _ (List.mem_of_getElem? (i := 34) rfl)) (hw _ (List.mem_of_getElem? (i := 35) rfl)) (by decide) (rm_free1 l Z a0 hw [] b420 h955 n0 z957 f966 f967 f968) (hw _ (List.mem_of_getElem? (i := 37) rfl)) (hw _ (List.mem_of_getElem? (i := 36) rfl)) e964 0 (by decide) (by decide) (by decide) (by decide) [(.ref b420)] [] rfl pd_1 rfl 283 rfl (by rw [hml]; rfl) rfl (hb hby at_280) rfl fun T965 v965 L965 X965 hQ965 => ?_
      obtain ⟨rfl, Nq965, e965⟩ := hQ965
      have N965 := Fr.app N955 Nq965
      show own_Go p e below s _ _ _ (T965.setTop (mkF m 283 _ [(.int (1 : Int32))]))
      refine g_ifNo X965 hx 286 (hb hby at_283) (own_i0_eq_f (by decide)) rfl ?_
      refine g_iconst X965 hx 287 (hb hby at_286) (1 : Int32) rfl rfl ?_
      refine g_goto X965 hx 291 (hb hby at_287) (by decide) (by decide) ?_
      refine g_istore X965 hx 293 (hb hby at_291) (l' := #[.val (.int p0), .val (.int p1), .val (.int (2 : Int32)), .val (.int (2 : Int32)), .val (.ref b420), .val (.ref b429), .val (.ref b439), .val (.ref b451), .val (.ref b451), .val (.int (1 : Int32)), .val (.int (1 : Int32)), .val (.int (0 : Int32)), .val (.ref b941), .val (.int (2 : Int32)), .val (.ref b429), .val (.ref b439), .val (.int (1 : Int32))]) rfl rfl ?_
      refine g_iload X965 hx 295 (hb hby at_293) rfl rfl ?_
      refine g_ifNo X965 hx 298 (hb hby at_295) (own_i0_eq_f (by decide)) rfl ?_
      refine g_aload X965 hx 300 (hb hby at_298) rfl rfl rfl ?_
      refine g_iload X965 hx 302 (hb hby at_300) rfl rfl ?_
      refine g_iconst X965 hx 303 (hb hby at_302) (0 : Int32) rfl rfl ?_
      refine g_aload X965 hx 305 (hb hby at_303) rfl rfl rfl ?_
      have f970 : Fld Z h955 b429 "com/example/entitygate/entitygate/HtmlNode" "parent" "Lcom/example/entitygate/entitygate/HtmlNode$Parent;" (.ref b420) := (Fld.other W955 (Fld.other W951 (Fld.ext E941 f819_5) (Or.inl ne945)) (Or.inl ne945))
      have f971 : Fld Z h955 b429 "com/example/entitygate/entitygate/HtmlNode" "previous" "Lcom/example/entitygate/entitygate/HtmlNode;" .null := (Fld.other W955 (Fld.other W951 (Fld.ext E941 f819_6) (Or.inl ne945)) (Or.inl ne945))
      have f972 : Fld Z h955 b429 "com/example/entitygate/entitygate/HtmlNode" "next" "Lcom/example/entitygate/entitygate/HtmlNode;" (.ref b439) := (Fld.other W955 (Fld.other W951 (Fld.ext E941 f819_7) (Or.inl ne945)) (Or.inl ne945))
      refine own_callS X965 hx hZ hown (hw _ (List.mem_of_getElem? (i := 43) rfl)) (hw _ (List.mem_of_getElem? (i := 44) rfl)) (by decide) (rm_lk20 l Z a0 hw [] b941 k941 b420 b429 b439 h955 n0 z957 f970 f971 f972 V955) (hw _ (List.mem_of_getElem? (i := 45) rfl)) (hw _ (List.mem_of_getElem? (i := 36) rfl)) e965 0 (by decide) (by decide) (by decide) (by decide) [(.ref b941), (.int (2 : Int32)), (.int (0 : Int32)), (.ref b420)] [] rfl pd_2 rfl 308 rfl (by rw [hml]; rfl) rfl (hb hby at_305) rfl fun T969 v969 L969 X969 hQ969 => ?_
      obtain ⟨rfl, Nq969, e969⟩ := hQ969
      have N969 := Fr.app N965 Nq969
      show own_Go p e below s _ _ _ (T969.setTop (mkF m 308 _ [(.int (1 : Int32))]))
      refine g_ifNo X969 hx 311 (hb hby at_308) (own_i0_eq_f (by decide)) rfl ?_
      refine g_aload X969 hx 313 (hb hby at_311) rfl rfl rfl ?_
      refine g_iload X969 hx 315 (hb hby at_313) rfl rfl ?_
      refine g_iconst X969 hx 316 (hb hby at_315) (1 : Int32) rfl rfl ?_
      refine g_aload X969 hx 318 (hb hby at_316) rfl rfl rfl ?_
      have f974 : Fld Z h955 b439 "com/example/entitygate/entitygate/HtmlNode" "parent" "Lcom/example/entitygate/entitygate/HtmlNode$Parent;" (.ref b420) := (Fld.other W955 (Fld.other W951 (Fld.ext E941 f819_0) (Or.inl ne947)) (Or.inl ne947))
      have f975 : Fld Z h955 b439 "com/example/entitygate/entitygate/HtmlNode" "previous" "Lcom/example/entitygate/entitygate/HtmlNode;" (.ref b429) := (Fld.other W955 (Fld.other W951 (Fld.ext E941 f819_1) (Or.inl ne947)) (Or.inl ne947))
      have f976 : Fld Z h955 b439 "com/example/entitygate/entitygate/HtmlNode" "next" "Lcom/example/entitygate/entitygate/HtmlNode;" .null := (Fld.other W955 (Fld.other W951 (Fld.ext E941 f819_2) (Or.inl ne947)) (Or.inl ne947))
      refine own_callS X969 hx hZ hown (hw _ (List.mem_of_getElem? (i := 43) rfl)) (hw _ (List.mem_of_getElem? (i := 44) rfl)) (by decide) (rm_lk21 l Z a0 hw [] b941 k941 b420 b429 b439 h955 n0 z957 f974 f975 f976 V955) (hw _ (List.mem_of_getElem? (i := 45) rfl)) (hw _ (List.mem_of_getElem? (i := 36) rfl)) e969 0 (by decide) (by decide) (by decide) (by decide) [(.ref b941), (.int (2 : Int32)), (.int (1 : Int32)), (.ref b420)] [] rfl pd_2 rfl 321 rfl (by rw [hml]; rfl) rfl (hb hby at_318) rfl fun T973 v973 L973 X973 hQ973 => ?_
      obtain ⟨rfl, Nq973, e973⟩ := hQ973
      have N973 := Fr.app N969 Nq973
      show own_Go p e below s _ _ _ (T973.setTop (mkF m 321 _ [(.int (1 : Int32))]))
      refine g_ifNo X973 hx 324 (hb hby at_321) (own_i0_eq_f (by decide)) rfl ?_
      refine g_aload X973 hx 326 (hb hby at_324) rfl rfl rfl ?_
      refine g_iload X973 hx 328 (hb hby at_326) rfl rfl ?_
      refine g_iconst X973 hx 329 (hb hby at_328) (2 : Int32) rfl rfl ?_
      refine g_aload X973 hx 331 (hb hby at_329) rfl rfl rfl ?_
      refine own_callS X973 hx hZ hown (hw _ (List.mem_of_getElem? (i := 43) rfl)) (hw _ (List.mem_of_getElem? (i := 44) rfl)) (by decide) (rm_lk22 l Z a0 hw [] b941 b420 h955 n0 z957 ) (hw _ (List.mem_of_getElem? (i := 45) rfl)) (hw _ (List.mem_of_getElem? (i := 36) rfl)) e973 0 (by decide) (by decide) (by decide) (by decide) [(.ref b941), (.int (2 : Int32)), (.int (2 : Int32)), (.ref b420)] [] rfl pd_2 rfl 334 rfl (by rw [hml]; rfl) rfl (hb hby at_331) rfl fun T977 v977 L977 X977 hQ977 => ?_
      obtain ⟨rfl, Nq977, e977⟩ := hQ977
      have N977 := Fr.app N973 Nq977
      show own_Go p e below s _ _ _ (T977.setTop (mkF m 334 _ [(.int (1 : Int32))]))
      refine g_ifNo X977 hx 337 (hb hby at_334) (own_i0_eq_f (by decide)) rfl ?_
      refine g_iconst X977 hx 338 (hb hby at_337) (1 : Int32) rfl rfl ?_
      refine g_goto X977 hx 342 (hb hby at_338) (by decide) (by decide) ?_
      refine g_istore X977 hx 344 (hb hby at_342) (l' := #[.val (.int p0), .val (.int p1), .val (.int (2 : Int32)), .val (.int (2 : Int32)), .val (.ref b420), .val (.ref b429), .val (.ref b439), .val (.ref b451), .val (.ref b451), .val (.int (1 : Int32)), .val (.int (1 : Int32)), .val (.int (0 : Int32)), .val (.ref b941), .val (.int (2 : Int32)), .val (.ref b429), .val (.ref b439), .val (.int (1 : Int32))]) rfl rfl ?_
      refine g_iload X977 hx 346 (hb hby at_344) rfl rfl ?_
      refine g_ifNo X977 hx 349 (hb hby at_346) (own_i0_eq_f (by decide)) rfl ?_
      refine g_iload X977 hx 351 (hb hby at_349) rfl rfl ?_
      refine g_ifYes X977 hx 362 (hb hby at_351) (own_i0_ne_t (by decide)) (by decide) (by decide) ?_
      refine g_iload X977 hx 364 (hb hby at_362) rfl rfl ?_
      refine g_ifYes X977 hx 375 (hb hby at_364) (own_i0_ne_t (by decide)) (by decide) (by decide) ?_
      refine g_iload X977 hx 377 (hb hby at_375) rfl rfl ?_
      refine g_ifNo X977 hx 380 (hb hby at_377) (own_i0_ne_f (by decide)) rfl ?_
      refine g_aload X977 hx 382 (hb hby at_380) rfl rfl rfl ?_
      have f979 : Fld Z h955 b451 "com/example/entitygate/entitygate/HtmlNode" "parent" "Lcom/example/entitygate/entitygate/HtmlNode$Parent;" .null := (Fld.other W955 (Fld.other W951 (Fld.ext E941 f939) (Or.inl ne948)) (Or.inl ne948))
      have f980 : Fld Z h955 b451 "com/example/entitygate/entitygate/HtmlNode" "previous" "Lcom/example/entitygate/entitygate/HtmlNode;" .null := (Fld.other W955 (Fld.other W951 (Fld.ext E941 (f830.keep Kq819 (ninS (Ne.symm ne456) (ninS (Ne.symm ne455) (ninS (Ne.symm ne453) nin0))))) (Or.inl ne948)) (Or.inl ne948))
      have f981 : Fld Z h955 b451 "com/example/entitygate/entitygate/HtmlNode" "next" "Lcom/example/entitygate/entitygate/HtmlNode;" .null := (Fld.other W955 (Fld.other W951 (Fld.ext E941 (f831.keep Kq819 (ninS (Ne.symm ne456) (ninS (Ne.symm ne455) (ninS (Ne.symm ne453) nin0))))) (Or.inl ne948)) (Or.inl ne948))
      refine own_callS X977 hx hZ hown (hw _ (List.mem_of_getElem? (i := 34) rfl)) (hw _ (List.mem_of_getElem? (i := 35) rfl)) (by decide) (rm_free1 l Z a0 hw [] b451 h955 n0 z957 f979 f980 f981) (hw _ (List.mem_of_getElem? (i := 37) rfl)) (hw _ (List.mem_of_getElem? (i := 36) rfl)) e977 0 (by decide) (by decide) (by decide) (by decide) [(.ref b451)] [] rfl pd_1 rfl 385 rfl (by rw [hml]; rfl) rfl (hb hby at_382) rfl fun T978 v978 L978 X978 hQ978 => ?_
      obtain ⟨rfl, Nq978, e978⟩ := hQ978
      have N978 := Fr.app N977 Nq978
      show own_Go p e below s _ _ _ (T978.setTop (mkF m 385 _ [(.int (1 : Int32))]))
      refine g_ifNo X978 hx 388 (hb hby at_385) (own_i0_eq_f (by decide)) rfl ?_
      refine g_iconst X978 hx 389 (hb hby at_388) (1 : Int32) rfl rfl ?_
      refine g_goto X978 hx 393 (hb hby at_389) (by decide) (by decide) ?_
      refine g_istore X978 hx 395 (hb hby at_393) (l' := #[.val (.int p0), .val (.int p1), .val (.int (2 : Int32)), .val (.int (2 : Int32)), .val (.ref b420), .val (.ref b429), .val (.ref b439), .val (.ref b451), .val (.ref b451), .val (.int (1 : Int32)), .val (.int (1 : Int32)), .val (.int (0 : Int32)), .val (.ref b941), .val (.int (2 : Int32)), .val (.ref b429), .val (.ref b439), .val (.int (1 : Int32))]) rfl rfl ?_
      refine g_iload X978 hx 397 (hb hby at_395) rfl rfl ?_
      refine own_retN X978 hx hlk (t := .boolean) hret (by simp) (hb hby at_397) ?_ (by decide) (by decide)
      rw [e978]
      exact ⟨rfl, N978⟩
    · show own_Go p e below s _ _ _ (T819.setTop (mkF m 83 _ []))
      refine g_iload_n X819 hx 84 (hb hby at_83) rfl rfl ?_
      refine g_ifYes X819 hx 92 (hb hby at_84) (own_i0_ne_t (by decide)) (by decide) (by decide) ?_
      refine g_iload_n X819 hx 93 (hb hby at_92) rfl rfl ?_
      refine g_iconst X819 hx 94 (hb hby at_93) (1 : Int32) rfl rfl ?_
      refine g_icmpYes X819 hx 102 (hb hby at_94) (own_ii_ne_t (by decide)) (by decide) (by decide) ?_
      refine g_iload_n X819 hx 103 (hb hby at_102) rfl rfl ?_
      refine g_iconst X819 hx 104 (hb hby at_103) (2 : Int32) rfl rfl ?_
      refine g_icmpYes X819 hx 112 (hb hby at_104) (own_ii_ne_t (by decide)) (by decide) (by decide) ?_
      refine g_aload X819 hx 114 (hb hby at_112) rfl rfl rfl ?_
      refine g_astore X819 hx 116 (hb hby at_114) rfl (l' := #[.val (.int p0), .val (.int p1), .val (.int (2 : Int32)), .val (.int (3 : Int32)), .val (.ref b420), .val (.ref b429), .val (.ref b439), .val (.ref b451), .val (.ref b420), .unset, .unset, .unset, .unset, .unset, .unset, .unset, .unset]) rfl rfl ?_
      refine g_aload X819 hx 118 (hb hby at_116) rfl rfl rfl ?_
      have f983 : Exa Z T819.heap b420 "com/example/entitygate/entitygate/HtmlNode$Document" := (f820.keep Kq819)
      refine own_callV X819 hx hZ hown (hw _ (List.mem_of_getElem? (i := 19) rfl)) (hw _ (List.mem_of_getElem? (i := 20) rfl)) (own_nf hZ (hw _ (List.mem_of_getElem? (i := 22) rfl))) (hw _ (List.mem_of_getElem? (i := 22) rfl)) (hw _ (List.mem_of_getElem? (i := 21) rfl)) (by decide) (rm_det0 l Z a0 hw [] b420 T819.heap n0 z835 f819_10) (hw _ (List.mem_of_getElem? (i := 23) rfl)) (hw _ (List.mem_of_getElem? (i := 14) rfl)) rfl 0 (by decide) (by decide) (by decide) (by decide) f983 [] [] rfl pd_0 rfl 121 rfl (by rw [hml]; rfl) rfl (hb hby at_118) rfl fun T982 v982 L982 X982 hQ982 => ?_
      obtain ⟨rfl, Nq982, e982⟩ := hQ982
      have N982 := Fr.app N819 Nq982
      show own_Go p e below s _ _ _ (T982.setTop (mkF m 121 _ []))
      refine g_iload_n X982 hx 122 (hb hby at_121) rfl rfl ?_
      refine g_iconst X982 hx 123 (hb hby at_122) (1 : Int32) rfl rfl ?_
      refine g_icmpNo X982 hx 126 (hb hby at_123) (own_ii_lt_f (by decide)) rfl ?_
      refine g_iload_n X982 hx 127 (hb hby at_126) rfl rfl ?_
      refine g_ifNo X982 hx 130 (hb hby at_127) (own_i0_eq_f (by decide)) rfl ?_
      refine g_iconst X982 hx 131 (hb hby at_130) (1 : Int32) rfl rfl ?_
      refine g_goto X982 hx 135 (hb hby at_131) (by decide) (by decide) ?_
      refine g_istore X982 hx 137 (hb hby at_135) (l' := #[.val (.int p0), .val (.int p1), .val (.int (2 : Int32)), .val (.int (3 : Int32)), .val (.ref b420), .val (.ref b429), .val (.ref b439), .val (.ref b451), .val (.ref b420), .val (.int (1 : Int32)), .unset, .unset, .unset, .unset, .unset, .unset, .unset]) rfl rfl ?_
      refine g_iload_n X982 hx 138 (hb hby at_137) rfl rfl ?_
      refine g_iconst X982 hx 139 (hb hby at_138) (2 : Int32) rfl rfl ?_
      refine g_icmpNo X982 hx 142 (hb hby at_139) (own_ii_lt_f (by decide)) rfl ?_
      refine g_iload_n X982 hx 143 (hb hby at_142) rfl rfl ?_
      refine g_iconst X982 hx 144 (hb hby at_143) (1 : Int32) rfl rfl ?_
      refine g_icmpNo X982 hx 147 (hb hby at_144) (own_ii_eq_f (by decide)) rfl ?_
      refine g_iconst X982 hx 148 (hb hby at_147) (1 : Int32) rfl rfl ?_
      refine g_goto X982 hx 152 (hb hby at_148) (by decide) (by decide) ?_
      refine g_istore X982 hx 154 (hb hby at_152) (l' := #[.val (.int p0), .val (.int p1), .val (.int (2 : Int32)), .val (.int (3 : Int32)), .val (.ref b420), .val (.ref b429), .val (.ref b439), .val (.ref b451), .val (.ref b420), .val (.int (1 : Int32)), .val (.int (1 : Int32)), .unset, .unset, .unset, .unset, .unset, .unset]) rfl rfl ?_
      refine g_iload_n X982 hx 155 (hb hby at_154) rfl rfl ?_
      refine g_iconst X982 hx 156 (hb hby at_155) (3 : Int32) rfl rfl ?_
      refine g_icmpYes X982 hx 168 (hb hby at_156) (own_ii_lt_t (by decide)) (by decide) (by decide) ?_
      refine g_iconst X982 hx 169 (hb hby at_168) (0 : Int32) rfl rfl ?_
      refine g_istore X982 hx 171 (hb hby at_169) (l' := #[.val (.int p0), .val (.int p1), .val (.int (2 : Int32)), .val (.int (3 : Int32)), .val (.ref b420), .val (.ref b429), .val (.ref b439), .val (.ref b451), .val (.ref b420), .val (.int (1 : Int32)), .val (.int (1 : Int32)), .val (.int (0 : Int32)), .unset, .unset, .unset, .unset, .unset]) rfl rfl ?_
      refine g_iconst X982 hx 172 (hb hby at_171) (3 : Int32) rfl rfl ?_
      refine own_newR X982 hx hZ hown (hw _ (List.mem_of_getElem? (i := 26) rfl)) (hw _ (List.mem_of_getElem? (i := 27) rfl)) e982 175 (hb hby at_172) rfl (by decide) 3 (by decide) (by decide) (by decide) (by decide) fun T984 h984 k984 b984 X984 e984 g984 E984 A984 O984 => ?_
      have ne985 : b420 ≠ b984 := Nat.ne_of_lt (Nat.lt_of_lt_of_le f983.lt (Nat.le_of_eq g984.symm))
      have f986 : Exa Z T819.heap b429 "com/example/entitygate/entitygate/HtmlNode$Document" := (f821.keep Kq819)
      have ne987 : b429 ≠ b984 := Nat.ne_of_lt (Nat.lt_of_lt_of_le f986.lt (Nat.le_of_eq g984.symm))
      have f988 : Exa Z T819.heap b439 "com/example/entitygate/entitygate/HtmlNode$Document" := (f822.keep Kq819)
      have ne989 : b439 ≠ b984 := Nat.ne_of_lt (Nat.lt_of_lt_of_le f988.lt (Nat.le_of_eq g984.symm))
      have f990 : Exa Z T819.heap b451 "com/example/entitygate/entitygate/HtmlNode$Document" := (f823.keep Kq819)
      have ne991 : b451 ≠ b984 := Nat.ne_of_lt (Nat.lt_of_lt_of_le f990.lt (Nat.le_of_eq g984.symm))
      have g_b984 : n0 ≤ b984 := Nat.le_trans z835 (Nat.le_of_eq g984.symm)
      have sz_b984 : h0.size ≤ b984 := Nat.le_trans K834.1 (Nat.le_of_eq g984.symm)
      have K992 : Keep h0 h984 [] := K834.ext E984
      have z993 : n0 ≤ h984.size := (Nat.le_trans z835 E984.1)
      have V984 : Arv Z h984 b984 k984 (.object "com/example/entitygate/entitygate/HtmlNode") (3 : Int32) [.null, .null, .null] .null := (Arv.new A984 (by decide)).pad (pad_rep [] .null 3)
      refine g_astore X984 hx 177 (hb hby at_175) rfl (l' := #[.val (.int p0), .val (.int p1), .val (.int (2 : Int32)), .val (.int (3 : Int32)), .val (.ref b420), .val (.ref b429), .val (.ref b439), .val (.ref b451), .val (.ref b420), .val (.int (1 : Int32)), .val (.int (1 : Int32)), .val (.int (0 : Int32)), .val (.ref b984), .unset, .unset, .unset, .unset]) rfl rfl ?_
      refine g_iconst X984 hx 178 (hb hby at_177) (0 : Int32) rfl rfl ?_
      refine g_istore X984 hx 180 (hb hby at_178) (l' := #[.val (.int p0), .val (.int p1), .val (.int (2 : Int32)), .val (.int (3 : Int32)), .val (.ref b420), .val (.ref b429), .val (.ref b439), .val (.ref b451), .val (.ref b420), .val (.int (1 : Int32)), .val (.int (1 : Int32)), .val (.int (0 : Int32)), .val (.ref b984), .val (.int (0 : Int32)), .unset, .unset, .unset]) rfl rfl ?_
      refine g_iload X984 hx 182 (hb hby at_180) rfl rfl ?_
      refine g_ifNo X984 hx 185 (hb hby at_182) (own_i0_eq_f (by decide)) rfl ?_
      refine g_aload X984 hx 187 (hb hby at_185) rfl rfl rfl ?_
      refine g_iload X984 hx 189 (hb hby at_187) rfl rfl ?_
      refine g_aload X984 hx 191 (hb hby at_189) rfl rfl rfl ?_
      obtain ⟨cl994, Ar994, q994, S994, P994, H994, G994⟩ := id V984
      have hin994 := inb_of (j := (0 : Int32)) S994 ⟨by decide, by decide⟩
      have f995 : Exa Z h984 b429 "com/example/entitygate/entitygate/HtmlNode$Document" := (Exa.ext E984 f986)
      refine own_stR X984 hx hZ e984 Ar994 hin994 rfl (Sto.ofV Ar994 q994 O984 (Ins.of_exa f995 (hw _ (List.mem_of_getElem? (i := 61) rfl)))) 192 (hb hby at_191) rfl fun T994 h994 X994 e994 W994 => ?_
      have V994 : Arv Z h994 b984 k984 (.object "com/example/entitygate/entitygate/HtmlNode") (3 : Int32) [(.ref b429), .null, .null] .null := Arv.set Ar994 q994 S994 P994 H994 G994 (v := (.ref b429)) rfl W994 0 rfl (Nat.le_of_ble_eq_true rfl)
      have N994 := Fr.snoc X994 N982 g_b984
      have z996 : n0 ≤ h994.size := (Nat.le_trans z993 (Keep.of_wr W994).1)
      have K997 : Keep h0 h994 [] := K992.wr W994 (Or.inr sz_b984)
      refine g_iinc X994 hx 195 (hb hby at_192) (z := (1 : Int32)) rfl rfl (l' := #[.val (.int p0), .val (.int p1), .val (.int (2 : Int32)), .val (.int (3 : Int32)), .val (.ref b420), .val (.ref b429), .val (.ref b439), .val (.ref b451), .val (.ref b420), .val (.int (1 : Int32)), .val (.int (1 : Int32)), .val (.int (0 : Int32)), .val (.ref b984), .val (.int (1 : Int32)), .unset, .unset, .unset]) rfl rfl ?_
      refine g_iload X994 hx 197 (hb hby at_195) rfl rfl ?_
      refine g_ifNo X994 hx 200 (hb hby at_197) (own_i0_eq_f (by decide)) rfl ?_
      refine g_aload X994 hx 202 (hb hby at_200) rfl rfl rfl ?_
      refine g_iload X994 hx 204 (hb hby at_202) rfl rfl ?_
      refine g_aload X994 hx 206 (hb hby at_204) rfl rfl rfl ?_
      obtain ⟨cl998, Ar998, q998, S998, P998, H998, G998⟩ := id V994
      have hin998 := inb_of (j := (1 : Int32)) S998 ⟨by decide, by decide⟩
      have f999 : Exa Z h994 b439 "com/example/entitygate/entitygate/HtmlNode$Document" := (Exa.wr W994 (Exa.ext E984 f988))
      refine own_stR X994 hx hZ e994 Ar998 hin998 rfl (Sto.ofV Ar998 q998 O984 (Ins.of_exa f999 (hw _ (List.mem_of_getElem? (i := 61) rfl)))) 207 (hb hby at_206) rfl fun T998 h998 X998 e998 W998 => ?_
      have V998 : Arv Z h998 b984 k984 (.object "com/example/entitygate/entitygate/HtmlNode") (3 : Int32) [(.ref b429), (.ref b439), .null] .null := Arv.set Ar998 q998 S998 P998 H998 G998 (v := (.ref b439)) rfl W998 1 rfl (Nat.le_of_ble_eq_true rfl)
      have N998 := Fr.snoc X998 N994 g_b984
      have z1000 : n0 ≤ h998.size := (Nat.le_trans z996 (Keep.of_wr W998).1)
      have K1001 : Keep h0 h998 [] := K997.wr W998 (Or.inr sz_b984)
      refine g_iinc X998 hx 210 (hb hby at_207) (z := (2 : Int32)) rfl rfl (l' := #[.val (.int p0), .val (.int p1), .val (.int (2 : Int32)), .val (.int (3 : Int32)), .val (.ref b420), .val (.ref b429), .val (.ref b439), .val (.ref b451), .val (.ref b420), .val (.int (1 : Int32)), .val (.int (1 : Int32)), .val (.int (0 : Int32)), .val (.ref b984), .val (.int (2 : Int32)), .unset, .unset, .unset]) rfl rfl ?_
      refine g_iload X998 hx 212 (hb hby at_210) rfl rfl ?_
      refine g_ifYes X998 hx 225 (hb hby at_212) (own_i0_eq_t (by decide)) (by decide) (by decide) ?_
      refine g_iload X998 hx 227 (hb hby at_225) rfl rfl ?_
      refine g_ifNo X998 hx 230 (hb hby at_227) (own_i0_le_f (by decide)) rfl ?_
      refine g_aload X998 hx 232 (hb hby at_230) rfl rfl rfl ?_
      refine g_iconst X998 hx 233 (hb hby at_232) (0 : Int32) rfl rfl ?_
      obtain ⟨cl1002, Ar1002, q1002, S1002, P1002, H1002, G1002⟩ := id V998
      have hin1002 := inb_of (j := (0 : Int32)) S1002 ⟨by decide, by decide⟩
      refine own_aaload X998 hx hZ e998 rfl Ar1002 (v := (.ref b429)) hin1002 (Has.at H1002 hin1002 rfl) 234 (hb hby at_233) rfl ?_
      refine g_goto X998 hx 238 (hb hby at_234) (by decide) (by decide) ?_
      refine g_astore X998 hx 240 (hb hby at_238) rfl (l' := #[.val (.int p0), .val (.int p1), .val (.int (2 : Int32)), .val (.int (3 : Int32)), .val (.ref b420), .val (.ref b429), .val (.ref b439), .val (.ref b451), .val (.ref b420), .val (.int (1 : Int32)), .val (.int (1 : Int32)), .val (.int (0 : Int32)), .val (.ref b984), .val (.int (2 : Int32)), .val (.ref b429), .unset, .unset]) rfl rfl ?_
      refine g_iload X998 hx 242 (hb hby at_240) rfl rfl ?_
      refine g_ifNo X998 hx 245 (hb hby at_242) (own_i0_le_f (by decide)) rfl ?_
      refine g_aload X998 hx 247 (hb hby at_245) rfl rfl rfl ?_
      refine g_iload X998 hx 249 (hb hby at_247) rfl rfl ?_
      refine g_iconst X998 hx 250 (hb hby at_249) (1 : Int32) rfl rfl ?_
      refine g_isub X998 hx 251 (hb hby at_250) rfl ?_
      show own_Go p e below s _ _ _ (T998.setTop (mkF m 251 _ [(.int (1 : Int32)), (.ref b984)]))
      obtain ⟨cl1003, Ar1003, q1003, S1003, P1003, H1003, G1003⟩ := id V998
      have hin1003 := inb_of (j := (1 : Int32)) S1003 ⟨by decide, by decide⟩
      refine own_aaload X998 hx hZ e998 rfl Ar1003 (v := (.ref b439)) hin1003 (Has.at H1003 hin1003 rfl) 252 (hb hby at_251) rfl ?_
      refine g_goto X998 hx 256 (hb hby at_252) (by decide) (by decide) ?_
      refine g_astore X998 hx 258 (hb hby at_256) rfl (l' := #[.val (.int p0), .val (.int p1), .val (.int (2 : Int32)), .val (.int (3 : Int32)), .val (.ref b420), .val (.ref b429), .val (.ref b439), .val (.ref b451), .val (.ref b420), .val (.int (1 : Int32)), .val (.int (1 : Int32)), .val (.int (0 : Int32)), .val (.ref b984), .val (.int (2 : Int32)), .val (.ref b429), .val (.ref b439), .unset]) rfl rfl ?_
      refine g_aload X998 hx 260 (hb hby at_258) rfl rfl rfl ?_
      have f1004 : Fld Z h998 b420 "com/example/entitygate/entitygate/HtmlNode$Parent" "first" "Lcom/example/entitygate/entitygate/HtmlNode;" (.ref b429) := (Fld.other W998 (Fld.other W994 (Fld.ext E984 f819_13) (Or.inl ne985)) (Or.inl ne985))
      refine own_getF X998 hx hZ hown (host := "") (Or.inl (hw _ (List.mem_of_getElem? (i := 28) rfl))) (Via.of (hw _ (List.mem_of_getElem? (i := 29) rfl))) e998 f1004 263 (hb hby at_260) rfl fun T1005 X1005 e1005 => ?_
      refine g_aload X1005 hx 265 (hb hby at_263) rfl rfl rfl ?_
      refine g_acmp X1005 hx (x := (.ref b429)) (y := (.ref b429)) (same := true) 268 (hb hby at_265) rfl rfl (decide_eq_true rfl) (by decide) (by decide) ?_
      refine g_aload X1005 hx 270 (hb hby at_268) rfl rfl rfl ?_
      have f1006 : Fld Z h998 b420 "com/example/entitygate/entitygate/HtmlNode$Parent" "last" "Lcom/example/entitygate/entitygate/HtmlNode;" (.ref b439) := (Fld.other W998 (Fld.other W994 (Fld.ext E984 f819_14) (Or.inl ne985)) (Or.inl ne985))
      refine own_getF X1005 hx hZ hown (host := "") (Or.inl (hw _ (List.mem_of_getElem? (i := 31) rfl))) (Via.of (hw _ (List.mem_of_getElem? (i := 32) rfl))) e1005 f1006 273 (hb hby at_270) rfl fun T1007 X1007 e1007 => ?_
      refine g_aload X1007 hx 275 (hb hby at_273) rfl rfl rfl ?_
      refine g_acmp X1007 hx (x := (.ref b439)) (y := (.ref b439)) (same := true) 278 (hb hby at_275) rfl rfl (decide_eq_true rfl) (by decide) (by decide) ?_
      refine g_aload X1007 hx 280 (hb hby at_278) rfl rfl rfl ?_
      have f1009 : Fld Z h998 b420 "com/example/entitygate/entitygate/HtmlNode" "parent" "Lcom/example/entitygate/entitygate/HtmlNode$Parent;" .null := (Fld.other W998 (Fld.other W994 (Fld.ext E984 f819_10) (Or.inl ne985)) (Or.inl ne985))
      have f1010 : Fld Z h998 b420 "com/example/entitygate/entitygate/HtmlNode" "previous" "Lcom/example/entitygate/entitygate/HtmlNode;" .null := (Fld.other W998 (Fld.other W994 (Fld.ext E984 f819_11) (Or.inl ne985)) (Or.inl ne985))
      have f1011 : Fld Z h998 b420 "com/example/entitygate/entitygate/HtmlNode" "next" "Lcom/example/entitygate/entitygate/HtmlNode;" .null := (Fld.other W998 (Fld.other W994 (Fld.ext E984 f819_12) (Or.inl ne985)) (Or.inl ne985))
      refine own_callS X1007 hx hZ hown (hw _ (List.mem_of_getElem? (i := 34) rfl)) (hw _ (List.mem_of_getElem? (i := 35) rfl)) (by decide) (rm_free1 l Z a0 hw [] b420 h998 n0 z1000 f1009 f1010 f1011) (hw _ (List.mem_of_getElem? (i := 37) rfl)) (hw _ (List.mem_of_getElem? (i := 36) rfl)) e1007 0 (by decide) (by decide) (by decide) (by decide) [(.ref b420)] [] rfl pd_1 rfl 283 rfl (by rw [hml]; rfl) rfl (hb hby at_280) rfl fun T1008 v1008 L1008 X1008 hQ1008 => ?_
      obtain ⟨rfl, Nq1008, e1008⟩ := hQ1008
      have N1008 := Fr.app N998 Nq1008
      show own_Go p e below s _ _ _ (T1008.setTop (mkF m 283 _ [(.int (1 : Int32))]))
      refine g_ifNo X1008 hx 286 (hb hby at_283) (own_i0_eq_f (by decide)) rfl ?_
      refine g_iconst X1008 hx 287 (hb hby at_286) (1 : Int32) rfl rfl ?_
      refine g_goto X1008 hx 291 (hb hby at_287) (by decide) (by decide) ?_
      refine g_istore X1008 hx 293 (hb hby at_291) (l' := #[.val (.int p0), .val (.int p1), .val (.int (2 : Int32)), .val (.int (3 : Int32)), .val (.ref b420), .val (.ref b429), .val (.ref b439), .val (.ref b451), .val (.ref b420), .val (.int (1 : Int32)), .val (.int (1 : Int32)), .val (.int (0 : Int32)), .val (.ref b984), .val (.int (2 : Int32)), .val (.ref b429), .val (.ref b439), .val (.int (1 : Int32))]) rfl rfl ?_
      refine g_iload X1008 hx 295 (hb hby at_293) rfl rfl ?_
      refine g_ifNo X1008 hx 298 (hb hby at_295) (own_i0_eq_f (by decide)) rfl ?_
      refine g_aload X1008 hx 300 (hb hby at_298) rfl rfl rfl ?_
      refine g_iload X1008 hx 302 (hb hby at_300) rfl rfl ?_
      refine g_iconst X1008 hx 303 (hb hby at_302) (0 : Int32) rfl rfl ?_
      refine g_aload X1008 hx 305 (hb hby at_303) rfl rfl rfl ?_
      have f1013 : Fld Z h998 b429 "com/example/entitygate/entitygate/HtmlNode" "parent" "Lcom/example/entitygate/entitygate/HtmlNode$Parent;" (.ref b420) := (Fld.other W998 (Fld.other W994 (Fld.ext E984 f819_5) (Or.inl ne987)) (Or.inl ne987))
      have f1014 : Fld Z h998 b429 "com/example/entitygate/entitygate/HtmlNode" "previous" "Lcom/example/entitygate/entitygate/HtmlNode;" .null := (Fld.other W998 (Fld.other W994 (Fld.ext E984 f819_6) (Or.inl ne987)) (Or.inl ne987))
      have f1015 : Fld Z h998 b429 "com/example/entitygate/entitygate/HtmlNode" "next" "Lcom/example/entitygate/entitygate/HtmlNode;" (.ref b439) := (Fld.other W998 (Fld.other W994 (Fld.ext E984 f819_7) (Or.inl ne987)) (Or.inl ne987))
      refine own_callS X1008 hx hZ hown (hw _ (List.mem_of_getElem? (i := 43) rfl)) (hw _ (List.mem_of_getElem? (i := 44) rfl)) (by decide) (rm_lk20 l Z a0 hw [] b984 k984 b420 b429 b439 h998 n0 z1000 f1013 f1014 f1015 V998) (hw _ (List.mem_of_getElem? (i := 45) rfl)) (hw _ (List.mem_of_getElem? (i := 36) rfl)) e1008 0 (by decide) (by decide) (by decide) (by decide) [(.ref b984), (.int (2 : Int32)), (.int (0 : Int32)), (.ref b420)] [] rfl pd_2 rfl 308 rfl (by rw [hml]; rfl) rfl (hb hby at_305) rfl fun T1012 v1012 L1012 X1012 hQ1012 => ?_
      obtain ⟨rfl, Nq1012, e1012⟩ := hQ1012
      have N1012 := Fr.app N1008 Nq1012
      show own_Go p e below s _ _ _ (T1012.setTop (mkF m 308 _ [(.int (1 : Int32))]))
      refine g_ifNo X1012 hx 311 (hb hby at_308) (own_i0_eq_f (by decide)) rfl ?_
      refine g_aload X1012 hx 313 (hb hby at_311) rfl rfl rfl ?_
      refine g_iload X1012 hx 315 (hb hby at_313) rfl rfl ?_
      refine g_iconst X1012 hx 316 (hb hby at_315) (1 : Int32) rfl rfl ?_
      refine g_aload X1012 hx 318 (hb hby at_316) rfl rfl rfl ?_
      have f1017 : Fld Z h998 b439 "com/example/entitygate/entitygate/HtmlNode" "parent" "Lcom/example/entitygate/entitygate/HtmlNode$Parent;" (.ref b420) := (Fld.other W998 (Fld.other W994 (Fld.ext E984 f819_0) (Or.inl ne989)) (Or.inl ne989))
      have f1018 : Fld Z h998 b439 "com/example/entitygate/entitygate/HtmlNode" "previous" "Lcom/example/entitygate/entitygate/HtmlNode;" (.ref b429) := (Fld.other W998 (Fld.other W994 (Fld.ext E984 f819_1) (Or.inl ne989)) (Or.inl ne989))
      have f1019 : Fld Z h998 b439 "com/example/entitygate/entitygate/HtmlNode" "next" "Lcom/example/entitygate/entitygate/HtmlNode;" .null := (Fld.other W998 (Fld.other W994 (Fld.ext E984 f819_2) (Or.inl ne989)) (Or.inl ne989))
      refine own_callS X1012 hx hZ hown (hw _ (List.mem_of_getElem? (i := 43) rfl)) (hw _ (List.mem_of_getElem? (i := 44) rfl)) (by decide) (rm_lk21 l Z a0 hw [] b984 k984 b420 b429 b439 h998 n0 z1000 f1017 f1018 f1019 V998) (hw _ (List.mem_of_getElem? (i := 45) rfl)) (hw _ (List.mem_of_getElem? (i := 36) rfl)) e1012 0 (by decide) (by decide) (by decide) (by decide) [(.ref b984), (.int (2 : Int32)), (.int (1 : Int32)), (.ref b420)] [] rfl pd_2 rfl 321 rfl (by rw [hml]; rfl) rfl (hb hby at_318) rfl fun T1016 v1016 L1016 X1016 hQ1016 => ?_
      obtain ⟨rfl, Nq1016, e1016⟩ := hQ1016
      have N1016 := Fr.app N1012 Nq1016
      show own_Go p e below s _ _ _ (T1016.setTop (mkF m 321 _ [(.int (1 : Int32))]))
      refine g_ifNo X1016 hx 324 (hb hby at_321) (own_i0_eq_f (by decide)) rfl ?_
      refine g_aload X1016 hx 326 (hb hby at_324) rfl rfl rfl ?_
      refine g_iload X1016 hx 328 (hb hby at_326) rfl rfl ?_
      refine g_iconst X1016 hx 329 (hb hby at_328) (2 : Int32) rfl rfl ?_
      refine g_aload X1016 hx 331 (hb hby at_329) rfl rfl rfl ?_
      refine own_callS X1016 hx hZ hown (hw _ (List.mem_of_getElem? (i := 43) rfl)) (hw _ (List.mem_of_getElem? (i := 44) rfl)) (by decide) (rm_lk22 l Z a0 hw [] b984 b420 h998 n0 z1000 ) (hw _ (List.mem_of_getElem? (i := 45) rfl)) (hw _ (List.mem_of_getElem? (i := 36) rfl)) e1016 0 (by decide) (by decide) (by decide) (by decide) [(.ref b984), (.int (2 : Int32)), (.int (2 : Int32)), (.ref b420)] [] rfl pd_2 rfl 334 rfl (by rw [hml]; rfl) rfl (hb hby at_331) rfl fun T1020 v1020 L1020 X1020 hQ1020 => ?_
      obtain ⟨rfl, Nq1020, e1020⟩ := hQ1020
      have N1020 := Fr.app N1016 Nq1020
      show own_Go p e below s _ _ _ (T1020.setTop (mkF m 334 _ [(.int (1 : Int32))]))
      refine g_ifNo X1020 hx 337 (hb hby at_334) (own_i0_eq_f (by decide)) rfl ?_
      refine g_iconst X1020 hx 338 (hb hby at_337) (1 : Int32) rfl rfl ?_
      refine g_goto X1020 hx 342 (hb hby at_338) (by decide) (by decide) ?_
      refine g_istore X1020 hx 344 (hb hby at_342) (l' := #[.val (.int p0), .val (.int p1), .val (.int (2 : Int32)), .val (.int (3 : Int32)), .val (.ref b420), .val (.ref b429), .val (.ref b439), .val (.ref b451), .val (.ref b420), .val (.int (1 : Int32)), .val (.int (1 : Int32)), .val (.int (0 : Int32)), .val (.ref b984), .val (.int (2 : Int32)), .val (.ref b429), .val (.ref b439), .val (.int (1 : Int32))]) rfl rfl ?_
      refine g_iload X1020 hx 346 (hb hby at_344) rfl rfl ?_
      refine g_ifNo X1020 hx 349 (hb hby at_346) (own_i0_eq_f (by decide)) rfl ?_
      refine g_iload X1020 hx 351 (hb hby at_349) rfl rfl ?_
      refine g_ifYes X1020 hx 362 (hb hby at_351) (own_i0_ne_t (by decide)) (by decide) (by decide) ?_
      refine g_iload X1020 hx 364 (hb hby at_362) rfl rfl ?_
      refine g_ifYes X1020 hx 375 (hb hby at_364) (own_i0_ne_t (by decide)) (by decide) (by decide) ?_
      refine g_iload X1020 hx 377 (hb hby at_375) rfl rfl ?_
      refine g_ifNo X1020 hx 380 (hb hby at_377) (own_i0_ne_f (by decide)) rfl ?_
      refine g_aload X1020 hx 382 (hb hby at_380) rfl rfl rfl ?_
      have f1022 : Fld Z h998 b451 "com/example/entitygate/entitygate/HtmlNode" "parent" "Lcom/example/entitygate/entitygate/HtmlNode$Parent;" .null := (Fld.other W998 (Fld.other W994 (Fld.ext E984 (f829.keep Kq819 (ninS (Ne.symm ne456) (ninS (Ne.symm ne455) (ninS (Ne.symm ne453) nin0))))) (Or.inl ne991)) (Or.inl ne991))
      have f1023 : Fld Z h998 b451 "com/example/entitygate/entitygate/HtmlNode" "previous" "Lcom/example/entitygate/entitygate/HtmlNode;" .null := (Fld.other W998 (Fld.other W994 (Fld.ext E984 (f830.keep Kq819 (ninS (Ne.symm ne456) (ninS (Ne.symm ne455) (ninS (Ne.symm ne453) nin0))))) (Or.inl ne991)) (Or.inl ne991))
      have f1024 : Fld Z h998 b451 "com/example/entitygate/entitygate/HtmlNode" "next" "Lcom/example/entitygate/entitygate/HtmlNode;" .null := (Fld.other W998 (Fld.other W994 (Fld.ext E984 (f831.keep Kq819 (ninS (Ne.symm ne456) (ninS (Ne.symm ne455) (ninS (Ne.symm ne453) nin0))))) (Or.inl ne991)) (Or.inl ne991))
      refine own_callS X1020 hx hZ hown (hw _ (List.mem_of_getElem? (i := 34) rfl)) (hw _ (List.mem_of_getElem? (i := 35) rfl)) (by decide) (rm_free1 l Z a0 hw [] b451 h998 n0 z1000 f1022 f1023 f1024) (hw _ (List.mem_of_getElem? (i := 37) rfl)) (hw _ (List.mem_of_getElem? (i := 36) rfl)) e1020 0 (by decide) (by decide) (by decide) (by decide) [(.ref b451)] [] rfl pd_1 rfl 385 rfl (by rw [hml]; rfl) rfl (hb hby at_382) rfl fun T1021 v1021 L1021 X1021 hQ1021 => ?_
      obtain ⟨rfl, Nq1021, e1021⟩ := hQ1021
      have N1021 := Fr.app N1020 Nq1021
      show own_Go p e below s _ _ _ (T1021.setTop (mkF m 385 _ [(.int (1 : Int32))]))
      refine g_ifNo X1021 hx 388 (hb hby at_385) (own_i0_eq_f (by decide)) rfl ?_
      refine g_iconst X1021 hx 389 (hb hby at_388) (1 : Int32) rfl rfl ?_
      refine g_goto X1021 hx 393 (hb hby at_389) (by decide) (by decide) ?_
      refine g_istore X1021 hx 395 (hb hby at_393) (l' := #[.val (.int p0), .val (.int p1), .val (.int (2 : Int32)), .val (.int (3 : Int32)), .val (.ref b420), .val (.ref b429), .val (.ref b439), .val (.ref b451), .val (.ref b420), .val (.int (1 : Int32)), .val (.int (1 : Int32)), .val (.int (0 : Int32)), .val (.ref b984), .val (.int (2 : Int32)), .val (.ref b429), .val (.ref b439), .val (.int (1 : Int32))]) rfl rfl ?_
      refine g_iload X1021 hx 397 (hb hby at_395) rfl rfl ?_
      refine own_retN X1021 hx hlk (t := .boolean) hret (by simp) (hb hby at_397) ?_ (by decide) (by decide)
      rw [e1021]
      exact ⟨rfl, N1021⟩
  · show own_Go p e below s _ _ _ (T464.setTop (mkF m 44 _ []))
    refine g_iload_n X464 hx 45 (hb hby at_44) rfl rfl ?_
    refine g_iconst X464 hx 46 (hb hby at_45) (1 : Int32) rfl rfl ?_
    refine g_icmpNo X464 hx 49 (hb hby at_46) (own_ii_lt_f (by decide)) rfl ?_
    refine g_aload X464 hx 51 (hb hby at_49) rfl rfl rfl ?_
    refine g_aload X464 hx 53 (hb hby at_51) rfl rfl rfl ?_
    refine g_aconst_null X464 hx 54 (hb hby at_53) rfl ?_
    have f1026 : Exa Z h451 b420 "com/example/entitygate/entitygate/HtmlNode$Document" := (Exa.ext E451 f452)
    have f1027 : Exa Z h451 b429 "com/example/entitygate/entitygate/HtmlNode$Document" := (Exa.ext E451 f454)
    have f1028 : Exa Z h451 b439 "com/example/entitygate/entitygate/HtmlNode$Document" := (Exa.ext E451 A439)
    have f1029 : Fld Z h451 b420 "com/example/entitygate/entitygate/HtmlNode" "parent" "Lcom/example/entitygate/entitygate/HtmlNode$Parent;" .null := (Fld.ext E451 (Fld.ext E439 (Fld.ext E429 f423)))
    have f1030 : Fld Z h451 b420 "com/example/entitygate/entitygate/HtmlNode" "previous" "Lcom/example/entitygate/entitygate/HtmlNode;" .null := (Fld.ext E451 (Fld.ext E439 (Fld.ext E429 f426)))
    have f1031 : Fld Z h451 b420 "com/example/entitygate/entitygate/HtmlNode" "next" "Lcom/example/entitygate/entitygate/HtmlNode;" .null := (Fld.ext E451 (Fld.ext E439 (Fld.ext E429 f427)))
    have f1032 : Fld Z h451 b420 "com/example/entitygate/entitygate/HtmlNode$Parent" "first" "Lcom/example/entitygate/entitygate/HtmlNode;" .null := (Fld.ext E451 (Fld.ext E439 (Fld.ext E429 f424)))
    have f1033 : Fld Z h451 b420 "com/example/entitygate/entitygate/HtmlNode$Parent" "last" "Lcom/example/entitygate/entitygate/HtmlNode;" .null := (Fld.ext E451 (Fld.ext E439 (Fld.ext E429 f425)))
    have f1034 : Fld Z h451 b429 "com/example/entitygate/entitygate/HtmlNode" "parent" "Lcom/example/entitygate/entitygate/HtmlNode$Parent;" .null := (Fld.ext E451 (Fld.ext E439 f433))
    have f1035 : Fld Z h451 b429 "com/example/entitygate/entitygate/HtmlNode" "previous" "Lcom/example/entitygate/entitygate/HtmlNode;" .null := (Fld.ext E451 (Fld.ext E439 f436))
    have f1036 : Fld Z h451 b429 "com/example/entitygate/entitygate/HtmlNode" "next" "Lcom/example/entitygate/entitygate/HtmlNode;" .null := (Fld.ext E451 (Fld.ext E439 f437))
    have f1037 : Fld Z h451 b429 "com/example/entitygate/entitygate/HtmlNode$Parent" "first" "Lcom/example/entitygate/entitygate/HtmlNode;" .null := (Fld.ext E451 (Fld.ext E439 f434))
    have f1038 : Fld Z h451 b429 "com/example/entitygate/entitygate/HtmlNode$Parent" "last" "Lcom/example/entitygate/entitygate/HtmlNode;" .null := (Fld.ext E451 (Fld.ext E439 f435))
    have f1039 : Fld Z h451 b439 "com/example/entitygate/entitygate/HtmlNode" "parent" "Lcom/example/entitygate/entitygate/HtmlNode$Parent;" .null := (Fld.ext E451 f445)
    have f1040 : Fld Z h451 b439 "com/example/entitygate/entitygate/HtmlNode" "previous" "Lcom/example/entitygate/entitygate/HtmlNode;" .null := (Fld.ext E451 f448)
    have f1041 : Fld Z h451 b439 "com/example/entitygate/entitygate/HtmlNode" "next" "Lcom/example/entitygate/entitygate/HtmlNode;" .null := (Fld.ext E451 f449)
    have f1042 : Fld Z h451 b439 "com/example/entitygate/entitygate/HtmlNode$Parent" "first" "Lcom/example/entitygate/entitygate/HtmlNode;" .null := (Fld.ext E451 f446)
    have f1043 : Fld Z h451 b439 "com/example/entitygate/entitygate/HtmlNode$Parent" "last" "Lcom/example/entitygate/entitygate/HtmlNode;" .null := (Fld.ext E451 f447)
    refine own_callU X464 hx hZ hown (hw _ (List.mem_of_getElem? (i := 46) rfl)) (hw _ (List.mem_of_getElem? (i := 47) rfl)) (hw _ (List.mem_of_getElem? (i := 48) rfl)) (by decide) (hw _ (List.mem_of_getElem? (i := 50) rfl)) (hw _ (List.mem_of_getElem? (i := 49) rfl)) (rm_ins0 l Z a0 hw [] b420 b429 b439 b451 h451 n0 z458 f1026 f1027 f1028 A451 f1029 f1030 f1031 f1032 f1033 f1034 f1035 f1036 f1037 f1038 f1039 f1040 f1041 f1042 f1043 f459 f462 f463 f460 f461 ne430 ne441 ne453 ne442 ne455 ne456 g_b420 g_b429 g_b439 g_b451) (hw _ (List.mem_of_getElem? (i := 51) rfl)) (hw _ (List.mem_of_getElem? (i := 9) rfl)) e464 0 (by decide) (by decide) (by decide) (by decide) f1026 [(.ref b429), .null] [] rfl pd_3 rfl 57 rfl (by rw [hml]; rfl) rfl (hb hby at_54) rfl fun T1025 v1025 L1025 X1025 hQ1025 => ?_
    obtain ⟨rfl, Nq1025, Kq1025, f1025_0, f1025_1, f1025_2, f1025_3, f1025_4, f1025_5, f1025_6, f1025_7, f1025_8, f1025_9⟩ := hQ1025
    have N1025 := Fr.app N464 Nq1025
    have K1044 : Keep h0 T1025.heap [] := K457.trans Kq1025 (allS (Or.inr sz_b429) (allS (Or.inr sz_b420) all0))
    have z1045 : n0 ≤ T1025.heap.size := (Nat.le_trans z458 Kq1025.1)
    show own_Go p e below s _ _ _ (T1025.setTop (mkF m 57 _ []))
    refine g_iload_n X1025 hx 58 (hb hby at_57) rfl rfl ?_
    refine g_iconst X1025 hx 59 (hb hby at_58) (2 : Int32) rfl rfl ?_
    refine g_icmpNo X1025 hx 62 (hb hby at_59) (own_ii_lt_f (by decide)) rfl ?_
    refine g_aload X1025 hx 64 (hb hby at_62) rfl rfl rfl ?_
    refine g_aload X1025 hx 66 (hb hby at_64) rfl rfl rfl ?_
    refine g_aconst_null X1025 hx 67 (hb hby at_66) rfl ?_
    have f1047 : Exa Z T1025.heap b420 "com/example/entitygate/entitygate/HtmlNode$Document" := (f1026.keep Kq1025)
    have f1048 : Exa Z T1025.heap b429 "com/example/entitygate/entitygate/HtmlNode$Document" := (f1027.keep Kq1025)
    have f1049 : Exa Z T1025.heap b439 "com/example/entitygate/entitygate/HtmlNode$Document" := (f1028.keep Kq1025)
    have f1050 : Exa Z T1025.heap b451 "com/example/entitygate/entitygate/HtmlNode$Document" := (A451.keep Kq1025)
    have f1051 : Fld Z T1025.heap b439 "com/example/entitygate/entitygate/HtmlNode" "parent" "Lcom/example/entitygate/entitygate/HtmlNode$Parent;" .null := (f1039.keep Kq1025 (ninS (Ne.symm ne442) (ninS (Ne.symm ne441) nin0)))
    have f1052 : Fld Z T1025.heap b439 "com/example/entitygate/entitygate/HtmlNode" "previous" "Lcom/example/entitygate/entitygate/HtmlNode;" .null := (f1040.keep Kq1025 (ninS (Ne.symm ne442) (ninS (Ne.symm ne441) nin0)))
    have f1053 : Fld Z T1025.heap b439 "com/example/entitygate/entitygate/HtmlNode" "next" "Lcom/example/entitygate/entitygate/HtmlNode;" .null := (f1041.keep Kq1025 (ninS (Ne.symm ne442) (ninS (Ne.symm ne441) nin0)))
    have f1054 : Fld Z T1025.heap b439 "com/example/entitygate/entitygate/HtmlNode$Parent" "first" "Lcom/example/entitygate/entitygate/HtmlNode;" .null := (f1042.keep Kq1025 (ninS (Ne.symm ne442) (ninS (Ne.symm ne441) nin0)))
    have f1055 : Fld Z T1025.heap b439 "com/example/entitygate/entitygate/HtmlNode$Parent" "last" "Lcom/example/entitygate/entitygate/HtmlNode;" .null := (f1043.keep Kq1025 (ninS (Ne.symm ne442) (ninS (Ne.symm ne441) nin0)))
    have f1056 : Fld Z T1025.heap b451 "com/example/entitygate/entitygate/HtmlNode" "parent" "Lcom/example/entitygate/entitygate/HtmlNode$Parent;" .null := (f459.keep Kq1025 (ninS (Ne.symm ne455) (ninS (Ne.symm ne453) nin0)))
    have f1057 : Fld Z T1025.heap b451 "com/example/entitygate/entitygate/HtmlNode" "previous" "Lcom/example/entitygate/entitygate/HtmlNode;" .null := (f462.keep Kq1025 (ninS (Ne.symm ne455) (ninS (Ne.symm ne453) nin0)))
    have f1058 : Fld Z T1025.heap b451 "com/example/entitygate/entitygate/HtmlNode" "next" "Lcom/example/entitygate/entitygate/HtmlNode;" .null := (f463.keep Kq1025 (ninS (Ne.symm ne455) (ninS (Ne.symm ne453) nin0)))
    have f1059 : Fld Z T1025.heap b451 "com/example/entitygate/entitygate/HtmlNode$Parent" "first" "Lcom/example/entitygate/entitygate/HtmlNode;" .null := (f460.keep Kq1025 (ninS (Ne.symm ne455) (ninS (Ne.symm ne453) nin0)))
    have f1060 : Fld Z T1025.heap b451 "com/example/entitygate/entitygate/HtmlNode$Parent" "last" "Lcom/example/entitygate/entitygate/HtmlNode;" .null := (f461.keep Kq1025 (ninS (Ne.symm ne455) (ninS (Ne.symm ne453) nin0)))
    refine own_callU X1025 hx hZ hown (hw _ (List.mem_of_getElem? (i := 46) rfl)) (hw _ (List.mem_of_getElem? (i := 47) rfl)) (hw _ (List.mem_of_getElem? (i := 48) rfl)) (by decide) (hw _ (List.mem_of_getElem? (i := 50) rfl)) (hw _ (List.mem_of_getElem? (i := 49) rfl)) (rm_ins1 l Z a0 hw [] b420 b429 b439 b451 T1025.heap n0 z1045 f1047 f1048 f1049 f1050 f1025_5 f1025_6 f1025_7 f1025_8 f1025_9 f1025_0 f1025_1 f1025_2 f1025_3 f1025_4 f1051 f1052 f1053 f1054 f1055 f1056 f1057 f1058 f1059 f1060 ne430 ne441 ne453 ne442 ne455 ne456 g_b420 g_b429 g_b439 g_b451) (hw _ (List.mem_of_getElem? (i := 51) rfl)) (hw _ (List.mem_of_getElem? (i := 9) rfl)) rfl 0 (by decide) (by decide) (by decide) (by decide) f1047 [(.ref b439), .null] [] rfl pd_3 rfl 70 rfl (by rw [hml]; rfl) rfl (hb hby at_67) rfl fun T1046 v1046 L1046 X1046 hQ1046 => ?_
    obtain ⟨rfl, Nq1046, Kq1046, f1046_0, f1046_1, f1046_2, f1046_3, f1046_4, f1046_5, f1046_6, f1046_7, f1046_8, f1046_9, f1046_10, f1046_11, f1046_12, f1046_13, f1046_14⟩ := hQ1046
    have N1046 := Fr.app N1025 Nq1046
    have K1061 : Keep h0 T1046.heap [] := K1044.trans Kq1046 (allS (Or.inr sz_b439) (allS (Or.inr sz_b429) (allS (Or.inr sz_b420) all0)))
    have z1062 : n0 ≤ T1046.heap.size := (Nat.le_trans z1045 Kq1046.1)
    show own_Go p e below s _ _ _ (T1046.setTop (mkF m 70 _ []))
    refine g_iload_n X1046 hx 71 (hb hby at_70) rfl rfl ?_
    refine g_iconst X1046 hx 72 (hb hby at_71) (3 : Int32) rfl rfl ?_
    refine g_icmpNo X1046 hx 75 (hb hby at_72) (own_ii_lt_f (by decide)) rfl ?_
    refine g_aload X1046 hx 77 (hb hby at_75) rfl rfl rfl ?_
    refine g_aload X1046 hx 79 (hb hby at_77) rfl rfl rfl ?_
    refine g_aconst_null X1046 hx 80 (hb hby at_79) rfl ?_
    have f1064 : Exa Z T1046.heap b420 "com/example/entitygate/entitygate/HtmlNode$Document" := (f1047.keep Kq1046)
    have f1065 : Exa Z T1046.heap b429 "com/example/entitygate/entitygate/HtmlNode$Document" := (f1048.keep Kq1046)
    have f1066 : Exa Z T1046.heap b439 "com/example/entitygate/entitygate/HtmlNode$Document" := (f1049.keep Kq1046)
    have f1067 : Exa Z T1046.heap b451 "com/example/entitygate/entitygate/HtmlNode$Document" := (f1050.keep Kq1046)
    have f1068 : Fld Z T1046.heap b451 "com/example/entitygate/entitygate/HtmlNode" "parent" "Lcom/example/entitygate/entitygate/HtmlNode$Parent;" .null := (f1056.keep Kq1046 (ninS (Ne.symm ne456) (ninS (Ne.symm ne455) (ninS (Ne.symm ne453) nin0))))
    have f1069 : Fld Z T1046.heap b451 "com/example/entitygate/entitygate/HtmlNode" "previous" "Lcom/example/entitygate/entitygate/HtmlNode;" .null := (f1057.keep Kq1046 (ninS (Ne.symm ne456) (ninS (Ne.symm ne455) (ninS (Ne.symm ne453) nin0))))
    have f1070 : Fld Z T1046.heap b451 "com/example/entitygate/entitygate/HtmlNode" "next" "Lcom/example/entitygate/entitygate/HtmlNode;" .null := (f1058.keep Kq1046 (ninS (Ne.symm ne456) (ninS (Ne.symm ne455) (ninS (Ne.symm ne453) nin0))))
    have f1071 : Fld Z T1046.heap b451 "com/example/entitygate/entitygate/HtmlNode$Parent" "first" "Lcom/example/entitygate/entitygate/HtmlNode;" .null := (f1059.keep Kq1046 (ninS (Ne.symm ne456) (ninS (Ne.symm ne455) (ninS (Ne.symm ne453) nin0))))
    have f1072 : Fld Z T1046.heap b451 "com/example/entitygate/entitygate/HtmlNode$Parent" "last" "Lcom/example/entitygate/entitygate/HtmlNode;" .null := (f1060.keep Kq1046 (ninS (Ne.symm ne456) (ninS (Ne.symm ne455) (ninS (Ne.symm ne453) nin0))))
    refine own_callU X1046 hx hZ hown (hw _ (List.mem_of_getElem? (i := 46) rfl)) (hw _ (List.mem_of_getElem? (i := 47) rfl)) (hw _ (List.mem_of_getElem? (i := 48) rfl)) (by decide) (hw _ (List.mem_of_getElem? (i := 50) rfl)) (hw _ (List.mem_of_getElem? (i := 49) rfl)) (rm_ins2 l Z a0 hw [] b420 b429 b439 b451 T1046.heap n0 z1062 f1064 f1065 f1066 f1067 f1046_10 f1046_11 f1046_12 f1046_13 f1046_14 f1046_5 f1046_6 f1046_7 f1046_8 f1046_9 f1046_0 f1046_1 f1046_2 f1046_3 f1046_4 f1068 f1069 f1070 f1071 f1072 ne430 ne441 ne453 ne442 ne455 ne456 g_b420 g_b429 g_b439 g_b451) (hw _ (List.mem_of_getElem? (i := 51) rfl)) (hw _ (List.mem_of_getElem? (i := 9) rfl)) rfl 0 (by decide) (by decide) (by decide) (by decide) f1064 [(.ref b451), .null] [] rfl pd_3 rfl 83 rfl (by rw [hml]; rfl) rfl (hb hby at_80) rfl fun T1063 v1063 L1063 X1063 hQ1063 => ?_
    obtain ⟨rfl, Nq1063, Kq1063, f1063_0, f1063_1, f1063_2, f1063_3, f1063_4, f1063_5, f1063_6, f1063_7, f1063_8, f1063_9, f1063_10, f1063_11, f1063_12, f1063_13, f1063_14⟩ := hQ1063
    have N1063 := Fr.app N1046 Nq1063
    have K1073 : Keep h0 T1063.heap [] := K1061.trans Kq1063 (allS (Or.inr sz_b451) (allS (Or.inr sz_b439) (allS (Or.inr sz_b420) all0)))
    have z1074 : n0 ≤ T1063.heap.size := (Nat.le_trans z1062 Kq1063.1)
    show own_Go p e below s _ _ _ (T1063.setTop (mkF m 83 _ []))
    rcases own_four p1 q_k with rfl | rfl | rfl | rfl
    · show own_Go p e below s _ _ _ (T1063.setTop (mkF m 83 _ []))
      refine g_iload_n X1063 hx 84 (hb hby at_83) rfl rfl ?_
      refine g_ifNo X1063 hx 87 (hb hby at_84) (own_i0_ne_f (by decide)) rfl ?_
      refine g_aload X1063 hx 89 (hb hby at_87) rfl rfl rfl ?_
      refine g_goto X1063 hx 114 (hb hby at_89) (by decide) (by decide) ?_
      refine g_astore X1063 hx 116 (hb hby at_114) rfl (l' := #[.val (.int p0), .val (.int p1), .val (.int (3 : Int32)), .val (.int (0 : Int32)), .val (.ref b420), .val (.ref b429), .val (.ref b439), .val (.ref b451), .val (.ref b429), .unset, .unset, .unset, .unset, .unset, .unset, .unset, .unset]) rfl rfl ?_
      refine g_aload X1063 hx 118 (hb hby at_116) rfl rfl rfl ?_
      have f1076 : Exa Z T1063.heap b420 "com/example/entitygate/entitygate/HtmlNode$Document" := (f1064.keep Kq1063)
      have f1077 : Exa Z T1063.heap b429 "com/example/entitygate/entitygate/HtmlNode$Document" := (f1065.keep Kq1063)
      have f1078 : Exa Z T1063.heap b439 "com/example/entitygate/entitygate/HtmlNode$Document" := (f1066.keep Kq1063)
      have f1079 : Exa Z T1063.heap b451 "com/example/entitygate/entitygate/HtmlNode$Document" := (f1067.keep Kq1063)
      have f1080 : Fld Z T1063.heap b429 "com/example/entitygate/entitygate/HtmlNode" "parent" "Lcom/example/entitygate/entitygate/HtmlNode$Parent;" (.ref b420) := (f1046_5.keep Kq1063 (ninS ne455 (ninS ne442 (ninS (Ne.symm ne430) nin0))))
      have f1081 : Fld Z T1063.heap b429 "com/example/entitygate/entitygate/HtmlNode" "previous" "Lcom/example/entitygate/entitygate/HtmlNode;" .null := (f1046_6.keep Kq1063 (ninS ne455 (ninS ne442 (ninS (Ne.symm ne430) nin0))))
      have f1082 : Fld Z T1063.heap b429 "com/example/entitygate/entitygate/HtmlNode" "next" "Lcom/example/entitygate/entitygate/HtmlNode;" (.ref b439) := (f1046_7.keep Kq1063 (ninS ne455 (ninS ne442 (ninS (Ne.symm ne430) nin0))))
      have f1083 : Fld Z T1063.heap b429 "com/example/entitygate/entitygate/HtmlNode$Parent" "first" "Lcom/example/entitygate/entitygate/HtmlNode;" .null := (f1046_8.keep Kq1063 (ninS ne455 (ninS ne442 (ninS (Ne.symm ne430) nin0))))
      have f1084 : Fld Z T1063.heap b429 "com/example/entitygate/entitygate/HtmlNode$Parent" "last" "Lcom/example/entitygate/entitygate/HtmlNode;" .null := (f1046_9.keep Kq1063 (ninS ne455 (ninS ne442 (ninS (Ne.symm ne430) nin0))))
      refine own_callV X1063 hx hZ hown (hw _ (List.mem_of_getElem? (i := 19) rfl)) (hw _ (List.mem_of_getElem? (i := 20) rfl)) (own_nf hZ (hw _ (List.mem_of_getElem? (i := 22) rfl))) (hw _ (List.mem_of_getElem? (i := 22) rfl)) (hw _ (List.mem_of_getElem? (i := 21) rfl)) (by decide) (rm_det30 l Z a0 hw [] b420 b429 b439 b451 T1063.heap n0 z1074 f1076 f1077 f1078 f1079 f1063_10 f1063_11 f1063_12 f1063_13 f1063_14 f1080 f1081 f1082 f1083 f1084 f1063_5 f1063_6 f1063_7 f1063_8 f1063_9 f1063_0 f1063_1 f1063_2 f1063_3 f1063_4 ne430 ne441 ne453 ne442 ne455 ne456 g_b420 g_b429 g_b439 g_b451) (hw _ (List.mem_of_getElem? (i := 23) rfl)) (hw _ (List.mem_of_getElem? (i := 14) rfl)) rfl 0 (by decide) (by decide) (by decide) (by decide) f1077 [] [] rfl pd_0 rfl 121 rfl (by rw [hml]; rfl) rfl (hb hby at_118) rfl fun T1075 v1075 L1075 X1075 hQ1075 => ?_
      obtain ⟨rfl, Nq1075, Kq1075, f1075_0, f1075_1, f1075_2, f1075_3, f1075_4, f1075_5, f1075_6, f1075_7, f1075_8, f1075_9, f1075_10, f1075_11, f1075_12, f1075_13, f1075_14⟩ := hQ1075
      have N1075 := Fr.app N1063 Nq1075
      have K1085 : Keep h0 T1075.heap [] := K1073.trans Kq1075 (allS (Or.inr sz_b429) (allS (Or.inr sz_b420) (allS (Or.inr sz_b439) all0)))
      have z1086 : n0 ≤ T1075.heap.size := (Nat.le_trans z1074 Kq1075.1)
      show own_Go p e below s _ _ _ (T1075.setTop (mkF m 121 _ []))
      refine g_iload_n X1075 hx 122 (hb hby at_121) rfl rfl ?_
      refine g_iconst X1075 hx 123 (hb hby at_122) (1 : Int32) rfl rfl ?_
      refine g_icmpNo X1075 hx 126 (hb hby at_123) (own_ii_lt_f (by decide)) rfl ?_
      refine g_iload_n X1075 hx 127 (hb hby at_126) rfl rfl ?_
      refine g_ifYes X1075 hx 134 (hb hby at_127) (own_i0_eq_t (by decide)) (by decide) (by decide) ?_
      refine g_iconst X1075 hx 135 (hb hby at_134) (0 : Int32) rfl rfl ?_
      refine g_istore X1075 hx 137 (hb hby at_135) (l' := #[.val (.int p0), .val (.int p1), .val (.int (3 : Int32)), .val (.int (0 : Int32)), .val (.ref b420), .val (.ref b429), .val (.ref b439), .val (.ref b451), .val (.ref b429), .val (.int (0 : Int32)), .unset, .unset, .unset, .unset, .unset, .unset, .unset]) rfl rfl ?_
      refine g_iload_n X1075 hx 138 (hb hby at_137) rfl rfl ?_
      refine g_iconst X1075 hx 139 (hb hby at_138) (2 : Int32) rfl rfl ?_
      refine g_icmpNo X1075 hx 142 (hb hby at_139) (own_ii_lt_f (by decide)) rfl ?_
      refine g_iload_n X1075 hx 143 (hb hby at_142) rfl rfl ?_
      refine g_iconst X1075 hx 144 (hb hby at_143) (1 : Int32) rfl rfl ?_
      refine g_icmpNo X1075 hx 147 (hb hby at_144) (own_ii_eq_f (by decide)) rfl ?_
      refine g_iconst X1075 hx 148 (hb hby at_147) (1 : Int32) rfl rfl ?_
      refine g_goto X1075 hx 152 (hb hby at_148) (by decide) (by decide) ?_
      refine g_istore X1075 hx 154 (hb hby at_152) (l' := #[.val (.int p0), .val (.int p1), .val (.int (3 : Int32)), .val (.int (0 : Int32)), .val (.ref b420), .val (.ref b429), .val (.ref b439), .val (.ref b451), .val (.ref b429), .val (.int (0 : Int32)), .val (.int (1 : Int32)), .unset, .unset, .unset, .unset, .unset, .unset]) rfl rfl ?_
      refine g_iload_n X1075 hx 155 (hb hby at_154) rfl rfl ?_
      refine g_iconst X1075 hx 156 (hb hby at_155) (3 : Int32) rfl rfl ?_
      refine g_icmpNo X1075 hx 159 (hb hby at_156) (own_ii_lt_f (by decide)) rfl ?_
      refine g_iload_n X1075 hx 160 (hb hby at_159) rfl rfl ?_
      refine g_iconst X1075 hx 161 (hb hby at_160) (2 : Int32) rfl rfl ?_
      refine g_icmpNo X1075 hx 164 (hb hby at_161) (own_ii_eq_f (by decide)) rfl ?_
      refine g_iconst X1075 hx 165 (hb hby at_164) (1 : Int32) rfl rfl ?_
      refine g_goto X1075 hx 169 (hb hby at_165) (by decide) (by decide) ?_
      refine g_istore X1075 hx 171 (hb hby at_169) (l' := #[.val (.int p0), .val (.int p1), .val (.int (3 : Int32)), .val (.int (0 : Int32)), .val (.ref b420), .val (.ref b429), .val (.ref b439), .val (.ref b451), .val (.ref b429), .val (.int (0 : Int32)), .val (.int (1 : Int32)), .val (.int (1 : Int32)), .unset, .unset, .unset, .unset, .unset]) rfl rfl ?_
      refine g_iconst X1075 hx 172 (hb hby at_171) (3 : Int32) rfl rfl ?_
      refine own_newR X1075 hx hZ hown (hw _ (List.mem_of_getElem? (i := 26) rfl)) (hw _ (List.mem_of_getElem? (i := 27) rfl)) rfl 175 (hb hby at_172) rfl (by decide) 3 (by decide) (by decide) (by decide) (by decide) fun T1087 h1087 k1087 b1087 X1087 e1087 g1087 E1087 A1087 O1087 => ?_
      have f1088 : Exa Z T1075.heap b420 "com/example/entitygate/entitygate/HtmlNode$Document" := (f1076.keep Kq1075)
      have ne1089 : b420 ≠ b1087 := Nat.ne_of_lt (Nat.lt_of_lt_of_le f1088.lt (Nat.le_of_eq g1087.symm))
      have f1090 : Exa Z T1075.heap b429 "com/example/entitygate/entitygate/HtmlNode$Document" := (f1077.keep Kq1075)
      have ne1091 : b429 ≠ b1087 := Nat.ne_of_lt (Nat.lt_of_lt_of_le f1090.lt (Nat.le_of_eq g1087.symm))
      have f1092 : Exa Z T1075.heap b439 "com/example/entitygate/entitygate/HtmlNode$Document" := (f1078.keep Kq1075)
      have ne1093 : b439 ≠ b1087 := Nat.ne_of_lt (Nat.lt_of_lt_of_le f1092.lt (Nat.le_of_eq g1087.symm))
      have f1094 : Exa Z T1075.heap b451 "com/example/entitygate/entitygate/HtmlNode$Document" := (f1079.keep Kq1075)
      have ne1095 : b451 ≠ b1087 := Nat.ne_of_lt (Nat.lt_of_lt_of_le f1094.lt (Nat.le_of_eq g1087.symm))
      have g_b1087 : n0 ≤ b1087 := Nat.le_trans z1086 (Nat.le_of_eq g1087.symm)
      have sz_b1087 : h0.size ≤ b1087 := Nat.le_trans K1085.1 (Nat.le_of_eq g1087.symm)
      have K1096 : Keep h0 h1087 [] := K1085.ext E1087
      have z1097 : n0 ≤ h1087.size := (Nat.le_trans z1086 E1087.1)
      have V1087 : Arv Z h1087 b1087 k1087 (.object "com/example/entitygate/entitygate/HtmlNode") (3 : Int32) [.null, .null, .null] .null := (Arv.new A1087 (by decide)).pad (pad_rep [] .null 3)
      refine g_astore X1087 hx 177 (hb hby at_175) rfl (l' := #[.val (.int p0), .val (.int p1), .val (.int (3 : Int32)), .val (.int (0 : Int32)), .val (.ref b420), .val (.ref b429), .val (.ref b439), .val (.ref b451), .val (.ref b429), .val (.int (0 : Int32)), .val (.int (1 : Int32)), .val (.int (1 : Int32)), .val (.ref b1087), .unset, .unset, .unset, .unset]) rfl rfl ?_
      refine g_iconst X1087 hx 178 (hb hby at_177) (0 : Int32) rfl rfl ?_
      refine g_istore X1087 hx 180 (hb hby at_178) (l' := #[.val (.int p0), .val (.int p1), .val (.int (3 : Int32)), .val (.int (0 : Int32)), .val (.ref b420), .val (.ref b429), .val (.ref b439), .val (.ref b451), .val (.ref b429), .val (.int (0 : Int32)), .val (.int (1 : Int32)), .val (.int (1 : Int32)), .val (.ref b1087), .val (.int (0 : Int32)), .unset, .unset, .unset]) rfl rfl ?_
      refine g_iload X1087 hx 182 (hb hby at_180) rfl rfl ?_
      refine g_ifYes X1087 hx 195 (hb hby at_182) (own_i0_eq_t (by decide)) (by decide) (by decide) ?_
      refine g_iload X1087 hx 197 (hb hby at_195) rfl rfl ?_
      refine g_ifNo X1087 hx 200 (hb hby at_197) (own_i0_eq_f (by decide)) rfl ?_
      refine g_aload X1087 hx 202 (hb hby at_200) rfl rfl rfl ?_
      refine g_iload X1087 hx 204 (hb hby at_202) rfl rfl ?_
      refine g_aload X1087 hx 206 (hb hby at_204) rfl rfl rfl ?_
      obtain ⟨cl1098, Ar1098, q1098, S1098, P1098, H1098, G1098⟩ := id V1087
      have hin1098 := inb_of (j := (0 : Int32)) S1098 ⟨by decide, by decide⟩
      have f1099 : Exa Z h1087 b439 "com/example/entitygate/entitygate/HtmlNode$Document" := (Exa.ext E1087 f1092)
      refine own_stR X1087 hx hZ e1087 Ar1098 hin1098 rfl (Sto.ofV Ar1098 q1098 O1087 (Ins.of_exa f1099 (hw _ (List.mem_of_getElem? (i := 61) rfl)))) 207 (hb hby at_206) rfl fun T1098 h1098 X1098 e1098 W1098 => ?_
      have V1098 : Arv Z h1098 b1087 k1087 (.object "com/example/entitygate/entitygate/HtmlNode") (3 : Int32) [(.ref b439), .null, .null] .null := Arv.set Ar1098 q1098 S1098 P1098 H1098 G1098 (v := (.ref b439)) rfl W1098 0 rfl (Nat.le_of_ble_eq_true rfl)
      have N1098 := Fr.snoc X1098 N1075 g_b1087
      have z1100 : n0 ≤ h1098.size := (Nat.le_trans z1097 (Keep.of_wr W1098).1)
      have K1101 : Keep h0 h1098 [] := K1096.wr W1098 (Or.inr sz_b1087)
      refine g_iinc X1098 hx 210 (hb hby at_207) (z := (1 : Int32)) rfl rfl (l' := #[.val (.int p0), .val (.int p1), .val (.int (3 : Int32)), .val (.int (0 : Int32)), .val (.ref b420), .val (.ref b429), .val (.ref b439), .val (.ref b451), .val (.ref b429), .val (.int (0 : Int32)), .val (.int (1 : Int32)), .val (.int (1 : Int32)), .val (.ref b1087), .val (.int (1 : Int32)), .unset, .unset, .unset]) rfl rfl ?_
      refine g_iload X1098 hx 212 (hb hby at_210) rfl rfl ?_
      refine g_ifNo X1098 hx 215 (hb hby at_212) (own_i0_eq_f (by decide)) rfl ?_
      refine g_aload X1098 hx 217 (hb hby at_215) rfl rfl rfl ?_
      refine g_iload X1098 hx 219 (hb hby at_217) rfl rfl ?_
      refine g_aload X1098 hx 221 (hb hby at_219) rfl rfl rfl ?_
      obtain ⟨cl1102, Ar1102, q1102, S1102, P1102, H1102, G1102⟩ := id V1098
      have hin1102 := inb_of (j := (1 : Int32)) S1102 ⟨by decide, by decide⟩
      have f1103 : Exa Z h1098 b451 "com/example/entitygate/entitygate/HtmlNode$Document" := (Exa.wr W1098 (Exa.ext E1087 f1094))
      refine own_stR X1098 hx hZ e1098 Ar1102 hin1102 rfl (Sto.ofV Ar1102 q1102 O1087 (Ins.of_exa f1103 (hw _ (List.mem_of_getElem? (i := 61) rfl)))) 222 (hb hby at_221) rfl fun T1102 h1102 X1102 e1102 W1102 => ?_
      have V1102 : Arv Z h1102 b1087 k1087 (.object "com/example/entitygate/entitygate/HtmlNode") (3 : Int32) [(.ref b439), (.ref b451), .null] .null := Arv.set Ar1102 q1102 S1102 P1102 H1102 G1102 (v := (.ref b451)) rfl W1102 1 rfl (Nat.le_of_ble_eq_true rfl)
      have N1102 := Fr.snoc X1102 N1098 g_b1087
      have z1104 : n0 ≤ h1102.size := (Nat.le_trans z1100 (Keep.of_wr W1102).1)
      have K1105 : Keep h0 h1102 [] := K1101.wr W1102 (Or.inr sz_b1087)
      refine g_iinc X1102 hx 225 (hb hby at_222) (z := (2 : Int32)) rfl rfl (l' := #[.val (.int p0), .val (.int p1), .val (.int (3 : Int32)), .val (.int (0 : Int32)), .val (.ref b420), .val (.ref b429), .val (.ref b439), .val (.ref b451), .val (.ref b429), .val (.int (0 : Int32)), .val (.int (1 : Int32)), .val (.int (1 : Int32)), .val (.ref b1087), .val (.int (2 : Int32)), .unset, .unset, .unset]) rfl rfl ?_
      refine g_iload X1102 hx 227 (hb hby at_225) rfl rfl ?_
      refine g_ifNo X1102 hx 230 (hb hby at_227) (own_i0_le_f (by decide)) rfl ?_
      refine g_aload X1102 hx 232 (hb hby at_230) rfl rfl rfl ?_
      refine g_iconst X1102 hx 233 (hb hby at_232) (0 : Int32) rfl rfl ?_
      obtain ⟨cl1106, Ar1106, q1106, S1106, P1106, H1106, G1106⟩ := id V1102
      have hin1106 := inb_of (j := (0 : Int32)) S1106 ⟨by decide, by decide⟩
      refine own_aaload X1102 hx hZ e1102 rfl Ar1106 (v := (.ref b439)) hin1106 (Has.at H1106 hin1106 rfl) 234 (hb hby at_233) rfl ?_
      refine g_goto X1102 hx 238 (hb hby at_234) (by decide) (by decide) ?_
      refine g_astore X1102 hx 240 (hb hby at_238) rfl (l' := #[.val (.int p0), .val (.int p1), .val (.int (3 : Int32)), .val (.int (0 : Int32)), .val (.ref b420), .val (.ref b429), .val (.ref b439), .val (.ref b451), .val (.ref b429), .val (.int (0 : Int32)), .val (.int (1 : Int32)), .val (.int (1 : Int32)), .val (.ref b1087), .val (.int (2 : Int32)), .val (.ref b439), .unset, .unset]) rfl rfl ?_
      refine g_iload X1102 hx 242 (hb hby at_240) rfl rfl ?_
      refine g_ifNo X1102 hx 245 (hb hby at_242) (own_i0_le_f (by decide)) rfl ?_
      refine g_aload X1102 hx 247 (hb hby at_245) rfl rfl rfl ?_
      refine g_iload X1102 hx 249 (hb hby at_247) rfl rfl ?_
      refine g_iconst X1102 hx 250 (hb hby at_249) (1 : Int32) rfl rfl ?_
      refine g_isub X1102 hx 251 (hb hby at_250) rfl ?_
      show own_Go p e below s _ _ _ (T1102.setTop (mkF m 251 _ [(.int (1 : Int32)), (.ref b1087)]))
      obtain ⟨cl1107, Ar1107, q1107, S1107, P1107, H1107, G1107⟩ := id V1102
      have hin1107 := inb_of (j := (1 : Int32)) S1107 ⟨by decide, by decide⟩
      refine own_aaload X1102 hx hZ e1102 rfl Ar1107 (v := (.ref b451)) hin1107 (Has.at H1107 hin1107 rfl) 252 (hb hby at_251) rfl ?_
      refine g_goto X1102 hx 256 (hb hby at_252) (by decide) (by decide) ?_
      refine g_astore X1102 hx 258 (hb hby at_256) rfl (l' := #[.val (.int p0), .val (.int p1), .val (.int (3 : Int32)), .val (.int (0 : Int32)), .val (.ref b420), .val (.ref b429), .val (.ref b439), .val (.ref b451), .val (.ref b429), .val (.int (0 : Int32)), .val (.int (1 : Int32)), .val (.int (1 : Int32)), .val (.ref b1087), .val (.int (2 : Int32)), .val (.ref b439), .val (.ref b451), .unset]) rfl rfl ?_
      refine g_aload X1102 hx 260 (hb hby at_258) rfl rfl rfl ?_
      have f1108 : Fld Z h1102 b420 "com/example/entitygate/entitygate/HtmlNode$Parent" "first" "Lcom/example/entitygate/entitygate/HtmlNode;" (.ref b439) := (Fld.other W1102 (Fld.other W1098 (Fld.ext E1087 f1075_8) (Or.inl ne1089)) (Or.inl ne1089))
      refine own_getF X1102 hx hZ hown (host := "") (Or.inl (hw _ (List.mem_of_getElem? (i := 28) rfl))) (Via.of (hw _ (List.mem_of_getElem? (i := 29) rfl))) e1102 f1108 263 (hb hby at_260) rfl fun T1109 X1109 e1109 => ?_
      refine g_aload X1109 hx 265 (hb hby at_263) rfl rfl rfl ?_
      refine g_acmp X1109 hx (x := (.ref b439)) (y := (.ref b439)) (same := true) 268 (hb hby at_265) rfl rfl (decide_eq_true rfl) (by decide) (by decide) ?_
      refine g_aload X1109 hx 270 (hb hby at_268) rfl rfl rfl ?_
      have f1110 : Fld Z h1102 b420 "com/example/entitygate/entitygate/HtmlNode$Parent" "last" "Lcom/example/entitygate/entitygate/HtmlNode;" (.ref b451) := (Fld.other W1102 (Fld.other W1098 (Fld.ext E1087 f1075_9) (Or.inl ne1089)) (Or.inl ne1089))
      refine own_getF X1109 hx hZ hown (host := "") (Or.inl (hw _ (List.mem_of_getElem? (i := 31) rfl))) (Via.of (hw _ (List.mem_of_getElem? (i := 32) rfl))) e1109 f1110 273 (hb hby at_270) rfl fun T1111 X1111 e1111 => ?_
      refine g_aload X1111 hx 275 (hb hby at_273) rfl rfl rfl ?_
      refine g_acmp X1111 hx (x := (.ref b451)) (y := (.ref b451)) (same := true) 278 (hb hby at_275) rfl rfl (decide_eq_true rfl) (by decide) (by decide) ?_
      refine g_aload X1111 hx 280 (hb hby at_278) rfl rfl rfl ?_
      have f1113 : Fld Z h1102 b420 "com/example/entitygate/entitygate/HtmlNode" "parent" "Lcom/example/entitygate/entitygate/HtmlNode$Parent;" .null := (Fld.other W1102 (Fld.other W1098 (Fld.ext E1087 f1075_5) (Or.inl ne1089)) (Or.inl ne1089))
      have f1114 : Fld Z h1102 b420 "com/example/entitygate/entitygate/HtmlNode" "previous" "Lcom/example/entitygate/entitygate/HtmlNode;" .null := (Fld.other W1102 (Fld.other W1098 (Fld.ext E1087 f1075_6) (Or.inl ne1089)) (Or.inl ne1089))
      have f1115 : Fld Z h1102 b420 "com/example/entitygate/entitygate/HtmlNode" "next" "Lcom/example/entitygate/entitygate/HtmlNode;" .null := (Fld.other W1102 (Fld.other W1098 (Fld.ext E1087 f1075_7) (Or.inl ne1089)) (Or.inl ne1089))
      refine own_callS X1111 hx hZ hown (hw _ (List.mem_of_getElem? (i := 34) rfl)) (hw _ (List.mem_of_getElem? (i := 35) rfl)) (by decide) (rm_free1 l Z a0 hw [] b420 h1102 n0 z1104 f1113 f1114 f1115) (hw _ (List.mem_of_getElem? (i := 37) rfl)) (hw _ (List.mem_of_getElem? (i := 36) rfl)) e1111 0 (by decide) (by decide) (by decide) (by decide) [(.ref b420)] [] rfl pd_1 rfl 283 rfl (by rw [hml]; rfl) rfl (hb hby at_280) rfl fun T1112 v1112 L1112 X1112 hQ1112 => ?_
      obtain ⟨rfl, Nq1112, e1112⟩ := hQ1112
      have N1112 := Fr.app N1102 Nq1112
      show own_Go p e below s _ _ _ (T1112.setTop (mkF m 283 _ [(.int (1 : Int32))]))
      refine g_ifNo X1112 hx 286 (hb hby at_283) (own_i0_eq_f (by decide)) rfl ?_
      refine g_iconst X1112 hx 287 (hb hby at_286) (1 : Int32) rfl rfl ?_
      refine g_goto X1112 hx 291 (hb hby at_287) (by decide) (by decide) ?_
      refine g_istore X1112 hx 293 (hb hby at_291) (l' := #[.val (.int p0), .val (.int p1), .val (.int (3 : Int32)), .val (.int (0 : Int32)), .val (.ref b420), .val (.ref b429), .val (.ref b439), .val (.ref b451), .val (.ref b429), .val (.int (0 : Int32)), .val (.int (1 : Int32)), .val (.int (1 : Int32)), .val (.ref b1087), .val (.int (2 : Int32)), .val (.ref b439), .val (.ref b451), .val (.int (1 : Int32))]) rfl rfl ?_
      refine g_iload X1112 hx 295 (hb hby at_293) rfl rfl ?_
      refine g_ifNo X1112 hx 298 (hb hby at_295) (own_i0_eq_f (by decide)) rfl ?_
      refine g_aload X1112 hx 300 (hb hby at_298) rfl rfl rfl ?_
      refine g_iload X1112 hx 302 (hb hby at_300) rfl rfl ?_
      refine g_iconst X1112 hx 303 (hb hby at_302) (0 : Int32) rfl rfl ?_
      refine g_aload X1112 hx 305 (hb hby at_303) rfl rfl rfl ?_
      have f1117 : Fld Z h1102 b439 "com/example/entitygate/entitygate/HtmlNode" "parent" "Lcom/example/entitygate/entitygate/HtmlNode$Parent;" (.ref b420) := (Fld.other W1102 (Fld.other W1098 (Fld.ext E1087 f1075_10) (Or.inl ne1093)) (Or.inl ne1093))
      have f1118 : Fld Z h1102 b439 "com/example/entitygate/entitygate/HtmlNode" "previous" "Lcom/example/entitygate/entitygate/HtmlNode;" .null := (Fld.other W1102 (Fld.other W1098 (Fld.ext E1087 f1075_11) (Or.inl ne1093)) (Or.inl ne1093))
      have f1119 : Fld Z h1102 b439 "com/example/entitygate/entitygate/HtmlNode" "next" "Lcom/example/entitygate/entitygate/HtmlNode;" (.ref b451) := (Fld.other W1102 (Fld.other W1098 (Fld.ext E1087 f1075_12) (Or.inl ne1093)) (Or.inl ne1093))
      refine own_callS X1112 hx hZ hown (hw _ (List.mem_of_getElem? (i := 43) rfl)) (hw _ (List.mem_of_getElem? (i := 44) rfl)) (by decide) (rm_lk20 l Z a0 hw [] b1087 k1087 b420 b439 b451 h1102 n0 z1104 f1117 f1118 f1119 V1102) (hw _ (List.mem_of_getElem? (i := 45) rfl)) (hw _ (List.mem_of_getElem? (i := 36) rfl)) e1112 0 (by decide) (by decide) (by decide) (by decide) [(.ref b1087), (.int (2 : Int32)), (.int (0 : Int32)), (.ref b420)] [] rfl pd_2 rfl 308 rfl (by rw [hml]; rfl) rfl (hb hby at_305) rfl fun T1116 v1116 L1116 X1116 hQ1116 => ?_
      obtain ⟨rfl, Nq1116, e1116⟩ := hQ1116
      have N1116 := Fr.app N1112 Nq1116
      show own_Go p e below s _ _ _ (T1116.setTop (mkF m 308 _ [(.int (1 : Int32))]))
      refine g_ifNo X1116 hx 311 (hb hby at_308) (own_i0_eq_f (by decide)) rfl ?_
      refine g_aload X1116 hx 313 (hb hby at_311) rfl rfl rfl ?_
      refine g_iload X1116 hx 315 (hb hby at_313) rfl rfl ?_
      refine g_iconst X1116 hx 316 (hb hby at_315) (1 : Int32) rfl rfl ?_
      refine g_aload X1116 hx 318 (hb hby at_316) rfl rfl rfl ?_
      have f1121 : Fld Z h1102 b451 "com/example/entitygate/entitygate/HtmlNode" "parent" "Lcom/example/entitygate/entitygate/HtmlNode$Parent;" (.ref b420) := (Fld.other W1102 (Fld.other W1098 (Fld.ext E1087 (f1063_0.keep Kq1075 (ninS (Ne.symm ne455) (ninS (Ne.symm ne453) (ninS (Ne.symm ne456) nin0))))) (Or.inl ne1095)) (Or.inl ne1095))
      have f1122 : Fld Z h1102 b451 "com/example/entitygate/entitygate/HtmlNode" "previous" "Lcom/example/entitygate/entitygate/HtmlNode;" (.ref b439) := (Fld.other W1102 (Fld.other W1098 (Fld.ext E1087 (f1063_1.keep Kq1075 (ninS (Ne.symm ne455) (ninS (Ne.symm ne453) (ninS (Ne.symm ne456) nin0))))) (Or.inl ne1095)) (Or.inl ne1095))
      have f1123 : Fld Z h1102 b451 "com/example/entitygate/entitygate/HtmlNode" "next" "Lcom/example/entitygate/entitygate/HtmlNode;" .null := (Fld.other W1102 (Fld.other W1098 (Fld.ext E1087 (f1063_2.keep Kq1075 (ninS (Ne.symm ne455) (ninS (Ne.symm ne453) (ninS (Ne.symm ne456) nin0))))) (Or.inl ne1095)) (Or.inl ne1095))
      refine own_callS X1116 hx hZ hown (hw _ (List.mem_of_getElem? (i := 43) rfl)) (hw _ (List.mem_of_getElem? (i := 44) rfl)) (by decide) (rm_lk21 l Z a0 hw [] b1087 k1087 b420 b439 b451 h1102 n0 z1104 f1121 f1122 f1123 V1102) (hw _ (List.mem_of_getElem? (i := 45) rfl)) (hw _ (List.mem_of_getElem? (i := 36) rfl)) e1116 0 (by decide) (by decide) (by decide) (by decide) [(.ref b1087), (.int (2 : Int32)), (.int (1 : Int32)), (.ref b420)] [] rfl pd_2 rfl 321 rfl (by rw [hml]; rfl) rfl (hb hby at_318) rfl fun T1120 v1120 L1120 X1120 hQ1120 => ?_
      obtain ⟨rfl, Nq1120, e1120⟩ := hQ1120
      have N1120 := Fr.app N1116 Nq1120
      show own_Go p e below s _ _ _ (T1120.setTop (mkF m 321 _ [(.int (1 : Int32))]))
      refine g_ifNo X1120 hx 324 (hb hby at_321) (own_i0_eq_f (by decide)) rfl ?_
      refine g_aload X1120 hx 326 (hb hby at_324) rfl rfl rfl ?_
      refine g_iload X1120 hx 328 (hb hby at_326) rfl rfl ?_
      refine g_iconst X1120 hx 329 (hb hby at_328) (2 : Int32) rfl rfl ?_
      refine g_aload X1120 hx 331 (hb hby at_329) rfl rfl rfl ?_
      refine own_callS X1120 hx hZ hown (hw _ (List.mem_of_getElem? (i := 43) rfl)) (hw _ (List.mem_of_getElem? (i := 44) rfl)) (by decide) (rm_lk22 l Z a0 hw [] b1087 b420 h1102 n0 z1104 ) (hw _ (List.mem_of_getElem? (i := 45) rfl)) (hw _ (List.mem_of_getElem? (i := 36) rfl)) e1120 0 (by decide) (by decide) (by decide) (by decide) [(.ref b1087), (.int (2 : Int32)), (.int (2 : Int32)), (.ref b420)] [] rfl pd_2 rfl 334 rfl (by rw [hml]; rfl) rfl (hb hby at_331) rfl fun T1124 v1124 L1124 X1124 hQ1124 => ?_
      obtain ⟨rfl, Nq1124, e1124⟩ := hQ1124
      have N1124 := Fr.app N1120 Nq1124
      show own_Go p e below s _ _ _ (T1124.setTop (mkF m 334 _ [(.int (1 : Int32))]))
      refine g_ifNo X1124 hx 337 (hb hby at_334) (own_i0_eq_f (by decide)) rfl ?_
      refine g_iconst X1124 hx 338 (hb hby at_337) (1 : Int32) rfl rfl ?_
      refine g_goto X1124 hx 342 (hb hby at_338) (by decide) (by decide) ?_
      refine g_istore X1124 hx 344 (hb hby at_342) (l' := #[.val (.int p0), .val (.int p1), .val (.int (3 : Int32)), .val (.int (0 : Int32)), .val (.ref b420), .val (.ref b429), .val (.ref b439), .val (.ref b451), .val (.ref b429), .val (.int (0 : Int32)), .val (.int (1 : Int32)), .val (.int (1 : Int32)), .val (.ref b1087), .val (.int (2 : Int32)), .val (.ref b439), .val (.ref b451), .val (.int (1 : Int32))]) rfl rfl ?_
      refine g_iload X1124 hx 346 (hb hby at_344) rfl rfl ?_
      refine g_ifNo X1124 hx 349 (hb hby at_346) (own_i0_eq_f (by decide)) rfl ?_
      refine g_iload X1124 hx 351 (hb hby at_349) rfl rfl ?_
      refine g_ifNo X1124 hx 354 (hb hby at_351) (own_i0_ne_f (by decide)) rfl ?_
      refine g_aload X1124 hx 356 (hb hby at_354) rfl rfl rfl ?_
      have f1126 : Fld Z h1102 b429 "com/example/entitygate/entitygate/HtmlNode" "parent" "Lcom/example/entitygate/entitygate/HtmlNode$Parent;" .null := (Fld.other W1102 (Fld.other W1098 (Fld.ext E1087 f1075_0) (Or.inl ne1091)) (Or.inl ne1091))
      have f1127 : Fld Z h1102 b429 "com/example/entitygate/entitygate/HtmlNode" "previous" "Lcom/example/entitygate/entitygate/HtmlNode;" .null := (Fld.other W1102 (Fld.other W1098 (Fld.ext E1087 f1075_1) (Or.inl ne1091)) (Or.inl ne1091))
      have f1128 : Fld Z h1102 b429 "com/example/entitygate/entitygate/HtmlNode" "next" "Lcom/example/entitygate/entitygate/HtmlNode;" .null := (Fld.other W1102 (Fld.other W1098 (Fld.ext E1087 f1075_2) (Or.inl ne1091)) (Or.inl ne1091))
      refine own_callS X1124 hx hZ hown (hw _ (List.mem_of_getElem? (i := 34) rfl)) (hw _ (List.mem_of_getElem? (i := 35) rfl)) (by decide) (rm_free1 l Z a0 hw [] b429 h1102 n0 z1104 f1126 f1127 f1128) (hw _ (List.mem_of_getElem? (i := 37) rfl)) (hw _ (List.mem_of_getElem? (i := 36) rfl)) e1124 0 (by decide) (by decide) (by decide) (by decide) [(.ref b429)] [] rfl pd_1 rfl 359 rfl (by rw [hml]; rfl) rfl (hb hby at_356) rfl fun T1125 v1125 L1125 X1125 hQ1125 => ?_
      obtain ⟨rfl, Nq1125, e1125⟩ := hQ1125
      have N1125 := Fr.app N1124 Nq1125
      show own_Go p e below s _ _ _ (T1125.setTop (mkF m 359 _ [(.int (1 : Int32))]))
      refine g_ifNo X1125 hx 362 (hb hby at_359) (own_i0_eq_f (by decide)) rfl ?_
      refine g_iload X1125 hx 364 (hb hby at_362) rfl rfl ?_
      refine g_ifYes X1125 hx 375 (hb hby at_364) (own_i0_ne_t (by decide)) (by decide) (by decide) ?_
      refine g_iload X1125 hx 377 (hb hby at_375) rfl rfl ?_
      refine g_ifYes X1125 hx 388 (hb hby at_377) (own_i0_ne_t (by decide)) (by decide) (by decide) ?_
      refine g_iconst X1125 hx 389 (hb hby at_388) (1 : Int32) rfl rfl ?_
      refine g_goto X1125 hx 393 (hb hby at_389) (by decide) (by decide) ?_
      refine g_istore X1125 hx 395 (hb hby at_393) (l' := #[.val (.int p0), .val (.int p1), .val (.int (3 : Int32)), .val (.int (0 : Int32)), .val (.ref b420), .val (.ref b429), .val (.ref b439), .val (.ref b451), .val (.ref b429), .val (.int (0 : Int32)), .val (.int (1 : Int32)), .val (.int (1 : Int32)), .val (.ref b1087), .val (.int (2 : Int32)), .val (.ref b439), .val (.ref b451), .val (.int (1 : Int32))]) rfl rfl ?_
      refine g_iload X1125 hx 397 (hb hby at_395) rfl rfl ?_
      refine own_retN X1125 hx hlk (t := .boolean) hret (by simp) (hb hby at_397) ?_ (by decide) (by decide)
      rw [e1125]
      exact ⟨rfl, N1125⟩
    · show own_Go p e below s _ _ _ (T1063.setTop (mkF m 83 _ []))
      refine g_iload_n X1063 hx 84 (hb hby at_83) rfl rfl ?_
      refine g_ifYes X1063 hx 92 (hb hby at_84) (own_i0_ne_t (by decide)) (by decide) (by decide) ?_
      refine g_iload_n X1063 hx 93 (hb hby at_92) rfl rfl ?_
      refine g_iconst X1063 hx 94 (hb hby at_93) (1 : Int32) rfl rfl ?_
      refine g_icmpNo X1063 hx 97 (hb hby at_94) (own_ii_ne_f (by decide)) rfl ?_
      refine g_aload X1063 hx 99 (hb hby at_97) rfl rfl rfl ?_
      refine g_goto X1063 hx 114 (hb hby at_99) (by decide) (by decide) ?_
      refine g_astore X1063 hx 116 (hb hby at_114) rfl (l' := #[.val (.int p0), .val (.int p1), .val (.int (3 : Int32)), .val (.int (1 : Int32)), .val (.ref b420), .val (.ref b429), .val (.ref b439), .val (.ref b451), .val (.ref b439), .unset, .unset, .unset, .unset, .unset, .unset, .unset, .unset]) rfl rfl ?_
      refine g_aload X1063 hx 118 (hb hby at_116) rfl rfl rfl ?_
      have f1130 : Exa Z T1063.heap b420 "com/example/entitygate/entitygate/HtmlNode$Document" := (f1064.keep Kq1063)
      have f1131 : Exa Z T1063.heap b429 "com/example/entitygate/entitygate/HtmlNode$Document" := (f1065.keep Kq1063)
      have f1132 : Exa Z T1063.heap b439 "com/example/entitygate/entitygate/HtmlNode$Document" := (f1066.keep Kq1063)
      have f1133 : Exa Z T1063.heap b451 "com/example/entitygate/entitygate/HtmlNode$Document" := (f1067.keep Kq1063)
      have f1134 : Fld Z T1063.heap b429 "com/example/entitygate/entitygate/HtmlNode" "parent" "Lcom/example/entitygate/entitygate/HtmlNode$Parent;" (.ref b420) := (f1046_5.keep Kq1063 (ninS ne455 (ninS ne442 (ninS (Ne.symm ne430) nin0))))
      have f1135 : Fld Z T1063.heap b429 "com/example/entitygate/entitygate/HtmlNode" "previous" "Lcom/example/entitygate/entitygate/HtmlNode;" .null := (f1046_6.keep Kq1063 (ninS ne455 (ninS ne442 (ninS (Ne.symm ne430) nin0))))
      have f1136 : Fld Z T1063.heap b429 "com/example/entitygate/entitygate/HtmlNode" "next" "Lcom/example/entitygate/entitygate/HtmlNode;" (.ref b439) := (f1046_7.keep Kq1063 (ninS ne455 (ninS ne442 (ninS (Ne.symm ne430) nin0))))
      have f1137 : Fld Z T1063.heap b429 "com/example/entitygate/entitygate/HtmlNode$Parent" "first" "Lcom/example/entitygate/entitygate/HtmlNode;" .null := (f1046_8.keep Kq1063 (ninS ne455 (ninS ne442 (ninS (Ne.symm ne430) nin0))))
      have f1138 : Fld Z T1063.heap b429 "com/example/entitygate/entitygate/HtmlNode$Parent" "last" "Lcom/example/entitygate/entitygate/HtmlNode;" .null := (f1046_9.keep Kq1063 (ninS ne455 (ninS ne442 (ninS (Ne.symm ne430) nin0))))
      refine own_callV X1063 hx hZ hown (hw _ (List.mem_of_getElem? (i := 19) rfl)) (hw _ (List.mem_of_getElem? (i := 20) rfl)) (own_nf hZ (hw _ (List.mem_of_getElem? (i := 22) rfl))) (hw _ (List.mem_of_getElem? (i := 22) rfl)) (hw _ (List.mem_of_getElem? (i := 21) rfl)) (by decide) (rm_det31 l Z a0 hw [] b420 b429 b439 b451 T1063.heap n0 z1074 f1130 f1131 f1132 f1133 f1063_10 f1063_11 f1063_12 f1063_13 f1063_14 f1134 f1135 f1136 f1137 f1138 f1063_5 f1063_6 f1063_7 f1063_8 f1063_9 f1063_0 f1063_1 f1063_2 f1063_3 f1063_4 ne430 ne441 ne453 ne442 ne455 ne456 g_b420 g_b429 g_b439 g_b451) (hw _ (List.mem_of_getElem? (i := 23) rfl)) (hw _ (List.mem_of_getElem? (i := 14) rfl)) rfl 0 (by decide) (by decide) (by decide) (by decide) f1132 [] [] rfl pd_0 rfl 121 rfl (by rw [hml]; rfl) rfl (hb hby at_118) rfl fun T1129 v1129 L1129 X1129 hQ1129 => ?_
      obtain ⟨rfl, Nq1129, Kq1129, f1129_0, f1129_1, f1129_2, f1129_3, f1129_4, f1129_5, f1129_6, f1129_7, f1129_8, f1129_9, f1129_10, f1129_11, f1129_12, f1129_13, f1129_14⟩ := hQ1129
      have N1129 := Fr.app N1063 Nq1129
      have K1139 : Keep h0 T1129.heap [] := K1073.trans Kq1129 (allS (Or.inr sz_b439) (allS (Or.inr sz_b429) (allS (Or.inr sz_b451) all0)))
      have z1140 : n0 ≤ T1129.heap.size := (Nat.le_trans z1074 Kq1129.1)
      show own_Go p e below s _ _ _ (T1129.setTop (mkF m 121 _ []))
      refine g_iload_n X1129 hx 122 (hb hby at_121) rfl rfl ?_
      refine g_iconst X1129 hx 123 (hb hby at_122) (1 : Int32) rfl rfl ?_
      refine g_icmpNo X1129 hx 126 (hb hby at_123) (own_ii_lt_f (by decide)) rfl ?_
      refine g_iload_n X1129 hx 127 (hb hby at_126) rfl rfl ?_
      refine g_ifNo X1129 hx 130 (hb hby at_127) (own_i0_eq_f (by decide)) rfl ?_
      refine g_iconst X1129 hx 131 (hb hby at_130) (1 : Int32) rfl rfl ?_
      refine g_goto X1129 hx 135 (hb hby at_131) (by decide) (by decide) ?_
      refine g_istore X1129 hx 137 (hb hby at_135) (l' := #[.val (.int p0), .val (.int p1), .val (.int (3 : Int32)), .val (.int (1 : Int32)), .val (.ref b420), .val (.ref b429), .val (.ref b439), .val (.ref b451), .val (.ref b439), .val (.int (1 : Int32)), .unset, .unset, .unset, .unset, .unset, .unset, .unset]) rfl rfl ?_
      refine g_iload_n X1129 hx 138 (hb hby at_137) rfl rfl ?_
      refine g_iconst X1129 hx 139 (hb hby at_138) (2 : Int32) rfl rfl ?_
      refine g_icmpNo X1129 hx 142 (hb hby at_139) (own_ii_lt_f (by decide)) rfl ?_
      refine g_iload_n X1129 hx 143 (hb hby at_142) rfl rfl ?_
      refine g_iconst X1129 hx 144 (hb hby at_143) (1 : Int32) rfl rfl ?_
      refine g_icmpYes X1129 hx 151 (hb hby at_144) (own_ii_eq_t (by decide)) (by decide) (by decide) ?_
      refine g_iconst X1129 hx 152 (hb hby at_151) (0 : Int32) rfl rfl ?_
      refine g_istore X1129 hx 154 (hb hby at_152) (l' := #[.val (.int p0), .val (.int p1), .val (.int (3 : Int32)), .val (.int (1 : Int32)), .val (.ref b420), .val (.ref b429), .val (.ref b439), .val (.ref b451), .val (.ref b439), .val (.int (1 : Int32)), .val (.int (0 : Int32)), .unset, .unset, .unset, .unset, .unset, .unset]) rfl rfl ?_
      refine g_iload_n X1129 hx 155 (hb hby at_154) rfl rfl ?_
      refine g_iconst X1129 hx 156 (hb hby at_155) (3 : Int32) rfl rfl ?_
      refine g_icmpNo X1129 hx 159 (hb hby at_156) (own_ii_lt_f (by decide)) rfl ?_
      refine g_iload_n X1129 hx 160 (hb hby at_159) rfl rfl ?_
      refine g_iconst X1129 hx 161 (hb hby at_160) (2 : Int32) rfl rfl ?_
      refine g_icmpNo X1129 hx 164 (hb hby at_161) (own_ii_eq_f (by decide)) rfl ?_
      refine g_iconst X1129 hx 165 (hb hby at_164) (1 : Int32) rfl rfl ?_
      refine g_goto X1129 hx 169 (hb hby at_165) (by decide) (by decide) ?_
      refine g_istore X1129 hx 171 (hb hby at_169) (l' := #[.val (.int p0), .val (.int p1), .val (.int (3 : Int32)), .val (.int (1 : Int32)), .val (.ref b420), .val (.ref b429), .val (.ref b439), .val (.ref b451), .val (.ref b439), .val (.int (1 : Int32)), .val (.int (0 : Int32)), .val (.int (1 : Int32)), .unset, .unset, .unset, .unset, .unset]) rfl rfl ?_
      refine g_iconst X1129 hx 172 (hb hby at_171) (3 : Int32) rfl rfl ?_
      refine own_newR X1129 hx hZ hown (hw _ (List.mem_of_getElem? (i := 26) rfl)) (hw _ (List.mem_of_getElem? (i := 27) rfl)) rfl 175 (hb hby at_172) rfl (by decide) 3 (by decide) (by decide) (by decide) (by decide) fun T1141 h1141 k1141 b1141 X1141 e1141 g1141 E1141 A1141 O1141 => ?_
      have f1142 : Exa Z T1129.heap b420 "com/example/entitygate/entitygate/HtmlNode$Document" := (f1130.keep Kq1129)
      have ne1143 : b420 ≠ b1141 := Nat.ne_of_lt (Nat.lt_of_lt_of_le f1142.lt (Nat.le_of_eq g1141.symm))
      have f1144 : Exa Z T1129.heap b429 "com/example/entitygate/entitygate/HtmlNode$Document" := (f1131.keep Kq1129)
      have ne1145 : b429 ≠ b1141 := Nat.ne_of_lt (Nat.lt_of_lt_of_le f1144.lt (Nat.le_of_eq g1141.symm))
      have f1146 : Exa Z T1129.heap b439 "com/example/entitygate/entitygate/HtmlNode$Document" := (f1132.keep Kq1129)
      have ne1147 : b439 ≠ b1141 := Nat.ne_of_lt (Nat.lt_of_lt_of_le f1146.lt (Nat.le_of_eq g1141.symm))
      have f1148 : Exa Z T1129.heap b451 "com/example/entitygate/entitygate/HtmlNode$Document" := (f1133.keep Kq1129)
      have ne1149 : b451 ≠ b1141 := Nat.ne_of_lt (Nat.lt_of_lt_of_le f1148.lt (Nat.le_of_eq g1141.symm))
      have g_b1141 : n0 ≤ b1141 := Nat.le_trans z1140 (Nat.le_of_eq g1141.symm)
      have sz_b1141 : h0.size ≤ b1141 := Nat.le_trans K1139.1 (Nat.le_of_eq g1141.symm)
      have K1150 : Keep h0 h1141 [] := K1139.ext E1141
      have z1151 : n0 ≤ h1141.size := (Nat.le_trans z1140 E1141.1)
      have V1141 : Arv Z h1141 b1141 k1141 (.object "com/example/entitygate/entitygate/HtmlNode") (3 : Int32) [.null, .null, .null] .null := (Arv.new A1141 (by decide)).pad (pad_rep [] .null 3)
      refine g_astore X1141 hx 177 (hb hby at_175) rfl (l' := #[.val (.int p0), .val (.int p1), .val (.int (3 : Int32)), .val (.int (1 : Int32)), .val (.ref b420), .val (.ref b429), .val (.ref b439), .val (.ref b451), .val (.ref b439), .val (.int (1 : Int32)), .val (.int (0 : Int32)), .val (.int (1 : Int32)), .val (.ref b1141), .unset, .unset, .unset, .unset]) rfl rfl ?_
      refine g_iconst X1141 hx 178 (hb hby at_177) (0 : Int32) rfl rfl ?_
      refine g_istore X1141 hx 180 (hb hby at_178) (l' := #[.val (.int p0), .val (.int p1), .val (.int (3 : Int32)), .val (.int (1 : Int32)), .val (.ref b420), .val (.ref b429), .val (.ref b439), .val (.ref b451), .val (.ref b439), .val (.int (1 : Int32)), .val (.int (0 : Int32)), .val (.int (1 : Int32)), .val (.ref b1141), .val (.int (0 : Int32)), .unset, .unset, .unset]) rfl rfl ?_
      refine g_iload X1141 hx 182 (hb hby at_180) rfl rfl ?_
      refine g_ifNo X1141 hx 185 (hb hby at_182) (own_i0_eq_f (by decide)) rfl ?_
      refine g_aload X1141 hx 187 (hb hby at_185) rfl rfl rfl ?_
      refine g_iload X1141 hx 189 (hb hby at_187) rfl rfl ?_
      refine g_aload X1141 hx 191 (hb hby at_189) rfl rfl rfl ?_
      obtain ⟨cl1152, Ar1152, q1152, S1152, P1152, H1152, G1152⟩ := id V1141
      have hin1152 := inb_of (j := (0 : Int32)) S1152 ⟨by decide, by decide⟩
      have f1153 : Exa Z h1141 b429 "com/example/entitygate/entitygate/HtmlNode$Document" := (Exa.ext E1141 f1144)
      refine own_stR X1141 hx hZ e1141 Ar1152 hin1152 rfl (Sto.ofV Ar1152 q1152 O1141 (Ins.of_exa f1153 (hw _ (List.mem_of_getElem? (i := 61) rfl)))) 192 (hb hby at_191) rfl fun T1152 h1152 X1152 e1152 W1152 => ?_
      have V1152 : Arv Z h1152 b1141 k1141 (.object "com/example/entitygate/entitygate/HtmlNode") (3 : Int32) [(.ref b429), .null, .null] .null := Arv.set Ar1152 q1152 S1152 P1152 H1152 G1152 (v := (.ref b429)) rfl W1152 0 rfl (Nat.le_of_ble_eq_true rfl)
      have N1152 := Fr.snoc X1152 N1129 g_b1141
      have z1154 : n0 ≤ h1152.size := (Nat.le_trans z1151 (Keep.of_wr W1152).1)
      have K1155 : Keep h0 h1152 [] := K1150.wr W1152 (Or.inr sz_b1141)
      refine g_iinc X1152 hx 195 (hb hby at_192) (z := (1 : Int32)) rfl rfl (l' := #[.val (.int p0), .val (.int p1), .val (.int (3 : Int32)), .val (.int (1 : Int32)), .val (.ref b420), .val (.ref b429), .val (.ref b439), .val (.ref b451), .val (.ref b439), .val (.int (1 : Int32)), .val (.int (0 : Int32)), .val (.int (1 : Int32)), .val (.ref b1141), .val (.int (1 : Int32)), .unset, .unset, .unset]) rfl rfl ?_
      refine g_iload X1152 hx 197 (hb hby at_195) rfl rfl ?_
      refine g_ifYes X1152 hx 210 (hb hby at_197) (own_i0_eq_t (by decide)) (by decide) (by decide) ?_
      refine g_iload X1152 hx 212 (hb hby at_210) rfl rfl ?_
      refine g_ifNo X1152 hx 215 (hb hby at_212) (own_i0_eq_f (by decide)) rfl ?_
      refine g_aload X1152 hx 217 (hb hby at_215) rfl rfl rfl ?_
      refine g_iload X1152 hx 219 (hb hby at_217) rfl rfl ?_
      refine g_aload X1152 hx 221 (hb hby at_219) rfl rfl rfl ?_
      obtain ⟨cl1156, Ar1156, q1156, S1156, P1156, H1156, G1156⟩ := id V1152
      have hin1156 := inb_of (j := (1 : Int32)) S1156 ⟨by decide, by decide⟩
      have f1157 : Exa Z h1152 b451 "com/example/entitygate/entitygate/HtmlNode$Document" := (Exa.wr W1152 (Exa.ext E1141 f1148))
      refine own_stR X1152 hx hZ e1152 Ar1156 hin1156 rfl (Sto.ofV Ar1156 q1156 O1141 (Ins.of_exa f1157 (hw _ (List.mem_of_getElem? (i := 61) rfl)))) 222 (hb hby at_221) rfl fun T1156 h1156 X1156 e1156 W1156 => ?_
      have V1156 : Arv Z h1156 b1141 k1141 (.object "com/example/entitygate/entitygate/HtmlNode") (3 : Int32) [(.ref b429), (.ref b451), .null] .null := Arv.set Ar1156 q1156 S1156 P1156 H1156 G1156 (v := (.ref b451)) rfl W1156 1 rfl (Nat.le_of_ble_eq_true rfl)
      have N1156 := Fr.snoc X1156 N1152 g_b1141
      have z1158 : n0 ≤ h1156.size := (Nat.le_trans z1154 (Keep.of_wr W1156).1)
      have K1159 : Keep h0 h1156 [] := K1155.wr W1156 (Or.inr sz_b1141)
      refine g_iinc X1156 hx 225 (hb hby at_222) (z := (2 : Int32)) rfl rfl (l' := #[.val (.int p0), .val (.int p1), .val (.int (3 : Int32)), .val (.int (1 : Int32)), .val (.ref b420), .val (.ref b429), .val (.ref b439), .val (.ref b451), .val (.ref b439), .val (.int (1 : Int32)), .val (.int (0 : Int32)), .val (.int (1 : Int32)), .val (.ref b1141), .val (.int (2 : Int32)), .unset, .unset, .unset]) rfl rfl ?_
      refine g_iload X1156 hx 227 (hb hby at_225) rfl rfl ?_
      refine g_ifNo X1156 hx 230 (hb hby at_227) (own_i0_le_f (by decide)) rfl ?_
      refine g_aload X1156 hx 232 (hb hby at_230) rfl rfl rfl ?_
      refine g_iconst X1156 hx 233 (hb hby at_232) (0 : Int32) rfl rfl ?_
      obtain ⟨cl1160, Ar1160, q1160, S1160, P1160, H1160, G1160⟩ := id V1156
      have hin1160 := inb_of (j := (0 : Int32)) S1160 ⟨by decide, by decide⟩
      refine own_aaload X1156 hx hZ e1156 rfl Ar1160 (v := (.ref b429)) hin1160 (Has.at H1160 hin1160 rfl) 234 (hb hby at_233) rfl ?_
      refine g_goto X1156 hx 238 (hb hby at_234) (by decide) (by decide) ?_
      refine g_astore X1156 hx 240 (hb hby at_238) rfl (l' := #[.val (.int p0), .val (.int p1), .val (.int (3 : Int32)), .val (.int (1 : Int32)), .val (.ref b420), .val (.ref b429), .val (.ref b439), .val (.ref b451), .val (.ref b439), .val (.int (1 : Int32)), .val (.int (0 : Int32)), .val (.int (1 : Int32)), .val (.ref b1141), .val (.int (2 : Int32)), .val (.ref b429), .unset, .unset]) rfl rfl ?_
      refine g_iload X1156 hx 242 (hb hby at_240) rfl rfl ?_
      refine g_ifNo X1156 hx 245 (hb hby at_242) (own_i0_le_f (by decide)) rfl ?_
      refine g_aload X1156 hx 247 (hb hby at_245) rfl rfl rfl ?_
      refine g_iload X1156 hx 249 (hb hby at_247) rfl rfl ?_
      refine g_iconst X1156 hx 250 (hb hby at_249) (1 : Int32) rfl rfl ?_
      refine g_isub X1156 hx 251 (hb hby at_250) rfl ?_
      show own_Go p e below s _ _ _ (T1156.setTop (mkF m 251 _ [(.int (1 : Int32)), (.ref b1141)]))
      obtain ⟨cl1161, Ar1161, q1161, S1161, P1161, H1161, G1161⟩ := id V1156
      have hin1161 := inb_of (j := (1 : Int32)) S1161 ⟨by decide, by decide⟩
      refine own_aaload X1156 hx hZ e1156 rfl Ar1161 (v := (.ref b451)) hin1161 (Has.at H1161 hin1161 rfl) 252 (hb hby at_251) rfl ?_
      refine g_goto X1156 hx 256 (hb hby at_252) (by decide) (by decide) ?_
      refine g_astore X1156 hx 258 (hb hby at_256) rfl (l' := #[.val (.int p0), .val (.int p1), .val (.int (3 : Int32)), .val (.int (1 : Int32)), .val (.ref b420), .val (.ref b429), .val (.ref b439), .val (.ref b451), .val (.ref b439), .val (.int (1 : Int32)), .val (.int (0 : Int32)), .val (.int (1 : Int32)), .val (.ref b1141), .val (.int (2 : Int32)), .val (.ref b429), .val (.ref b451), .unset]) rfl rfl ?_
      refine g_aload X1156 hx 260 (hb hby at_258) rfl rfl rfl ?_
      have f1162 : Fld Z h1156 b420 "com/example/entitygate/entitygate/HtmlNode$Parent" "first" "Lcom/example/entitygate/entitygate/HtmlNode;" (.ref b429) := (Fld.other W1156 (Fld.other W1152 (Fld.ext E1141 (f1063_13.keep Kq1129 (ninS ne441 (ninS ne430 (ninS ne453 nin0))))) (Or.inl ne1143)) (Or.inl ne1143))
      refine own_getF X1156 hx hZ hown (host := "") (Or.inl (hw _ (List.mem_of_getElem? (i := 28) rfl))) (Via.of (hw _ (List.mem_of_getElem? (i := 29) rfl))) e1156 f1162 263 (hb hby at_260) rfl fun T1163 X1163 e1163 => ?_
      refine g_aload X1163 hx 265 (hb hby at_263) rfl rfl rfl ?_
      refine g_acmp X1163 hx (x := (.ref b429)) (y := (.ref b429)) (same := true) 268 (hb hby at_265) rfl rfl (decide_eq_true rfl) (by decide) (by decide) ?_
      refine g_aload X1163 hx 270 (hb hby at_268) rfl rfl rfl ?_
      have f1164 : Fld Z h1156 b420 "com/example/entitygate/entitygate/HtmlNode$Parent" "last" "Lcom/example/entitygate/entitygate/HtmlNode;" (.ref b451) := (Fld.other W1156 (Fld.other W1152 (Fld.ext E1141 (f1063_14.keep Kq1129 (ninS ne441 (ninS ne430 (ninS ne453 nin0))))) (Or.inl ne1143)) (Or.inl ne1143))
      refine own_getF X1163 hx hZ hown (host := "") (Or.inl (hw _ (List.mem_of_getElem? (i := 31) rfl))) (Via.of (hw _ (List.mem_of_getElem? (i := 32) rfl))) e1163 f1164 273 (hb hby at_270) rfl fun T1165 X1165 e1165 => ?_
      refine g_aload X1165 hx 275 (hb hby at_273) rfl rfl rfl ?_
      refine g_acmp X1165 hx (x := (.ref b451)) (y := (.ref b451)) (same := true) 278 (hb hby at_275) rfl rfl (decide_eq_true rfl) (by decide) (by decide) ?_
      refine g_aload X1165 hx 280 (hb hby at_278) rfl rfl rfl ?_
      have f1167 : Fld Z h1156 b420 "com/example/entitygate/entitygate/HtmlNode" "parent" "Lcom/example/entitygate/entitygate/HtmlNode$Parent;" .null := (Fld.other W1156 (Fld.other W1152 (Fld.ext E1141 (f1063_10.keep Kq1129 (ninS ne441 (ninS ne430 (ninS ne453 nin0))))) (Or.inl ne1143)) (Or.inl ne1143))
      have f1168 : Fld Z h1156 b420 "com/example/entitygate/entitygate/HtmlNode" "previous" "Lcom/example/entitygate/entitygate/HtmlNode;" .null := (Fld.other W1156 (Fld.other W1152 (Fld.ext E1141 (f1063_11.keep Kq1129 (ninS ne441 (ninS ne430 (ninS ne453 nin0))))) (Or.inl ne1143)) (Or.inl ne1143))
      have f1169 : Fld Z h1156 b420 "com/example/entitygate/entitygate/HtmlNode" "next" "Lcom/example/entitygate/entitygate/HtmlNode;" .null := (Fld.other W1156 (Fld.other W1152 (Fld.ext E1141 (f1063_12.keep Kq1129 (ninS ne441 (ninS ne430 (ninS ne453 nin0))))) (Or.inl ne1143)) (Or.inl ne1143))
      refine own_callS X1165 hx hZ hown (hw _ (List.mem_of_getElem? (i := 34) rfl)) (hw _ (List.mem_of_getElem? (i := 35) rfl)) (by decide) (rm_free1 l Z a0 hw [] b420 h1156 n0 z1158 f1167 f1168 f1169) (hw _ (List.mem_of_getElem? (i := 37) rfl)) (hw _ (List.mem_of_getElem? (i := 36) rfl)) e1165 0 (by decide) (by decide) (by decide) (by decide) [(.ref b420)] [] rfl pd_1 rfl 283 rfl (by rw [hml]; rfl) rfl (hb hby at_280) rfl fun T1166 v1166 L1166 X1166 hQ1166 => ?_
      obtain ⟨rfl, Nq1166, e1166⟩ := hQ1166
      have N1166 := Fr.app N1156 Nq1166
      show own_Go p e below s _ _ _ (T1166.setTop (mkF m 283 _ [(.int (1 : Int32))]))
      refine g_ifNo X1166 hx 286 (hb hby at_283) (own_i0_eq_f (by decide)) rfl ?_
      refine g_iconst X1166 hx 287 (hb hby at_286) (1 : Int32) rfl rfl ?_
      refine g_goto X1166 hx 291 (hb hby at_287) (by decide) (by decide) ?_
      refine g_istore X1166 hx 293 (hb hby at_291) (l' := #[.val (.int p0), .val (.int p1), .val (.int (3 : Int32)), .val (.int (1 : Int32)), .val (.ref b420), .val (.ref b429), .val (.ref b439), .val (.ref b451), .val (.ref b439), .val (.int (1 : Int32)), .val (.int (0 : Int32)), .val (.int (1 : Int32)), .val (.ref b1141), .val (.int (2 : Int32)), .val (.ref b429), .val (.ref b451), .val (.int (1 : Int32))]) rfl rfl ?_
      refine g_iload X1166 hx 295 (hb hby at_293) rfl rfl ?_
      refine g_ifNo X1166 hx 298 (hb hby at_295) (own_i0_eq_f (by decide)) rfl ?_
      refine g_aload X1166 hx 300 (hb hby at_298) rfl rfl rfl ?_
      refine g_iload X1166 hx 302 (hb hby at_300) rfl rfl ?_
      refine g_iconst X1166 hx 303 (hb hby at_302) (0 : Int32) rfl rfl ?_
      refine g_aload X1166 hx 305 (hb hby at_303) rfl rfl rfl ?_
      have f1171 : Fld Z h1156 b429 "com/example/entitygate/entitygate/HtmlNode" "parent" "Lcom/example/entitygate/entitygate/HtmlNode$Parent;" (.ref b420) := (Fld.other W1156 (Fld.other W1152 (Fld.ext E1141 f1129_5) (Or.inl ne1145)) (Or.inl ne1145))
      have f1172 : Fld Z h1156 b429 "com/example/entitygate/entitygate/HtmlNode" "previous" "Lcom/example/entitygate/entitygate/HtmlNode;" .null := (Fld.other W1156 (Fld.other W1152 (Fld.ext E1141 f1129_6) (Or.inl ne1145)) (Or.inl ne1145))
      have f1173 : Fld Z h1156 b429 "com/example/entitygate/entitygate/HtmlNode" "next" "Lcom/example/entitygate/entitygate/HtmlNode;" (.ref b451) := (Fld.other W1156 (Fld.other W1152 (Fld.ext E1141 f1129_7) (Or.inl ne1145)) (Or.inl ne1145))
      refine own_callS X1166 hx hZ hown (hw _ (List.mem_of_getElem? (i := 43) rfl)) (hw _ (List.mem_of_getElem? (i := 44) rfl)) (by decide) (rm_lk20 l Z a0 hw [] b1141 k1141 b420 b429 b451 h1156 n0 z1158 f1171 f1172 f1173 V1156) (hw _ (List.mem_of_getElem? (i := 45) rfl)) (hw _ (List.mem_of_getElem? (i := 36) rfl)) e1166 0 (by decide) (by decide) (by decide) (by decide) [(.ref b1141), (.int (2 : Int32)), (.int (0 : Int32)), (.ref b420)] [] rfl pd_2 rfl 308 rfl (by rw [hml]; rfl) rfl (hb hby at_305) rfl fun T1170 v1170 L1170 X1170 hQ1170 => ?_
      obtain ⟨rfl, Nq1170, e1170⟩ := hQ1170
      have N1170 := Fr.app N1166 Nq1170
      show own_Go p e below s _ _ _ (T1170.setTop (mkF m 308 _ [(.int (1 : Int32))]))
      refine g_ifNo X1170 hx 311 (hb hby at_308) (own_i0_eq_f (by decide)) rfl ?_
      refine g_aload X1170 hx 313 (hb hby at_311) rfl rfl rfl ?_
      refine g_iload X1170 hx 315 (hb hby at_313) rfl rfl ?_
      refine g_iconst X1170 hx 316 (hb hby at_315) (1 : Int32) rfl rfl ?_
      refine g_aload X1170 hx 318 (hb hby at_316) rfl rfl rfl ?_
      have f1175 : Fld Z h1156 b451 "com/example/entitygate/entitygate/HtmlNode" "parent" "Lcom/example/entitygate/entitygate/HtmlNode$Parent;" (.ref b420) := (Fld.other W1156 (Fld.other W1152 (Fld.ext E1141 f1129_10) (Or.inl ne1149)) (Or.inl ne1149))
      have f1176 : Fld Z h1156 b451 "com/example/entitygate/entitygate/HtmlNode" "previous" "Lcom/example/entitygate/entitygate/HtmlNode;" (.ref b429) := (Fld.other W1156 (Fld.other W1152 (Fld.ext E1141 f1129_11) (Or.inl ne1149)) (Or.inl ne1149))
      have f1177 : Fld Z h1156 b451 "com/example/entitygate/entitygate/HtmlNode" "next" "Lcom/example/entitygate/entitygate/HtmlNode;" .null := (Fld.other W1156 (Fld.other W1152 (Fld.ext E1141 f1129_12) (Or.inl ne1149)) (Or.inl ne1149))
      refine own_callS X1170 hx hZ hown (hw _ (List.mem_of_getElem? (i := 43) rfl)) (hw _ (List.mem_of_getElem? (i := 44) rfl)) (by decide) (rm_lk21 l Z a0 hw [] b1141 k1141 b420 b429 b451 h1156 n0 z1158 f1175 f1176 f1177 V1156) (hw _ (List.mem_of_getElem? (i := 45) rfl)) (hw _ (List.mem_of_getElem? (i := 36) rfl)) e1170 0 (by decide) (by decide) (by decide) (by decide) [(.ref b1141), (.int (2 : Int32)), (.int (1 : Int32)), (.ref b420)] [] rfl pd_2 rfl 321 rfl (by rw [hml]; rfl) rfl (hb hby at_318) rfl fun T1174 v1174 L1174 X1174 hQ1174 => ?_
      obtain ⟨rfl, Nq1174, e1174⟩ := hQ1174
      have N1174 := Fr.app N1170 Nq1174
      show own_Go p e below s _ _ _ (T1174.setTop (mkF m 321 _ [(.int (1 : Int32))]))
      refine g_ifNo X1174 hx 324 (hb hby at_321) (own_i0_eq_f (by decide)) rfl ?_
      refine g_aload X1174 hx 326 (hb hby at_324) rfl rfl rfl ?_
      refine g_iload X1174 hx 328 (hb hby at_326) rfl rfl ?_
      refine g_iconst X1174 hx 329 (hb hby at_328) (2 : Int32) rfl rfl ?_
      refine g_aload X1174 hx 331 (hb hby at_329) rfl rfl rfl ?_
      refine own_callS X1174 hx hZ hown (hw _ (List.mem_of_getElem? (i := 43) rfl)) (hw _ (List.mem_of_getElem? (i := 44) rfl)) (by decide) (rm_lk22 l Z a0 hw [] b1141 b420 h1156 n0 z1158 ) (hw _ (List.mem_of_getElem? (i := 45) rfl)) (hw _ (List.mem_of_getElem? (i := 36) rfl)) e1174 0 (by decide) (by decide) (by decide) (by decide) [(.ref b1141), (.int (2 : Int32)), (.int (2 : Int32)), (.ref b420)] [] rfl pd_2 rfl 334 rfl (by rw [hml]; rfl) rfl (hb hby at_331) rfl fun T1178 v1178 L1178 X1178 hQ1178 => ?_
      obtain ⟨rfl, Nq1178, e1178⟩ := hQ1178
      have N1178 := Fr.app N1174 Nq1178
      show own_Go p e below s _ _ _ (T1178.setTop (mkF m 334 _ [(.int (1 : Int32))]))
      refine g_ifNo X1178 hx 337 (hb hby at_334) (own_i0_eq_f (by decide)) rfl ?_
      refine g_iconst X1178 hx 338 (hb hby at_337) (1 : Int32) rfl rfl ?_
      refine g_goto X1178 hx 342 (hb hby at_338) (by decide) (by decide) ?_
      refine g_istore X1178 hx 344 (hb hby at_342) (l' := #[.val (.int p0), .val (.int p1), .val (.int (3 : Int32)), .val (.int (1 : Int32)), .val (.ref b420), .val (.ref b429), .val (.ref b439), .val (.ref b451), .val (.ref b439), .val (.int (1 : Int32)), .val (.int (0 : Int32)), .val (.int (1 : Int32)), .val (.ref b1141), .val (.int (2 : Int32)), .val (.ref b429), .val (.ref b451), .val (.int (1 : Int32))]) rfl rfl ?_
      refine g_iload X1178 hx 346 (hb hby at_344) rfl rfl ?_
      refine g_ifNo X1178 hx 349 (hb hby at_346) (own_i0_eq_f (by decide)) rfl ?_
      refine g_iload X1178 hx 351 (hb hby at_349) rfl rfl ?_
      refine g_ifYes X1178 hx 362 (hb hby at_351) (own_i0_ne_t (by decide)) (by decide) (by decide) ?_
      refine g_iload X1178 hx 364 (hb hby at_362) rfl rfl ?_
      refine g_ifNo X1178 hx 367 (hb hby at_364) (own_i0_ne_f (by decide)) rfl ?_
      refine g_aload X1178 hx 369 (hb hby at_367) rfl rfl rfl ?_
      have f1180 : Fld Z h1156 b439 "com/example/entitygate/entitygate/HtmlNode" "parent" "Lcom/example/entitygate/entitygate/HtmlNode$Parent;" .null := (Fld.other W1156 (Fld.other W1152 (Fld.ext E1141 f1129_0) (Or.inl ne1147)) (Or.inl ne1147))
      have f1181 : Fld Z h1156 b439 "com/example/entitygate/entitygate/HtmlNode" "previous" "Lcom/example/entitygate/entitygate/HtmlNode;" .null := (Fld.other W1156 (Fld.other W1152 (Fld.ext E1141 f1129_1) (Or.inl ne1147)) (Or.inl ne1147))
      have f1182 : Fld Z h1156 b439 "com/example/entitygate/entitygate/HtmlNode" "next" "Lcom/example/entitygate/entitygate/HtmlNode;" .null := (Fld.other W1156 (Fld.other W1152 (Fld.ext E1141 f1129_2) (Or.inl ne1147)) (Or.inl ne1147))
      refine own_callS X1178 hx hZ hown (hw _ (List.mem_of_getElem? (i := 34) rfl)) (hw _ (List.mem_of_getElem? (i := 35) rfl)) (by decide) (rm_free1 l Z a0 hw [] b439 h1156 n0 z1158 f1180 f1181 f1182) (hw _ (List.mem_of_getElem? (i := 37) rfl)) (hw _ (List.mem_of_getElem? (i := 36) rfl)) e1178 0 (by decide) (by decide) (by decide) (by decide) [(.ref b439)] [] rfl pd_1 rfl 372 rfl (by rw [hml]; rfl) rfl (hb hby at_369) rfl fun T1179 v1179 L1179 X1179 hQ1179 => ?_
      obtain ⟨rfl, Nq1179, e1179⟩ := hQ1179
      have N1179 := Fr.app N1178 Nq1179
      show own_Go p e below s _ _ _ (T1179.setTop (mkF m 372 _ [(.int (1 : Int32))]))
      refine g_ifNo X1179 hx 375 (hb hby at_372) (own_i0_eq_f (by decide)) rfl ?_
      refine g_iload X1179 hx 377 (hb hby at_375) rfl rfl ?_
      refine g_ifYes X1179 hx 388 (hb hby at_377) (own_i0_ne_t (by decide)) (by decide) (by decide) ?_
      refine g_iconst X1179 hx 389 (hb hby at_388) (1 : Int32) rfl rfl ?_
      refine g_goto X1179 hx 393 (hb hby at_389) (by decide) (by decide) ?_
      refine g_istore X1179 hx 395 (hb hby at_393) (l' := #[.val (.int p0), .val (.int p1), .val (.int (3 : Int32)), .val (.int (1 : Int32)), .val (.ref b420), .val (.ref b429), .val (.ref b439), .val (.ref b451), .val (.ref b439), .val (.int (1 : Int32)), .val (.int (0 : Int32)), .val (.int (1 : Int32)), .val (.ref b1141), .val (.int (2 : Int32)), .val (.ref b429), .val (.ref b451), .val (.int (1 : Int32))]) rfl rfl ?_
      refine g_iload X1179 hx 397 (hb hby at_395) rfl rfl ?_
      refine own_retN X1179 hx hlk (t := .boolean) hret (by simp) (hb hby at_397) ?_ (by decide) (by decide)
      rw [e1179]
      exact ⟨rfl, N1179⟩
    · show own_Go p e below s _ _ _ (T1063.setTop (mkF m 83 _ []))
      refine g_iload_n X1063 hx 84 (hb hby at_83) rfl rfl ?_
      refine g_ifYes X1063 hx 92 (hb hby at_84) (own_i0_ne_t (by decide)) (by decide) (by decide) ?_
      refine g_iload_n X1063 hx 93 (hb hby at_92) rfl rfl ?_
      refine g_iconst X1063 hx 94 (hb hby at_93) (1 : Int32) rfl rfl ?_
      refine g_icmpYes X1063 hx 102 (hb hby at_94) (own_ii_ne_t (by decide)) (by decide) (by decide) ?_
      refine g_iload_n X1063 hx 103 (hb hby at_102) rfl rfl ?_
      refine g_iconst X1063 hx 104 (hb hby at_103) (2 : Int32) rfl rfl ?_
      refine g_icmpNo X1063 hx 107 (hb hby at_104) (own_ii_ne_f (by decide)) rfl ?_
      refine g_aload X1063 hx 109 (hb hby at_107) rfl rfl rfl ?_
      refine g_goto X1063 hx 114 (hb hby at_109) (by decide) (by decide) ?_
      refine g_astore X1063 hx 116 (hb hby at_114) rfl (l' := #[.val (.int p0), .val (.int p1), .val (.int (3 : Int32)), .val (.int (2 : Int32)), .val (.ref b420), .val (.ref b429), .val (.ref b439), .val (.ref b451), .val (.ref b451), .unset, .unset, .unset, .unset, .unset, .unset, .unset, .unset]) rfl rfl ?_
      refine g_aload X1063 hx 118 (hb hby at_116) rfl rfl rfl ?_
      have f1184 : Exa Z T1063.heap b420 "com/example/entitygate/entitygate/HtmlNode$Document" := (f1064.keep Kq1063)
      have f1185 : Exa Z T1063.heap b429 "com/example/entitygate/entitygate/HtmlNode$Document" := (f1065.keep Kq1063)
      have f1186 : Exa Z T1063.heap b439 "com/example/entitygate/entitygate/HtmlNode$Document" := (f1066.keep Kq1063)
      have f1187 : Exa Z T1063.heap b451 "com/example/entitygate/entitygate/HtmlNode$Document" := (f1067.keep Kq1063)
      have f1188 : Fld Z T1063.heap b429 "com/example/entitygate/entitygate/HtmlNode" "parent" "Lcom/example/entitygate/entitygate/HtmlNode$Parent;" (.ref b420) := (f1046_5.keep Kq1063 (ninS ne455 (ninS ne442 (ninS (Ne.symm ne430) nin0))))
      have f1189 : Fld Z T1063.heap b429 "com/example/entitygate/entitygate/HtmlNode" "previous" "Lcom/example/entitygate/entitygate/HtmlNode;" .null := (f1046_6.keep Kq1063 (ninS ne455 (ninS ne442 (ninS (Ne.symm ne430) nin0))))
      have f1190 : Fld Z T1063.heap b429 "com/example/entitygate/entitygate/HtmlNode" "next" "Lcom/example/entitygate/entitygate/HtmlNode;" (.ref b439) := (f1046_7.keep Kq1063 (ninS ne455 (ninS ne442 (ninS (Ne.symm ne430) nin0))))
      have f1191 : Fld Z T1063.heap b429 "com/example/entitygate/entitygate/HtmlNode$Parent" "first" "Lcom/example/entitygate/entitygate/HtmlNode;" .null := (f1046_8.keep Kq1063 (ninS ne455 (ninS ne442 (ninS (Ne.symm ne430) nin0))))
      have f1192 : Fld Z T1063.heap b429 "com/example/entitygate/entitygate/HtmlNode$Parent" "last" "Lcom/example/entitygate/entitygate/HtmlNode;" .null := (f1046_9.keep Kq1063 (ninS ne455 (ninS ne442 (ninS (Ne.symm ne430) nin0))))
      refine own_callV X1063 hx hZ hown (hw _ (List.mem_of_getElem? (i := 19) rfl)) (hw _ (List.mem_of_getElem? (i := 20) rfl)) (own_nf hZ (hw _ (List.mem_of_getElem? (i := 22) rfl))) (hw _ (List.mem_of_getElem? (i := 22) rfl)) (hw _ (List.mem_of_getElem? (i := 21) rfl)) (by decide) (rm_det32 l Z a0 hw [] b420 b429 b439 b451 T1063.heap n0 z1074 f1184 f1185 f1186 f1187 f1063_10 f1063_11 f1063_12 f1063_13 f1063_14 f1188 f1189 f1190 f1191 f1192 f1063_5 f1063_6 f1063_7 f1063_8 f1063_9 f1063_0 f1063_1 f1063_2 f1063_3 f1063_4 ne430 ne441 ne453 ne442 ne455 ne456 g_b420 g_b429 g_b439 g_b451) (hw _ (List.mem_of_getElem? (i := 23) rfl)) (hw _ (List.mem_of_getElem? (i := 14) rfl)) rfl 0 (by decide) (by decide) (by decide) (by decide) f1187 [] [] rfl pd_0 rfl 121 rfl (by rw [hml]; rfl) rfl (hb hby at_118) rfl fun T1183 v1183 L1183 X1183 hQ1183 => ?_
      obtain ⟨rfl, Nq1183, Kq1183, f1183_0, f1183_1, f1183_2, f1183_3, f1183_4, f1183_5, f1183_6, f1183_7, f1183_8, f1183_9, f1183_10, f1183_11, f1183_12, f1183_13, f1183_14⟩ := hQ1183
      have N1183 := Fr.app N1063 Nq1183
      have K1193 : Keep h0 T1183.heap [] := K1073.trans Kq1183 (allS (Or.inr sz_b451) (allS (Or.inr sz_b439) (allS (Or.inr sz_b420) all0)))
      have z1194 : n0 ≤ T1183.heap.size := (Nat.le_trans z1074 Kq1183.1)
      show own_Go p e below s _ _ _ (T1183.setTop (mkF m 121 _ []))
      refine g_iload_n X1183 hx 122 (hb hby at_121) rfl rfl ?_
      refine g_iconst X1183 hx 123 (hb hby at_122) (1 : Int32) rfl rfl ?_
      refine g_icmpNo X1183 hx 126 (hb hby at_123) (own_ii_lt_f (by decide)) rfl ?_
      refine g_iload_n X1183 hx 127 (hb hby at_126) rfl rfl ?_
      refine g_ifNo X1183 hx 130 (hb hby at_127) (own_i0_eq_f (by decide)) rfl ?_
      refine g_iconst X1183 hx 131 (hb hby at_130) (1 : Int32) rfl rfl ?_
      refine g_goto X1183 hx 135 (hb hby at_131) (by decide) (by decide) ?_
      refine g_istore X1183 hx 137 (hb hby at_135) (l' := #[.val (.int p0), .val (.int p1), .val (.int (3 : Int32)), .val (.int (2 : Int32)), .val (.ref b420), .val (.ref b429), .val (.ref b439), .val (.ref b451), .val (.ref b451), .val (.int (1 : Int32)), .unset, .unset, .unset, .unset, .unset, .unset, .unset]) rfl rfl ?_
      refine g_iload_n X1183 hx 138 (hb hby at_137) rfl rfl ?_
      refine g_iconst X1183 hx 139 (hb hby at_138) (2 : Int32) rfl rfl ?_
      refine g_icmpNo X1183 hx 142 (hb hby at_139) (own_ii_lt_f (by decide)) rfl ?_
      refine g_iload_n X1183 hx 143 (hb hby at_142) rfl rfl ?_
      refine g_iconst X1183 hx 144 (hb hby at_143) (1 : Int32) rfl rfl ?_
      refine g_icmpNo X1183 hx 147 (hb hby at_144) (own_ii_eq_f (by decide)) rfl ?_
      refine g_iconst X1183 hx 148 (hb hby at_147) (1 : Int32) rfl rfl ?_
      refine g_goto X1183 hx 152 (hb hby at_148) (by decide) (by decide) ?_
      refine g_istore X1183 hx 154 (hb hby at_152) (l' := #[.val (.int p0), .val (.int p1), .val (.int (3 : Int32)), .val (.int (2 : Int32)), .val (.ref b420), .val (.ref b429), .val (.ref b439), .val (.ref b451), .val (.ref b451), .val (.int (1 : Int32)), .val (.int (1 : Int32)), .unset, .unset, .unset, .unset, .unset, .unset]) rfl rfl ?_
      refine g_iload_n X1183 hx 155 (hb hby at_154) rfl rfl ?_
      refine g_iconst X1183 hx 156 (hb hby at_155) (3 : Int32) rfl rfl ?_
      refine g_icmpNo X1183 hx 159 (hb hby at_156) (own_ii_lt_f (by decide)) rfl ?_
      refine g_iload_n X1183 hx 160 (hb hby at_159) rfl rfl ?_
      refine g_iconst X1183 hx 161 (hb hby at_160) (2 : Int32) rfl rfl ?_
      refine g_icmpYes X1183 hx 168 (hb hby at_161) (own_ii_eq_t (by decide)) (by decide) (by decide) ?_
      refine g_iconst X1183 hx 169 (hb hby at_168) (0 : Int32) rfl rfl ?_
      refine g_istore X1183 hx 171 (hb hby at_169) (l' := #[.val (.int p0), .val (.int p1), .val (.int (3 : Int32)), .val (.int (2 : Int32)), .val (.ref b420), .val (.ref b429), .val (.ref b439), .val (.ref b451), .val (.ref b451), .val (.int (1 : Int32)), .val (.int (1 : Int32)), .val (.int (0 : Int32)), .unset, .unset, .unset, .unset, .unset]) rfl rfl ?_
      refine g_iconst X1183 hx 172 (hb hby at_171) (3 : Int32) rfl rfl ?_
      refine own_newR X1183 hx hZ hown (hw _ (List.mem_of_getElem? (i := 26) rfl)) (hw _ (List.mem_of_getElem? (i := 27) rfl)) rfl 175 (hb hby at_172) rfl (by decide) 3 (by decide) (by decide) (by decide) (by decide) fun T1195 h1195 k1195 b1195 X1195 e1195 g1195 E1195 A1195 O1195 => ?_
      have f1196 : Exa Z T1183.heap b420 "com/example/entitygate/entitygate/HtmlNode$Document" := (f1184.keep Kq1183)
      have ne1197 : b420 ≠ b1195 := Nat.ne_of_lt (Nat.lt_of_lt_of_le f1196.lt (Nat.le_of_eq g1195.symm))
      have f1198 : Exa Z T1183.heap b429 "com/example/entitygate/entitygate/HtmlNode$Document" := (f1185.keep Kq1183)
      have ne1199 : b429 ≠ b1195 := Nat.ne_of_lt (Nat.lt_of_lt_of_le f1198.lt (Nat.le_of_eq g1195.symm))
      have f1200 : Exa Z T1183.heap b439 "com/example/entitygate/entitygate/HtmlNode$Document" := (f1186.keep Kq1183)
      have ne1201 : b439 ≠ b1195 := Nat.ne_of_lt (Nat.lt_of_lt_of_le f1200.lt (Nat.le_of_eq g1195.symm))
      have f1202 : Exa Z T1183.heap b451 "com/example/entitygate/entitygate/HtmlNode$Document" := (f1187.keep Kq1183)
      have ne1203 : b451 ≠ b1195 := Nat.ne_of_lt (Nat.lt_of_lt_of_le f1202.lt (Nat.le_of_eq g1195.symm))
      have g_b1195 : n0 ≤ b1195 := Nat.le_trans z1194 (Nat.le_of_eq g1195.symm)
      have sz_b1195 : h0.size ≤ b1195 := Nat.le_trans K1193.1 (Nat.le_of_eq g1195.symm)
      have K1204 : Keep h0 h1195 [] := K1193.ext E1195
      have z1205 : n0 ≤ h1195.size := (Nat.le_trans z1194 E1195.1)
      have V1195 : Arv Z h1195 b1195 k1195 (.object "com/example/entitygate/entitygate/HtmlNode") (3 : Int32) [.null, .null, .null] .null := (Arv.new A1195 (by decide)).pad (pad_rep [] .null 3)
      refine g_astore X1195 hx 177 (hb hby at_175) rfl (l' := #[.val (.int p0), .val (.int p1), .val (.int (3 : Int32)), .val (.int (2 : Int32)), .val (.ref b420), .val (.ref b429), .val (.ref b439), .val (.ref b451), .val (.ref b451), .val (.int (1 : Int32)), .val (.int (1 : Int32)), .val (.int (0 : Int32)), .val (.ref b1195), .unset, .unset, .unset, .unset]) rfl rfl ?_
      refine g_iconst X1195 hx 178 (hb hby at_177) (0 : Int32) rfl rfl ?_
      refine g_istore X1195 hx 180 (hb hby at_178) (l' := #[.val (.int p0), .val (.int p1), .val (.int (3 : Int32)), .val (.int (2 : Int32)), .val (.ref b420), .val (.ref b429), .val (.ref b439), .val (.ref b451), .val (.ref b451), .val (.int (1 : Int32)), .val (.int (1 : Int32)), .val (.int (0 : Int32)), .val (.ref b1195), .val (.int (0 : Int32)), .unset, .unset, .unset]) rfl rfl ?_
      refine g_iload X1195 hx 182 (hb hby at_180) rfl rfl ?_
      refine g_ifNo X1195 hx 185 (hb hby at_182) (own_i0_eq_f (by decide)) rfl ?_
      refine g_aload X1195 hx 187 (hb hby at_185) rfl rfl rfl ?_
      refine g_iload X1195 hx 189 (hb hby at_187) rfl rfl ?_
      refine g_aload X1195 hx 191 (hb hby at_189) rfl rfl rfl ?_
      obtain ⟨cl1206, Ar1206, q1206, S1206, P1206, H1206, G1206⟩ := id V1195
      have hin1206 := inb_of (j := (0 : Int32)) S1206 ⟨by decide, by decide⟩
      have f1207 : Exa Z h1195 b429 "com/example/entitygate/entitygate/HtmlNode$Document" := (Exa.ext E1195 f1198)
      refine own_stR X1195 hx hZ e1195 Ar1206 hin1206 rfl (Sto.ofV Ar1206 q1206 O1195 (Ins.of_exa f1207 (hw _ (List.mem_of_getElem? (i := 61) rfl)))) 192 (hb hby at_191) rfl fun T1206 h1206 X1206 e1206 W1206 => ?_
      have V1206 : Arv Z h1206 b1195 k1195 (.object "com/example/entitygate/entitygate/HtmlNode") (3 : Int32) [(.ref b429), .null, .null] .null := Arv.set Ar1206 q1206 S1206 P1206 H1206 G1206 (v := (.ref b429)) rfl W1206 0 rfl (Nat.le_of_ble_eq_true rfl)
      have N1206 := Fr.snoc X1206 N1183 g_b1195
      have z1208 : n0 ≤ h1206.size := (Nat.le_trans z1205 (Keep.of_wr W1206).1)
      have K1209 : Keep h0 h1206 [] := K1204.wr W1206 (Or.inr sz_b1195)
      refine g_iinc X1206 hx 195 (hb hby at_192) (z := (1 : Int32)) rfl rfl (l' := #[.val (.int p0), .val (.int p1), .val (.int (3 : Int32)), .val (.int (2 : Int32)), .val (.ref b420), .val (.ref b429), .val (.ref b439), .val (.ref b451), .val (.ref b451), .val (.int (1 : Int32)), .val (.int (1 : Int32)), .val (.int (0 : Int32)), .val (.ref b1195), .val (.int (1 : Int32)), .unset, .unset, .unset]) rfl rfl ?_
      refine g_iload X1206 hx 197 (hb hby at_195) rfl rfl ?_
      refine g_ifNo X1206 hx 200 (hb hby at_197) (own_i0_eq_f (by decide)) rfl ?_
      refine g_aload X1206 hx 202 (hb hby at_200) rfl rfl rfl ?_
      refine g_iload X1206 hx 204 (hb hby at_202) rfl rfl ?_
      refine g_aload X1206 hx 206 (hb hby at_204) rfl rfl rfl ?_
      obtain ⟨cl1210, Ar1210, q1210, S1210, P1210, H1210, G1210⟩ := id V1206
      have hin1210 := inb_of (j := (1 : Int32)) S1210 ⟨by decide, by decide⟩
      have f1211 : Exa Z h1206 b439 "com/example/entitygate/entitygate/HtmlNode$Document" := (Exa.wr W1206 (Exa.ext E1195 f1200))
      refine own_stR X1206 hx hZ e1206 Ar1210 hin1210 rfl (Sto.ofV Ar1210 q1210 O1195 (Ins.of_exa f1211 (hw _ (List.mem_of_getElem? (i := 61) rfl)))) 207 (hb hby at_206) rfl fun T1210 h1210 X1210 e1210 W1210 => ?_
      have V1210 : Arv Z h1210 b1195 k1195 (.object "com/example/entitygate/entitygate/HtmlNode") (3 : Int32) [(.ref b429), (.ref b439), .null] .null := Arv.set Ar1210 q1210 S1210 P1210 H1210 G1210 (v := (.ref b439)) rfl W1210 1 rfl (Nat.le_of_ble_eq_true rfl)
      have N1210 := Fr.snoc X1210 N1206 g_b1195
      have z1212 : n0 ≤ h1210.size := (Nat.le_trans z1208 (Keep.of_wr W1210).1)
      have K1213 : Keep h0 h1210 [] := K1209.wr W1210 (Or.inr sz_b1195)
      refine g_iinc X1210 hx 210 (hb hby at_207) (z := (2 : Int32)) rfl rfl (l' := #[.val (.int p0), .val (.int p1), .val (.int (3 : Int32)), .val (.int (2 : Int32)), .val (.ref b420), .val (.ref b429), .val (.ref b439), .val (.ref b451), .val (.ref b451), .val (.int (1 : Int32)), .val (.int (1 : Int32)), .val (.int (0 : Int32)), .val (.ref b1195), .val (.int (2 : Int32)), .unset, .unset, .unset]) rfl rfl ?_
      refine g_iload X1210 hx 212 (hb hby at_210) rfl rfl ?_
      refine g_ifYes X1210 hx 225 (hb hby at_212) (own_i0_eq_t (by decide)) (by decide) (by decide) ?_
      refine g_iload X1210 hx 227 (hb hby at_225) rfl rfl ?_
      refine g_ifNo X1210 hx 230 (hb hby at_227) (own_i0_le_f (by decide)) rfl ?_
      refine g_aload X1210 hx 232 (hb hby at_230) rfl rfl rfl ?_
      refine g_iconst X1210 hx 233 (hb hby at_232) (0 : Int32) rfl rfl ?_
      obtain ⟨cl1214, Ar1214, q1214, S1214, P1214, H1214, G1214⟩ := id V1210
      have hin1214 := inb_of (j := (0 : Int32)) S1214 ⟨by decide, by decide⟩
      refine own_aaload X1210 hx hZ e1210 rfl Ar1214 (v := (.ref b429)) hin1214 (Has.at H1214 hin1214 rfl) 234 (hb hby at_233) rfl ?_
      refine g_goto X1210 hx 238 (hb hby at_234) (by decide) (by decide) ?_
      refine g_astore X1210 hx 240 (hb hby at_238) rfl (l' := #[.val (.int p0), .val (.int p1), .val (.int (3 : Int32)), .val (.int (2 : Int32)), .val (.ref b420), .val (.ref b429), .val (.ref b439), .val (.ref b451), .val (.ref b451), .val (.int (1 : Int32)), .val (.int (1 : Int32)), .val (.int (0 : Int32)), .val (.ref b1195), .val (.int (2 : Int32)), .val (.ref b429), .unset, .unset]) rfl rfl ?_
      refine g_iload X1210 hx 242 (hb hby at_240) rfl rfl ?_
      refine g_ifNo X1210 hx 245 (hb hby at_242) (own_i0_le_f (by decide)) rfl ?_
      refine g_aload X1210 hx 247 (hb hby at_245) rfl rfl rfl ?_
      refine g_iload X1210 hx 249 (hb hby at_247) rfl rfl ?_
      refine g_iconst X1210 hx 250 (hb hby at_249) (1 : Int32) rfl rfl ?_
      refine g_isub X1210 hx 251 (hb hby at_250) rfl ?_
      show own_Go p e below s _ _ _ (T1210.setTop (mkF m 251 _ [(.int (1 : Int32)), (.ref b1195)]))
      obtain ⟨cl1215, Ar1215, q1215, S1215, P1215, H1215, G1215⟩ := id V1210
      have hin1215 := inb_of (j := (1 : Int32)) S1215 ⟨by decide, by decide⟩
      refine own_aaload X1210 hx hZ e1210 rfl Ar1215 (v := (.ref b439)) hin1215 (Has.at H1215 hin1215 rfl) 252 (hb hby at_251) rfl ?_
      refine g_goto X1210 hx 256 (hb hby at_252) (by decide) (by decide) ?_
      refine g_astore X1210 hx 258 (hb hby at_256) rfl (l' := #[.val (.int p0), .val (.int p1), .val (.int (3 : Int32)), .val (.int (2 : Int32)), .val (.ref b420), .val (.ref b429), .val (.ref b439), .val (.ref b451), .val (.ref b451), .val (.int (1 : Int32)), .val (.int (1 : Int32)), .val (.int (0 : Int32)), .val (.ref b1195), .val (.int (2 : Int32)), .val (.ref b429), .val (.ref b439), .unset]) rfl rfl ?_
      refine g_aload X1210 hx 260 (hb hby at_258) rfl rfl rfl ?_
      have f1216 : Fld Z h1210 b420 "com/example/entitygate/entitygate/HtmlNode$Parent" "first" "Lcom/example/entitygate/entitygate/HtmlNode;" (.ref b429) := (Fld.other W1210 (Fld.other W1206 (Fld.ext E1195 f1183_13) (Or.inl ne1197)) (Or.inl ne1197))
      refine own_getF X1210 hx hZ hown (host := "") (Or.inl (hw _ (List.mem_of_getElem? (i := 28) rfl))) (Via.of (hw _ (List.mem_of_getElem? (i := 29) rfl))) e1210 f1216 263 (hb hby at_260) rfl fun T1217 X1217 e1217 => ?_
      refine g_aload X1217 hx 265 (hb hby at_263) rfl rfl rfl ?_
      refine g_acmp X1217 hx (x := (.ref b429)) (y := (.ref b429)) (same := true) 268 (hb hby at_265) rfl rfl (decide_eq_true rfl) (by decide) (by decide) ?_
      refine g_aload X1217 hx 270 (hb hby at_268) rfl rfl rfl ?_
      have f1218 : Fld Z h1210 b420 "com/example/entitygate/entitygate/HtmlNode$Parent" "last" "Lcom/example/entitygate/entitygate/HtmlNode;" (.ref b439) := (Fld.other W1210 (Fld.other W1206 (Fld.ext E1195 f1183_14) (Or.inl ne1197)) (Or.inl ne1197))
      refine own_getF X1217 hx hZ hown (host := "") (Or.inl (hw _ (List.mem_of_getElem? (i := 31) rfl))) (Via.of (hw _ (List.mem_of_getElem? (i := 32) rfl))) e1217 f1218 273 (hb hby at_270) rfl fun T1219 X1219 e1219 => ?_
      refine g_aload X1219 hx 275 (hb hby at_273) rfl rfl rfl ?_
      refine g_acmp X1219 hx (x := (.ref b439)) (y := (.ref b439)) (same := true) 278 (hb hby at_275) rfl rfl (decide_eq_true rfl) (by decide) (by decide) ?_
      refine g_aload X1219 hx 280 (hb hby at_278) rfl rfl rfl ?_
      have f1221 : Fld Z h1210 b420 "com/example/entitygate/entitygate/HtmlNode" "parent" "Lcom/example/entitygate/entitygate/HtmlNode$Parent;" .null := (Fld.other W1210 (Fld.other W1206 (Fld.ext E1195 f1183_10) (Or.inl ne1197)) (Or.inl ne1197))
      have f1222 : Fld Z h1210 b420 "com/example/entitygate/entitygate/HtmlNode" "previous" "Lcom/example/entitygate/entitygate/HtmlNode;" .null := (Fld.other W1210 (Fld.other W1206 (Fld.ext E1195 f1183_11) (Or.inl ne1197)) (Or.inl ne1197))
      have f1223 : Fld Z h1210 b420 "com/example/entitygate/entitygate/HtmlNode" "next" "Lcom/example/entitygate/entitygate/HtmlNode;" .null := (Fld.other W1210 (Fld.other W1206 (Fld.ext E1195 f1183_12) (Or.inl ne1197)) (Or.inl ne1197))
      refine own_callS X1219 hx hZ hown (hw _ (List.mem_of_getElem? (i := 34) rfl)) (hw _ (List.mem_of_getElem? (i := 35) rfl)) (by decide) (rm_free1 l Z a0 hw [] b420 h1210 n0 z1212 f1221 f1222 f1223) (hw _ (List.mem_of_getElem? (i := 37) rfl)) (hw _ (List.mem_of_getElem? (i := 36) rfl)) e1219 0 (by decide) (by decide) (by decide) (by decide) [(.ref b420)] [] rfl pd_1 rfl 283 rfl (by rw [hml]; rfl) rfl (hb hby at_280) rfl fun T1220 v1220 L1220 X1220 hQ1220 => ?_
      obtain ⟨rfl, Nq1220, e1220⟩ := hQ1220
      have N1220 := Fr.app N1210 Nq1220
      show own_Go p e below s _ _ _ (T1220.setTop (mkF m 283 _ [(.int (1 : Int32))]))
      refine g_ifNo X1220 hx 286 (hb hby at_283) (own_i0_eq_f (by decide)) rfl ?_
      refine g_iconst X1220 hx 287 (hb hby at_286) (1 : Int32) rfl rfl ?_
      refine g_goto X1220 hx 291 (hb hby at_287) (by decide) (by decide) ?_
      refine g_istore X1220 hx 293 (hb hby at_291) (l' := #[.val (.int p0), .val (.int p1), .val (.int (3 : Int32)), .val (.int (2 : Int32)), .val (.ref b420), .val (.ref b429), .val (.ref b439), .val (.ref b451), .val (.ref b451), .val (.int (1 : Int32)), .val (.int (1 : Int32)), .val (.int (0 : Int32)), .val (.ref b1195), .val (.int (2 : Int32)), .val (.ref b429), .val (.ref b439), .val (.int (1 : Int32))]) rfl rfl ?_
      refine g_iload X1220 hx 295 (hb hby at_293) rfl rfl ?_
      refine g_ifNo X1220 hx 298 (hb hby at_295) (own_i0_eq_f (by decide)) rfl ?_
      refine g_aload X1220 hx 300 (hb hby at_298) rfl rfl rfl ?_
      refine g_iload X1220 hx 302 (hb hby at_300) rfl rfl ?_
      refine g_iconst X1220 hx 303 (hb hby at_302) (0 : Int32) rfl rfl ?_
      refine g_aload X1220 hx 305 (hb hby at_303) rfl rfl rfl ?_
      have f1225 : Fld Z h1210 b429 "com/example/entitygate/entitygate/HtmlNode" "parent" "Lcom/example/entitygate/entitygate/HtmlNode$Parent;" (.ref b420) := (Fld.other W1210 (Fld.other W1206 (Fld.ext E1195 (f1188.keep Kq1183 (ninS ne455 (ninS ne442 (ninS (Ne.symm ne430) nin0))))) (Or.inl ne1199)) (Or.inl ne1199))
      have f1226 : Fld Z h1210 b429 "com/example/entitygate/entitygate/HtmlNode" "previous" "Lcom/example/entitygate/entitygate/HtmlNode;" .null := (Fld.other W1210 (Fld.other W1206 (Fld.ext E1195 (f1189.keep Kq1183 (ninS ne455 (ninS ne442 (ninS (Ne.symm ne430) nin0))))) (Or.inl ne1199)) (Or.inl ne1199))
      have f1227 : Fld Z h1210 b429 "com/example/entitygate/entitygate/HtmlNode" "next" "Lcom/example/entitygate/entitygate/HtmlNode;" (.ref b439) := (Fld.other W1210 (Fld.other W1206 (Fld.ext E1195 (f1190.keep Kq1183 (ninS ne455 (ninS ne442 (ninS (Ne.symm ne430) nin0))))) (Or.inl ne1199)) (Or.inl ne1199))
      refine own_callS X1220 hx hZ hown (hw _ (List.mem_of_getElem? (i := 43) rfl)) (hw _ (List.mem_of_getElem? (i := 44) rfl)) (by decide) (rm_lk20 l Z a0 hw [] b1195 k1195 b420 b429 b439 h1210 n0 z1212 f1225 f1226 f1227 V1210) (hw _ (List.mem_of_getElem? (i := 45) rfl)) (hw _ (List.mem_of_getElem? (i := 36) rfl)) e1220 0 (by decide) (by decide) (by decide) (by decide) [(.ref b1195), (.int (2 : Int32)), (.int (0 : Int32)), (.ref b420)] [] rfl pd_2 rfl 308 rfl (by rw [hml]; rfl) rfl (hb hby at_305) rfl fun T1224 v1224 L1224 X1224 hQ1224 => ?_
      obtain ⟨rfl, Nq1224, e1224⟩ := hQ1224
      have N1224 := Fr.app N1220 Nq1224
      show own_Go p e below s _ _ _ (T1224.setTop (mkF m 308 _ [(.int (1 : Int32))]))
      refine g_ifNo X1224 hx 311 (hb hby at_308) (own_i0_eq_f (by decide)) rfl ?_
      refine g_aload X1224 hx 313 (hb hby at_311) rfl rfl rfl ?_
      refine g_iload X1224 hx 315 (hb hby at_313) rfl rfl ?_
      refine g_iconst X1224 hx 316 (hb hby at_315) (1 : Int32) rfl rfl ?_
      refine g_aload X1224 hx 318 (hb hby at_316) rfl rfl rfl ?_
      have f1229 : Fld Z h1210 b439 "com/example/entitygate/entitygate/HtmlNode" "parent" "Lcom/example/entitygate/entitygate/HtmlNode$Parent;" (.ref b420) := (Fld.other W1210 (Fld.other W1206 (Fld.ext E1195 f1183_5) (Or.inl ne1201)) (Or.inl ne1201))
      have f1230 : Fld Z h1210 b439 "com/example/entitygate/entitygate/HtmlNode" "previous" "Lcom/example/entitygate/entitygate/HtmlNode;" (.ref b429) := (Fld.other W1210 (Fld.other W1206 (Fld.ext E1195 f1183_6) (Or.inl ne1201)) (Or.inl ne1201))
      have f1231 : Fld Z h1210 b439 "com/example/entitygate/entitygate/HtmlNode" "next" "Lcom/example/entitygate/entitygate/HtmlNode;" .null := (Fld.other W1210 (Fld.other W1206 (Fld.ext E1195 f1183_7) (Or.inl ne1201)) (Or.inl ne1201))
      refine own_callS X1224 hx hZ hown (hw _ (List.mem_of_getElem? (i := 43) rfl)) (hw _ (List.mem_of_getElem? (i := 44) rfl)) (by decide) (rm_lk21 l Z a0 hw [] b1195 k1195 b420 b429 b439 h1210 n0 z1212 f1229 f1230 f1231 V1210) (hw _ (List.mem_of_getElem? (i := 45) rfl)) (hw _ (List.mem_of_getElem? (i := 36) rfl)) e1224 0 (by decide) (by decide) (by decide) (by decide) [(.ref b1195), (.int (2 : Int32)), (.int (1 : Int32)), (.ref b420)] [] rfl pd_2 rfl 321 rfl (by rw [hml]; rfl) rfl (hb hby at_318) rfl fun T1228 v1228 L1228 X1228 hQ1228 => ?_
      obtain ⟨rfl, Nq1228, e1228⟩ := hQ1228
      have N1228 := Fr.app N1224 Nq1228
      show own_Go p e below s _ _ _ (T1228.setTop (mkF m 321 _ [(.int (1 : Int32))]))
      refine g_ifNo X1228 hx 324 (hb hby at_321) (own_i0_eq_f (by decide)) rfl ?_
      refine g_aload X1228 hx 326 (hb hby at_324) rfl rfl rfl ?_
      refine g_iload X1228 hx 328 (hb hby at_326) rfl rfl ?_
      refine g_iconst X1228 hx 329 (hb hby at_328) (2 : Int32) rfl rfl ?_
      refine g_aload X1228 hx 331 (hb hby at_329) rfl rfl rfl ?_
      refine own_callS X1228 hx hZ hown (hw _ (List.mem_of_getElem? (i := 43) rfl)) (hw _ (List.mem_of_getElem? (i := 44) rfl)) (by decide) (rm_lk22 l Z a0 hw [] b1195 b420 h1210 n0 z1212 ) (hw _ (List.mem_of_getElem? (i := 45) rfl)) (hw _ (List.mem_of_getElem? (i := 36) rfl)) e1228 0 (by decide) (by decide) (by decide) (by decide) [(.ref b1195), (.int (2 : Int32)), (.int (2 : Int32)), (.ref b420)] [] rfl pd_2 rfl 334 rfl (by rw [hml]; rfl) rfl (hb hby at_331) rfl fun T1232 v1232 L1232 X1232 hQ1232 => ?_
      obtain ⟨rfl, Nq1232, e1232⟩ := hQ1232
      have N1232 := Fr.app N1228 Nq1232
      show own_Go p e below s _ _ _ (T1232.setTop (mkF m 334 _ [(.int (1 : Int32))]))
      refine g_ifNo X1232 hx 337 (hb hby at_334) (own_i0_eq_f (by decide)) rfl ?_
      refine g_iconst X1232 hx 338 (hb hby at_337) (1 : Int32) rfl rfl ?_
      refine g_goto X1232 hx 342 (hb hby at_338) (by decide) (by decide) ?_
      refine g_istore X1232 hx 344 (hb hby at_342) (l' := #[.val (.int p0), .val (.int p1), .val (.int (3 : Int32)), .val (.int (2 : Int32)), .val (.ref b420), .val (.ref b429), .val (.ref b439), .val (.ref b451), .val (.ref b451), .val (.int (1 : Int32)), .val (.int (1 : Int32)), .val (.int (0 : Int32)), .val (.ref b1195), .val (.int (2 : Int32)), .val (.ref b429), .val (.ref b439), .val (.int (1 : Int32))]) rfl rfl ?_
      refine g_iload X1232 hx 346 (hb hby at_344) rfl rfl ?_
      refine g_ifNo X1232 hx 349 (hb hby at_346) (own_i0_eq_f (by decide)) rfl ?_
      refine g_iload X1232 hx 351 (hb hby at_349) rfl rfl ?_
      refine g_ifYes X1232 hx 362 (hb hby at_351) (own_i0_ne_t (by decide)) (by decide) (by decide) ?_
      refine g_iload X1232 hx 364 (hb hby at_362) rfl rfl ?_
      refine g_ifYes X1232 hx 375 (hb hby at_364) (own_i0_ne_t (by decide)) (by decide) (by decide) ?_
      refine g_iload X1232 hx 377 (hb hby at_375) rfl rfl ?_
      refine g_ifNo X1232 hx 380 (hb hby at_377) (own_i0_ne_f (by decide)) rfl ?_
      refine g_aload X1232 hx 382 (hb hby at_380) rfl rfl rfl ?_
      have f1234 : Fld Z h1210 b451 "com/example/entitygate/entitygate/HtmlNode" "parent" "Lcom/example/entitygate/entitygate/HtmlNode$Parent;" .null := (Fld.other W1210 (Fld.other W1206 (Fld.ext E1195 f1183_0) (Or.inl ne1203)) (Or.inl ne1203))
      have f1235 : Fld Z h1210 b451 "com/example/entitygate/entitygate/HtmlNode" "previous" "Lcom/example/entitygate/entitygate/HtmlNode;" .null := (Fld.other W1210 (Fld.other W1206 (Fld.ext E1195 f1183_1) (Or.inl ne1203)) (Or.inl ne1203))
      have f1236 : Fld Z h1210 b451 "com/example/entitygate/entitygate/HtmlNode" "next" "Lcom/example/entitygate/entitygate/HtmlNode;" .null := (Fld.other W1210 (Fld.other W1206 (Fld.ext E1195 f1183_2) (Or.inl ne1203)) (Or.inl ne1203))
      refine own_callS X1232 hx hZ hown (hw _ (List.mem_of_getElem? (i := 34) rfl)) (hw _ (List.mem_of_getElem? (i := 35) rfl)) (by decide) (rm_free1 l Z a0 hw [] b451 h1210 n0 z1212 f1234 f1235 f1236) (hw _ (List.mem_of_getElem? (i := 37) rfl)) (hw _ (List.mem_of_getElem? (i := 36) rfl)) e1232 0 (by decide) (by decide) (by decide) (by decide) [(.ref b451)] [] rfl pd_1 rfl 385 rfl (by rw [hml]; rfl) rfl (hb hby at_382) rfl fun T1233 v1233 L1233 X1233 hQ1233 => ?_
      obtain ⟨rfl, Nq1233, e1233⟩ := hQ1233
      have N1233 := Fr.app N1232 Nq1233
      show own_Go p e below s _ _ _ (T1233.setTop (mkF m 385 _ [(.int (1 : Int32))]))
      refine g_ifNo X1233 hx 388 (hb hby at_385) (own_i0_eq_f (by decide)) rfl ?_
      refine g_iconst X1233 hx 389 (hb hby at_388) (1 : Int32) rfl rfl ?_
      refine g_goto X1233 hx 393 (hb hby at_389) (by decide) (by decide) ?_
      refine g_istore X1233 hx 395 (hb hby at_393) (l' := #[.val (.int p0), .val (.int p1), .val (.int (3 : Int32)), .val (.int (2 : Int32)), .val (.ref b420), .val (.ref b429), .val (.ref b439), .val (.ref b451), .val (.ref b451), .val (.int (1 : Int32)), .val (.int (1 : Int32)), .val (.int (0 : Int32)), .val (.ref b1195), .val (.int (2 : Int32)), .val (.ref b429), .val (.ref b439), .val (.int (1 : Int32))]) rfl rfl ?_
      refine g_iload X1233 hx 397 (hb hby at_395) rfl rfl ?_
      refine own_retN X1233 hx hlk (t := .boolean) hret (by simp) (hb hby at_397) ?_ (by decide) (by decide)
      rw [e1233]
      exact ⟨rfl, N1233⟩
    · show own_Go p e below s _ _ _ (T1063.setTop (mkF m 83 _ []))
      refine g_iload_n X1063 hx 84 (hb hby at_83) rfl rfl ?_
      refine g_ifYes X1063 hx 92 (hb hby at_84) (own_i0_ne_t (by decide)) (by decide) (by decide) ?_
      refine g_iload_n X1063 hx 93 (hb hby at_92) rfl rfl ?_
      refine g_iconst X1063 hx 94 (hb hby at_93) (1 : Int32) rfl rfl ?_
      refine g_icmpYes X1063 hx 102 (hb hby at_94) (own_ii_ne_t (by decide)) (by decide) (by decide) ?_
      refine g_iload_n X1063 hx 103 (hb hby at_102) rfl rfl ?_
      refine g_iconst X1063 hx 104 (hb hby at_103) (2 : Int32) rfl rfl ?_
      refine g_icmpYes X1063 hx 112 (hb hby at_104) (own_ii_ne_t (by decide)) (by decide) (by decide) ?_
      refine g_aload X1063 hx 114 (hb hby at_112) rfl rfl rfl ?_
      refine g_astore X1063 hx 116 (hb hby at_114) rfl (l' := #[.val (.int p0), .val (.int p1), .val (.int (3 : Int32)), .val (.int (3 : Int32)), .val (.ref b420), .val (.ref b429), .val (.ref b439), .val (.ref b451), .val (.ref b420), .unset, .unset, .unset, .unset, .unset, .unset, .unset, .unset]) rfl rfl ?_
      refine g_aload X1063 hx 118 (hb hby at_116) rfl rfl rfl ?_
      have f1238 : Exa Z T1063.heap b420 "com/example/entitygate/entitygate/HtmlNode$Document" := (f1064.keep Kq1063)
      refine own_callV X1063 hx hZ hown (hw _ (List.mem_of_getElem? (i := 19) rfl)) (hw _ (List.mem_of_getElem? (i := 20) rfl)) (own_nf hZ (hw _ (List.mem_of_getElem? (i := 22) rfl))) (hw _ (List.mem_of_getElem? (i := 22) rfl)) (hw _ (List.mem_of_getElem? (i := 21) rfl)) (by decide) (rm_det0 l Z a0 hw [] b420 T1063.heap n0 z1074 f1063_10) (hw _ (List.mem_of_getElem? (i := 23) rfl)) (hw _ (List.mem_of_getElem? (i := 14) rfl)) rfl 0 (by decide) (by decide) (by decide) (by decide) f1238 [] [] rfl pd_0 rfl 121 rfl (by rw [hml]; rfl) rfl (hb hby at_118) rfl fun T1237 v1237 L1237 X1237 hQ1237 => ?_
      obtain ⟨rfl, Nq1237, e1237⟩ := hQ1237
      have N1237 := Fr.app N1063 Nq1237
      show own_Go p e below s _ _ _ (T1237.setTop (mkF m 121 _ []))
      refine g_iload_n X1237 hx 122 (hb hby at_121) rfl rfl ?_
      refine g_iconst X1237 hx 123 (hb hby at_122) (1 : Int32) rfl rfl ?_
      refine g_icmpNo X1237 hx 126 (hb hby at_123) (own_ii_lt_f (by decide)) rfl ?_
      refine g_iload_n X1237 hx 127 (hb hby at_126) rfl rfl ?_
      refine g_ifNo X1237 hx 130 (hb hby at_127) (own_i0_eq_f (by decide)) rfl ?_
      refine g_iconst X1237 hx 131 (hb hby at_130) (1 : Int32) rfl rfl ?_
      refine g_goto X1237 hx 135 (hb hby at_131) (by decide) (by decide) ?_
      refine g_istore X1237 hx 137 (hb hby at_135) (l' := #[.val (.int p0), .val (.int p1), .val (.int (3 : Int32)), .val (.int (3 : Int32)), .val (.ref b420), .val (.ref b429), .val (.ref b439), .val (.ref b451), .val (.ref b420), .val (.int (1 : Int32)), .unset, .unset, .unset, .unset, .unset, .unset, .unset]) rfl rfl ?_
      refine g_iload_n X1237 hx 138 (hb hby at_137) rfl rfl ?_
      refine g_iconst X1237 hx 139 (hb hby at_138) (2 : Int32) rfl rfl ?_
      refine g_icmpNo X1237 hx 142 (hb hby at_139) (own_ii_lt_f (by decide)) rfl ?_
      refine g_iload_n X1237 hx 143 (hb hby at_142) rfl rfl ?_
      refine g_iconst X1237 hx 144 (hb hby at_143) (1 : Int32) rfl rfl ?_
      refine g_icmpNo X1237 hx 147 (hb hby at_144) (own_ii_eq_f (by decide)) rfl ?_
      refine g_iconst X1237 hx 148 (hb hby at_147) (1 : Int32) rfl rfl ?_
      refine g_goto X1237 hx 152 (hb hby at_148) (by decide) (by decide) ?_
      refine g_istore X1237 hx 154 (hb hby at_152) (l' := #[.val (.int p0), .val (.int p1), .val (.int (3 : Int32)), .val (.int (3 : Int32)), .val (.ref b420), .val (.ref b429), .val (.ref b439), .val (.ref b451), .val (.ref b420), .val (.int (1 : Int32)), .val (.int (1 : Int32)), .unset, .unset, .unset, .unset, .unset, .unset]) rfl rfl ?_
      refine g_iload_n X1237 hx 155 (hb hby at_154) rfl rfl ?_
      refine g_iconst X1237 hx 156 (hb hby at_155) (3 : Int32) rfl rfl ?_
      refine g_icmpNo X1237 hx 159 (hb hby at_156) (own_ii_lt_f (by decide)) rfl ?_
      refine g_iload_n X1237 hx 160 (hb hby at_159) rfl rfl ?_
      refine g_iconst X1237 hx 161 (hb hby at_160) (2 : Int32) rfl rfl ?_
      refine g_icmpNo X1237 hx 164 (hb hby at_161) (own_ii_eq_f (by decide)) rfl ?_
      refine g_iconst X1237 hx 165 (hb hby at_164) (1 : Int32) rfl rfl ?_
      refine g_goto X1237 hx 169 (hb hby at_165) (by decide) (by decide) ?_
      refine g_istore X1237 hx 171 (hb hby at_169) (l' := #[.val (.int p0), .val (.int p1), .val (.int (3 : Int32)), .val (.int (3 : Int32)), .val (.ref b420), .val (.ref b429), .val (.ref b439), .val (.ref b451), .val (.ref b420), .val (.int (1 : Int32)), .val (.int (1 : Int32)), .val (.int (1 : Int32)), .unset, .unset, .unset, .unset, .unset]) rfl rfl ?_
      refine g_iconst X1237 hx 172 (hb hby at_171) (3 : Int32) rfl rfl ?_
      refine own_newR X1237 hx hZ hown (hw _ (List.mem_of_getElem? (i := 26) rfl)) (hw _ (List.mem_of_getElem? (i := 27) rfl)) e1237 175 (hb hby at_172) rfl (by decide) 3 (by decide) (by decide) (by decide) (by decide) fun T1239 h1239 k1239 b1239 X1239 e1239 g1239 E1239 A1239 O1239 => ?_
      have ne1240 : b420 ≠ b1239 := Nat.ne_of_lt (Nat.lt_of_lt_of_le f1238.lt (Nat.le_of_eq g1239.symm))
      have f1241 : Exa Z T1063.heap b429 "com/example/entitygate/entitygate/HtmlNode$Document" := (f1065.keep Kq1063)
      have ne1242 : b429 ≠ b1239 := Nat.ne_of_lt (Nat.lt_of_lt_of_le f1241.lt (Nat.le_of_eq g1239.symm))
      have f1243 : Exa Z T1063.heap b439 "com/example/entitygate/entitygate/HtmlNode$Document" := (f1066.keep Kq1063)
      have ne1244 : b439 ≠ b1239 := Nat.ne_of_lt (Nat.lt_of_lt_of_le f1243.lt (Nat.le_of_eq g1239.symm))
      have f1245 : Exa Z T1063.heap b451 "com/example/entitygate/entitygate/HtmlNode$Document" := (f1067.keep Kq1063)
      have ne1246 : b451 ≠ b1239 := Nat.ne_of_lt (Nat.lt_of_lt_of_le f1245.lt (Nat.le_of_eq g1239.symm))
      have g_b1239 : n0 ≤ b1239 := Nat.le_trans z1074 (Nat.le_of_eq g1239.symm)
      have sz_b1239 : h0.size ≤ b1239 := Nat.le_trans K1073.1 (Nat.le_of_eq g1239.symm)
      have K1247 : Keep h0 h1239 [] := K1073.ext E1239
      have z1248 : n0 ≤ h1239.size := (Nat.le_trans z1074 E1239.1)
      have V1239 : Arv Z h1239 b1239 k1239 (.object "com/example/entitygate/entitygate/HtmlNode") (3 : Int32) [.null, .null, .null] .null := (Arv.new A1239 (by decide)).pad (pad_rep [] .null 3)
      refine g_astore X1239 hx 177 (hb hby at_175) rfl (l' := #[.val (.int p0), .val (.int p1), .val (.int (3 : Int32)), .val (.int (3 : Int32)), .val (.ref b420), .val (.ref b429), .val (.ref b439), .val (.ref b451), .val (.ref b420), .val (.int (1 : Int32)), .val (.int (1 : Int32)), .val (.int (1 : Int32)), .val (.ref b1239), .unset, .unset, .unset, .unset]) rfl rfl ?_
      refine g_iconst X1239 hx 178 (hb hby at_177) (0 : Int32) rfl rfl ?_
      refine g_istore X1239 hx 180 (hb hby at_178) (l' := #[.val (.int p0), .val (.int p1), .val (.int (3 : Int32)), .val (.int (3 : Int32)), .val (.ref b420), .val (.ref b429), .val (.ref b439), .val (.ref b451), .val (.ref b420), .val (.int (1 : Int32)), .val (.int (1 : Int32)), .val (.int (1 : Int32)), .val (.ref b1239), .val (.int (0 : Int32)), .unset, .unset, .unset]) rfl rfl ?_
      refine g_iload X1239 hx 182 (hb hby at_180) rfl rfl ?_
      refine g_ifNo X1239 hx 185 (hb hby at_182) (own_i0_eq_f (by decide)) rfl ?_
      refine g_aload X1239 hx 187 (hb hby at_185) rfl rfl rfl ?_
      refine g_iload X1239 hx 189 (hb hby at_187) rfl rfl ?_
      refine g_aload X1239 hx 191 (hb hby at_189) rfl rfl rfl ?_
      obtain ⟨cl1249, Ar1249, q1249, S1249, P1249, H1249, G1249⟩ := id V1239
      have hin1249 := inb_of (j := (0 : Int32)) S1249 ⟨by decide, by decide⟩
      have f1250 : Exa Z h1239 b429 "com/example/entitygate/entitygate/HtmlNode$Document" := (Exa.ext E1239 f1241)
      refine own_stR X1239 hx hZ e1239 Ar1249 hin1249 rfl (Sto.ofV Ar1249 q1249 O1239 (Ins.of_exa f1250 (hw _ (List.mem_of_getElem? (i := 61) rfl)))) 192 (hb hby at_191) rfl fun T1249 h1249 X1249 e1249 W1249 => ?_
      have V1249 : Arv Z h1249 b1239 k1239 (.object "com/example/entitygate/entitygate/HtmlNode") (3 : Int32) [(.ref b429), .null, .null] .null := Arv.set Ar1249 q1249 S1249 P1249 H1249 G1249 (v := (.ref b429)) rfl W1249 0 rfl (Nat.le_of_ble_eq_true rfl)
      have N1249 := Fr.snoc X1249 N1237 g_b1239
      have z1251 : n0 ≤ h1249.size := (Nat.le_trans z1248 (Keep.of_wr W1249).1)
      have K1252 : Keep h0 h1249 [] := K1247.wr W1249 (Or.inr sz_b1239)
      refine g_iinc X1249 hx 195 (hb hby at_192) (z := (1 : Int32)) rfl rfl (l' := #[.val (.int p0), .val (.int p1), .val (.int (3 : Int32)), .val (.int (3 : Int32)), .val (.ref b420), .val (.ref b429), .val (.ref b439), .val (.ref b451), .val (.ref b420), .val (.int (1 : Int32)), .val (.int (1 : Int32)), .val (.int (1 : Int32)), .val (.ref b1239), .val (.int (1 : Int32)), .unset, .unset, .unset]) rfl rfl ?_
      refine g_iload X1249 hx 197 (hb hby at_195) rfl rfl ?_
      refine g_ifNo X1249 hx 200 (hb hby at_197) (own_i0_eq_f (by decide)) rfl ?_
      refine g_aload X1249 hx 202 (hb hby at_200) rfl rfl rfl ?_
      refine g_iload X1249 hx 204 (hb hby at_202) rfl rfl ?_
      refine g_aload X1249 hx 206 (hb hby at_204) rfl rfl rfl ?_
      obtain ⟨cl1253, Ar1253, q1253, S1253, P1253, H1253, G1253⟩ := id V1249
      have hin1253 := inb_of (j := (1 : Int32)) S1253 ⟨by decide, by decide⟩
      have f1254 : Exa Z h1249 b439 "com/example/entitygate/entitygate/HtmlNode$Document" := (Exa.wr W1249 (Exa.ext E1239 f1243))
      refine own_stR X1249 hx hZ e1249 Ar1253 hin1253 rfl (Sto.ofV Ar1253 q1253 O1239 (Ins.of_exa f1254 (hw _ (List.mem_of_getElem? (i := 61) rfl)))) 207 (hb hby at_206) rfl fun T1253 h1253 X1253 e1253 W1253 => ?_
      have V1253 : Arv Z h1253 b1239 k1239 (.object "com/example/entitygate/entitygate/HtmlNode") (3 : Int32) [(.ref b429), (.ref b439), .null] .null := Arv.set Ar1253 q1253 S1253 P1253 H1253 G1253 (v := (.ref b439)) rfl W1253 1 rfl (Nat.le_of_ble_eq_true rfl)
      have N1253 := Fr.snoc X1253 N1249 g_b1239
      have z1255 : n0 ≤ h1253.size := (Nat.le_trans z1251 (Keep.of_wr W1253).1)
      have K1256 : Keep h0 h1253 [] := K1252.wr W1253 (Or.inr sz_b1239)
      refine g_iinc X1253 hx 210 (hb hby at_207) (z := (2 : Int32)) rfl rfl (l' := #[.val (.int p0), .val (.int p1), .val (.int (3 : Int32)), .val (.int (3 : Int32)), .val (.ref b420), .val (.ref b429), .val (.ref b439), .val (.ref b451), .val (.ref b420), .val (.int (1 : Int32)), .val (.int (1 : Int32)), .val (.int (1 : Int32)), .val (.ref b1239), .val (.int (2 : Int32)), .unset, .unset, .unset]) rfl rfl ?_
      refine g_iload X1253 hx 212 (hb hby at_210) rfl rfl ?_
      refine g_ifNo X1253 hx 215 (hb hby at_212) (own_i0_eq_f (by decide)) rfl ?_
      refine g_aload X1253 hx 217 (hb hby at_215) rfl rfl rfl ?_
      refine g_iload X1253 hx 219 (hb hby at_217) rfl rfl ?_
      refine g_aload X1253 hx 221 (hb hby at_219) rfl rfl rfl ?_
      obtain ⟨cl1257, Ar1257, q1257, S1257, P1257, H1257, G1257⟩ := id V1253
      have hin1257 := inb_of (j := (2 : Int32)) S1257 ⟨by decide, by decide⟩
      have f1258 : Exa Z h1253 b451 "com/example/entitygate/entitygate/HtmlNode$Document" := (Exa.wr W1253 (Exa.wr W1249 (Exa.ext E1239 f1245)))
      refine own_stR X1253 hx hZ e1253 Ar1257 hin1257 rfl (Sto.ofV Ar1257 q1257 O1239 (Ins.of_exa f1258 (hw _ (List.mem_of_getElem? (i := 61) rfl)))) 222 (hb hby at_221) rfl fun T1257 h1257 X1257 e1257 W1257 => ?_
      have V1257 : Arv Z h1257 b1239 k1239 (.object "com/example/entitygate/entitygate/HtmlNode") (3 : Int32) [(.ref b429), (.ref b439), (.ref b451)] .null := Arv.set Ar1257 q1257 S1257 P1257 H1257 G1257 (v := (.ref b451)) rfl W1257 2 rfl (Nat.le_of_ble_eq_true rfl)
      have N1257 := Fr.snoc X1257 N1253 g_b1239
      have z1259 : n0 ≤ h1257.size := (Nat.le_trans z1255 (Keep.of_wr W1257).1)
      have K1260 : Keep h0 h1257 [] := K1256.wr W1257 (Or.inr sz_b1239)
      refine g_iinc X1257 hx 225 (hb hby at_222) (z := (3 : Int32)) rfl rfl (l' := #[.val (.int p0), .val (.int p1), .val (.int (3 : Int32)), .val (.int (3 : Int32)), .val (.ref b420), .val (.ref b429), .val (.ref b439), .val (.ref b451), .val (.ref b420), .val (.int (1 : Int32)), .val (.int (1 : Int32)), .val (.int (1 : Int32)), .val (.ref b1239), .val (.int (3 : Int32)), .unset, .unset, .unset]) rfl rfl ?_
      refine g_iload X1257 hx 227 (hb hby at_225) rfl rfl ?_
      refine g_ifNo X1257 hx 230 (hb hby at_227) (own_i0_le_f (by decide)) rfl ?_
      refine g_aload X1257 hx 232 (hb hby at_230) rfl rfl rfl ?_
      refine g_iconst X1257 hx 233 (hb hby at_232) (0 : Int32) rfl rfl ?_
      obtain ⟨cl1261, Ar1261, q1261, S1261, P1261, H1261, G1261⟩ := id V1257
      have hin1261 := inb_of (j := (0 : Int32)) S1261 ⟨by decide, by decide⟩
      refine own_aaload X1257 hx hZ e1257 rfl Ar1261 (v := (.ref b429)) hin1261 (Has.at H1261 hin1261 rfl) 234 (hb hby at_233) rfl ?_
      refine g_goto X1257 hx 238 (hb hby at_234) (by decide) (by decide) ?_
      refine g_astore X1257 hx 240 (hb hby at_238) rfl (l' := #[.val (.int p0), .val (.int p1), .val (.int (3 : Int32)), .val (.int (3 : Int32)), .val (.ref b420), .val (.ref b429), .val (.ref b439), .val (.ref b451), .val (.ref b420), .val (.int (1 : Int32)), .val (.int (1 : Int32)), .val (.int (1 : Int32)), .val (.ref b1239), .val (.int (3 : Int32)), .val (.ref b429), .unset, .unset]) rfl rfl ?_
      refine g_iload X1257 hx 242 (hb hby at_240) rfl rfl ?_
      refine g_ifNo X1257 hx 245 (hb hby at_242) (own_i0_le_f (by decide)) rfl ?_
      refine g_aload X1257 hx 247 (hb hby at_245) rfl rfl rfl ?_
      refine g_iload X1257 hx 249 (hb hby at_247) rfl rfl ?_
      refine g_iconst X1257 hx 250 (hb hby at_249) (1 : Int32) rfl rfl ?_
      refine g_isub X1257 hx 251 (hb hby at_250) rfl ?_
      show own_Go p e below s _ _ _ (T1257.setTop (mkF m 251 _ [(.int (2 : Int32)), (.ref b1239)]))
      obtain ⟨cl1262, Ar1262, q1262, S1262, P1262, H1262, G1262⟩ := id V1257
      have hin1262 := inb_of (j := (2 : Int32)) S1262 ⟨by decide, by decide⟩
      refine own_aaload X1257 hx hZ e1257 rfl Ar1262 (v := (.ref b451)) hin1262 (Has.at H1262 hin1262 rfl) 252 (hb hby at_251) rfl ?_
      refine g_goto X1257 hx 256 (hb hby at_252) (by decide) (by decide) ?_
      refine g_astore X1257 hx 258 (hb hby at_256) rfl (l' := #[.val (.int p0), .val (.int p1), .val (.int (3 : Int32)), .val (.int (3 : Int32)), .val (.ref b420), .val (.ref b429), .val (.ref b439), .val (.ref b451), .val (.ref b420), .val (.int (1 : Int32)), .val (.int (1 : Int32)), .val (.int (1 : Int32)), .val (.ref b1239), .val (.int (3 : Int32)), .val (.ref b429), .val (.ref b451), .unset]) rfl rfl ?_
      refine g_aload X1257 hx 260 (hb hby at_258) rfl rfl rfl ?_
      have f1263 : Fld Z h1257 b420 "com/example/entitygate/entitygate/HtmlNode$Parent" "first" "Lcom/example/entitygate/entitygate/HtmlNode;" (.ref b429) := (Fld.other W1257 (Fld.other W1253 (Fld.other W1249 (Fld.ext E1239 f1063_13) (Or.inl ne1240)) (Or.inl ne1240)) (Or.inl ne1240))
      refine own_getF X1257 hx hZ hown (host := "") (Or.inl (hw _ (List.mem_of_getElem? (i := 28) rfl))) (Via.of (hw _ (List.mem_of_getElem? (i := 29) rfl))) e1257 f1263 263 (hb hby at_260) rfl fun T1264 X1264 e1264 => ?_
      refine g_aload X1264 hx 265 (hb hby at_263) rfl rfl rfl ?_
      refine g_acmp X1264 hx (x := (.ref b429)) (y := (.ref b429)) (same := true) 268 (hb hby at_265) rfl rfl (decide_eq_true rfl) (by decide) (by decide) ?_
      refine g_aload X1264 hx 270 (hb hby at_268) rfl rfl rfl ?_
      have f1265 : Fld Z h1257 b420 "com/example/entitygate/entitygate/HtmlNode$Parent" "last" "Lcom/example/entitygate/entitygate/HtmlNode;" (.ref b451) := (Fld.other W1257 (Fld.other W1253 (Fld.other W1249 (Fld.ext E1239 f1063_14) (Or.inl ne1240)) (Or.inl ne1240)) (Or.inl ne1240))
      refine own_getF X1264 hx hZ hown (host := "") (Or.inl (hw _ (List.mem_of_getElem? (i := 31) rfl))) (Via.of (hw _ (List.mem_of_getElem? (i := 32) rfl))) e1264 f1265 273 (hb hby at_270) rfl fun T1266 X1266 e1266 => ?_
      refine g_aload X1266 hx 275 (hb hby at_273) rfl rfl rfl ?_
      refine g_acmp X1266 hx (x := (.ref b451)) (y := (.ref b451)) (same := true) 278 (hb hby at_275) rfl rfl (decide_eq_true rfl) (by decide) (by decide) ?_
      refine g_aload X1266 hx 280 (hb hby at_278) rfl rfl rfl ?_
      have f1268 : Fld Z h1257 b420 "com/example/entitygate/entitygate/HtmlNode" "parent" "Lcom/example/entitygate/entitygate/HtmlNode$Parent;" .null := (Fld.other W1257 (Fld.other W1253 (Fld.other W1249 (Fld.ext E1239 f1063_10) (Or.inl ne1240)) (Or.inl ne1240)) (Or.inl ne1240))
      have f1269 : Fld Z h1257 b420 "com/example/entitygate/entitygate/HtmlNode" "previous" "Lcom/example/entitygate/entitygate/HtmlNode;" .null := (Fld.other W1257 (Fld.other W1253 (Fld.other W1249 (Fld.ext E1239 f1063_11) (Or.inl ne1240)) (Or.inl ne1240)) (Or.inl ne1240))
      have f1270 : Fld Z h1257 b420 "com/example/entitygate/entitygate/HtmlNode" "next" "Lcom/example/entitygate/entitygate/HtmlNode;" .null := (Fld.other W1257 (Fld.other W1253 (Fld.other W1249 (Fld.ext E1239 f1063_12) (Or.inl ne1240)) (Or.inl ne1240)) (Or.inl ne1240))
      refine own_callS X1266 hx hZ hown (hw _ (List.mem_of_getElem? (i := 34) rfl)) (hw _ (List.mem_of_getElem? (i := 35) rfl)) (by decide) (rm_free1 l Z a0 hw [] b420 h1257 n0 z1259 f1268 f1269 f1270) (hw _ (List.mem_of_getElem? (i := 37) rfl)) (hw _ (List.mem_of_getElem? (i := 36) rfl)) e1266 0 (by decide) (by decide) (by decide) (by decide) [(.ref b420)] [] rfl pd_1 rfl 283 rfl (by rw [hml]; rfl) rfl (hb hby at_280) rfl fun T1267 v1267 L1267 X1267 hQ1267 => ?_
      obtain ⟨rfl, Nq1267, e1267⟩ := hQ1267
      have N1267 := Fr.app N1257 Nq1267
      show own_Go p e below s _ _ _ (T1267.setTop (mkF m 283 _ [(.int (1 : Int32))]))
      refine g_ifNo X1267 hx 286 (hb hby at_283) (own_i0_eq_f (by decide)) rfl ?_
      refine g_iconst X1267 hx 287 (hb hby at_286) (1 : Int32) rfl rfl ?_
      refine g_goto X1267 hx 291 (hb hby at_287) (by decide) (by decide) ?_
      refine g_istore X1267 hx 293 (hb hby at_291) (l' := #[.val (.int p0), .val (.int p1), .val (.int (3 : Int32)), .val (.int (3 : Int32)), .val (.ref b420), .val (.ref b429), .val (.ref b439), .val (.ref b451), .val (.ref b420), .val (.int (1 : Int32)), .val (.int (1 : Int32)), .val (.int (1 : Int32)), .val (.ref b1239), .val (.int (3 : Int32)), .val (.ref b429), .val (.ref b451), .val (.int (1 : Int32))]) rfl rfl ?_
      refine g_iload X1267 hx 295 (hb hby at_293) rfl rfl ?_
      refine g_ifNo X1267 hx 298 (hb hby at_295) (own_i0_eq_f (by decide)) rfl ?_
      refine g_aload X1267 hx 300 (hb hby at_298) rfl rfl rfl ?_
      refine g_iload X1267 hx 302 (hb hby at_300) rfl rfl ?_
      refine g_iconst X1267 hx 303 (hb hby at_302) (0 : Int32) rfl rfl ?_
      refine g_aload X1267 hx 305 (hb hby at_303) rfl rfl rfl ?_
      have f1272 : Fld Z h1257 b429 "com/example/entitygate/entitygate/HtmlNode" "parent" "Lcom/example/entitygate/entitygate/HtmlNode$Parent;" (.ref b420) := (Fld.other W1257 (Fld.other W1253 (Fld.other W1249 (Fld.ext E1239 (f1046_5.keep Kq1063 (ninS ne455 (ninS ne442 (ninS (Ne.symm ne430) nin0))))) (Or.inl ne1242)) (Or.inl ne1242)) (Or.inl ne1242))
      have f1273 : Fld Z h1257 b429 "com/example/entitygate/entitygate/HtmlNode" "previous" "Lcom/example/entitygate/entitygate/HtmlNode;" .null := (Fld.other W1257 (Fld.other W1253 (Fld.other W1249 (Fld.ext E1239 (f1046_6.keep Kq1063 (ninS ne455 (ninS ne442 (ninS (Ne.symm ne430) nin0))))) (Or.inl ne1242)) (Or.inl ne1242)) (Or.inl ne1242))
      have f1274 : Fld Z h1257 b429 "com/example/entitygate/entitygate/HtmlNode" "next" "Lcom/example/entitygate/entitygate/HtmlNode;" (.ref b439) := (Fld.other W1257 (Fld.other W1253 (Fld.other W1249 (Fld.ext E1239 (f1046_7.keep Kq1063 (ninS ne455 (ninS ne442 (ninS (Ne.symm ne430) nin0))))) (Or.inl ne1242)) (Or.inl ne1242)) (Or.inl ne1242))
      refine own_callS X1267 hx hZ hown (hw _ (List.mem_of_getElem? (i := 43) rfl)) (hw _ (List.mem_of_getElem? (i := 44) rfl)) (by decide) (rm_lk30 l Z a0 hw [] b1239 k1239 b420 b429 b439 b451 h1257 n0 z1259 f1272 f1273 f1274 V1257) (hw _ (List.mem_of_getElem? (i := 45) rfl)) (hw _ (List.mem_of_getElem? (i := 36) rfl)) e1267 0 (by decide) (by decide) (by decide) (by decide) [(.ref b1239), (.int (3 : Int32)), (.int (0 : Int32)), (.ref b420)] [] rfl pd_2 rfl 308 rfl (by rw [hml]; rfl) rfl (hb hby at_305) rfl fun T1271 v1271 L1271 X1271 hQ1271 => ?_
      obtain ⟨rfl, Nq1271, e1271⟩ := hQ1271
      have N1271 := Fr.app N1267 Nq1271
      show own_Go p e below s _ _ _ (T1271.setTop (mkF m 308 _ [(.int (1 : Int32))]))
      refine g_ifNo X1271 hx 311 (hb hby at_308) (own_i0_eq_f (by decide)) rfl ?_
      refine g_aload X1271 hx 313 (hb hby at_311) rfl rfl rfl ?_
      refine g_iload X1271 hx 315 (hb hby at_313) rfl rfl ?_
      refine g_iconst X1271 hx 316 (hb hby at_315) (1 : Int32) rfl rfl ?_
      refine g_aload X1271 hx 318 (hb hby at_316) rfl rfl rfl ?_
      have f1276 : Fld Z h1257 b439 "com/example/entitygate/entitygate/HtmlNode" "parent" "Lcom/example/entitygate/entitygate/HtmlNode$Parent;" (.ref b420) := (Fld.other W1257 (Fld.other W1253 (Fld.other W1249 (Fld.ext E1239 f1063_5) (Or.inl ne1244)) (Or.inl ne1244)) (Or.inl ne1244))
      have f1277 : Fld Z h1257 b439 "com/example/entitygate/entitygate/HtmlNode" "previous" "Lcom/example/entitygate/entitygate/HtmlNode;" (.ref b429) := (Fld.other W1257 (Fld.other W1253 (Fld.other W1249 (Fld.ext E1239 f1063_6) (Or.inl ne1244)) (Or.inl ne1244)) (Or.inl ne1244))
      have f1278 : Fld Z h1257 b439 "com/example/entitygate/entitygate/HtmlNode" "next" "Lcom/example/entitygate/entitygate/HtmlNode;" (.ref b451) := (Fld.other W1257 (Fld.other W1253 (Fld.other W1249 (Fld.ext E1239 f1063_7) (Or.inl ne1244)) (Or.inl ne1244)) (Or.inl ne1244))
      refine own_callS X1271 hx hZ hown (hw _ (List.mem_of_getElem? (i := 43) rfl)) (hw _ (List.mem_of_getElem? (i := 44) rfl)) (by decide) (rm_lk31 l Z a0 hw [] b1239 k1239 b420 b429 b439 b451 h1257 n0 z1259 f1276 f1277 f1278 V1257) (hw _ (List.mem_of_getElem? (i := 45) rfl)) (hw _ (List.mem_of_getElem? (i := 36) rfl)) e1271 0 (by decide) (by decide) (by decide) (by decide) [(.ref b1239), (.int (3 : Int32)), (.int (1 : Int32)), (.ref b420)] [] rfl pd_2 rfl 321 rfl (by rw [hml]; rfl) rfl (hb hby at_318) rfl fun T1275 v1275 L1275 X1275 hQ1275 => ?_
      obtain ⟨rfl, Nq1275, e1275⟩ := hQ1275
      have N1275 := Fr.app N1271 Nq1275
      show own_Go p e below s _ _ _ (T1275.setTop (mkF m 321 _ [(.int (1 : Int32))]))
      refine g_ifNo X1275 hx 324 (hb hby at_321) (own_i0_eq_f (by decide)) rfl ?_
      refine g_aload X1275 hx 326 (hb hby at_324) rfl rfl rfl ?_
      refine g_iload X1275 hx 328 (hb hby at_326) rfl rfl ?_
      refine g_iconst X1275 hx 329 (hb hby at_328) (2 : Int32) rfl rfl ?_
      refine g_aload X1275 hx 331 (hb hby at_329) rfl rfl rfl ?_
      have f1280 : Fld Z h1257 b451 "com/example/entitygate/entitygate/HtmlNode" "parent" "Lcom/example/entitygate/entitygate/HtmlNode$Parent;" (.ref b420) := (Fld.other W1257 (Fld.other W1253 (Fld.other W1249 (Fld.ext E1239 f1063_0) (Or.inl ne1246)) (Or.inl ne1246)) (Or.inl ne1246))
      have f1281 : Fld Z h1257 b451 "com/example/entitygate/entitygate/HtmlNode" "previous" "Lcom/example/entitygate/entitygate/HtmlNode;" (.ref b439) := (Fld.other W1257 (Fld.other W1253 (Fld.other W1249 (Fld.ext E1239 f1063_1) (Or.inl ne1246)) (Or.inl ne1246)) (Or.inl ne1246))
      have f1282 : Fld Z h1257 b451 "com/example/entitygate/entitygate/HtmlNode" "next" "Lcom/example/entitygate/entitygate/HtmlNode;" .null := (Fld.other W1257 (Fld.other W1253 (Fld.other W1249 (Fld.ext E1239 f1063_2) (Or.inl ne1246)) (Or.inl ne1246)) (Or.inl ne1246))
      refine own_callS X1275 hx hZ hown (hw _ (List.mem_of_getElem? (i := 43) rfl)) (hw _ (List.mem_of_getElem? (i := 44) rfl)) (by decide) (rm_lk32 l Z a0 hw [] b1239 k1239 b420 b429 b439 b451 h1257 n0 z1259 f1280 f1281 f1282 V1257) (hw _ (List.mem_of_getElem? (i := 45) rfl)) (hw _ (List.mem_of_getElem? (i := 36) rfl)) e1275 0 (by decide) (by decide) (by decide) (by decide) [(.ref b1239), (.int (3 : Int32)), (.int (2 : Int32)), (.ref b420)] [] rfl pd_2 rfl 334 rfl (by rw [hml]; rfl) rfl (hb hby at_331) rfl fun T1279 v1279 L1279 X1279 hQ1279 => ?_
      obtain ⟨rfl, Nq1279, e1279⟩ := hQ1279
      have N1279 := Fr.app N1275 Nq1279
      show own_Go p e below s _ _ _ (T1279.setTop (mkF m 334 _ [(.int (1 : Int32))]))
      refine g_ifNo X1279 hx 337 (hb hby at_334) (own_i0_eq_f (by decide)) rfl ?_
      refine g_iconst X1279 hx 338 (hb hby at_337) (1 : Int32) rfl rfl ?_
      refine g_goto X1279 hx 342 (hb hby at_338) (by decide) (by decide) ?_
      refine g_istore X1279 hx 344 (hb hby at_342) (l' := #[.val (.int p0), .val (.int p1), .val (.int (3 : Int32)), .val (.int (3 : Int32)), .val (.ref b420), .val (.ref b429), .val (.ref b439), .val (.ref b451), .val (.ref b420), .val (.int (1 : Int32)), .val (.int (1 : Int32)), .val (.int (1 : Int32)), .val (.ref b1239), .val (.int (3 : Int32)), .val (.ref b429), .val (.ref b451), .val (.int (1 : Int32))]) rfl rfl ?_
      refine g_iload X1279 hx 346 (hb hby at_344) rfl rfl ?_
      refine g_ifNo X1279 hx 349 (hb hby at_346) (own_i0_eq_f (by decide)) rfl ?_
      refine g_iload X1279 hx 351 (hb hby at_349) rfl rfl ?_
      refine g_ifYes X1279 hx 362 (hb hby at_351) (own_i0_ne_t (by decide)) (by decide) (by decide) ?_
      refine g_iload X1279 hx 364 (hb hby at_362) rfl rfl ?_
      refine g_ifYes X1279 hx 375 (hb hby at_364) (own_i0_ne_t (by decide)) (by decide) (by decide) ?_
      refine g_iload X1279 hx 377 (hb hby at_375) rfl rfl ?_
      refine g_ifYes X1279 hx 388 (hb hby at_377) (own_i0_ne_t (by decide)) (by decide) (by decide) ?_
      refine g_iconst X1279 hx 389 (hb hby at_388) (1 : Int32) rfl rfl ?_
      refine g_goto X1279 hx 393 (hb hby at_389) (by decide) (by decide) ?_
      refine g_istore X1279 hx 395 (hb hby at_393) (l' := #[.val (.int p0), .val (.int p1), .val (.int (3 : Int32)), .val (.int (3 : Int32)), .val (.ref b420), .val (.ref b429), .val (.ref b439), .val (.ref b451), .val (.ref b420), .val (.int (1 : Int32)), .val (.int (1 : Int32)), .val (.int (1 : Int32)), .val (.ref b1239), .val (.int (3 : Int32)), .val (.ref b429), .val (.ref b451), .val (.int (1 : Int32))]) rfl rfl ?_
      refine g_iload X1279 hx 397 (hb hby at_395) rfl rfl ?_
      refine own_retN X1279 hx hlk (t := .boolean) hret (by simp) (hb hby at_397) ?_ (by decide) (by decide)
      rw [e1279]
      exact ⟨rfl, N1279⟩
set_option maxRecDepth 65536 in
set_option maxHeartbeats 40000000 in
theorem comes_1 {Post : Tables → Env → Array Value → State → Outcome → State → Prop} (hpost : ∀ tb e args s v u, (limb_1_1.after args s (.returned v) u = true ∧ limb_1_2.after args s (.returned v) u = true ∧ True) → FrameEnd s (.returned v) u (Jvm.fieldLocs frame_1_writes args s ++ Jvm.arrayLocs frame_1_arrays args s ++ Jvm.staticLocs frame_1_statics s) 24 128 → Post tb e args s (.returned v) u) :
    ArmFor flags0 classFile x code maxLocals ret World_1 tables_1 room_1 Calls_1 rest_1 Pre_1 Post := by
  intro l hfl _ _ p e ha hc hk s m args below hf hA hF happ hP
  obtain ⟨hcalls, hrest, hpre⟩ := hP
  obtain ⟨-, -, -, hnamed, -, -, -, hat⟩ := (Spec.applies_iff hf).mp happ
  obtain ⟨hg, hn⟩ := and_e (Cond.before_iff.mp (show (Jvm.Cond.and given_1 narrow_1).before args s = true from hpre))
  obtain ⟨gc, q0⟩ := and_e hg
  obtain ⟨ga0, q1⟩ := and_e q0
  have ga1 := q1
  obtain ⟨w0, w1, rfl⟩ : ∃ w0 w1 : Value, args = #[w0, w1] := by
    have hs : args.size = 2 := by simpa [Cond.value, given_1] using gc
    obtain ⟨L⟩ := args
    match L, hs with
    | [w0, w1], _ => exact ⟨w0, w1, rfl⟩
  have hw := fun d (hd : d ∈ tables_1) => atoms_spec (ws := Jvm.Cond.code x code maxLocals ret :: tables_1) hat d (List.mem_cons_of_mem _ hd)
  have hfit : Fit s := fun {y c} hc i hi => by
    obtain ⟨ha, rfl⟩ := Array.getElem?_eq_some_iff.mp hc
    have q := List.all_eq_true.mp ((Array.all_eq_true_iff_forall_mem.mp hF) _ (Array.getElem_mem ha)) i (List.mem_range.mpr hi)
    simpa [Array.getElem?_eq_getElem hi] using q
  obtain ⟨i0, ei0⟩ := is_v ga0
  obtain rfl : w0 = (.int i0) := Option.some.inj ei0
  obtain ⟨i1, ei1⟩ := is_v ga1
  obtain rfl : w1 = (.int i1) := Option.some.inj ei1
  obtain ⟨n, o, h1, h2, h3, _, L, rfl, ⟨rfl, N⟩, hq⟩ := rm_law l s _ hw tables_1 i0 i1  s.heap s.heap.size (Nat.le_refl _)  p e ha hc hk s m _ below hf ((Spec.applies_iff_loose hf).mp happ).1 ⟨rfl, State.Warmed39.refl s, rfl⟩ trivial
  refine ⟨n, _, h1, h2, h3, hpost _ _ _ _ _ _ ⟨Cond.after_iff.mpr rfl, Cond.after_iff.mpr (eq_i res_at (Term.int_eval (1)) rfl), trivial⟩ ⟨hq.1, hq.2.1, (hq.2.2.sift fun y hy => Or.inr (N y hy)).mono (by decide) (by decide)⟩⟩
theorem main_1_1 : Claimed_1_1 := comes_1 fun _ _ _ _ _ _ h hF => ⟨h.1, hF⟩
theorem main_1_2 : Claimed_1_2 := comes_1 fun _ _ _ _ _ _ h hF => ⟨h.2.1, hF⟩
end Jvm.Pilot.@@N@@
namespace Jvm.Pilot.@@N@@
open Jvm Jvm.ClassFile Sem Op Lib Jvm.Free Jvm.Stand Jvm.Pilot.@@N@@.Jvm.D
/-! MADE BY PROGRAM (witnessworld.py) out of the Statement's table words and the real class files: 12 classes; the members and pool entries that the words name. The judged class is class 1, her method 1. -/
namespace start1
open Jvm.ClassFile
def u (s : String) : CpInfo := .utf8 (stringToUtf16 s)
/-- a pool by its gaps: so many unusable entries, then the entry; so many at the end -/
def gap : Nat → List CpInfo → List CpInfo
  | 0, r => r
  | n + 1, r => .unusable :: gap n r
def poolList (es : List (Nat × CpInfo)) (last : Nat) : List CpInfo := es.foldr (fun e r => gap e.1 (e.2 :: r)) (gap last [])
def pool (es : List (Nat × CpInfo)) (last : Nat) : Array CpInfo := ⟨poolList es last⟩
def fileOf (pool : Array CpInfo) (this : Nat) (attrs : Array Attribute := #[]) (ms : Array MethodInfo := #[]) (fl : Nat := 33) (sup : Nat := 0) (ifs : Array Nat := #[]) (fds : Array FieldInfo := #[]) : ClassFile where
  minorVersion := 0
  majorVersion := 65
  constantPool := pool
  accessFlags := fl
  thisClass := this
  superClass := sup
  interfaces := ifs
  fields := fds
  methods := ms
  attributes := attrs
def plain (name : String) (sup : Option ClassId) : Class where
  name := name
  kind := .ordinary
  loader := none
  accessFlags := 33
  super := sup
  interfaces := #[]
  cf := none
  fields := #[]
  methods := #[]
  instanceTypes := #[]
  staticTypes := #[]
  resolved := #[]
  callSites := []
  init := .initialized
  statics := none
  mirror := none

def pool0 : Array CpInfo := pool [(5, u "<init>"), (0, u "()V"), (1, .class_ 10), (1, u "java/lang/Object")] 113

def k0c0 : Code := { maxStack := 0, maxLocals := 1, code := object_method_1_code, exceptionTable := #[], attributes := #[] }
def k0m0 : Method := { name := "<init>", desc := "()V", sig := { parameters := [], returnType := none }, accessFlags := 1, code := some k0c0 }
/-- java/lang/Object -/
def k0 : Class := { plain "java/lang/Object" none with
  accessFlags := 33
  interfaces := #[]
  cf := some (fileOf pool0 8 #[] #[{ accessFlags := 1, nameIndex := 5, descriptorIndex := 6, attributes := #[] }] 33 0 #[] #[])
  fields := #[]
  methods := #[k0m0]
  instanceTypes := #[]
  staticTypes := #[]
  resolved := Array.replicate 124 none
  statics := none }

def pool1 : Array CpInfo := pool [(2, .class_ 4), (0, .nameAndType 5 6), (0, u "java/lang/Object"), (0, u "<init>"), (0, u "()V"), (0, .class_ 8), (0, u "com/example/entitygate/entitygate/HtmlNode$Document"), (0, .methodref 7 3), (0, .methodref 7 11), (0, .nameAndType 12 13), (0, u "insert"), (0, u "(Lcom/example/entitygate/entitygate/HtmlNode;Lcom/example/entitygate/entitygate/HtmlNode;)V"), (0, .methodref 15 16), (0, .class_ 17), (0, .nameAndType 18 6), (0, u "com/example/entitygate/entitygate/HtmlNode"), (0, u "detach"), (0, .fieldref 7 20), (0, .nameAndType 21 22), (0, u "first"), (0, u "Lcom/example/entitygate/entitygate/HtmlNode;"), (0, .fieldref 7 24), (0, .nameAndType 25 22), (0, u "last"), (0, .methodref 27 28), (0, .class_ 29), (0, .nameAndType 30 31), (0, u "com/example/entitygate/entitygate/HtmlNodeDetachPinLaw"), (0, u "free"), (0, u "(Lcom/example/entitygate/entitygate/HtmlNode;)Z"), (0, .methodref 27 33), (0, .nameAndType 34 35), (0, u "linked"), (0, u "([Lcom/example/entitygate/entitygate/HtmlNode;IILcom/example/entitygate/entitygate/HtmlNode;)Z"), (0, .fieldref 15 37), (0, .nameAndType 38 39), (0, u "parent"), (0, u "Lcom/example/entitygate/entitygate/HtmlNode$Parent;"), (0, .fieldref 15 41), (0, .nameAndType 42 22), (0, u "previous"), (0, .fieldref 15 44), (0, .nameAndType 45 22), (0, u "next"), (2, u "law"), (0, u "(II)Z")] 10

def k1m0 : Method := { name := "<init>", desc := "()V", sig := { parameters := [], returnType := none }, accessFlags := 1, code := none }
def k1c1 : Code := { maxStack := 4, maxLocals := 17, code := code, exceptionTable := #[], attributes := #[] }
def k1m1 : Method := { name := "law", desc := "(II)Z", sig := { parameters := [.int, .int], returnType := some .boolean }, accessFlags := 9, code := some k1c1 }
def k1c2 : Code := { maxStack := 3, maxLocals := 7, code := method_3_code, exceptionTable := #[], attributes := #[] }
def k1m2 : Method := { name := "linked", desc := "([Lcom/example/entitygate/entitygate/HtmlNode;IILcom/example/entitygate/entitygate/HtmlNode;)Z", sig := { parameters := [(.array (.object "com/example/entitygate/entitygate/HtmlNode")), .int, .int, (.object "com/example/entitygate/entitygate/HtmlNode")], returnType := some .boolean }, accessFlags := 10, code := some k1c2 }
def k1c3 : Code := { maxStack := 1, maxLocals := 1, code := method_4_code, exceptionTable := #[], attributes := #[] }
def k1m3 : Method := { name := "free", desc := "(Lcom/example/entitygate/entitygate/HtmlNode;)Z", sig := { parameters := [(.object "com/example/entitygate/entitygate/HtmlNode")], returnType := some .boolean }, accessFlags := 10, code := some k1c3 }
/-- com/example/entitygate/entitygate/HtmlNodeDetachPinLaw -/
def k1 : Class := { plain "com/example/entitygate/entitygate/HtmlNodeDetachPinLaw" (some 0) with
  accessFlags := 49
  interfaces := #[]
  cf := some (fileOf pool1 27 #[] #[{ accessFlags := 1, nameIndex := 5, descriptorIndex := 6, attributes := #[] }, { accessFlags := 9, nameIndex := 48, descriptorIndex := 49, attributes := #[] }, { accessFlags := 10, nameIndex := 34, descriptorIndex := 35, attributes := #[] }, { accessFlags := 10, nameIndex := 30, descriptorIndex := 31, attributes := #[] }] 49 2 #[] #[])
  fields := #[]
  methods := #[k1m0, k1m1, k1m2, k1m3]
  instanceTypes := #[]
  staticTypes := #[]
  resolved := Array.replicate 60 none
  statics := none }

def pool2 : Array CpInfo := pool [(1, .methodref 2 3), (0, .class_ 4), (0, .nameAndType 5 6), (0, u "java/lang/Object"), (0, u "<init>"), (0, u "()V"), (0, .fieldref 8 9), (0, .class_ 10), (0, .nameAndType 11 12), (0, u "com/example/entitygate/entitygate/HtmlNode"), (0, u "parent"), (0, u "Lcom/example/entitygate/entitygate/HtmlNode$Parent;"), (0, .fieldref 8 14), (0, .nameAndType 15 16), (0, u "previous"), (0, u "Lcom/example/entitygate/entitygate/HtmlNode;"), (0, .fieldref 8 18), (0, .nameAndType 19 16), (0, u "next"), (0, .fieldref 21 22), (0, .class_ 23), (0, .nameAndType 24 16), (0, u "com/example/entitygate/entitygate/HtmlNode$Parent"), (0, u "first"), (0, .fieldref 21 26), (0, .nameAndType 27 16), (0, u "last"), (2, u "detach"), (4, .class_ 36), (0, u "com/example/entitygate/entitygate/HtmlNode$DocumentType"), (0, .class_ 38), (0, u "com/example/entitygate/entitygate/HtmlNode$Comment"), (0, .class_ 40), (0, u "com/example/entitygate/entitygate/HtmlNode$Text"), (0, .class_ 42), (0, u "com/example/entitygate/entitygate/HtmlNode$Element"), (0, .class_ 44), (0, u "com/example/entitygate/entitygate/HtmlNode$Document"), (0, .class_ 46), (0, u "com/example/entitygate/entitygate/HtmlNode$Namespace")] 8

def k2c0 : Code := { maxStack := 1, maxLocals := 1, code := prog_14_method_1_code, exceptionTable := #[], attributes := #[] }
def k2m0 : Method := { name := "<init>", desc := "()V", sig := { parameters := [], returnType := none }, accessFlags := 0, code := some k2c0 }
def k2c1 : Code := { maxStack := 2, maxLocals := 1, code := prog_14_method_2_code, exceptionTable := #[], attributes := #[] }
def k2m1 : Method := { name := "detach", desc := "()V", sig := { parameters := [], returnType := none }, accessFlags := 0, code := some k2c1 }
/-- com/example/entitygate/entitygate/HtmlNode -/
def k2 : Class := { plain "com/example/entitygate/entitygate/HtmlNode" (some 0) with
  accessFlags := 1056
  interfaces := #[]
  cf := some (fileOf pool2 8 #[.nestMembers #[35, 37, 39, 41, 43, 21, 45]] #[{ accessFlags := 0, nameIndex := 5, descriptorIndex := 6, attributes := #[] }, { accessFlags := 0, nameIndex := 30, descriptorIndex := 6, attributes := #[] }] 1056 2 #[] #[{ accessFlags := 0, nameIndex := 11, descriptorIndex := 12, attributes := #[] }, { accessFlags := 0, nameIndex := 15, descriptorIndex := 16, attributes := #[] }, { accessFlags := 0, nameIndex := 19, descriptorIndex := 16, attributes := #[] }])
  fields := #[{ name := "parent", type := (.object "com/example/entitygate/entitygate/HtmlNode$Parent"), accessFlags := 0, slot := 0, constantValue := 0 }, { name := "previous", type := (.object "com/example/entitygate/entitygate/HtmlNode"), accessFlags := 0, slot := 1, constantValue := 0 }, { name := "next", type := (.object "com/example/entitygate/entitygate/HtmlNode"), accessFlags := 0, slot := 2, constantValue := 0 }]
  methods := #[k2m0, k2m1]
  instanceTypes := #[(.object "com/example/entitygate/entitygate/HtmlNode$Parent"), (.object "com/example/entitygate/entitygate/HtmlNode"), (.object "com/example/entitygate/entitygate/HtmlNode")]
  staticTypes := #[]
  resolved := Array.replicate 55 none
  statics := none }

def pool3 : Array CpInfo := pool [(1, .methodref 2 3), (0, .class_ 4), (0, .nameAndType 5 6), (0, u "com/example/entitygate/entitygate/HtmlNode"), (0, u "<init>"), (0, u "()V"), (0, .methodref 2 8), (0, .nameAndType 9 6), (0, u "detach"), (0, .fieldref 2 11), (0, .nameAndType 12 13), (0, u "parent"), (0, u "Lcom/example/entitygate/entitygate/HtmlNode$Parent;"), (0, .fieldref 15 16), (0, .class_ 17), (0, .nameAndType 18 19), (0, u "com/example/entitygate/entitygate/HtmlNode$Parent"), (0, u "last"), (0, u "Lcom/example/entitygate/entitygate/HtmlNode;"), (0, .fieldref 2 21), (0, .nameAndType 22 19), (0, u "previous"), (0, .fieldref 15 24), (0, .nameAndType 25 19), (0, u "first"), (0, .fieldref 2 27), (0, .nameAndType 28 19), (0, u "next"), (2, u "insert"), (0, u "(Lcom/example/entitygate/entitygate/HtmlNode;Lcom/example/entitygate/entitygate/HtmlNode;)V")] 6

def k3c0 : Code := { maxStack := 1, maxLocals := 1, code := prog_20_method_1_code, exceptionTable := #[], attributes := #[] }
def k3m0 : Method := { name := "<init>", desc := "()V", sig := { parameters := [], returnType := none }, accessFlags := 0, code := some k3c0 }
def k3c1 : Code := { maxStack := 2, maxLocals := 3, code := prog_20_method_2_code, exceptionTable := #[], attributes := #[] }
def k3m1 : Method := { name := "insert", desc := "(Lcom/example/entitygate/entitygate/HtmlNode;Lcom/example/entitygate/entitygate/HtmlNode;)V", sig := { parameters := [(.object "com/example/entitygate/entitygate/HtmlNode"), (.object "com/example/entitygate/entitygate/HtmlNode")], returnType := none }, accessFlags := 0, code := some k3c1 }
/-- com/example/entitygate/entitygate/HtmlNode$Parent -/
def k3 : Class := { plain "com/example/entitygate/entitygate/HtmlNode$Parent" (some 2) with
  accessFlags := 1056
  interfaces := #[]
  cf := some (fileOf pool3 15 #[.nestHost 2] #[{ accessFlags := 0, nameIndex := 5, descriptorIndex := 6, attributes := #[] }, { accessFlags := 0, nameIndex := 31, descriptorIndex := 32, attributes := #[] }] 1056 2 #[] #[{ accessFlags := 0, nameIndex := 25, descriptorIndex := 19, attributes := #[] }, { accessFlags := 0, nameIndex := 18, descriptorIndex := 19, attributes := #[] }])
  fields := #[{ name := "first", type := (.object "com/example/entitygate/entitygate/HtmlNode"), accessFlags := 0, slot := 3, constantValue := 0 }, { name := "last", type := (.object "com/example/entitygate/entitygate/HtmlNode"), accessFlags := 0, slot := 4, constantValue := 0 }]
  methods := #[k3m0, k3m1]
  instanceTypes := #[(.object "com/example/entitygate/entitygate/HtmlNode$Parent"), (.object "com/example/entitygate/entitygate/HtmlNode"), (.object "com/example/entitygate/entitygate/HtmlNode"), (.object "com/example/entitygate/entitygate/HtmlNode"), (.object "com/example/entitygate/entitygate/HtmlNode")]
  staticTypes := #[]
  resolved := Array.replicate 39 none
  statics := none }

def pool4 : Array CpInfo := pool [(1, .methodref 2 3), (0, .class_ 4), (0, .nameAndType 5 6), (0, u "com/example/entitygate/entitygate/HtmlNode$Parent"), (0, u "<init>"), (0, u "()V"), (0, .class_ 8), (0, u "com/example/entitygate/entitygate/HtmlNode$Document"), (5, .class_ 15), (0, u "com/example/entitygate/entitygate/HtmlNode")] 3

def k4c0 : Code := { maxStack := 1, maxLocals := 1, code := prog_16_method_1_code, exceptionTable := #[], attributes := #[] }
def k4m0 : Method := { name := "<init>", desc := "()V", sig := { parameters := [], returnType := none }, accessFlags := 0, code := some k4c0 }
/-- com/example/entitygate/entitygate/HtmlNode$Document -/
def k4 : Class := { plain "com/example/entitygate/entitygate/HtmlNode$Document" (some 3) with
  accessFlags := 32
  interfaces := #[]
  cf := some (fileOf pool4 7 #[.nestHost 14] #[{ accessFlags := 0, nameIndex := 5, descriptorIndex := 6, attributes := #[] }] 32 2 #[] #[])
  fields := #[]
  methods := #[k4m0]
  instanceTypes := #[(.object "com/example/entitygate/entitygate/HtmlNode$Parent"), (.object "com/example/entitygate/entitygate/HtmlNode"), (.object "com/example/entitygate/entitygate/HtmlNode"), (.object "com/example/entitygate/entitygate/HtmlNode"), (.object "com/example/entitygate/entitygate/HtmlNode")]
  staticTypes := #[]
  resolved := Array.replicate 19 none
  statics := none }

def pool5 : Array CpInfo := pool [(1, u "java/lang/Cloneable"), (0, .class_ 1), (0, u "java/lang/Object"), (0, .class_ 3)] 3

/-- java/lang/Cloneable -/
def k5 : Class := { plain "java/lang/Cloneable" (some 0) with
  accessFlags := 1537
  interfaces := #[]
  cf := some (fileOf pool5 2 #[] #[] 1537 4 #[] #[])
  fields := #[]
  methods := #[]
  instanceTypes := #[]
  staticTypes := #[]
  resolved := Array.replicate 8 none
  statics := none }

def pool6 : Array CpInfo := pool [(1, u "java/io/Serializable"), (0, .class_ 1), (0, u "java/lang/Object"), (0, .class_ 3)] 3

/-- java/io/Serializable -/
def k6 : Class := { plain "java/io/Serializable" (some 0) with
  accessFlags := 1537
  interfaces := #[]
  cf := some (fileOf pool6 2 #[] #[] 1537 4 #[] #[])
  fields := #[]
  methods := #[]
  instanceTypes := #[]
  staticTypes := #[]
  resolved := Array.replicate 8 none
  statics := none }

/-- the primitive byte -/
def k7 : Class := { plain "byte" none with kind := .primitive 'B', accessFlags := 0x411 }
/-- [B -/
def k8 : Class := { plain "[B" (some 0) with kind := .array 7 .byte, interfaces := #[5, 6], accessFlags := 1041 }

/-- the primitive int -/
def k9 : Class := { plain "int" none with kind := .primitive 'I', accessFlags := 0x411 }
/-- [I -/
def k10 : Class := { plain "[I" (some 0) with kind := .array 9 .int, interfaces := #[5, 6], accessFlags := 1041 }

/-- [Lcom/example/entitygate/entitygate/HtmlNode; -/
def k11 : Class := { plain "[Lcom/example/entitygate/entitygate/HtmlNode;" (some 0) with kind := .array 2 (.object "com/example/entitygate/entitygate/HtmlNode"), interfaces := #[5, 6], accessFlags := 1041 }

def heap : Heap := #[]
def classes : Array Class := #[k0, k1, k2, k3, k4, k5, k6, k7, k8, k9, k10, k11]
def interned : List (Array UInt16 × Addr) := []
def slotsUsed : Nat := 0
def theMethod : MethodId := ⟨1, 1⟩
def args0 : Array Value := #[.int 5, .int 7]
def aboutOver (below : List Frame) : State where
  vm := { classes := classes, interned := interned.toArray }
  heap := heap
  slotsUsed := slotsUsed
  threads := #[{ frames := .invoking theMethod args0 :: below }]
def below0 : List Frame := [.native { method := ⟨0, 0⟩, args := #[] }]
def about1 : State := aboutOver below0
def p0 : Program := .bare "" "" ""
def e0 : Env := launch0.env 0 0 0
theorem w_frames : about1.frames = Frame.invoking theMethod args0 :: below0 := rfl
set_option maxRecDepth 65536 in
theorem w_args : argsFit about1.vm theMethod args0 = true := by decide +kernel
set_option maxRecDepth 65536 in
theorem w_heap : heapFits about1 = true := by decide +kernel
set_option maxRecDepth 65536 in
theorem w_runnable : about1.curStatus? = some .runnable := by decide +kernel
set_option maxRecDepth 65536 in
theorem w_alone : about1.alone = true := by decide +kernel
set_option maxRecDepth 65536 in
theorem w_named : about1.methodNamed? x = some theMethod := by decide +kernel
set_option maxRecDepth 65536 in
theorem w_hears : about1.hears theMethod below0 = true := by decide +kernel
set_option maxRecDepth 65536 in
theorem w_ripe : about1.ripe theMethod args0 below0 = true := by decide +kernel
theorem w_running : about1.status = .running := rfl
set_option maxRecDepth 65536 in
theorem w_room : about1.hasRoom e0.platform room_1 = true :=
  launch0.hasRoom_least _ room_1 (by decide +kernel) (by decide +kernel) (by decide +kernel) (by decide +kernel) (by decide +kernel) (by decide +kernel)
theorem allAtoms_all (ts : List Jvm.Cond) (a : Array Jvm.Value) (st : Jvm.State) : (allAtoms ts).before a st = ts.all (fun c => c.before a st) := by
  induction ts with
  | nil => rfl
  | cons c t ih =>
    show (Jvm.Cond.and c (allAtoms t)).before a st = _
    rw [Jvm.Cond.before_and, ih, List.all_cons]
def words1 : List Jvm.Cond := Jvm.Cond.code x code maxLocals ret :: tables_1
/-- a 'code' word, met by the world's own term for the bytes: nothing is compared byte by byte -/
theorem code_word {y : MethodName} {bytes : ByteArray} {mx : Nat} {rt : Option FieldType} {a : Array Value} {s : State} {m : MethodId} {meth : Method} {c : Code} (h1 : s.methodNamed? y = some m) (h2 : s.vm.method? m = some meth) (h3 : meth.code = some c) (h4 : c.code = bytes)
    (h5 : (c.maxLocals == mx && c.exceptionTable.isEmpty && decide (c.maxStack ≤ mostOperands) && decide (meth.sig.returnType = rt) && !meth.locks && decide (parseMethodDescriptor y.desc = some meth.sig)) = true) : (Jvm.Cond.code y bytes mx rt).before a s = true := by
  simp only [Bool.and_eq_true, beq_iff_eq, Bool.not_eq_true', decide_eq_true_eq] at h5
  obtain ⟨⟨⟨⟨⟨g1, g2⟩, g3⟩, g4⟩, g5⟩, g6⟩ := h5
  simp [Cond.before, Cond.holds, Cond.value, h1, h2, h3, h4, g1, g2, g3, g4, g5, g6]
def isCode : Jvm.Cond → Bool
  | .code _ _ _ _ => true
  | _ => false
theorem all_split {L : List Jvm.Cond} {P : Jvm.Cond → Bool} (h1 : L.all (fun c => isCode c || P c) = true) (h2 : ∀ c ∈ L.filter isCode, P c = true) : L.all P = true := by
  refine List.all_eq_true.mpr fun c hc => ?_
  have h := List.all_eq_true.mp h1 c hc
  rcases Bool.eq_false_or_eq_true (isCode c) with hi | hi
  · exact h2 c (List.mem_filter.mpr ⟨hc, hi⟩)
  · simpa [hi] using h
set_option maxRecDepth 65536 in
theorem w_c0 : (Jvm.Cond.code x code maxLocals ret).before args0 about1 = true := code_word (m := ⟨1, 1⟩) (meth := k1m1) (c := k1c1) (by decide +kernel) rfl rfl rfl (by decide +kernel)
set_option maxRecDepth 65536 in
theorem w_c1 : (Jvm.Cond.code ({ cls := "com/example/entitygate/entitygate/HtmlNode$Document", name := "<init>", desc := "()V" } : Jvm.MethodName) prog_16_method_1_code (1 : Nat) (Option.none : Option Jvm.ClassFile.FieldType)).before args0 about1 = true := code_word (m := ⟨4, 0⟩) (meth := k4m0) (c := k4c0) (by decide +kernel) rfl rfl rfl (by decide +kernel)
set_option maxRecDepth 65536 in
theorem w_c2 : (Jvm.Cond.code ({ cls := "com/example/entitygate/entitygate/HtmlNode$Parent", name := "<init>", desc := "()V" } : Jvm.MethodName) prog_20_method_1_code (1 : Nat) (Option.none : Option Jvm.ClassFile.FieldType)).before args0 about1 = true := code_word (m := ⟨3, 0⟩) (meth := k3m0) (c := k3c0) (by decide +kernel) rfl rfl rfl (by decide +kernel)
set_option maxRecDepth 65536 in
theorem w_c3 : (Jvm.Cond.code ({ cls := "com/example/entitygate/entitygate/HtmlNode", name := "<init>", desc := "()V" } : Jvm.MethodName) prog_14_method_1_code (1 : Nat) (Option.none : Option Jvm.ClassFile.FieldType)).before args0 about1 = true := code_word (m := ⟨2, 0⟩) (meth := k2m0) (c := k2c0) (by decide +kernel) rfl rfl rfl (by decide +kernel)
set_option maxRecDepth 65536 in
theorem w_c4 : (Jvm.Cond.code ({ cls := "java/lang/Object", name := "<init>", desc := "()V" } : Jvm.MethodName) object_method_1_code (1 : Nat) (Option.none : Option Jvm.ClassFile.FieldType)).before args0 about1 = true := code_word (m := ⟨0, 0⟩) (meth := k0m0) (c := k0c0) (by decide +kernel) rfl rfl rfl (by decide +kernel)
set_option maxRecDepth 65536 in
theorem w_c5 : (Jvm.Cond.code ({ cls := "com/example/entitygate/entitygate/HtmlNode", name := "detach", desc := "()V" } : Jvm.MethodName) prog_14_method_2_code (1 : Nat) (Option.none : Option Jvm.ClassFile.FieldType)).before args0 about1 = true := code_word (m := ⟨2, 1⟩) (meth := k2m1) (c := k2c1) (by decide +kernel) rfl rfl rfl (by decide +kernel)
set_option maxRecDepth 65536 in
theorem w_c6 : (Jvm.Cond.code ({ cls := "com/example/entitygate/entitygate/HtmlNodeDetachPinLaw", name := "free", desc := "(Lcom/example/entitygate/entitygate/HtmlNode;)Z" } : Jvm.MethodName) method_4_code (1 : Nat) (Option.some Jvm.ClassFile.FieldType.boolean)).before args0 about1 = true := code_word (m := ⟨1, 3⟩) (meth := k1m3) (c := k1c3) (by decide +kernel) rfl rfl rfl (by decide +kernel)
set_option maxRecDepth 65536 in
theorem w_c7 : (Jvm.Cond.code ({ cls := "com/example/entitygate/entitygate/HtmlNodeDetachPinLaw", name := "linked", desc := "([Lcom/example/entitygate/entitygate/HtmlNode;IILcom/example/entitygate/entitygate/HtmlNode;)Z" } : Jvm.MethodName) method_3_code (7 : Nat) (Option.some Jvm.ClassFile.FieldType.boolean)).before args0 about1 = true := code_word (m := ⟨1, 2⟩) (meth := k1m2) (c := k1c2) (by decide +kernel) rfl rfl rfl (by decide +kernel)
set_option maxRecDepth 65536 in
theorem w_c8 : (Jvm.Cond.code ({ cls := "com/example/entitygate/entitygate/HtmlNode$Parent", name := "insert", desc := "(Lcom/example/entitygate/entitygate/HtmlNode;Lcom/example/entitygate/entitygate/HtmlNode;)V" } : Jvm.MethodName) prog_20_method_2_code (3 : Nat) (Option.none : Option Jvm.ClassFile.FieldType)).before args0 about1 = true := code_word (m := ⟨3, 1⟩) (meth := k3m1) (c := k3c1) (by decide +kernel) rfl rfl rfl (by decide +kernel)
def codes1 : List Jvm.Cond := [Jvm.Cond.code x code maxLocals ret, Jvm.Cond.code ({ cls := "com/example/entitygate/entitygate/HtmlNode$Document", name := "<init>", desc := "()V" } : Jvm.MethodName) prog_16_method_1_code (1 : Nat) (Option.none : Option Jvm.ClassFile.FieldType), Jvm.Cond.code ({ cls := "com/example/entitygate/entitygate/HtmlNode$Parent", name := "<init>", desc := "()V" } : Jvm.MethodName) prog_20_method_1_code (1 : Nat) (Option.none : Option Jvm.ClassFile.FieldType), Jvm.Cond.code ({ cls := "com/example/entitygate/entitygate/HtmlNode", name := "<init>", desc := "()V" } : Jvm.MethodName) prog_14_method_1_code (1 : Nat) (Option.none : Option Jvm.ClassFile.FieldType), Jvm.Cond.code ({ cls := "java/lang/Object", name := "<init>", desc := "()V" } : Jvm.MethodName) object_method_1_code (1 : Nat) (Option.none : Option Jvm.ClassFile.FieldType), Jvm.Cond.code ({ cls := "com/example/entitygate/entitygate/HtmlNode", name := "detach", desc := "()V" } : Jvm.MethodName) prog_14_method_2_code (1 : Nat) (Option.none : Option Jvm.ClassFile.FieldType), Jvm.Cond.code ({ cls := "com/example/entitygate/entitygate/HtmlNodeDetachPinLaw", name := "free", desc := "(Lcom/example/entitygate/entitygate/HtmlNode;)Z" } : Jvm.MethodName) method_4_code (1 : Nat) (Option.some Jvm.ClassFile.FieldType.boolean), Jvm.Cond.code ({ cls := "com/example/entitygate/entitygate/HtmlNodeDetachPinLaw", name := "linked", desc := "([Lcom/example/entitygate/entitygate/HtmlNode;IILcom/example/entitygate/entitygate/HtmlNode;)Z" } : Jvm.MethodName) method_3_code (7 : Nat) (Option.some Jvm.ClassFile.FieldType.boolean), Jvm.Cond.code ({ cls := "com/example/entitygate/entitygate/HtmlNode$Parent", name := "insert", desc := "(Lcom/example/entitygate/entitygate/HtmlNode;Lcom/example/entitygate/entitygate/HtmlNode;)V" } : Jvm.MethodName) prog_20_method_2_code (3 : Nat) (Option.none : Option Jvm.ClassFile.FieldType)]
set_option maxRecDepth 65536 in
theorem codes_eq : words1.filter isCode = codes1 := rfl
theorem w_codes : ∀ c ∈ words1.filter isCode, c.before args0 about1 = true := by
  rw [codes_eq]
  intro c hc
  simp only [codes1, List.mem_cons, List.not_mem_nil, or_false] at hc
  rcases hc with rfl | rfl | rfl | rfl | rfl | rfl | rfl | rfl | rfl
  · exact w_c0
  · exact w_c1
  · exact w_c2
  · exact w_c3
  · exact w_c4
  · exact w_c5
  · exact w_c6
  · exact w_c7
  · exact w_c8
set_option maxRecDepth 65536 in
theorem w_t1 : (words1.take 24).all (fun c => isCode c || c.before args0 about1) = true := by decide +kernel
set_option maxRecDepth 65536 in
theorem w_t2 : ((words1.drop 24).take 24).all (fun c => isCode c || c.before args0 about1) = true := by decide +kernel
set_option maxRecDepth 65536 in
theorem w_t3 : ((words1.drop 24).drop 24).all (fun c => isCode c || c.before args0 about1) = true := by decide +kernel
theorem w_tables : (allAtoms (Jvm.Cond.code x code maxLocals ret :: tables_1)).before args0 about1 = true := by
  rw [allAtoms_all]
  show words1.all (fun c => c.before args0 about1) = true
  refine all_split ?_ w_codes
  rw [← List.take_append_drop 24 words1, List.all_append, w_t1, ← List.take_append_drop 24 (words1.drop 24), List.all_append, w_t2, w_t3]
  rfl
set_option maxRecDepth 65536 in
theorem w_case : (Jvm.Cond.and given_1 narrow_1).before args0 about1 = true := by decide +kernel
theorem w_applies : (headSpec (Jvm.Cond.code x code maxLocals ret :: tables_1) room_1).applies x e0.platform about1 = true :=
  (Spec.applies_iff w_frames).mpr ⟨w_running, w_runnable, w_alone, w_named, w_hears, w_ripe, w_room, w_tables⟩
theorem atStart : AtStart classFile x code maxLocals ret World_1 tables_1 room_1 Calls_1 rest_1 Pre_1 launch0 p0 e0 about1 theMethod args0 below0 :=
  ⟨lists_1, trivial, launch0.admits_env _ _ _, launch0.least_env, fairChoices_fair.cas, fairChoices_fair.clock, w_frames, w_args, w_heap, w_applies, trivial, trivial, w_case⟩
end start1
theorem witness_1 : WitnessClaimed_1 := ⟨start1.p0, start1.e0, start1.about1, start1.theMethod, start1.args0, start1.below0, start1.atStart⟩
end Jvm.Pilot.@@N@@
