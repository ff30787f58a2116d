import JvmDerived
import JvmDerived.Pilot.@@N@@Statement
import JvmDerived.Pilot.@@N@@Code
set_option linter.unusedVariables false
set_option linter.unusedSimpArgs false
namespace Jvm.Pilot.@@N@@
open Jvm Jvm.ClassFile Sem Op Lib Jvm.Free Jvm.Stand Jvm.LawKit Jvm.RoadKit Bundle Jvm.Pilot.@@N@@.Jvm.D
section Own
variable {p : Program} {l : Launch} {e : Env} {R : Room} {s : State} {m : MethodId} {args : Array Value} {below : List Frame} {meth : Method} {c : Code} {T : State} {locs : List Loc} {cells slots : Nat}
/-- from S0 the run ends as Q says, within the frame of k cells and n slots -/
def own_Go (p : Program) (e : Env) (below : List Frame) (s : State) (Q : Option Value → Heap → List Loc → Prop) (k n : Nat) (S0 : State) : Prop :=
  ∃ U o, Steps p.tables e below S0 U ∧ U.status = .running ∧ Ended U below o ∧ ∃ v L, o = .returned v ∧ Q v U.heap L ∧ FrameEnd s o U L k n
variable {Q : Option Value → Heap → List Loc → Prop} {K N : Nat} {S0 S1 : State}
theorem own_step (h : ∀ t, Steps p.tables e below S1 t → Steps p.tables e below S0 t) (G : own_Go p e below s Q K N S1) : own_Go p e below s Q K N S0 := by
  obtain ⟨U, o, h1, r⟩ := G
  exact ⟨U, o, h _ h1, r⟩
theorem own_start {g g' : JFrame} (q : g = g') (G : own_Go p e below s Q K N (T.setTop g')) : own_Go p e below s Q K N (T.setTop g) := q ▸ G
theorem own_end (X : Stand p l e R s m args below meth c T locs cells slots) {v : Option Value} (hv : meth.sig.returnType = none → v = none) (hlk : meth.locks = false) (hq : Q v T.heap locs) (hk : cells ≤ K) (hn : slots ≤ N)
    (go : ∀ fs, (∀ (f : JFrame) (acts : List Action), f.method = m → f.locked = none → f.entered = [] → (doReturn e (T.setTop f) acts v).1 = T.setFrames fs) → Steps p.tables e below S0 (T.setFrames fs)) : own_Go p e below s Q K N S0 := by
  obtain ⟨fs, hr, hrun, hended, hW, hsame⟩ := X.leave (v := v) hv hlk
  exact ⟨_, _, go fs hr, hrun, hended, _, _, rfl, hq, ⟨_, rfl⟩, hW, hsame.mono hk hn⟩
theorem own_retN (X : Stand p l e R s m args below meth c T locs cells slots) (hx : p.tables.exec = Jvm.exec) (hlk : meth.locks = false) {pc : Nat} {Ls : Array Slot} {z : Int32} {t : FieldType} {rest : List Value} (hret : meth.sig.returnType = some t) (ht : t = .boolean ∨ t = .byte ∨ t = .char ∨ t = .short)
    (hd : decode c.code pc = .ok (.ireturn, 1)) (hq : Q (some (.int (nar t z))) T.heap locs) (hk : cells ≤ K) (hn : slots ≤ N) : own_Go p e below s Q K N (T.setTop (mkF m pc Ls (.int z :: rest))) :=
  own_end X (fun h => by rw [hret] at h; cases h) hlk hq hk hn fun fs hr => retN X hx hret ht hd hr
theorem own_retI (X : Stand p l e R s m args below meth c T locs cells slots) (hx : p.tables.exec = Jvm.exec) (hlk : meth.locks = false) {pc : Nat} {Ls : Array Slot} {z : Int32} {rest : List Value} (hret : meth.sig.returnType = some .int)
    (hd : decode c.code pc = .ok (.ireturn, 1)) (hq : Q (some (.int z)) T.heap locs) (hk : cells ≤ K) (hn : slots ≤ N) : own_Go p e below s Q K N (T.setTop (mkF m pc Ls (.int z :: rest))) :=
  own_end X (fun h => by rw [hret] at h; cases h) hlk hq hk hn fun fs hr => retOut X hx hret rfl (Or.inl ⟨rfl, Or.inl rfl, _, rfl⟩) hd hr
theorem own_retJ (X : Stand p l e R s m args below meth c T locs cells slots) (hx : p.tables.exec = Jvm.exec) (hlk : meth.locks = false) {pc : Nat} {Ls : Array Slot} {z : Int64} {rest : List Value} (hret : meth.sig.returnType = some .long)
    (hd : decode c.code pc = .ok (.lreturn, 1)) (hq : Q (some (.long z)) T.heap locs) (hk : cells ≤ K) (hn : slots ≤ N) : own_Go p e below s Q K N (T.setTop (mkF m pc Ls (.long z :: rest))) :=
  own_end X (fun h => by rw [hret] at h; cases h) hlk hq hk hn fun fs hr => retOut X hx hret rfl (Or.inr (Or.inl ⟨rfl, rfl, _, rfl⟩)) hd hr
theorem own_retA (X : Stand p l e R s m args below meth c T locs cells slots) (hx : p.tables.exec = Jvm.exec) (hlk : meth.locks = false) {pc : Nat} {Ls : Array Slot} {w : Value} {t : FieldType} {rest : List Value} (hret : meth.sig.returnType = some t) (ht : t.isReference = true) (hw : w.isRef = true)
    (hd : decode c.code pc = .ok (.areturn, 1)) (hq : Q (some w) T.heap locs) (hk : cells ≤ K) (hn : slots ≤ N) : own_Go p e below s Q K N (T.setTop (mkF m pc Ls (w :: rest))) :=
  own_end X (fun h => by rw [hret] at h; cases h) hlk hq hk hn fun fs hr => retOut X hx hret (by cases t <;> first | (cases ht; done) | (cases w <;> rfl)) (Or.inr (Or.inr (Or.inr (Or.inr ⟨rfl, ht, hw⟩)))) hd hr
theorem own_retV (X : Stand p l e R s m args below meth c T locs cells slots) (hx : p.tables.exec = Jvm.exec) (hlk : meth.locks = false) {pc : Nat} {Ls : Array Slot} (hret : meth.sig.returnType = none)
    (hd : decode c.code pc = .ok (.return_, 1)) (hq : Q none T.heap locs) (hk : cells ≤ K) (hn : slots ≤ N) : own_Go p e below s Q K N (T.setTop (mkF m pc Ls [])) :=
  own_end X (fun _ => rfl) hlk hq hk hn fun fs hr => X.returnOut hx hret hd hr
theorem own_Sta_keep {Z : State} {h h' : Heap} {ws : List Addr} {C n d : String} {w : Value} (Kp : Keep h h' ws) (F : Sta Z h C n d w) (q : ∀ a ∈ ws, ∀ cell : Cell, h[a]? = some cell → cell.vm.isStatics = false) : Sta Z h' C n d w := by
  obtain ⟨cf, i, k, f, st, cell, h1, h2, h3, h4, h5, h6, h7⟩ := F
  exact ⟨cf, i, k, f, st, cell, h1, h2, h3, h4, Kp.2.1 _ _ h5 (fun hm => by rw [q _ hm _ h5] at h6; cases h6), h6, h7⟩
theorem g_iload_n (X : Stand p l e R s m args below meth c T locs cells slots) (hx : p.tables.exec = Jvm.exec) {pc : Nat} (pc' : Nat) {Ls : Array Slot} {k : Fin 4} {v : Int32} {st : List Value} (hd : decode c.code pc = .ok (.iload_n k, 1)) (hl : Ls[k.val]? = some (.val (.int v))) (hp : pc + 1 = pc') (G : own_Go p e below s Q K N (T.setTop (mkF m pc' Ls (.int v :: st)))) : own_Go p e below s Q K N (T.setTop (mkF m pc Ls (st))) := by
  subst hp; exact own_step (fun _ k => XS.iloadN X.here hx rfl hd hl k) G
theorem g_iload (X : Stand p l e R s m args below meth c T locs cells slots) (hx : p.tables.exec = Jvm.exec) {pc : Nat} (pc' : Nat) {Ls : Array Slot} {k : Nat} {v : Int32} {st : List Value} (hd : decode c.code pc = .ok (.iload k, 2)) (hl : Ls[k]? = some (.val (.int v))) (hp : pc + 2 = pc') (G : own_Go p e below s Q K N (T.setTop (mkF m pc' Ls (.int v :: st)))) : own_Go p e below s Q K N (T.setTop (mkF m pc Ls (st))) := by
  subst hp; exact own_step (fun _ k => XS.iload X.here hx rfl hd hl k) G
theorem g_istore_n (X : Stand p l e R s m args below meth c T locs cells slots) (hx : p.tables.exec = Jvm.exec) {pc : Nat} (pc' : Nat) {Ls : Array Slot} {k : Fin 4} {v : Int32} {st : List Value} {l' : Array Slot} (hd : decode c.code pc = .ok (.istore_n k, 1)) (hl : storeLocals Ls k.val (.int v) = some l') (hp : pc + 1 = pc') (G : own_Go p e below s Q K N (T.setTop (mkF m pc' l' (st)))) : own_Go p e below s Q K N (T.setTop (mkF m pc Ls (.int v :: st))) := by
  subst hp; exact own_step (fun _ k => XS.istoreN X.here hx rfl hd rfl hl k) G
theorem g_istore (X : Stand p l e R s m args below meth c T locs cells slots) (hx : p.tables.exec = Jvm.exec) {pc : Nat} (pc' : Nat) {Ls : Array Slot} {k : Nat} {v : Int32} {st : List Value} {l' : Array Slot} (hd : decode c.code pc = .ok (.istore k, 2)) (hl : storeLocals Ls k (.int v) = some l') (hp : pc + 2 = pc') (G : own_Go p e below s Q K N (T.setTop (mkF m pc' l' (st)))) : own_Go p e below s Q K N (T.setTop (mkF m pc Ls (.int v :: st))) := by
  subst hp; exact own_step (fun _ k => XS.istore X.here hx rfl hd rfl hl k) G
theorem g_lload_n (X : Stand p l e R s m args below meth c T locs cells slots) (hx : p.tables.exec = Jvm.exec) {pc : Nat} (pc' : Nat) {Ls : Array Slot} {k : Fin 4} {v : Int64} {st : List Value} (hd : decode c.code pc = .ok (.lload_n k, 1)) (hl : Ls[k.val]? = some (.val (.long v))) (hp : pc + 1 = pc') (G : own_Go p e below s Q K N (T.setTop (mkF m pc' Ls (.long v :: st)))) : own_Go p e below s Q K N (T.setTop (mkF m pc Ls (st))) := by
  subst hp; exact own_step (fun _ k => XS.lloadN X.here hx rfl hd hl k) G
theorem g_lload (X : Stand p l e R s m args below meth c T locs cells slots) (hx : p.tables.exec = Jvm.exec) {pc : Nat} (pc' : Nat) {Ls : Array Slot} {k : Nat} {v : Int64} {st : List Value} (hd : decode c.code pc = .ok (.lload k, 2)) (hl : Ls[k]? = some (.val (.long v))) (hp : pc + 2 = pc') (G : own_Go p e below s Q K N (T.setTop (mkF m pc' Ls (.long v :: st)))) : own_Go p e below s Q K N (T.setTop (mkF m pc Ls (st))) := by
  subst hp; exact own_step (fun _ k => XS.lload X.here hx rfl hd hl k) G
theorem g_lstore_n (X : Stand p l e R s m args below meth c T locs cells slots) (hx : p.tables.exec = Jvm.exec) {pc : Nat} (pc' : Nat) {Ls : Array Slot} {k : Fin 4} {v : Int64} {st : List Value} {l' : Array Slot} (hd : decode c.code pc = .ok (.lstore_n k, 1)) (hl : storeLocals Ls k.val (.long v) = some l') (hp : pc + 1 = pc') (G : own_Go p e below s Q K N (T.setTop (mkF m pc' l' (st)))) : own_Go p e below s Q K N (T.setTop (mkF m pc Ls (.long v :: st))) := by
  subst hp; exact own_step (fun _ k => XS.lstoreN X.here hx rfl hd rfl hl k) G
theorem g_lstore (X : Stand p l e R s m args below meth c T locs cells slots) (hx : p.tables.exec = Jvm.exec) {pc : Nat} (pc' : Nat) {Ls : Array Slot} {k : Nat} {v : Int64} {st : List Value} {l' : Array Slot} (hd : decode c.code pc = .ok (.lstore k, 2)) (hl : storeLocals Ls k (.long v) = some l') (hp : pc + 2 = pc') (G : own_Go p e below s Q K N (T.setTop (mkF m pc' l' (st)))) : own_Go p e below s Q K N (T.setTop (mkF m pc Ls (.long v :: st))) := by
  subst hp; exact own_step (fun _ k => XS.lstore X.here hx rfl hd rfl hl k) G
theorem g_aload_n (X : Stand p l e R s m args below meth c T locs cells slots) (hx : p.tables.exec = Jvm.exec) {pc : Nat} (pc' : Nat) {Ls : Array Slot} {k : Fin 4} {v : Value} {st : List Value} (hd : decode c.code pc = .ok (.aload_n k, 1)) (hl : Ls[k.val]? = some (.val v)) (hv : v.isRef = true) (hp : pc + 1 = pc') (G : own_Go p e below s Q K N (T.setTop (mkF m pc' Ls (v :: st)))) : own_Go p e below s Q K N (T.setTop (mkF m pc Ls (st))) := by
  subst hp; exact own_step (fun _ k => XS.aloadN X.here hx rfl hd hl hv k) G
theorem g_aload (X : Stand p l e R s m args below meth c T locs cells slots) (hx : p.tables.exec = Jvm.exec) {pc : Nat} (pc' : Nat) {Ls : Array Slot} {k : Nat} {v : Value} {st : List Value} (hd : decode c.code pc = .ok (.aload k, 2)) (hl : Ls[k]? = some (.val v)) (hv : v.isRef = true) (hp : pc + 2 = pc') (G : own_Go p e below s Q K N (T.setTop (mkF m pc' Ls (v :: st)))) : own_Go p e below s Q K N (T.setTop (mkF m pc Ls (st))) := by
  subst hp; exact own_step (fun _ k => XS.aload X.here hx rfl hd hl hv k) G
theorem g_astore_n (X : Stand p l e R s m args below meth c T locs cells slots) (hx : p.tables.exec = Jvm.exec) {pc : Nat} (pc' : Nat) {Ls : Array Slot} {k : Fin 4} {v : Value} {st : List Value} {l' : Array Slot} (hd : decode c.code pc = .ok (.astore_n k, 1)) (hv : v.isRef = true) (hl : storeLocals Ls k.val v = some l') (hp : pc + 1 = pc') (G : own_Go p e below s Q K N (T.setTop (mkF m pc' l' (st)))) : own_Go p e below s Q K N (T.setTop (mkF m pc Ls (v :: st))) := by
  subst hp; exact own_step (fun _ k => XS.astoreN X.here hx rfl hd rfl hv hl k) G
theorem g_astore (X : Stand p l e R s m args below meth c T locs cells slots) (hx : p.tables.exec = Jvm.exec) {pc : Nat} (pc' : Nat) {Ls : Array Slot} {k : Nat} {v : Value} {st : List Value} {l' : Array Slot} (hd : decode c.code pc = .ok (.astore k, 2)) (hv : v.isRef = true) (hl : storeLocals Ls k v = some l') (hp : pc + 2 = pc') (G : own_Go p e below s Q K N (T.setTop (mkF m pc' l' (st)))) : own_Go p e below s Q K N (T.setTop (mkF m pc Ls (v :: st))) := by
  subst hp; exact own_step (fun _ k => XS.astore X.here hx rfl hd rfl hv hl k) G
theorem g_iconst (X : Stand p l e R s m args below meth c T locs cells slots) (hx : p.tables.exec = Jvm.exec) {pc : Nat} (pc' : Nat) {Ls : Array Slot} {i : Int} {st : List Value} (hd : decode c.code pc = .ok (.iconst i, 1)) (z : Int32) (hz : Int32.ofInt i = z) (hp : pc + 1 = pc') (G : own_Go p e below s Q K N (T.setTop (mkF m pc' Ls (.int z :: st)))) : own_Go p e below s Q K N (T.setTop (mkF m pc Ls st)) := by
  subst hp hz; exact own_step (fun _ k => XS.iconst X.here hx rfl hd k) G
theorem g_bipush (X : Stand p l e R s m args below meth c T locs cells slots) (hx : p.tables.exec = Jvm.exec) {pc : Nat} (pc' : Nat) {Ls : Array Slot} {i : Int} {st : List Value} (hd : decode c.code pc = .ok (.bipush i, 2)) (z : Int32) (hz : (Int8.ofInt i).toInt32 = z) (hp : pc + 2 = pc') (G : own_Go p e below s Q K N (T.setTop (mkF m pc' Ls (.int z :: st)))) : own_Go p e below s Q K N (T.setTop (mkF m pc Ls st)) := by
  subst hp hz; exact own_step (fun _ k => XS.bipush X.here hx rfl hd k) G
theorem g_sipush (X : Stand p l e R s m args below meth c T locs cells slots) (hx : p.tables.exec = Jvm.exec) {pc : Nat} (pc' : Nat) {Ls : Array Slot} {i : Int} {st : List Value} (hd : decode c.code pc = .ok (.sipush i, 3)) (z : Int32) (hz : (Int16.ofInt i).toInt32 = z) (hp : pc + 3 = pc') (G : own_Go p e below s Q K N (T.setTop (mkF m pc' Ls (.int z :: st)))) : own_Go p e below s Q K N (T.setTop (mkF m pc Ls st)) := by
  subst hp hz; exact own_step (fun _ k => XS.sipush X.here hx rfl hd k) G
theorem g_lconst (X : Stand p l e R s m args below meth c T locs cells slots) (hx : p.tables.exec = Jvm.exec) {pc : Nat} (pc' : Nat) {Ls : Array Slot} {i : Fin 2} {st : List Value} (hd : decode c.code pc = .ok (.lconst i, 1)) (z : Int64) (hz : Int64.ofNat i.val = z) (hp : pc + 1 = pc') (G : own_Go p e below s Q K N (T.setTop (mkF m pc' Ls (.long z :: st)))) : own_Go p e below s Q K N (T.setTop (mkF m pc Ls st)) := by
  subst hp hz; exact own_step (fun _ k => XS.lconst X.here hx rfl hd k) G
theorem g_aconst_null (X : Stand p l e R s m args below meth c T locs cells slots) (hx : p.tables.exec = Jvm.exec) {pc : Nat} (pc' : Nat) {Ls : Array Slot} {st : List Value} (hd : decode c.code pc = .ok (.aconst_null, 1))  (hp : pc + 1 = pc') (G : own_Go p e below s Q K N (T.setTop (mkF m pc' Ls (.null :: st)))) : own_Go p e below s Q K N (T.setTop (mkF m pc Ls (st))) := by
  subst hp; exact own_step (fun _ k => XS.aconstNull X.here hx rfl hd k) G
theorem g_iadd (X : Stand p l e R s m args below meth c T locs cells slots) (hx : p.tables.exec = Jvm.exec) {pc : Nat} (pc' : Nat) {Ls : Array Slot} {x y : Int32} {st : List Value} (hd : decode c.code pc = .ok (.iadd, 1))  (hp : pc + 1 = pc') (G : own_Go p e below s Q K N (T.setTop (mkF m pc' Ls (.int (x + y) :: st)))) : own_Go p e below s Q K N (T.setTop (mkF m pc Ls (.int y :: .int x :: st))) := by
  subst hp; exact own_step (fun _ k => XS.iadd X.here hx rfl hd rfl k) G
theorem g_ladd (X : Stand p l e R s m args below meth c T locs cells slots) (hx : p.tables.exec = Jvm.exec) {pc : Nat} (pc' : Nat) {Ls : Array Slot} {x y : Int64} {st : List Value} (hd : decode c.code pc = .ok (.ladd, 1))  (hp : pc + 1 = pc') (G : own_Go p e below s Q K N (T.setTop (mkF m pc' Ls (.long (x + y) :: st)))) : own_Go p e below s Q K N (T.setTop (mkF m pc Ls (.long y :: .long x :: st))) := by
  subst hp; exact own_step (fun _ k => XS.ladd X.here hx rfl hd rfl k) G
theorem g_isub (X : Stand p l e R s m args below meth c T locs cells slots) (hx : p.tables.exec = Jvm.exec) {pc : Nat} (pc' : Nat) {Ls : Array Slot} {x y : Int32} {st : List Value} (hd : decode c.code pc = .ok (.isub, 1))  (hp : pc + 1 = pc') (G : own_Go p e below s Q K N (T.setTop (mkF m pc' Ls (.int (x - y) :: st)))) : own_Go p e below s Q K N (T.setTop (mkF m pc Ls (.int y :: .int x :: st))) := by
  subst hp; exact own_step (fun _ k => XS.isub X.here hx rfl hd rfl k) G
theorem g_lsub (X : Stand p l e R s m args below meth c T locs cells slots) (hx : p.tables.exec = Jvm.exec) {pc : Nat} (pc' : Nat) {Ls : Array Slot} {x y : Int64} {st : List Value} (hd : decode c.code pc = .ok (.lsub, 1))  (hp : pc + 1 = pc') (G : own_Go p e below s Q K N (T.setTop (mkF m pc' Ls (.long (x - y) :: st)))) : own_Go p e below s Q K N (T.setTop (mkF m pc Ls (.long y :: .long x :: st))) := by
  subst hp; exact own_step (fun _ k => XS.lsub X.here hx rfl hd rfl k) G
theorem g_imul (X : Stand p l e R s m args below meth c T locs cells slots) (hx : p.tables.exec = Jvm.exec) {pc : Nat} (pc' : Nat) {Ls : Array Slot} {x y : Int32} {st : List Value} (hd : decode c.code pc = .ok (.imul, 1))  (hp : pc + 1 = pc') (G : own_Go p e below s Q K N (T.setTop (mkF m pc' Ls (.int (x * y) :: st)))) : own_Go p e below s Q K N (T.setTop (mkF m pc Ls (.int y :: .int x :: st))) := by
  subst hp; exact own_step (fun _ k => XS.imul X.here hx rfl hd rfl k) G
theorem g_lmul (X : Stand p l e R s m args below meth c T locs cells slots) (hx : p.tables.exec = Jvm.exec) {pc : Nat} (pc' : Nat) {Ls : Array Slot} {x y : Int64} {st : List Value} (hd : decode c.code pc = .ok (.lmul, 1))  (hp : pc + 1 = pc') (G : own_Go p e below s Q K N (T.setTop (mkF m pc' Ls (.long (x * y) :: st)))) : own_Go p e below s Q K N (T.setTop (mkF m pc Ls (.long y :: .long x :: st))) := by
  subst hp; exact own_step (fun _ k => XS.lmul X.here hx rfl hd rfl k) G
theorem g_iand (X : Stand p l e R s m args below meth c T locs cells slots) (hx : p.tables.exec = Jvm.exec) {pc : Nat} (pc' : Nat) {Ls : Array Slot} {x y : Int32} {st : List Value} (hd : decode c.code pc = .ok (.iand, 1))  (hp : pc + 1 = pc') (G : own_Go p e below s Q K N (T.setTop (mkF m pc' Ls (.int (x &&& y) :: st)))) : own_Go p e below s Q K N (T.setTop (mkF m pc Ls (.int y :: .int x :: st))) := by
  subst hp; exact own_step (fun _ k => XS.iand X.here hx rfl hd rfl k) G
theorem g_land (X : Stand p l e R s m args below meth c T locs cells slots) (hx : p.tables.exec = Jvm.exec) {pc : Nat} (pc' : Nat) {Ls : Array Slot} {x y : Int64} {st : List Value} (hd : decode c.code pc = .ok (.land, 1))  (hp : pc + 1 = pc') (G : own_Go p e below s Q K N (T.setTop (mkF m pc' Ls (.long (x &&& y) :: st)))) : own_Go p e below s Q K N (T.setTop (mkF m pc Ls (.long y :: .long x :: st))) := by
  subst hp; exact own_step (fun _ k => XS.land X.here hx rfl hd rfl k) G
theorem g_ior (X : Stand p l e R s m args below meth c T locs cells slots) (hx : p.tables.exec = Jvm.exec) {pc : Nat} (pc' : Nat) {Ls : Array Slot} {x y : Int32} {st : List Value} (hd : decode c.code pc = .ok (.ior, 1))  (hp : pc + 1 = pc') (G : own_Go p e below s Q K N (T.setTop (mkF m pc' Ls (.int (x ||| y) :: st)))) : own_Go p e below s Q K N (T.setTop (mkF m pc Ls (.int y :: .int x :: st))) := by
  subst hp; exact own_step (fun _ k => XS.ior X.here hx rfl hd rfl k) G
theorem g_lor (X : Stand p l e R s m args below meth c T locs cells slots) (hx : p.tables.exec = Jvm.exec) {pc : Nat} (pc' : Nat) {Ls : Array Slot} {x y : Int64} {st : List Value} (hd : decode c.code pc = .ok (.lor, 1))  (hp : pc + 1 = pc') (G : own_Go p e below s Q K N (T.setTop (mkF m pc' Ls (.long (x ||| y) :: st)))) : own_Go p e below s Q K N (T.setTop (mkF m pc Ls (.long y :: .long x :: st))) := by
  subst hp; exact own_step (fun _ k => XS.lor X.here hx rfl hd rfl k) G
theorem g_ixor (X : Stand p l e R s m args below meth c T locs cells slots) (hx : p.tables.exec = Jvm.exec) {pc : Nat} (pc' : Nat) {Ls : Array Slot} {x y : Int32} {st : List Value} (hd : decode c.code pc = .ok (.ixor, 1))  (hp : pc + 1 = pc') (G : own_Go p e below s Q K N (T.setTop (mkF m pc' Ls (.int (x ^^^ y) :: st)))) : own_Go p e below s Q K N (T.setTop (mkF m pc Ls (.int y :: .int x :: st))) := by
  subst hp; exact own_step (fun _ k => XS.ixor X.here hx rfl hd rfl k) G
theorem g_lxor (X : Stand p l e R s m args below meth c T locs cells slots) (hx : p.tables.exec = Jvm.exec) {pc : Nat} (pc' : Nat) {Ls : Array Slot} {x y : Int64} {st : List Value} (hd : decode c.code pc = .ok (.lxor, 1))  (hp : pc + 1 = pc') (G : own_Go p e below s Q K N (T.setTop (mkF m pc' Ls (.long (x ^^^ y) :: st)))) : own_Go p e below s Q K N (T.setTop (mkF m pc Ls (.long y :: .long x :: st))) := by
  subst hp; exact own_step (fun _ k => XS.lxor X.here hx rfl hd rfl k) G
theorem g_ineg (X : Stand p l e R s m args below meth c T locs cells slots) (hx : p.tables.exec = Jvm.exec) {pc : Nat} (pc' : Nat) {Ls : Array Slot} {x : Int32} {st : List Value} (hd : decode c.code pc = .ok (.ineg, 1))  (hp : pc + 1 = pc') (G : own_Go p e below s Q K N (T.setTop (mkF m pc' Ls (.int (-x) :: st)))) : own_Go p e below s Q K N (T.setTop (mkF m pc Ls (.int x :: st))) := by
  subst hp; exact own_step (fun _ k => XS.ineg X.here hx rfl hd rfl k) G
theorem g_lneg (X : Stand p l e R s m args below meth c T locs cells slots) (hx : p.tables.exec = Jvm.exec) {pc : Nat} (pc' : Nat) {Ls : Array Slot} {x : Int64} {st : List Value} (hd : decode c.code pc = .ok (.lneg, 1))  (hp : pc + 1 = pc') (G : own_Go p e below s Q K N (T.setTop (mkF m pc' Ls (.long (-x) :: st)))) : own_Go p e below s Q K N (T.setTop (mkF m pc Ls (.long x :: st))) := by
  subst hp; exact own_step (fun _ k => XS.lneg X.here hx rfl hd rfl k) G
theorem g_i2l (X : Stand p l e R s m args below meth c T locs cells slots) (hx : p.tables.exec = Jvm.exec) {pc : Nat} (pc' : Nat) {Ls : Array Slot} {x : Int32} {st : List Value} (hd : decode c.code pc = .ok (.i2l, 1))  (hp : pc + 1 = pc') (G : own_Go p e below s Q K N (T.setTop (mkF m pc' Ls (.long (x.toInt64) :: st)))) : own_Go p e below s Q K N (T.setTop (mkF m pc Ls (.int x :: st))) := by
  subst hp; exact own_step (fun _ k => XS.i2l X.here hx rfl hd rfl k) G
theorem g_l2i (X : Stand p l e R s m args below meth c T locs cells slots) (hx : p.tables.exec = Jvm.exec) {pc : Nat} (pc' : Nat) {Ls : Array Slot} {x : Int64} {st : List Value} (hd : decode c.code pc = .ok (.l2i, 1))  (hp : pc + 1 = pc') (G : own_Go p e below s Q K N (T.setTop (mkF m pc' Ls (.int (x.toInt32) :: st)))) : own_Go p e below s Q K N (T.setTop (mkF m pc Ls (.long x :: st))) := by
  subst hp; exact own_step (fun _ k => XS.l2i X.here hx rfl hd rfl k) G
theorem g_i2b (X : Stand p l e R s m args below meth c T locs cells slots) (hx : p.tables.exec = Jvm.exec) {pc : Nat} (pc' : Nat) {Ls : Array Slot} {x : Int32} {st : List Value} (hd : decode c.code pc = .ok (.i2b, 1))  (hp : pc + 1 = pc') (G : own_Go p e below s Q K N (T.setTop (mkF m pc' Ls (.int (x.toInt8.toInt32) :: st)))) : own_Go p e below s Q K N (T.setTop (mkF m pc Ls (.int x :: st))) := by
  subst hp; exact own_step (fun _ k => XS.i2b X.here hx rfl hd rfl k) G
theorem g_i2s (X : Stand p l e R s m args below meth c T locs cells slots) (hx : p.tables.exec = Jvm.exec) {pc : Nat} (pc' : Nat) {Ls : Array Slot} {x : Int32} {st : List Value} (hd : decode c.code pc = .ok (.i2s, 1))  (hp : pc + 1 = pc') (G : own_Go p e below s Q K N (T.setTop (mkF m pc' Ls (.int (x.toInt16.toInt32) :: st)))) : own_Go p e below s Q K N (T.setTop (mkF m pc Ls (.int x :: st))) := by
  subst hp; exact own_step (fun _ k => XS.i2s X.here hx rfl hd rfl k) G
theorem g_i2c (X : Stand p l e R s m args below meth c T locs cells slots) (hx : p.tables.exec = Jvm.exec) {pc : Nat} (pc' : Nat) {Ls : Array Slot} {x : Int32} {st : List Value} (hd : decode c.code pc = .ok (.i2c, 1))  (hp : pc + 1 = pc') (G : own_Go p e below s Q K N (T.setTop (mkF m pc' Ls (.int (x.toUInt32.toUInt16.toUInt32.toInt32) :: st)))) : own_Go p e below s Q K N (T.setTop (mkF m pc Ls (.int x :: st))) := by
  subst hp; exact own_step (fun _ k => XS.i2c X.here hx rfl hd rfl k) G
theorem g_ishl (X : Stand p l e R s m args below meth c T locs cells slots) (hx : p.tables.exec = Jvm.exec) {pc : Nat} (pc' : Nat) {Ls : Array Slot} {x : Int32} {y : Int32} {st : List Value} (hd : decode c.code pc = .ok (.ishl, 1))  (hp : pc + 1 = pc') (G : own_Go p e below s Q K N (T.setTop (mkF m pc' Ls (.int (x <<< (y &&& 31)) :: st)))) : own_Go p e below s Q K N (T.setTop (mkF m pc Ls (.int y :: .int x :: st))) := by
  subst hp; exact own_step (fun _ k => XS.ishl X.here hx rfl hd rfl k) G
theorem g_ishr (X : Stand p l e R s m args below meth c T locs cells slots) (hx : p.tables.exec = Jvm.exec) {pc : Nat} (pc' : Nat) {Ls : Array Slot} {x : Int32} {y : Int32} {st : List Value} (hd : decode c.code pc = .ok (.ishr, 1))  (hp : pc + 1 = pc') (G : own_Go p e below s Q K N (T.setTop (mkF m pc' Ls (.int (x >>> (y &&& 31)) :: st)))) : own_Go p e below s Q K N (T.setTop (mkF m pc Ls (.int y :: .int x :: st))) := by
  subst hp; exact own_step (fun _ k => XS.ishr X.here hx rfl hd rfl k) G
theorem g_iushr (X : Stand p l e R s m args below meth c T locs cells slots) (hx : p.tables.exec = Jvm.exec) {pc : Nat} (pc' : Nat) {Ls : Array Slot} {x : Int32} {y : Int32} {st : List Value} (hd : decode c.code pc = .ok (.iushr, 1))  (hp : pc + 1 = pc') (G : own_Go p e below s Q K N (T.setTop (mkF m pc' Ls (.int ((x.toUInt32 >>> (y &&& 31).toUInt32).toInt32) :: st)))) : own_Go p e below s Q K N (T.setTop (mkF m pc Ls (.int y :: .int x :: st))) := by
  subst hp; exact own_step (fun _ k => XS.iushr X.here hx rfl hd rfl k) G
theorem g_lshl (X : Stand p l e R s m args below meth c T locs cells slots) (hx : p.tables.exec = Jvm.exec) {pc : Nat} (pc' : Nat) {Ls : Array Slot} {x : Int64} {y : Int32} {st : List Value} (hd : decode c.code pc = .ok (.lshl, 1))  (hp : pc + 1 = pc') (G : own_Go p e below s Q K N (T.setTop (mkF m pc' Ls (.long (x <<< (y &&& 0x3f).toInt64) :: st)))) : own_Go p e below s Q K N (T.setTop (mkF m pc Ls (.int y :: .long x :: st))) := by
  subst hp; exact own_step (fun _ k => XS.lshl X.here hx rfl hd rfl k) G
theorem g_lshr (X : Stand p l e R s m args below meth c T locs cells slots) (hx : p.tables.exec = Jvm.exec) {pc : Nat} (pc' : Nat) {Ls : Array Slot} {x : Int64} {y : Int32} {st : List Value} (hd : decode c.code pc = .ok (.lshr, 1))  (hp : pc + 1 = pc') (G : own_Go p e below s Q K N (T.setTop (mkF m pc' Ls (.long (x >>> (y &&& 0x3f).toInt64) :: st)))) : own_Go p e below s Q K N (T.setTop (mkF m pc Ls (.int y :: .long x :: st))) := by
  subst hp; exact own_step (fun _ k => XS.lshr X.here hx rfl hd rfl k) G
theorem g_lushr (X : Stand p l e R s m args below meth c T locs cells slots) (hx : p.tables.exec = Jvm.exec) {pc : Nat} (pc' : Nat) {Ls : Array Slot} {x : Int64} {y : Int32} {st : List Value} (hd : decode c.code pc = .ok (.lushr, 1))  (hp : pc + 1 = pc') (G : own_Go p e below s Q K N (T.setTop (mkF m pc' Ls (.long ((x.toUInt64 >>> (y &&& 0x3f).toInt64.toUInt64).toInt64) :: st)))) : own_Go p e below s Q K N (T.setTop (mkF m pc Ls (.int y :: .long x :: st))) := by
  subst hp; exact own_step (fun _ k => XS.lushr X.here hx rfl hd rfl k) G
theorem g_lcmp (X : Stand p l e R s m args below meth c T locs cells slots) (hx : p.tables.exec = Jvm.exec) {pc : Nat} (pc' : Nat) {Ls : Array Slot} {x y : Int64} {st : List Value} (hd : decode c.code pc = .ok (.lcmp, 1))  (hp : pc + 1 = pc') (G : own_Go p e below s Q K N (T.setTop (mkF m pc' Ls (.int (lcmpW x y) :: st)))) : own_Go p e below s Q K N (T.setTop (mkF m pc Ls (.long y :: .long x :: st))) := by
  subst hp; exact own_step (fun _ k => XS.lcmp X.here hx rfl hd rfl k) G
theorem g_idiv (X : Stand p l e R s m args below meth c T locs cells slots) (hx : p.tables.exec = Jvm.exec) {pc : Nat} (pc' : Nat) {Ls : Array Slot} {x y : Int32} {st : List Value} (hd : decode c.code pc = .ok (.idiv, 1)) (hp : pc + 1 = pc') (hy : y ≠ 0) (G : own_Go p e below s Q K N (T.setTop (mkF m pc' Ls (.int (x / y) :: st)))) : own_Go p e below s Q K N (T.setTop (mkF m pc Ls (.int y :: .int x :: st))) := by
  subst hp; exact own_step (fun _ k => XS.idiv X.here hx rfl hd rfl hy k) G
theorem g_ldiv (X : Stand p l e R s m args below meth c T locs cells slots) (hx : p.tables.exec = Jvm.exec) {pc : Nat} (pc' : Nat) {Ls : Array Slot} {x y : Int64} {st : List Value} (hd : decode c.code pc = .ok (.ldiv, 1)) (hp : pc + 1 = pc') (hy : y ≠ 0) (G : own_Go p e below s Q K N (T.setTop (mkF m pc' Ls (.long (x / y) :: st)))) : own_Go p e below s Q K N (T.setTop (mkF m pc Ls (.long y :: .long x :: st))) := by
  subst hp; exact own_step (fun _ k => XS.ldiv X.here hx rfl hd rfl hy k) G
theorem g_irem (X : Stand p l e R s m args below meth c T locs cells slots) (hx : p.tables.exec = Jvm.exec) {pc : Nat} (pc' : Nat) {Ls : Array Slot} {x y : Int32} {st : List Value} (hd : decode c.code pc = .ok (.irem, 1)) (hp : pc + 1 = pc') (hy : y ≠ 0) (G : own_Go p e below s Q K N (T.setTop (mkF m pc' Ls (.int (x % y) :: st)))) : own_Go p e below s Q K N (T.setTop (mkF m pc Ls (.int y :: .int x :: st))) := by
  subst hp; exact own_step (fun _ k => iremM X hx rfl hd rfl hy k) G
theorem g_lrem (X : Stand p l e R s m args below meth c T locs cells slots) (hx : p.tables.exec = Jvm.exec) {pc : Nat} (pc' : Nat) {Ls : Array Slot} {x y : Int64} {st : List Value} (hd : decode c.code pc = .ok (.lrem, 1)) (hp : pc + 1 = pc') (hy : y ≠ 0) (G : own_Go p e below s Q K N (T.setTop (mkF m pc' Ls (.long (x % y) :: st)))) : own_Go p e below s Q K N (T.setTop (mkF m pc Ls (.long y :: .long x :: st))) := by
  subst hp; rw [← lrem_mod] at G; exact own_step (fun _ k => XS.lrem X.here hx rfl hd rfl hy k) G
theorem g_iinc (X : Stand p l e R s m args below meth c T locs cells slots) (hx : p.tables.exec = Jvm.exec) {pc : Nat} (pc' : Nat) {Ls : Array Slot} {k : Nat} {cst : Int} {x z : Int32} {l' : Array Slot} {st : List Value} (hd : decode c.code pc = .ok (.iinc k cst, 3)) (hl : Ls[k]? = some (.val (.int x))) (hz : x + Int32.ofInt cst = z) (hl' : storeLocals Ls k (.int z) = some l') (hp : pc + 3 = pc') (G : own_Go p e below s Q K N (T.setTop (mkF m pc' l' st))) : own_Go p e below s Q K N (T.setTop (mkF m pc Ls st)) := by
  subst hp hz; exact own_step (fun _ k => XS.iinc X.here hx rfl hd hl hl' k) G
theorem g_dup (X : Stand p l e R s m args below meth c T locs cells slots) (hx : p.tables.exec = Jvm.exec) {pc : Nat} (pc' : Nat) {Ls : Array Slot} {x : Value} {st : List Value} (hd : decode c.code pc = .ok (.dup, 1)) (hc : x.category = 1) (hp : pc + 1 = pc') (G : own_Go p e below s Q K N (T.setTop (mkF m pc' Ls (x :: x :: st)))) : own_Go p e below s Q K N (T.setTop (mkF m pc Ls (x :: st))) := by
  subst hp; exact own_step (fun _ k => XS.dup X.here hx rfl hd rfl hc k) G
theorem g_pop (X : Stand p l e R s m args below meth c T locs cells slots) (hx : p.tables.exec = Jvm.exec) {pc : Nat} (pc' : Nat) {Ls : Array Slot} {x : Value} {st : List Value} (hd : decode c.code pc = .ok (.pop, 1)) (hc : x.category = 1) (hp : pc + 1 = pc') (G : own_Go p e below s Q K N (T.setTop (mkF m pc' Ls (st)))) : own_Go p e below s Q K N (T.setTop (mkF m pc Ls (x :: st))) := by
  subst hp; exact own_step (fun _ k => XS.pop X.here hx rfl hd rfl hc k) G
theorem g_dup_x1 (X : Stand p l e R s m args below meth c T locs cells slots) (hx : p.tables.exec = Jvm.exec) {pc : Nat} (pc' : Nat) {Ls : Array Slot} {x y : Value} {st : List Value} (hd : decode c.code pc = .ok (.dup_x1, 1)) (hc : x.category = 1) (hc' : y.category = 1) (hp : pc + 1 = pc') (G : own_Go p e below s Q K N (T.setTop (mkF m pc' Ls (x :: y :: x :: st)))) : own_Go p e below s Q K N (T.setTop (mkF m pc Ls (x :: y :: st))) := by
  subst hp; exact own_step (fun _ k => XS.dupX1 X.here hx rfl hd rfl hc hc' k) G
theorem g_dup2 (X : Stand p l e R s m args below meth c T locs cells slots) (hx : p.tables.exec = Jvm.exec) {pc : Nat} (pc' : Nat) {Ls : Array Slot} {x y : Value} {st : List Value} (hd : decode c.code pc = .ok (.dup2, 1)) (hc : x.category = 1) (hc' : y.category = 1) (hp : pc + 1 = pc') (G : own_Go p e below s Q K N (T.setTop (mkF m pc' Ls (x :: y :: x :: y :: st)))) : own_Go p e below s Q K N (T.setTop (mkF m pc Ls (x :: y :: st))) := by
  subst hp; exact own_step (fun _ k => XT.dup2 X.here hx rfl hd rfl hc hc' k) G
theorem g_dup2L (X : Stand p l e R s m args below meth c T locs cells slots) (hx : p.tables.exec = Jvm.exec) {pc : Nat} (pc' : Nat) {Ls : Array Slot} {x : Int64} {st : List Value} (hd : decode c.code pc = .ok (.dup2, 1))  (hp : pc + 1 = pc') (G : own_Go p e below s Q K N (T.setTop (mkF m pc' Ls (.long x :: .long x :: st)))) : own_Go p e below s Q K N (T.setTop (mkF m pc Ls (.long x :: st))) := by
  subst hp; exact own_step (fun _ k => XT.dup2L X.here hx rfl hd rfl k) G
theorem g_goto (X : Stand p l e R s m args below meth c T locs cells slots) (hx : p.tables.exec = Jvm.exec) {pc : Nat} (pc' : Nat) {Ls : Array Slot} {o : Int} {st : List Value} (hd : decode c.code pc = .ok (.goto o, 3)) (ho : 0 ≤ (pc : Int) + o) (hp : ((pc : Int) + o).toNat = pc') (G : own_Go p e below s Q K N (T.setTop (mkF m pc' Ls st))) : own_Go p e below s Q K N (T.setTop (mkF m pc Ls st)) :=
  own_step (fun _ k => XS.goto X.here hx rfl rfl hd ho hp k) G
theorem g_ifYes (X : Stand p l e R s m args below meth c T locs cells slots) (hx : p.tables.exec = Jvm.exec) {pc : Nat} (pc' : Nat) {Ls : Array Slot} {cd : ClassFile.Cond} {x : Int32} {o : Int} {st : List Value} (hd : decode c.code pc = .ok (.ifCond cd o, 3)) (hc : ifCond.holds cd x = true) (ho : 0 ≤ (pc : Int) + o) (hp : ((pc : Int) + o).toNat = pc') (G : own_Go p e below s Q K N (T.setTop (mkF m pc' Ls st))) : own_Go p e below s Q K N (T.setTop (mkF m pc Ls (.int x :: st))) :=
  own_step (fun _ k => XS.ifYes X.here hx rfl rfl hd rfl hc ho hp k) G
theorem g_ifNo (X : Stand p l e R s m args below meth c T locs cells slots) (hx : p.tables.exec = Jvm.exec) {pc : Nat} (pc' : Nat) {Ls : Array Slot} {cd : ClassFile.Cond} {x : Int32} {o : Int} {st : List Value} (hd : decode c.code pc = .ok (.ifCond cd o, 3)) (hc : ifCond.holds cd x = false) (hp : pc + 3 = pc') (G : own_Go p e below s Q K N (T.setTop (mkF m pc' Ls st))) : own_Go p e below s Q K N (T.setTop (mkF m pc Ls (.int x :: st))) := by
  subst hp; exact own_step (fun _ k => XS.ifNo X.here hx rfl hd rfl hc k) G
theorem g_icmpYes (X : Stand p l e R s m args below meth c T locs cells slots) (hx : p.tables.exec = Jvm.exec) {pc : Nat} (pc' : Nat) {Ls : Array Slot} {cd : ClassFile.Cond} {x y : Int32} {o : Int} {st : List Value} (hd : decode c.code pc = .ok (.if_icmp cd o, 3)) (hc : if_icmp.holds cd x y = true) (ho : 0 ≤ (pc : Int) + o) (hp : ((pc : Int) + o).toNat = pc') (G : own_Go p e below s Q K N (T.setTop (mkF m pc' Ls st))) : own_Go p e below s Q K N (T.setTop (mkF m pc Ls (.int y :: .int x :: st))) :=
  own_step (fun _ k => XS.icmpYes X.here hx rfl rfl hd rfl hc ho hp k) G
theorem g_icmpNo (X : Stand p l e R s m args below meth c T locs cells slots) (hx : p.tables.exec = Jvm.exec) {pc : Nat} (pc' : Nat) {Ls : Array Slot} {cd : ClassFile.Cond} {x y : Int32} {o : Int} {st : List Value} (hd : decode c.code pc = .ok (.if_icmp cd o, 3)) (hc : if_icmp.holds cd x y = false) (hp : pc + 3 = pc') (G : own_Go p e below s Q K N (T.setTop (mkF m pc' Ls st))) : own_Go p e below s Q K N (T.setTop (mkF m pc Ls (.int y :: .int x :: st))) := by
  subst hp; exact own_step (fun _ k => XS.icmpNo X.here hx rfl hd rfl hc k) G
theorem g_ifnullYes (X : Stand p l e R s m args below meth c T locs cells slots) (hx : p.tables.exec = Jvm.exec) {pc : Nat} (pc' : Nat) {Ls : Array Slot} {o : Int} {st : List Value} (hd : decode c.code pc = .ok (.ifnull o, 3)) (ho : 0 ≤ (pc : Int) + o) (hp : ((pc : Int) + o).toNat = pc') (G : own_Go p e below s Q K N (T.setTop (mkF m pc' Ls st))) : own_Go p e below s Q K N (T.setTop (mkF m pc Ls (.null :: st))) :=
  own_step (fun _ k => XS.ifnullYes X.here hx rfl rfl hd rfl ho hp k) G
theorem g_ifnullNo (X : Stand p l e R s m args below meth c T locs cells slots) (hx : p.tables.exec = Jvm.exec) {pc : Nat} (pc' : Nat) {Ls : Array Slot} {b : Addr} {o : Int} {st : List Value} (hd : decode c.code pc = .ok (.ifnull o, 3)) (hp : pc + 3 = pc') (G : own_Go p e below s Q K N (T.setTop (mkF m pc' Ls st))) : own_Go p e below s Q K N (T.setTop (mkF m pc Ls (.ref b :: st))) := by
  subst hp; exact own_step (fun _ k => XS.ifnullNo X.here hx rfl hd rfl k) G
theorem g_ifnonnullYes (X : Stand p l e R s m args below meth c T locs cells slots) (hx : p.tables.exec = Jvm.exec) {pc : Nat} (pc' : Nat) {Ls : Array Slot} {b : Addr} {o : Int} {st : List Value} (hd : decode c.code pc = .ok (.ifnonnull o, 3)) (ho : 0 ≤ (pc : Int) + o) (hp : ((pc : Int) + o).toNat = pc') (G : own_Go p e below s Q K N (T.setTop (mkF m pc' Ls st))) : own_Go p e below s Q K N (T.setTop (mkF m pc Ls (.ref b :: st))) :=
  own_step (fun _ k => XS.ifnonnullYes X.here hx rfl rfl hd rfl ho hp k) G
theorem g_ifnonnullNo (X : Stand p l e R s m args below meth c T locs cells slots) (hx : p.tables.exec = Jvm.exec) {pc : Nat} (pc' : Nat) {Ls : Array Slot} {o : Int} {st : List Value} (hd : decode c.code pc = .ok (.ifnonnull o, 3)) (hp : pc + 3 = pc') (G : own_Go p e below s Q K N (T.setTop (mkF m pc' Ls st))) : own_Go p e below s Q K N (T.setTop (mkF m pc Ls (.null :: st))) := by
  subst hp; exact own_step (fun _ k => XS.ifnonnullNo X.here hx rfl hd rfl k) G
theorem g_acmp (X : Stand p l e R s m args below meth c T locs cells slots) (hx : p.tables.exec = Jvm.exec) {pc : Nat} {Ls : Array Slot} {cd : ACond} {x y : Value} {o : Int} {st : List Value} {same : Bool} (pc' : Nat) (hd : decode c.code pc = .ok (.if_acmp cd o, 3)) (h1 : x.isRef = true) (h2 : y.isRef = true) (hq : decide (x = y) = same) (ho : 0 ≤ (pc : Int) + o) (hp : pc' = if acV cd same = true then ((pc : Int) + o).toNat else pc + 3) (G : own_Go p e below s Q K N (T.setTop (mkF m pc' Ls st))) : own_Go p e below s Q K N (T.setTop (mkF m pc Ls (y :: x :: st))) :=
  own_step (fun _ k => Jvm.RoadKit.acmp X hx rfl h1 h2 rfl hd rfl hq ho hp k) G
theorem g_ldc (X : Stand p l e R s m args below meth c T locs cells slots) (hx : p.tables.exec = Jvm.exec) {own : String} (hown : s.vm.findClass own = some m.cls) {pc : Nat} (pc' : Nat) {Ls : Array Slot} {i : Nat} {z : Int32} {st : List Value} (hw : (Jvm.Cond.constant own i z).before args s = true) (hd : decode c.code pc = .ok (.ldc i, 2)) (hp : pc + 2 = pc') (G : own_Go p e below s Q K N (T.setTop (mkF m pc' Ls (.int z :: st)))) : own_Go p e below s Q K N (T.setTop (mkF m pc Ls st)) := by
  subst hp; exact own_step (fun _ k => X.ldcInt hx hown hw (g := mkF m pc Ls st) rfl hd _ k) G
theorem g_ldc_w (X : Stand p l e R s m args below meth c T locs cells slots) (hx : p.tables.exec = Jvm.exec) {own : String} (hown : s.vm.findClass own = some m.cls) {pc : Nat} (pc' : Nat) {Ls : Array Slot} {i : Nat} {z : Int32} {st : List Value} (hw : (Jvm.Cond.constant own i z).before args s = true) (hd : decode c.code pc = .ok (.ldc_w i, 3)) (hp : pc + 3 = pc') (G : own_Go p e below s Q K N (T.setTop (mkF m pc' Ls (.int z :: st)))) : own_Go p e below s Q K N (T.setTop (mkF m pc Ls st)) := by
  subst hp; exact own_step (fun _ k => X.ldcwInt hx hown hw (g := mkF m pc Ls st) rfl hd _ k) G
theorem g_ldc2_w (X : Stand p l e R s m args below meth c T locs cells slots) (hx : p.tables.exec = Jvm.exec) {own : String} (hown : s.vm.findClass own = some m.cls) {pc : Nat} (pc' : Nat) {Ls : Array Slot} {i : Nat} {z : Int64} {st : List Value} (hw : (Jvm.Cond.constantLong own i z).before args s = true) (hd : decode c.code pc = .ok (.ldc2_w i, 3)) (hp : pc + 3 = pc') (G : own_Go p e below s Q K N (T.setTop (mkF m pc' Ls (.long z :: st)))) : own_Go p e below s Q K N (T.setTop (mkF m pc Ls st)) := by
  subst hp; exact own_step (fun _ k => X.ldc2Long hx hown hw (g := mkF m pc Ls st) rfl hd _ k) G
theorem g_tswIn (X : Stand p l e R s m args below meth c T locs cells slots) (hx : p.tables.exec = Jvm.exec) {pc : Nat} (pc' : Nat) {Ls : Array Slot} {dflt low high : Int} {offs : Array Int} {len : Nat} {o : Int} {i : Int32} {st : List Value} (hd : decode c.code pc = .ok (.tableswitch dflt low high offs, len)) (hin : ¬ (i.toInt < low ∨ i.toInt > high)) (hoff : offs[(i.toInt - low).toNat]? = some o) (ho : 0 ≤ (pc : Int) + o) (hp : ((pc : Int) + o).toNat = pc') (G : own_Go p e below s Q K N (T.setTop (mkF m pc' Ls st))) : own_Go p e below s Q K N (T.setTop (mkF m pc Ls (.int i :: st))) :=
  own_step (fun _ k => XS.tswIn X.here hx rfl rfl hd rfl hin hoff ho hp k) G
theorem g_tswOut (X : Stand p l e R s m args below meth c T locs cells slots) (hx : p.tables.exec = Jvm.exec) {pc : Nat} (pc' : Nat) {Ls : Array Slot} {dflt low high : Int} {offs : Array Int} {len : Nat} {i : Int32} {st : List Value} (hd : decode c.code pc = .ok (.tableswitch dflt low high offs, len)) (hout : i.toInt < low ∨ i.toInt > high) (ho : 0 ≤ (pc : Int) + dflt) (hp : ((pc : Int) + dflt).toNat = pc') (G : own_Go p e below s Q K N (T.setTop (mkF m pc' Ls st))) : own_Go p e below s Q K N (T.setTop (mkF m pc Ls (.int i :: st))) :=
  own_step (fun _ k => XS.tswOut X.here hx rfl rfl hd rfl hout ho hp k) G
theorem own_ii_eq_t {x y : Int32} (h : x = y) : if_icmp.holds .eq x y = true := XT.ii_eq_t h
theorem own_i0_eq_t {x : Int32} (h : x = 0) : ifCond.holds .eq x = true := XT.i0_eq_t h
theorem own_ll_eq_t {x y : Int64} (h : x = y) : ifCond.holds .eq (lcmpW x y) = true := XT.ll_eq_t h
theorem own_ii_eq_f {x y : Int32} (h : ¬ (x = y)) : if_icmp.holds .eq x y = false := XT.ii_eq_f h
theorem own_i0_eq_f {x : Int32} (h : ¬ (x = 0)) : ifCond.holds .eq x = false := XT.i0_eq_f h
theorem own_ll_eq_f {x y : Int64} (h : ¬ (x = y)) : ifCond.holds .eq (lcmpW x y) = false := XT.ll_eq_f h
theorem own_ii_ne_t {x y : Int32} (h : ¬ (x = y)) : if_icmp.holds .ne x y = true := XT.ii_ne_t h
theorem own_i0_ne_t {x : Int32} (h : ¬ (x = 0)) : ifCond.holds .ne x = true := XT.i0_ne_t h
theorem own_ll_ne_t {x y : Int64} (h : ¬ (x = y)) : ifCond.holds .ne (lcmpW x y) = true := XT.ll_ne_t h
theorem own_ii_ne_f {x y : Int32} (h : x = y) : if_icmp.holds .ne x y = false := XT.ii_ne_f h
theorem own_i0_ne_f {x : Int32} (h : x = 0) : ifCond.holds .ne x = false := XT.i0_ne_f h
theorem own_ll_ne_f {x y : Int64} (h : x = y) : ifCond.holds .ne (lcmpW x y) = false := XT.ll_ne_f h
theorem own_ii_lt_t {x y : Int32} (h : x < y) : if_icmp.holds .lt x y = true := XT.ii_lt_t h
theorem own_i0_lt_t {x : Int32} (h : x < 0) : ifCond.holds .lt x = true := XT.i0_lt_t h
theorem own_ll_lt_t {x y : Int64} (h : x < y) : ifCond.holds .lt (lcmpW x y) = true := XT.ll_lt_t h
theorem own_ii_lt_f {x y : Int32} (h : ¬ (x < y)) : if_icmp.holds .lt x y = false := XT.ii_lt_f h
theorem own_i0_lt_f {x : Int32} (h : ¬ (x < 0)) : ifCond.holds .lt x = false := XT.i0_lt_f h
theorem own_ll_lt_f {x y : Int64} (h : ¬ (x < y)) : ifCond.holds .lt (lcmpW x y) = false := XT.ll_lt_f h
theorem own_ii_ge_t {x y : Int32} (h : ¬ (x < y)) : if_icmp.holds .ge x y = true := XT.ii_ge_t h
theorem own_i0_ge_t {x : Int32} (h : ¬ (x < 0)) : ifCond.holds .ge x = true := XT.i0_ge_t h
theorem own_ll_ge_t {x y : Int64} (h : ¬ (x < y)) : ifCond.holds .ge (lcmpW x y) = true := XT.ll_ge_t h
theorem own_ii_ge_f {x y : Int32} (h : x < y) : if_icmp.holds .ge x y = false := XT.ii_ge_f h
theorem own_i0_ge_f {x : Int32} (h : x < 0) : ifCond.holds .ge x = false := XT.i0_ge_f h
theorem own_ll_ge_f {x y : Int64} (h : x < y) : ifCond.holds .ge (lcmpW x y) = false := XT.ll_ge_f h
theorem own_ii_gt_t {x y : Int32} (h : y < x) : if_icmp.holds .gt x y = true := XT.ii_gt_t h
theorem own_i0_gt_t {x : Int32} (h : 0 < x) : ifCond.holds .gt x = true := XT.i0_gt_t h
theorem own_ll_gt_t {x y : Int64} (h : y < x) : ifCond.holds .gt (lcmpW x y) = true := XT.ll_gt_t h
theorem own_ii_gt_f {x y : Int32} (h : ¬ (y < x)) : if_icmp.holds .gt x y = false := XT.ii_gt_f h
theorem own_i0_gt_f {x : Int32} (h : ¬ (0 < x)) : ifCond.holds .gt x = false := XT.i0_gt_f h
theorem own_ll_gt_f {x y : Int64} (h : ¬ (y < x)) : ifCond.holds .gt (lcmpW x y) = false := XT.ll_gt_f h
theorem own_ii_le_t {x y : Int32} (h : ¬ (y < x)) : if_icmp.holds .le x y = true := XT.ii_le_t h
theorem own_i0_le_t {x : Int32} (h : ¬ (0 < x)) : ifCond.holds .le x = true := XT.i0_le_t h
theorem own_ll_le_t {x y : Int64} (h : ¬ (y < x)) : ifCond.holds .le (lcmpW x y) = true := XT.ll_le_t h
theorem own_ii_le_f {x y : Int32} (h : y < x) : if_icmp.holds .le x y = false := XT.ii_le_f h
theorem own_i0_le_f {x : Int32} (h : 0 < x) : ifCond.holds .le x = false := XT.i0_le_f h
theorem own_ll_le_f {x y : Int64} (h : y < x) : ifCond.holds .le (lcmpW x y) = false := XT.ll_le_f h
theorem own_getF (X : Stand p l e R s m args below meth c T locs cells slots) (hx : p.tables.exec = Jvm.exec) {Z : State} {a0 : Array Value} {h : Heap} (hZ : Z.Warmed39 s.vm) {own : String} (hown : s.vm.findClass own = some m.cls) {R0 O n d host : String} {index : Nat} (w : (Jvm.Cond.fieldLink own index R0 n d).before a0 Z = true ∨ (Jvm.Cond.fieldLinkNest own index R0 n d host).before a0 Z = true) (via : Via Z R0 O n d) (eT : T.heap = h) {a : Addr} {v : Value} (F : Fld Z h a O n d v) {pc : Nat} (pc' : Nat) {Ls : Array Slot} {rest : List Value} (hd : decode c.code pc = .ok (.getfield index, 3)) (hp : pc + 3 = pc') (k : ∀ T', Stand p l e R s m args below meth c T' locs cells slots → T'.heap = h → own_Go p e below s Q K N (T'.setTop (mkF m pc' Ls (v :: rest)))) : own_Go p e below s Q K N (T.setTop (mkF m pc Ls (.ref a :: rest))) := by
  subst hp
  obtain ⟨T', X', e', st⟩ := getF X hx hZ hown w via eT F (g := mkF m pc Ls (.ref a :: rest)) rfl rfl hd
  exact own_step st (k T' X' e')
theorem own_getS (X : Stand p l e R s m args below meth c T locs cells slots) (hx : p.tables.exec = Jvm.exec) {Z : State} {a0 : Array Value} {h : Heap} (hZ : Z.Warmed39 s.vm) {own : String} (hown : s.vm.findClass own = some m.cls) {R0 O n d host : String} {index : Nat} (w : (Jvm.Cond.fieldLink own index R0 n d).before a0 Z = true ∨ (Jvm.Cond.fieldLinkNest own index R0 n d host).before a0 Z = true) (via : Via Z R0 O n d) (eT : T.heap = h) {v : Value} (F : Sta Z h O n d v) {pc : Nat} (pc' : Nat) {Ls : Array Slot} {rest : List Value} (hd : decode c.code pc = .ok (.getstatic index, 3)) (hp : pc + 3 = pc') (k : ∀ T', Stand p l e R s m args below meth c T' locs cells slots → T'.heap = h → own_Go p e below s Q K N (T'.setTop (mkF m pc' Ls (v :: rest)))) : own_Go p e below s Q K N (T.setTop (mkF m pc Ls rest)) := by
  subst hp
  obtain ⟨T', X', e', st⟩ := getS2 X hx hZ hown w via eT F (g := mkF m pc Ls rest) rfl hd
  exact own_step st (k T' X' e')
theorem own_putF (X : Stand p l e R s m args below meth c T locs cells slots) (hx : p.tables.exec = Jvm.exec) {Z : State} {a0 : Array Value} {h : Heap} (hZ : Z.Warmed39 s.vm) {own : String} (hown : s.vm.findClass own = some m.cls) {R0 O n d host : String} {index : Nat} (w : (Jvm.Cond.fieldLink own index R0 n d).before a0 Z = true ∨ (Jvm.Cond.fieldLinkNest own index R0 n d host).before a0 Z = true) (via : Via Z R0 O n d) (eT : T.heap = h) {a : Addr} {v old : Value} (F : Fld Z h a O n d old) {C : String} {kk : Nat} {ty : FieldType} (E : Exa Z h a C) (L : (Jvm.Cond.lays C O n d).before a0 Z = true ∨ ((Jvm.Cond.laysFinal C O n d).before a0 Z = true ∧ own = O ∧ meth.name = "<init>")) (wi : (Jvm.Cond.instantiable C kk).before a0 Z = true) (hty : parseFieldDescriptor d = some ty) (hn : narrow ty v = v) (hf : fits ty v = true) {pc : Nat} (pc' : Nat) {Ls : Array Slot} {rest : List Value} (hd : decode c.code pc = .ok (.putfield index, 3)) (hp : pc + 3 = pc') (k : ∀ T' h', Stand p l e R s m args below meth c T' (locs ++ [⟨a, Jvm.RoadKit.slotOf Z O n d⟩]) cells slots → T'.heap = h' → Wr h h' a (Jvm.RoadKit.slotOf Z O n d) v → own_Go p e below s Q K N (T'.setTop (mkF m pc' Ls rest))) : own_Go p e below s Q K N (T.setTop (mkF m pc Ls (v :: .ref a :: rest))) := by
  subst hp
  obtain ⟨T', h', X', e', W', st⟩ := putF X hx hZ hown w via eT F E L wi hty hn hf (g := mkF m pc Ls (v :: .ref a :: rest)) rfl rfl hd
  exact own_step st (k T' h' X' e' W')
theorem own_putFN (X : Stand p l e R s m args below meth c T locs cells slots) (hx : p.tables.exec = Jvm.exec) {Z : State} {a0 : Array Value} {h : Heap} (hZ : Z.Warmed39 s.vm) {own : String} (hown : s.vm.findClass own = some m.cls) {R0 O n d : String} {index : Nat} (w : (Jvm.Cond.fieldLink own index R0 n d).before a0 Z = true) (via : Via Z R0 O n d) (eT : T.heap = h) {a : Addr} {v old : Value} (v' : Value) (F : Fld Z h a O n d old) {C : String} {kk : Nat} {ty : FieldType} (E : Exa Z h a C) (L : (Jvm.Cond.lays C O n d).before a0 Z = true ∨ ((Jvm.Cond.laysFinal C O n d).before a0 Z = true ∧ own = O ∧ meth.name = "<init>")) (wi : (Jvm.Cond.instantiable C kk).before a0 Z = true) (hty : parseFieldDescriptor d = some ty) (hn : narrow ty v = v') (hf : fits ty v' = true) {pc : Nat} (pc' : Nat) {Ls : Array Slot} {rest : List Value} (hd : decode c.code pc = .ok (.putfield index, 3)) (hp : pc + 3 = pc') (k : ∀ T' h', Stand p l e R s m args below meth c T' (locs ++ [⟨a, Jvm.RoadKit.slotOf Z O n d⟩]) cells slots → T'.heap = h' → Wr h h' a (Jvm.RoadKit.slotOf Z O n d) v' → own_Go p e below s Q K N (T'.setTop (mkF m pc' Ls rest))) : own_Go p e below s Q K N (T.setTop (mkF m pc Ls (v :: .ref a :: rest))) := by
  subst hp
  obtain ⟨T', h', X', e', W', st⟩ := putFN X hx hZ hown w via eT F E L wi hty hn hf (g := mkF m pc Ls (v :: .ref a :: rest)) rfl rfl hd
  exact own_step st (k T' h' X' e' W')
theorem own_newO (X : Stand p l e R s m args below meth c T locs cells slots) (hx : p.tables.exec = Jvm.exec) {Z : State} {a0 : Array Value} {h : Heap} (hZ : Z.Warmed39 s.vm) {own : String} (hown : s.vm.findClass own = some m.cls) {C : String} {index n : Nat} (w : (Jvm.Cond.classLink own index C).before a0 Z = true) (wi : (Jvm.Cond.instantiable C n).before a0 Z = true) (wz : (Jvm.Cond.initialized C).before a0 Z = true) (eT : T.heap = h) {pc : Nat} (pc' : Nat) {Ls : Array Slot} {rest : List Value} (hd : decode c.code pc = .ok (.new index, 3)) (hp : pc + 3 = pc') (hc : cells + 1 ≤ R.cells) (hl : slots + n ≤ R.slots)
    (k : ∀ T' h' b, Stand p l e R s m args below meth c T' locs (cells + 1) (slots + n) → T'.heap = h' → b = h.size → Ext h h' → Exa Z h' b C → (∀ {O nm d : String} {ty : FieldType}, Laid Z a0 C O nm d → parseFieldDescriptor d = some ty → Fld Z h' b O nm d (defaultValue ty)) → own_Go p e below s Q K N (T'.setTop (mkF m pc' Ls (.ref b :: rest)))) : own_Go p e below s Q K N (T.setTop (mkF m pc Ls rest)) := by
  subst hp
  obtain ⟨T', h', X', e', E', A', D', -, st⟩ := newO X hx hZ hown w wi wz eT (g := mkF m pc Ls rest) rfl hd hc hl
  exact own_step st (k T' h' _ X' e' rfl E' A' D')
theorem own_newP (X : Stand p l e R s m args below meth c T locs cells slots) (hx : p.tables.exec = Jvm.exec) {Z : State} {a0 : Array Value} {h : Heap} (hZ : Z.Warmed39 s.vm) {aty : ArrayType} (w : (Jvm.Cond.arrayClass (newarray.typeOf aty)).before a0 Z = true) (eT : T.heap = h) {n : Int32} {pc : Nat} (pc' : Nat) {Ls : Array Slot} {rest : List Value} (hd : decode c.code pc = .ok (.newarray aty, 2)) (hp : pc + 2 = pc') (hn : ¬ n < 0) (cap : Nat) (hcap : n.toNatClampNeg ≤ cap) (hb : cap * 8 ≤ 536870912) (hc : cells + 1 ≤ R.cells) (hl : slots + cap ≤ R.slots)
    (k : ∀ T' h' cA b, Stand p l e R s m args below meth c T' locs (cells + 1) (slots + cap) → T'.heap = h' → b = h.size → Ext h h' → Arr Z h' b (newA cA (newarray.typeOf aty) n) (newarray.typeOf aty) → own_Go p e below s Q K N (T'.setTop (mkF m pc' Ls (.ref b :: rest)))) : own_Go p e below s Q K N (T.setTop (mkF m pc Ls (.int n :: rest))) := by
  subst hp
  obtain ⟨T', h', cA, X', e', E', A', st⟩ := newP X hx hZ w eT (g := mkF m pc Ls (.int n :: rest)) rfl hd rfl hn hcap hb hc hl
  exact own_step st (k T' h' cA _ X' e' rfl E' A')
theorem own_newR (X : Stand p l e R s m args below meth c T locs cells slots) (hx : p.tables.exec = Jvm.exec) {Z : State} {a0 : Array Value} {h : Heap} (hZ : Z.Warmed39 s.vm) {own : String} (hown : s.vm.findClass own = some m.cls) {C : String} {index : Nat} (w1 : (Jvm.Cond.classLink own index C).before a0 Z = true) (w2 : (Jvm.Cond.arrayOver (.object C)).before a0 Z = true) (eT : T.heap = h) {n : Int32} {pc : Nat} (pc' : Nat) {Ls : Array Slot} {rest : List Value} (hd : decode c.code pc = .ok (.anewarray index, 3)) (hp : pc + 3 = pc') (hn : ¬ n < 0) (cap : Nat) (hcap : n.toNatClampNeg ≤ cap) (hb : cap * 8 ≤ 536870912) (hc : cells + 1 ≤ R.cells) (hl : slots + cap ≤ R.slots)
    (k : ∀ T' h' cA b, Stand p l e R s m args below meth c T' locs (cells + 1) (slots + cap) → T'.heap = h' → b = h.size → Ext h h' → Arr Z h' b (newA cA (.object C) n) (.object C) → Ovr Z cA C → own_Go p e below s Q K N (T'.setTop (mkF m pc' Ls (.ref b :: rest)))) : own_Go p e below s Q K N (T.setTop (mkF m pc Ls (.int n :: rest))) := by
  subst hp
  obtain ⟨T', h', cA, X', e', E', A', O', st⟩ := newR X hx hZ hown w1 w2 eT (g := mkF m pc Ls (.int n :: rest)) rfl hd rfl hn hcap hb hc hl
  exact own_step st (k T' h' cA _ X' e' rfl E' A' O')
theorem own_stI (X : Stand p l e R s m args below meth c T locs cells slots) (hx : p.tables.exec = Jvm.exec) {Z : State} {h : Heap} (hZ : Z.Warmed39 s.vm) (eT : T.heap = h) {a : Addr} {cl : Cell} (A : Arr Z h a cl .int) {j : Int32} {x : Int32} (hj : ¬ (j < 0 ∨ cl.slots.size ≤ j.toNatClampNeg)) {pc : Nat} (pc' : Nat) {Ls : Array Slot} {rest : List Value} (hd : decode c.code pc = .ok (.iastore, 1)) (hp : pc + 1 = pc') (k : ∀ T' h', Stand p l e R s m args below meth c T' (locs ++ [⟨a, j.toNatClampNeg⟩]) cells slots → T'.heap = h' → Wr h h' a j.toNatClampNeg (.int x) → own_Go p e below s Q K N (T'.setTop (mkF m pc' Ls rest))) : own_Go p e below s Q K N (T.setTop (mkF m pc Ls (.int x :: .int j :: .ref a :: rest))) := by
  subst hp
  obtain ⟨T', h', X', e', W', st⟩ := stI X hx hZ eT A hj (g := mkF m pc Ls (.int x :: .int j :: .ref a :: rest)) rfl rfl hd
  exact own_step st (k T' h' X' e' W')
theorem own_stC (X : Stand p l e R s m args below meth c T locs cells slots) (hx : p.tables.exec = Jvm.exec) {Z : State} {h : Heap} (hZ : Z.Warmed39 s.vm) (eT : T.heap = h) {a : Addr} {cl : Cell} (A : Arr Z h a cl .char) {j : Int32} {x : Int32} (hj : ¬ (j < 0 ∨ cl.slots.size ≤ j.toNatClampNeg)) {pc : Nat} (pc' : Nat) {Ls : Array Slot} {rest : List Value} (hd : decode c.code pc = .ok (.castore, 1)) (hp : pc + 1 = pc') (k : ∀ T' h', Stand p l e R s m args below meth c T' (locs ++ [⟨a, j.toNatClampNeg⟩]) cells slots → T'.heap = h' → Wr h h' a j.toNatClampNeg (.int (nar .char x)) → own_Go p e below s Q K N (T'.setTop (mkF m pc' Ls rest))) : own_Go p e below s Q K N (T.setTop (mkF m pc Ls (.int x :: .int j :: .ref a :: rest))) := by
  subst hp
  obtain ⟨T', h', X', e', W', st⟩ := stC X hx hZ eT A hj (g := mkF m pc Ls (.int x :: .int j :: .ref a :: rest)) rfl rfl hd
  exact own_step st (k T' h' X' e' W')
theorem own_stZ (X : Stand p l e R s m args below meth c T locs cells slots) (hx : p.tables.exec = Jvm.exec) {Z : State} {h : Heap} (hZ : Z.Warmed39 s.vm) (eT : T.heap = h) {a : Addr} {cl : Cell} (A : Arr Z h a cl .boolean) {j : Int32} {x : Int32} (hj : ¬ (j < 0 ∨ cl.slots.size ≤ j.toNatClampNeg)) {pc : Nat} (pc' : Nat) {Ls : Array Slot} {rest : List Value} (hd : decode c.code pc = .ok (.bastore, 1)) (hp : pc + 1 = pc') (k : ∀ T' h', Stand p l e R s m args below meth c T' (locs ++ [⟨a, j.toNatClampNeg⟩]) cells slots → T'.heap = h' → Wr h h' a j.toNatClampNeg (.int (nar .boolean x)) → own_Go p e below s Q K N (T'.setTop (mkF m pc' Ls rest))) : own_Go p e below s Q K N (T.setTop (mkF m pc Ls (.int x :: .int j :: .ref a :: rest))) := by
  subst hp
  obtain ⟨T', h', X', e', W', st⟩ := stZ X hx hZ eT A hj (g := mkF m pc Ls (.int x :: .int j :: .ref a :: rest)) rfl rfl hd
  exact own_step st (k T' h' X' e' W')
theorem own_stB (X : Stand p l e R s m args below meth c T locs cells slots) (hx : p.tables.exec = Jvm.exec) {Z : State} {h : Heap} (hZ : Z.Warmed39 s.vm) (eT : T.heap = h) {a : Addr} {cl : Cell} (A : Arr Z h a cl .byte) {j : Int32} {x : Int32} (hj : ¬ (j < 0 ∨ cl.slots.size ≤ j.toNatClampNeg)) {pc : Nat} (pc' : Nat) {Ls : Array Slot} {rest : List Value} (hd : decode c.code pc = .ok (.bastore, 1)) (hp : pc + 1 = pc') (k : ∀ T' h', Stand p l e R s m args below meth c T' (locs ++ [⟨a, j.toNatClampNeg⟩]) cells slots → T'.heap = h' → Wr h h' a j.toNatClampNeg (.int (nar .byte x)) → own_Go p e below s Q K N (T'.setTop (mkF m pc' Ls rest))) : own_Go p e below s Q K N (T.setTop (mkF m pc Ls (.int x :: .int j :: .ref a :: rest))) := by
  subst hp
  obtain ⟨T', h', X', e', W', st⟩ := stB X hx hZ eT A hj (g := mkF m pc Ls (.int x :: .int j :: .ref a :: rest)) rfl rfl hd
  exact own_step st (k T' h' X' e' W')
theorem own_stS (X : Stand p l e R s m args below meth c T locs cells slots) (hx : p.tables.exec = Jvm.exec) {Z : State} {h : Heap} (hZ : Z.Warmed39 s.vm) (eT : T.heap = h) {a : Addr} {cl : Cell} (A : Arr Z h a cl .short) {j : Int32} {x : Int32} (hj : ¬ (j < 0 ∨ cl.slots.size ≤ j.toNatClampNeg)) {pc : Nat} (pc' : Nat) {Ls : Array Slot} {rest : List Value} (hd : decode c.code pc = .ok (.sastore, 1)) (hp : pc + 1 = pc') (k : ∀ T' h', Stand p l e R s m args below meth c T' (locs ++ [⟨a, j.toNatClampNeg⟩]) cells slots → T'.heap = h' → Wr h h' a j.toNatClampNeg (.int (nar .short x)) → own_Go p e below s Q K N (T'.setTop (mkF m pc' Ls rest))) : own_Go p e below s Q K N (T.setTop (mkF m pc Ls (.int x :: .int j :: .ref a :: rest))) := by
  subst hp
  obtain ⟨T', h', X', e', W', st⟩ := stS X hx hZ eT A hj (g := mkF m pc Ls (.int x :: .int j :: .ref a :: rest)) rfl rfl hd
  exact own_step st (k T' h' X' e' W')
theorem own_stJ (X : Stand p l e R s m args below meth c T locs cells slots) (hx : p.tables.exec = Jvm.exec) {Z : State} {h : Heap} (hZ : Z.Warmed39 s.vm) (eT : T.heap = h) {a : Addr} {cl : Cell} (A : Arr Z h a cl .long) {j : Int32} {x : Int64} (hj : ¬ (j < 0 ∨ cl.slots.size ≤ j.toNatClampNeg)) {pc : Nat} (pc' : Nat) {Ls : Array Slot} {rest : List Value} (hd : decode c.code pc = .ok (.lastore, 1)) (hp : pc + 1 = pc') (k : ∀ T' h', Stand p l e R s m args below meth c T' (locs ++ [⟨a, j.toNatClampNeg⟩]) cells slots → T'.heap = h' → Wr h h' a j.toNatClampNeg (.long x) → own_Go p e below s Q K N (T'.setTop (mkF m pc' Ls rest))) : own_Go p e below s Q K N (T.setTop (mkF m pc Ls (.long x :: .int j :: .ref a :: rest))) := by
  subst hp
  obtain ⟨T', h', X', e', W', st⟩ := stJ X hx hZ eT A hj (g := mkF m pc Ls (.long x :: .int j :: .ref a :: rest)) rfl rfl hd
  exact own_step st (k T' h' X' e' W')
theorem own_stR (X : Stand p l e R s m args below meth c T locs cells slots) (hx : p.tables.exec = Jvm.exec) {Z : State} {h : Heap} (hZ : Z.Warmed39 s.vm) (eT : T.heap = h) {a : Addr} {cl : Cell} {ty : FieldType} (A : Arr Z h a cl ty) {j : Int32} {v : Value} (hj : ¬ (j < 0 ∨ cl.slots.size ≤ j.toNatClampNeg)) (hty : ty.isReference = true) (F : Sto Z h a v) {pc : Nat} (pc' : Nat) {Ls : Array Slot} {rest : List Value} (hd : decode c.code pc = .ok (.aastore, 1)) (hp : pc + 1 = pc') (k : ∀ T' h', Stand p l e R s m args below meth c T' (locs ++ [⟨a, j.toNatClampNeg⟩]) cells slots → T'.heap = h' → Wr h h' a j.toNatClampNeg v → own_Go p e below s Q K N (T'.setTop (mkF m pc' Ls rest))) : own_Go p e below s Q K N (T.setTop (mkF m pc Ls (v :: .int j :: .ref a :: rest))) := by
  subst hp
  obtain ⟨T', h', X', e', W', st⟩ := stR X hx hZ eT A hj hty F (g := mkF m pc Ls (v :: .int j :: .ref a :: rest)) rfl rfl hd
  exact own_step st (k T' h' X' e' W')
theorem own_iaload (X : Stand p l e R s m args below meth c T locs cells slots) (hx : p.tables.exec = Jvm.exec) {Z : State} {h : Heap} (hZ : Z.Warmed39 s.vm) (eT : T.heap = h) {a : Addr} {cl : Cell} (A : Arr Z h a cl .int) {j : Int32} {v : Value} (hj : ¬ (j < 0 ∨ cl.slots.size ≤ j.toNatClampNeg)) (hv : cl.slots[j.toNatClampNeg]? = some v) {pc : Nat} (pc' : Nat) {Ls : Array Slot} {rest : List Value} (hd : decode c.code pc = .ok (.iaload, 1)) (hp : pc + 1 = pc') (G : own_Go p e below s Q K N (T.setTop (mkF m pc' Ls (v :: rest)))) : own_Go p e below s Q K N (T.setTop (mkF m pc Ls (.int j :: .ref a :: rest))) := by
  subst hp eT
  exact own_step (X.iaload hx (j := j) (v := v) A.1 (State.isArrayOf_alike hZ.alike A.2.1) A.2.2 hj hv (g := mkF m pc Ls (.int j :: .ref a :: rest)) rfl rfl hd) G
theorem own_caload (X : Stand p l e R s m args below meth c T locs cells slots) (hx : p.tables.exec = Jvm.exec) {Z : State} {h : Heap} (hZ : Z.Warmed39 s.vm) (eT : T.heap = h) {a : Addr} {cl : Cell} (A : Arr Z h a cl .char) {j : Int32} {v : Value} (hj : ¬ (j < 0 ∨ cl.slots.size ≤ j.toNatClampNeg)) (hv : cl.slots[j.toNatClampNeg]? = some v) {pc : Nat} (pc' : Nat) {Ls : Array Slot} {rest : List Value} (hd : decode c.code pc = .ok (.caload, 1)) (hp : pc + 1 = pc') (G : own_Go p e below s Q K N (T.setTop (mkF m pc' Ls (v :: rest)))) : own_Go p e below s Q K N (T.setTop (mkF m pc Ls (.int j :: .ref a :: rest))) := by
  subst hp eT
  exact own_step (X.caload hx (j := j) (v := v) A.1 (State.isArrayOf_alike hZ.alike A.2.1) A.2.2 hj hv (g := mkF m pc Ls (.int j :: .ref a :: rest)) rfl rfl hd) G
theorem own_laload (X : Stand p l e R s m args below meth c T locs cells slots) (hx : p.tables.exec = Jvm.exec) {Z : State} {h : Heap} (hZ : Z.Warmed39 s.vm) (eT : T.heap = h) {a : Addr} {cl : Cell} (A : Arr Z h a cl .long) {j : Int32} {v : Value} (hj : ¬ (j < 0 ∨ cl.slots.size ≤ j.toNatClampNeg)) (hv : cl.slots[j.toNatClampNeg]? = some v) {pc : Nat} (pc' : Nat) {Ls : Array Slot} {rest : List Value} (hd : decode c.code pc = .ok (.laload, 1)) (hp : pc + 1 = pc') (G : own_Go p e below s Q K N (T.setTop (mkF m pc' Ls (v :: rest)))) : own_Go p e below s Q K N (T.setTop (mkF m pc Ls (.int j :: .ref a :: rest))) := by
  subst hp eT
  exact own_step (X.laload hx (j := j) (v := v) A.1 (State.isArrayOf_alike hZ.alike A.2.1) A.2.2 hj hv (g := mkF m pc Ls (.int j :: .ref a :: rest)) rfl rfl hd) G
theorem own_baloadB (X : Stand p l e R s m args below meth c T locs cells slots) (hx : p.tables.exec = Jvm.exec) {Z : State} {h : Heap} (hZ : Z.Warmed39 s.vm) (eT : T.heap = h) {a : Addr} {cl : Cell} (A : Arr Z h a cl .byte) {j : Int32} {v : Value} (hj : ¬ (j < 0 ∨ cl.slots.size ≤ j.toNatClampNeg)) (hv : cl.slots[j.toNatClampNeg]? = some v) {pc : Nat} (pc' : Nat) {Ls : Array Slot} {rest : List Value} (hd : decode c.code pc = .ok (.baload, 1)) (hp : pc + 1 = pc') (G : own_Go p e below s Q K N (T.setTop (mkF m pc' Ls (v :: rest)))) : own_Go p e below s Q K N (T.setTop (mkF m pc Ls (.int j :: .ref a :: rest))) := by
  subst hp eT
  exact own_step (X.baloadBytes hx (j := j) (v := v) A.1 (State.isArrayOf_alike hZ.alike A.2.1) A.2.2 hj hv (g := mkF m pc Ls (.int j :: .ref a :: rest)) rfl rfl hd) G
theorem own_baloadZ (X : Stand p l e R s m args below meth c T locs cells slots) (hx : p.tables.exec = Jvm.exec) {Z : State} {h : Heap} (hZ : Z.Warmed39 s.vm) (eT : T.heap = h) {a : Addr} {cl : Cell} (A : Arr Z h a cl .boolean) {j : Int32} {v : Value} (hj : ¬ (j < 0 ∨ cl.slots.size ≤ j.toNatClampNeg)) (hv : cl.slots[j.toNatClampNeg]? = some v) {pc : Nat} (pc' : Nat) {Ls : Array Slot} {rest : List Value} (hd : decode c.code pc = .ok (.baload, 1)) (hp : pc + 1 = pc') (G : own_Go p e below s Q K N (T.setTop (mkF m pc' Ls (v :: rest)))) : own_Go p e below s Q K N (T.setTop (mkF m pc Ls (.int j :: .ref a :: rest))) := by
  subst hp eT
  exact own_step (X.baloadBooleans hx (j := j) (v := v) A.1 (State.isArrayOf_alike hZ.alike A.2.1) A.2.2 hj hv (g := mkF m pc Ls (.int j :: .ref a :: rest)) rfl rfl hd) G
theorem own_aaload (X : Stand p l e R s m args below meth c T locs cells slots) (hx : p.tables.exec = Jvm.exec) {Z : State} {h : Heap} (hZ : Z.Warmed39 s.vm) (eT : T.heap = h) {a : Addr} {cl : Cell} {ty : FieldType} (hty : ty.isReference = true) (A : Arr Z h a cl ty) {j : Int32} {v : Value} (hj : ¬ (j < 0 ∨ cl.slots.size ≤ j.toNatClampNeg)) (hv : cl.slots[j.toNatClampNeg]? = some v) {pc : Nat} (pc' : Nat) {Ls : Array Slot} {rest : List Value} (hd : decode c.code pc = .ok (.aaload, 1)) (hp : pc + 1 = pc') (G : own_Go p e below s Q K N (T.setTop (mkF m pc' Ls (v :: rest)))) : own_Go p e below s Q K N (T.setTop (mkF m pc Ls (.int j :: .ref a :: rest))) := by
  subst hp eT
  exact own_step (X.aaload hx (j := j) (v := v) A.1 (State.isArrayOf_alike hZ.alike A.2.1) hty A.2.2 hj hv (g := mkF m pc Ls (.int j :: .ref a :: rest)) rfl rfl hd) G
theorem own_arraylength (X : Stand p l e R s m args below meth c T locs cells slots) (hx : p.tables.exec = Jvm.exec) {Z : State} {h : Heap} (hZ : Z.Warmed39 s.vm) (eT : T.heap = h) {a : Addr} {cl : Cell} {ty : FieldType} (A : Arr Z h a cl ty) {z : Int32} (hz : cl.slots.size = z.toNatClampNeg) (h0 : ¬ z < 0) {pc : Nat} (pc' : Nat) {Ls : Array Slot} {rest : List Value} (hd : decode c.code pc = .ok (.arraylength, 1)) (hp : pc + 1 = pc') (G : own_Go p e below s Q K N (T.setTop (mkF m pc' Ls (.int z :: rest)))) : own_Go p e below s Q K N (T.setTop (mkF m pc Ls (.ref a :: rest))) := by
  subst hp eT
  refine own_step (X.arraylength hx A.1 (State.isArrayOf_alike hZ.alike A.2.1) (g := mkF m pc Ls (.ref a :: rest)) rfl rfl hd) ?_
  rw [len_of hz h0]
  exact G
theorem own_initO (X : Stand p l e R s m args below meth c T locs cells slots) (hx : p.tables.exec = Jvm.exec) {Z : State} {a0 : Array Value} {h : Heap} (hZ : Z.Warmed39 s.vm) {own : String} (hown : s.vm.findClass own = some m.cls) {idx : Nat} (w1 : (Jvm.Cond.methodLink own idx Lib.objectInit).before a0 Z = true) (w2 : (Jvm.Cond.instanceMethod Lib.objectInit).before a0 Z = true) (w3 : (Jvm.Cond.code Lib.objectInit ⟨#[0xb1]⟩ 1 none).before a0 Z = true) (eT : T.heap = h) {a : Addr} {pc : Nat} (pc' : Nat) {Ls : Array Slot} {rest : List Value} (hsize : Ls.size = c.maxLocals) (hd : decode c.code pc = .ok (.invokespecial idx, 3)) (hp : pc + 3 = pc') (hf : 1 ≤ R.frames) (W : Nat) (hW : (rest.map fun v => v.category).sum = W) (hl : W + 12 ≤ R.locals) (k : ∀ T', Stand p l e R s m args below meth c T' locs cells slots → T'.heap = h → own_Go p e below s Q K N (T'.setTop (mkF m pc' Ls rest))) : own_Go p e below s Q K N (T.setTop (mkF m pc Ls (.ref a :: rest))) := by
  subst hp
  obtain ⟨T', X', e', st⟩ := initO X hx hZ hown w1 w2 w3 eT (g := mkF m pc Ls (.ref a :: rest)) rfl hsize rfl hd hf (W := W) (by show 2 * 0 + _ ≤ _; omega) hl
  exact own_step st (k T' X' e')
theorem own_callS (X : Stand p l e R s m args below meth c T locs cells slots) (hx : p.tables.exec = Jvm.exec) {Z : State} {a0 : Array Value} {h : Heap} (hZ : Z.Warmed39 s.vm) {own : String} (hown : s.vm.findClass own = some m.cls) {index : Nat} {y : MethodName} {bytes : ByteArray} {maxL : Nat} {ret : Option FieldType} {rm : Room} {as' : Array Value} {Q' : Option Value → Heap → List Loc → Prop} (w1 : (Jvm.Cond.methodLink own index y).before a0 Z = true) (w2 : (Jvm.Cond.static y).before a0 Z = true) (hy : y.cls ≠ "java/lang/invoke/MethodHandle" ∧ y.cls ≠ "java/lang/invoke/VarHandle") (hM : MetFree l y (head1 [Jvm.Cond.code y bytes maxL ret] rm) (fun a U => a = as' ∧ Z.Warmed39 U.vm ∧ U.heap = h) (fun _ _ _ _ _ => True) (fun _ U o U' => ∃ v L, o = .returned v ∧ Q' v U'.heap L ∧ FrameEnd U o U' L rm.cells rm.slots)) (wc : (Jvm.Cond.code y bytes maxL ret).before a0 Z = true) (wz : (Jvm.Cond.initialized y.cls).before a0 Z = true) (eT : T.heap = h) (W : Nat) (hf : rm.frames + 1 ≤ R.frames) (hl : W + (maxL + 11) + rm.locals ≤ R.locals) (hc : cells + rm.cells ≤ R.cells) (hs : slots + rm.slots ≤ R.slots) (argsL rest : List Value) (has : argsL.toArray = as') {ps : List FieldType} {rr : Option FieldType} (hpd : parseMethodDescriptor y.desc = some ⟨ps, rr⟩) (hlen : argsL.length = ps.length) {pc : Nat} (pc' : Nat) {Ls : Array Slot} {stk : List Value} (hstk : stk = argsL.reverse ++ rest) (hsize : Ls.size = c.maxLocals) (hW : (rest.map fun v => v.category).sum = W) (hd : decode c.code pc = .ok (.invokestatic index, 3)) (hp : pc + 3 = pc') (k : ∀ T' v L, Stand p l e R s m args below meth c T' (locs ++ L) (cells + rm.cells) (slots + rm.slots) → Q' v T'.heap L → own_Go p e below s Q K N (T'.setTop (mkF m pc' Ls (v.toList ++ rest)))) : own_Go p e below s Q K N (T.setTop (mkF m pc Ls stk)) := by
  subst hp hstk
  obtain ⟨v', _, ⟨T', L', k', n'⟩, -, X', ⟨Lc', hQ', l', y', z'⟩, st'⟩ := Jvm.LawKit.callS X hx (y := y) hown (mvT hZ w1) (mvT hZ w2) (mvT hZ wz) (mvT hZ wc) hy (backOf (W := W) hM hZ wc wz hf hl) (g := mkF m pc Ls (argsL.reverse ++ rest)) rfl hsize (argsL := argsL) (rest := rest) (lenOf hpd hlen) rfl (by show 2 * 0 + _ ≤ _; omega) hd (fun _ _ => ⟨has, eT, hc, hs⟩)
  dsimp only [Pt.U, Pt.locs, Pt.cells, Pt.slots] at X' l' y' z' st' hQ'
  subst l' y' z'
  exact own_step (fun t kk => st' _ kk) (k T' v' _ X' hQ')
theorem own_callI (X : Stand p l e R s m args below meth c T locs cells slots) (hx : p.tables.exec = Jvm.exec) {Z : State} {a0 : Array Value} {h : Heap} (hZ : Z.Warmed39 s.vm) {own : String} (hown : s.vm.findClass own = some m.cls) {index : Nat} {y : MethodName} {bytes : ByteArray} {maxL : Nat} {rm : Room} {as' : Array Value} {Q' : Option Value → Heap → List Loc → Prop} (hy1 : y.name = "<init>") (w1 : (Jvm.Cond.methodLink own index y).before a0 Z = true) (w2 : (Jvm.Cond.instanceMethod y).before a0 Z = true) (hy : y.cls ≠ "java/lang/invoke/MethodHandle" ∧ y.cls ≠ "java/lang/invoke/VarHandle") (hM : MetFree l y (head1 [Jvm.Cond.code y bytes maxL none] rm) (fun a U => a = as' ∧ Z.Warmed39 U.vm ∧ U.heap = h) (fun _ _ _ _ _ => True) (fun _ U o U' => ∃ v L, o = .returned v ∧ Q' v U'.heap L ∧ FrameEnd U o U' L rm.cells rm.slots)) (wc : (Jvm.Cond.code y bytes maxL none).before a0 Z = true) (wz : (Jvm.Cond.initialized y.cls).before a0 Z = true) (eT : T.heap = h) (W : Nat) (hf : rm.frames + 1 ≤ R.frames) (hl : W + (maxL + 11) + rm.locals ≤ R.locals) (hc : cells + rm.cells ≤ R.cells) (hs : slots + rm.slots ≤ R.slots) (a : Addr) (argsL rest : List Value) (has : (.ref a :: argsL).toArray = as') {ps : List FieldType} {rr : Option FieldType} (hpd : parseMethodDescriptor y.desc = some ⟨ps, rr⟩) (hlen : argsL.length = ps.length) {pc : Nat} (pc' : Nat) {Ls : Array Slot} {stk : List Value} (hstk : stk = argsL.reverse ++ .ref a :: rest) (hsize : Ls.size = c.maxLocals) (hW : (rest.map fun v => v.category).sum = W) (hd : decode c.code pc = .ok (.invokespecial index, 3)) (hp : pc + 3 = pc') (k : ∀ T' v L, Stand p l e R s m args below meth c T' (locs ++ L) (cells + rm.cells) (slots + rm.slots) → Q' v T'.heap L → own_Go p e below s Q K N (T'.setTop (mkF m pc' Ls (v.toList ++ rest)))) : own_Go p e below s Q K N (T.setTop (mkF m pc Ls stk)) := by
  subst hp hstk
  obtain ⟨v', _, ⟨T', L', k', n'⟩, -, X', ⟨Lc', hQ', l', y', z'⟩, st'⟩ := X.specialBack hx (y := y) hy1 hown (mvT hZ w1) (mvT hZ w2) (mvT hZ wc) hy (backOf (W := W) hM hZ wc wz hf hl) (g := mkF m pc Ls (argsL.reverse ++ .ref a :: rest)) rfl hsize (Steps.refl _) (a := a) (argsL := argsL) (rest := rest) (lenOf hpd hlen) rfl (by show 2 * 0 + _ ≤ _; omega) hd (fun _ _ => ⟨has, eT, hc, hs⟩)
  dsimp only [Pt.U, Pt.locs, Pt.cells, Pt.slots] at X' l' y' z' st' hQ'
  subst l' y' z'
  exact own_step (fun t kk => st'.trans kk) (k T' v' _ X' hQ')
theorem own_callV (X : Stand p l e R s m args below meth c T locs cells slots) (hx : p.tables.exec = Jvm.exec) {Z : State} {a0 : Array Value} {h : Heap} (hZ : Z.Warmed39 s.vm) {own : String} (hown : s.vm.findClass own = some m.cls) {C : String} {index : Nat} {y z : MethodName} {bytes : ByteArray} {maxL : Nat} {ret : Option FieldType} {rm : Room} {as' : Array Value} {Q' : Option Value → Heap → List Loc → Prop} (w1 : (Jvm.Cond.methodLink own index y).before a0 Z = true) (w2 : (Jvm.Cond.declares y).before a0 Z = true) (hnf : NotFace s y) (w3 : (Jvm.Cond.selects C y z).before a0 Z = true) (w4 : (Jvm.Cond.instanceMethod z).before a0 Z = true) (hy : y.cls ≠ "java/lang/invoke/MethodHandle" ∧ y.cls ≠ "java/lang/invoke/VarHandle") (hM : MetFree l z (head1 [Jvm.Cond.code z bytes maxL ret] rm) (fun a U => a = as' ∧ Z.Warmed39 U.vm ∧ U.heap = h) (fun _ _ _ _ _ => True) (fun _ U o U' => ∃ v L, o = .returned v ∧ Q' v U'.heap L ∧ FrameEnd U o U' L rm.cells rm.slots)) (wc : (Jvm.Cond.code z bytes maxL ret).before a0 Z = true) (wz : (Jvm.Cond.initialized z.cls).before a0 Z = true) (eT : T.heap = h) (W : Nat) (hf : rm.frames + 1 ≤ R.frames) (hl : W + (maxL + 11) + rm.locals ≤ R.locals) (hc : cells + rm.cells ≤ R.cells) (hs : slots + rm.slots ≤ R.slots) {a : Addr} (E : Exa Z h a C) (argsL rest : List Value) (has : (.ref a :: argsL).toArray = as') {ps : List FieldType} {rr : Option FieldType} (hpd : parseMethodDescriptor y.desc = some ⟨ps, rr⟩) (hlen : argsL.length = ps.length) {pc : Nat} (pc' : Nat) {Ls : Array Slot} {stk : List Value} (hstk : stk = argsL.reverse ++ .ref a :: rest) (hsize : Ls.size = c.maxLocals) (hW : (rest.map fun v => v.category).sum = W) (hd : decode c.code pc = .ok (.invokevirtual index, 3)) (hp : pc + 3 = pc') (k : ∀ T' v L, Stand p l e R s m args below meth c T' (locs ++ L) (cells + rm.cells) (slots + rm.slots) → Q' v T'.heap L → own_Go p e below s Q K N (T'.setTop (mkF m pc' Ls (v.toList ++ rest)))) : own_Go p e below s Q K N (T.setTop (mkF m pc Ls stk)) := by
  subst hp hstk
  obtain ⟨cq, kq, qa, qb, qc⟩ := isOf hZ eT E
  obtain ⟨v', _, ⟨T', L', k', n'⟩, -, X', ⟨Lc', hQ', l', y', z'⟩, st'⟩ := X.virtualBack hx (y := y) (z := z) hown (mvT hZ w1) (mvT hZ w2) hnf (mvT hZ w3) (mvT hZ w4) hy (backOf (W := W) hM hZ wc wz hf hl) qa qc (g := mkF m pc Ls (argsL.reverse ++ .ref a :: rest)) rfl hsize (Steps.refl _) (argsL := argsL) (rest := rest) (lenOf hpd hlen) rfl (by show 2 * 0 + _ ≤ _; omega) hd (fun _ _ => ⟨has, eT, hc, hs⟩)
  dsimp only [Pt.U, Pt.locs, Pt.cells, Pt.slots] at X' l' y' z' st' hQ'
  subst l' y' z'
  exact own_step (fun t kk => st'.trans kk) (k T' v' _ X' hQ')
theorem own_callU (X : Stand p l e R s m args below meth c T locs cells slots) (hx : p.tables.exec = Jvm.exec) {Z : State} {a0 : Array Value} {h : Heap} (hZ : Z.Warmed39 s.vm) {own : String} (hown : s.vm.findClass own = some m.cls) {C owner : String} {index : Nat} {y z : MethodName} {bytes : ByteArray} {maxL : Nat} {ret : Option FieldType} {rm : Room} {as' : Array Value} {Q' : Option Value → Heap → List Loc → Prop} (w1 : (Jvm.Cond.methodLink own index y).before a0 Z = true) (w5 : (Jvm.Cond.sameMethod y.cls owner y.name y.desc).before a0 Z = true) (w2 : (Jvm.Cond.declares ⟨owner, y.name, y.desc⟩).before a0 Z = true) (ho : owner ≠ "java/lang/invoke/MethodHandle" ∧ owner ≠ "java/lang/invoke/VarHandle") (w3 : (Jvm.Cond.selects C y z).before a0 Z = true) (w4 : (Jvm.Cond.instanceMethod z).before a0 Z = true) (hM : MetFree l z (head1 [Jvm.Cond.code z bytes maxL ret] rm) (fun a U => a = as' ∧ Z.Warmed39 U.vm ∧ U.heap = h) (fun _ _ _ _ _ => True) (fun _ U o U' => ∃ v L, o = .returned v ∧ Q' v U'.heap L ∧ FrameEnd U o U' L rm.cells rm.slots)) (wc : (Jvm.Cond.code z bytes maxL ret).before a0 Z = true) (wz : (Jvm.Cond.initialized z.cls).before a0 Z = true) (eT : T.heap = h) (W : Nat) (hf : rm.frames + 1 ≤ R.frames) (hl : W + (maxL + 11) + rm.locals ≤ R.locals) (hc : cells + rm.cells ≤ R.cells) (hs : slots + rm.slots ≤ R.slots) {a : Addr} (E : Exa Z h a C) (argsL rest : List Value) (has : (.ref a :: argsL).toArray = as') {ps : List FieldType} {rr : Option FieldType} (hpd : parseMethodDescriptor y.desc = some ⟨ps, rr⟩) (hlen : argsL.length = ps.length) {pc : Nat} (pc' : Nat) {Ls : Array Slot} {stk : List Value} (hstk : stk = argsL.reverse ++ .ref a :: rest) (hsize : Ls.size = c.maxLocals) (hW : (rest.map fun v => v.category).sum = W) (hd : decode c.code pc = .ok (.invokevirtual index, 3)) (hp : pc + 3 = pc') (k : ∀ T' v L, Stand p l e R s m args below meth c T' (locs ++ L) (cells + rm.cells) (slots + rm.slots) → Q' v T'.heap L → own_Go p e below s Q K N (T'.setTop (mkF m pc' Ls (v.toList ++ rest)))) : own_Go p e below s Q K N (T.setTop (mkF m pc Ls stk)) := by
  subst hp hstk
  obtain ⟨cq, kq, qa, qb, qc⟩ := isOf hZ eT E
  obtain ⟨v', _, ⟨T', L', k', n'⟩, -, X', ⟨Lc', hQ', l', y', z'⟩, st'⟩ := X.virtualBackUp hx (owner := owner) (x := y) (y := z) hown (mvT hZ w1) (mvT hZ w5) (mvT hZ w2) ho (mvT hZ w3) (mvT hZ w4) (backOf (W := W) hM hZ wc wz hf hl) qa qc (g := mkF m pc Ls (argsL.reverse ++ .ref a :: rest)) rfl hsize (Steps.refl _) (argsL := argsL) (rest := rest) (lenOf hpd hlen) rfl (by show 2 * 0 + _ ≤ _; omega) hd (fun _ _ => ⟨has, eT, hc, hs⟩)
  dsimp only [Pt.U, Pt.locs, Pt.cells, Pt.slots] at X' l' y' z' st' hQ'
  subst l' y' z'
  exact own_step (fun t kk => st'.trans kk) (k T' v' _ X' hQ')
theorem own_nf {C : String} {y : MethodName} {Z : State} {a0 : Array Value} (hZ : Z.Warmed39 s.vm) (w : (Jvm.Cond.selects C y y).before a0 Z = true) : NotFace s y := notFace_of_selects (args := #[]) (mvT hZ w)
theorem own_selfsel {K : String} {y y' : MethodName} (w : (Jvm.Cond.selects K y' y').before args s = true) (hK : y'.cls = y.cls) (hp : s.PrivateAt y) (hi : (Jvm.Cond.instanceMethod y).before args s = true) (hy : y.cls ≠ "java/lang/invoke/MethodHandle" ∧ y.cls ≠ "java/lang/invoke/VarHandle") : (Jvm.Cond.selects y.cls y y).before args s = true := by
  obtain ⟨c2, r2, m2, -, -, q3, -, kP, hkP, hkPi⟩ := Cond.selects_spec w
  exact selects_self_of_private (by rw [← hK]; exact findClass_of_methodNamed q3) hkP hkPi hp hi hy
theorem own_callP (X : Stand p l e R s m args below meth c T locs cells slots) (hx : p.tables.exec = Jvm.exec) {Z : State} {a0 : Array Value} {h : Heap} (hZ : Z.Warmed39 s.vm) {own : String} (hown : s.vm.findClass own = some m.cls) {C K' : String} {index : Nat} {y y' : MethodName} {bytes : ByteArray} {maxL : Nat} {ret : Option FieldType} {rm : Room} {as' : Array Value} {Q' : Option Value → Heap → List Loc → Prop} (w1 : (Jvm.Cond.methodLink own index y).before a0 Z = true) (w2 : (Jvm.Cond.instanceMethod y).before a0 Z = true) (w3 : (Jvm.Cond.selects K' y' y').before a0 Z = true) (hK : y'.cls = y.cls) (w4 : (Jvm.Cond.privateMethod y).before a0 Z = true) (hy : y.cls ≠ "java/lang/invoke/MethodHandle" ∧ y.cls ≠ "java/lang/invoke/VarHandle") (hM : MetFree l y (head1 [Jvm.Cond.code y bytes maxL ret] rm) (fun a U => a = as' ∧ Z.Warmed39 U.vm ∧ U.heap = h) (fun _ _ _ _ _ => True) (fun _ U o U' => ∃ v L, o = .returned v ∧ Q' v U'.heap L ∧ FrameEnd U o U' L rm.cells rm.slots)) (wc : (Jvm.Cond.code y bytes maxL ret).before a0 Z = true) (wz : (Jvm.Cond.initialized y.cls).before a0 Z = true) (eT : T.heap = h) (W : Nat) (hf : rm.frames + 1 ≤ R.frames) (hl : W + (maxL + 11) + rm.locals ≤ R.locals) (hc : cells + rm.cells ≤ R.cells) (hs : slots + rm.slots ≤ R.slots) {a : Addr} (E : Exa Z h a C) (argsL rest : List Value) (has : (.ref a :: argsL).toArray = as') {ps : List FieldType} {rr : Option FieldType} (hpd : parseMethodDescriptor y.desc = some ⟨ps, rr⟩) (hlen : argsL.length = ps.length) {pc : Nat} (pc' : Nat) {Ls : Array Slot} {stk : List Value} (hstk : stk = argsL.reverse ++ .ref a :: rest) (hsize : Ls.size = c.maxLocals) (hW : (rest.map fun v => v.category).sum = W) (hd : decode c.code pc = .ok (.invokevirtual index, 3)) (hp : pc + 3 = pc') (k : ∀ T' v L, Stand p l e R s m args below meth c T' (locs ++ L) (cells + rm.cells) (slots + rm.slots) → Q' v T'.heap L → own_Go p e below s Q K N (T'.setTop (mkF m pc' Ls (v.toList ++ rest)))) : own_Go p e below s Q K N (T.setTop (mkF m pc Ls stk)) := by
  subst hp hstk
  obtain ⟨cq, qa, qb⟩ := E.cell
  have hpr := Cond.privateMethod_at (mvP hZ w4 (args := args))
  obtain ⟨v', _, ⟨T', L', k', n'⟩, -, X', ⟨Lc', hQ', l', y', z'⟩, st'⟩ := X.privateBack hx (y := y) hown (mvT hZ w1) (mvT hZ w2) (own_selfsel (mvT hZ w3) hK hpr (mvT hZ w2) hy) hpr (mvT hZ wc) hy (backOf (W := W) hM hZ wc wz hf hl) (g := mkF m pc Ls (argsL.reverse ++ .ref a :: rest)) rfl hsize (Steps.refl _) (a := a) (by rw [eT]; exact qa) qb (argsL := argsL) (rest := rest) (lenOf hpd hlen) rfl (by show 2 * 0 + _ ≤ _; omega) hd (fun _ _ => ⟨has, eT, hc, hs⟩)
  dsimp only [Pt.U, Pt.locs, Pt.cells, Pt.slots] at X' l' y' z' st' hQ'
  subst l' y' z'
  exact own_step (fun t kk => st'.trans kk) (k T' v' _ X' hQ')
theorem own_cpA (X : Stand p l e R s m args below meth c T locs cells slots) (hx : p.tables.exec = Jvm.exec) {Z : State} {a0 : Array Value} {h : Heap} (hZ : Z.Warmed39 s.vm) {own : String} (hown : s.vm.findClass own = some m.cls) {index : Nat} (w1 : (Jvm.Cond.methodLink own index Jvm.Stand.acN).before a0 Z = true) (w2 : (Jvm.Cond.native Jvm.Stand.acN).before a0 Z = true) (w3 : (Jvm.Cond.static Jvm.Stand.acN).before a0 Z = true) (w4 : (Jvm.Cond.initialized "java/lang/System").before a0 Z = true) (eT : T.heap = h)
    {a b : Addr} {k k' : ClassId} {ty ty' : FieldType} {z z' sp dp nn : Int32} {vs vd : List Value} {dv dd : Value} (us : List Value) (A : Arv Z h a k ty z vs dv) (B : Arv Z h b k' ty' z' vd dd) (hty : (ty = ty' ∧ refKind ty = false) ∨ (refKind ty = true ∧ refKind ty' = true ∧ StoL Z h b us))
    (h1 : ¬ sp < 0) (h2 : ¬ dp < 0) (h3 : ¬ nn < 0) (h4 : sp.toNatClampNeg + nn.toNatClampNeg ≤ z.toNatClampNeg) (h5 : dp.toNatClampNeg + nn.toNatClampNeg ≤ z'.toNatClampNeg) (hus : us = (List.range nn.toNatClampNeg).map fun i => vs.getD (sp.toNatClampNeg + i) dv) (hl : dp.toNatClampNeg + nn.toNatClampNeg ≤ vd.length) {n0 : Nat} (Nf : Fr n0 locs) (ge : n0 ≤ b)
    {pc : Nat} (pc' : Nat) {Ls : Array Slot} {rest : List Value} (hsize : Ls.size = c.maxLocals) (hd : decode c.code pc = .ok (.invokestatic index, 3)) (hp : pc + 3 = pc') (hf : 1 ≤ R.frames) (W : Nat) (hW : (rest.map fun v => v.category).sum = W) (hlo : W + (nativeFrameWords "java/lang/System" "arraycopy" 5 + 11) ≤ R.locals)
    (kk : ∀ T' h' L, Stand p l e R s m args below meth c T' L cells slots → T'.heap = h' → Fr n0 L → Keep h h' [b] → Arv Z h' b k' ty' z' (vd.take dp.toNatClampNeg ++ us ++ vd.drop (dp.toNatClampNeg + nn.toNatClampNeg)) dd → own_Go p e below s Q K N (T'.setTop (mkF m pc' Ls rest))) : own_Go p e below s Q K N (T.setTop (mkF m pc Ls (.int nn :: .int dp :: .ref b :: .int sp :: .ref a :: rest))) := by
  subst hp
  obtain ⟨T', h', L', X', e', N', K', B', st⟩ := cpA X hx hZ hown w1 w2 w3 w4 eT A B hty h1 h2 h3 h4 h5 hus hl Nf ge (g := mkF m pc Ls (.int nn :: .int dp :: .ref b :: .int sp :: .ref a :: rest)) rfl hsize rfl hd hf (W := W) (by show 2 * 0 + _ ≤ _; omega) hlo
  exact own_step st (kk T' h' L' X' e' N' K' B')
theorem own_plainE {Z : State} {h : Heap} {a : Addr} {C : String} (E : Exa Z h a C) : ∀ cell : Cell, h[a]? = some cell → cell.vm.isStatics = false := fun cell hc => by
  obtain ⟨c', k', h1, -, -, h2, -⟩ := E
  cases h1.symm.trans hc; exact h2
theorem own_plainA {Z : State} {h : Heap} {a : Addr} {k : ClassId} {ty : FieldType} {z : Int32} {vs : List Value} {dv : Value} (V : Arv Z h a k ty z vs dv) : ∀ cell : Cell, h[a]? = some cell → cell.vm.isStatics = false := fun cell hc => by
  obtain ⟨c', A, -⟩ := V
  cases A.1.symm.trans hc; exact A.plain
theorem own_castY (X : Stand p l e R s m args below meth c T locs cells slots) (hx : p.tables.exec = Jvm.exec) {Z : State} {a0 : Array Value} {h : Heap} (hZ : Z.Warmed39 s.vm) {own : String} (hown : s.vm.findClass own = some m.cls) {K' : String} {index : Nat} (w : (Jvm.Cond.classLink own index K').before a0 Z = true) (eT : T.heap = h) {a : Addr} (F : Ins Z h a K' true) {pc : Nat} (pc' : Nat) {Ls : Array Slot} {rest : List Value} (hd : decode c.code pc = .ok (.checkcast index, 3)) (hp : pc + 3 = pc') (k : ∀ T', Stand p l e R s m args below meth c T' locs cells slots → T'.heap = h → own_Go p e below s Q K N (T'.setTop (mkF m pc' Ls (.ref a :: rest)))) : own_Go p e below s Q K N (T.setTop (mkF m pc Ls (.ref a :: rest))) := by
  subst hp
  obtain ⟨T', X', e', st⟩ := castY X hx hZ hown w eT F (g := mkF m pc Ls (.ref a :: rest)) rfl rfl hd
  exact own_step st (k T' X' e')
theorem own_instY (X : Stand p l e R s m args below meth c T locs cells slots) (hx : p.tables.exec = Jvm.exec) {Z : State} {a0 : Array Value} {h : Heap} (hZ : Z.Warmed39 s.vm) {own : String} (hown : s.vm.findClass own = some m.cls) {K' : String} {index : Nat} (w : (Jvm.Cond.classLink own index K').before a0 Z = true) (eT : T.heap = h) {a : Addr} (F : Ins Z h a K' true) {pc : Nat} (pc' : Nat) {Ls : Array Slot} {rest : List Value} (hd : decode c.code pc = .ok (.instanceof index, 3)) (hp : pc + 3 = pc') (k : ∀ T', Stand p l e R s m args below meth c T' locs cells slots → T'.heap = h → own_Go p e below s Q K N (T'.setTop (mkF m pc' Ls (.int 1 :: rest)))) : own_Go p e below s Q K N (T.setTop (mkF m pc Ls (.ref a :: rest))) := by
  subst hp
  obtain ⟨T', X', e', st⟩ := instY X hx hZ hown w eT F (g := mkF m pc Ls (.ref a :: rest)) rfl rfl hd
  exact own_step st (k T' X' e')
theorem own_instNo (X : Stand p l e R s m args below meth c T locs cells slots) (hx : p.tables.exec = Jvm.exec) {Z : State} {a0 : Array Value} {h : Heap} (hZ : Z.Warmed39 s.vm) {own : String} (hown : s.vm.findClass own = some m.cls) {K' : String} {index : Nat} (w : (Jvm.Cond.classLink own index K').before a0 Z = true) (eT : T.heap = h) {a : Addr} {C : String} (E : Exa Z h a C) (F : ∃ c t, Z.vm.findClass C = some c ∧ Z.vm.findClass K' = some t ∧ Z.vm.assignable c t = false) {pc : Nat} (pc' : Nat) {Ls : Array Slot} {rest : List Value} (hd : decode c.code pc = .ok (.instanceof index, 3)) (hp : pc + 3 = pc') (k : ∀ T', Stand p l e R s m args below meth c T' locs cells slots → T'.heap = h → own_Go p e below s Q K N (T'.setTop (mkF m pc' Ls (.int 0 :: rest)))) : own_Go p e below s Q K N (T.setTop (mkF m pc Ls (.ref a :: rest))) := by
  subst hp
  obtain ⟨T', X', e', st⟩ := instNo X hx hZ hown w eT E F (g := mkF m pc Ls (.ref a :: rest)) rfl rfl hd
  exact own_step st (k T' X' e')
theorem own_instNull (X : Stand p l e R s m args below meth c T locs cells slots) (hx : p.tables.exec = Jvm.exec) {index : Nat} {pc : Nat} (pc' : Nat) {Ls : Array Slot} {rest : List Value} (hd : decode c.code pc = .ok (.instanceof index, 3)) (hp : pc + 3 = pc') (G : own_Go p e below s Q K N (T.setTop (mkF m pc' Ls (.int 0 :: rest)))) : own_Go p e below s Q K N (T.setTop (mkF m pc Ls (.null :: rest))) := by
  subst hp
  exact own_step (X.instanceofNull hx (g := mkF m pc Ls (.null :: rest)) rfl rfl hd) G
theorem own_irr (x : Int32) : ¬ x < x := by rw [Int32.lt_iff_toInt_lt]; omega
theorem own_fldV {Z : State} {h : Heap} {a : Addr} {C n d : String} {v w : Value} (F : Fld Z h a C n d v) (q : v = w) : Fld Z h a C n d w := q ▸ F
theorem own_arvL {Z : State} {h : Heap} {a : Addr} {k : ClassId} {ty : FieldType} {z : Int32} {vs ws : List Value} {dv : Value} (F : Arv Z h a k ty z vs dv) (q : ws = vs) : Arv Z h a k ty z ws dv := q ▸ F
end Own
theorem own_rb {z w : Int32} (h : z = w) (hz : nar .boolean z = z := by decide) : (some (Value.int (nar .boolean z)) : Option Value) = some (.int w) := by rw [hz, h]
theorem own_four (z : Int32) {i : Int32} (q : i = (z &&& (3 : Int32))) : i = 0 ∨ i = 1 ∨ i = 2 ∨ i = 3 := by
  have a := c_mask z 3 2 (by decide) (by decide)
  rw [← q] at a
  have h0 : (0 : Int32).toInt = 0 := rfl
  have h1 : (1 : Int32).toInt = 1 := rfl
  have h2 : (2 : Int32).toInt = 2 := rfl
  have h3 : (3 : Int32).toInt = 3 := rfl
  rw [← Int32.toInt_inj, ← Int32.toInt_inj, ← Int32.toInt_inj, ← Int32.toInt_inj]
  omega
theorem own_three (p : Int32) {i : Int32} (q : i = ((p &&& (2147483647 : Int32)) % (3 : Int32))) : i = 0 ∨ i = 1 ∨ i = 2 := by
  have a := c_mask p 2147483647 31 (by decide) (by decide)
  have b := (c_irem (p &&& (2147483647 : Int32)) 3 3 rfl).1 (by omega)
  rw [← q] at b
  have h0 : (0 : Int32).toInt = 0 := rfl
  have h1 : (1 : Int32).toInt = 1 := rfl
  have h2 : (2 : Int32).toInt = 2 := rfl
  rw [← Int32.toInt_inj, ← Int32.toInt_inj, ← Int32.toInt_inj]
  omega
theorem d_prog_14_method_1_0 : decode prog_14_method_1_code 0 = .ok (.aload_n 0, 1) := by decide +kernel
theorem d_prog_14_method_1_1 : decode prog_14_method_1_code 1 = .ok (.invokespecial 1, 3) := by decide +kernel
theorem d_prog_14_method_1_4 : decode prog_14_method_1_code 4 = .ok (.return_, 1) := by decide +kernel
theorem ef_0 (m : MethodId) (x0 : Addr) : entryFrame m #[(.ref x0)] 1 = mkF m 0 #[.val (.ref x0)] [] := by first | (simp [entryFrame, mkF, argsToLocals, Value.category]; done) | rfl
theorem pn_0 : plainName "com/example/entitygate/entitygate/HtmlNode" = true := by first | (simp [plainName, overriddenIn]; done) | decide +kernel
def Q_init_hn (Z : State) (o : Addr) (h0 : Heap) (n0 : Nat) (v : Option Value) (h : Heap) (L : List Loc) : Prop := v = none ∧ Fr n0 L ∧ h = h0
set_option maxRecDepth 65536 in
set_option maxHeartbeats 40000000 in
theorem rm_init_hn (l : Launch) (Z : State) (a0 : Array Value) (hw : ∀ d ∈ tables_1, d.before a0 Z = true) (ws : List Jvm.Cond) (o : Addr) (h0 : Heap) (n0 : Nat) (Z0 : n0 ≤ h0.size) :
    MetFree l (⟨"com/example/entitygate/entitygate/HtmlNode", "<init>", "()V"⟩ : MethodName) (head1 (Jvm.Cond.code (⟨"com/example/entitygate/entitygate/HtmlNode", "<init>", "()V"⟩ : MethodName) prog_14_method_1_code 1 none :: ws) ({ frames := 1, cells := 0, slots := 0, locals := 12 } : Room)) (fun aA U => aA = #[(.ref o)] ∧ Z.Warmed39 U.vm ∧ U.heap = h0) (fun _ _ _ _ _ => True) (fun _ U oO U' => ∃ vV LL, oO = .returned vV ∧ Q_init_hn Z o h0 n0 vV U'.heap LL ∧ FrameEnd U oO U' LL ({ frames := 1, cells := 0, slots := 0, locals := 12 } : Room).cells ({ frames := 1, cells := 0, slots := 0, locals := 12 } : Room).slots) := by
  refine MetFree.of_bodySF (plainFor_of_name pn_0) hisR ?_
  intro p e s m args below meth c s₁ Bd hml0 hP hK
  obtain ⟨rfl, hZ, hh⟩ := hP
  have hx := Bd.exec
  have hby := Bd.bytes
  have hml : c.maxLocals = 1 := hml0
  have hown : s.vm.findClass "com/example/entitygate/entitygate/HtmlNode" = some m.cls := findClass_of_methodNamed Bd.named
  have hnm := (name_of_methodNamed Bd.named Bd.method).1
  have X0 : Stand p l e ({ frames := 1, cells := 0, slots := 0, locals := 12 } : Room) s m #[(.ref o)] below meth c s₁ [] 0 0 := Stand.of_body Bd
  have e0 : s₁.heap = h0 := by rw [← hh, Bd.state]; rfl
  have N0 := Fr.nil n0
  have hret := Bd.returns
  have hlk : meth.locks = false := Bd.notSynchronized
  refine own_start (ef_0 m o) ?_
  show own_Go p e below s (Q_init_hn Z o h0 n0) ({ frames := 1, cells := 0, slots := 0, locals := 12 } : Room).cells ({ frames := 1, cells := 0, slots := 0, locals := 12 } : Room).slots (s₁.setTop (mkF m 0 #[.val (.ref o)] []))
  refine g_aload_n X0 hx 1 (hb hby d_prog_14_method_1_0) rfl rfl rfl ?_
  refine own_initO X0 hx hZ hown (hw _ (List.mem_of_getElem? (i := 34) rfl)) (hw _ (List.mem_of_getElem? (i := 7) rfl)) (hw _ (List.mem_of_getElem? (i := 8) rfl)) e0 4 (by rw [hml]; rfl) (hb hby d_prog_14_method_1_1) rfl (by decide) 0 rfl (by decide) fun T1 X1 e1 => ?_
  refine own_retV X1 hx hlk hret (hb hby d_prog_14_method_1_4) ?_ (by decide) (by decide)
  rw [e1]
  exact ⟨rfl, N0, rfl⟩
theorem d_prog_20_method_1_0 : decode prog_20_method_1_code 0 = .ok (.aload_n 0, 1) := by decide +kernel
theorem d_prog_20_method_1_1 : decode prog_20_method_1_code 1 = .ok (.invokespecial 1, 3) := by decide +kernel
theorem pd_0 : parseMethodDescriptor "()V" = some ⟨[], none⟩ := by decide +kernel
theorem d_prog_20_method_1_4 : decode prog_20_method_1_code 4 = .ok (.return_, 1) := by decide +kernel
theorem pn_1 : plainName "com/example/entitygate/entitygate/HtmlNode$Parent" = true := by first | (simp [plainName, overriddenIn]; done) | decide +kernel
def Q_init_pa (Z : State) (o : Addr) (h0 : Heap) (n0 : Nat) (v : Option Value) (h : Heap) (L : List Loc) : Prop := v = none ∧ Fr n0 L ∧ h = h0
set_option maxRecDepth 65536 in
set_option maxHeartbeats 40000000 in
theorem rm_init_pa (l : Launch) (Z : State) (a0 : Array Value) (hw : ∀ d ∈ tables_1, d.before a0 Z = true) (ws : List Jvm.Cond) (o : Addr) (h0 : Heap) (n0 : Nat) (Z0 : n0 ≤ h0.size) :
    MetFree l (⟨"com/example/entitygate/entitygate/HtmlNode$Parent", "<init>", "()V"⟩ : MethodName) (head1 (Jvm.Cond.code (⟨"com/example/entitygate/entitygate/HtmlNode$Parent", "<init>", "()V"⟩ : MethodName) prog_20_method_1_code 1 none :: ws) ({ frames := 2, cells := 0, slots := 0, locals := 24 } : Room)) (fun aA U => aA = #[(.ref o)] ∧ Z.Warmed39 U.vm ∧ U.heap = h0) (fun _ _ _ _ _ => True) (fun _ U oO U' => ∃ vV LL, oO = .returned vV ∧ Q_init_pa Z o h0 n0 vV U'.heap LL ∧ FrameEnd U oO U' LL ({ frames := 2, cells := 0, slots := 0, locals := 24 } : Room).cells ({ frames := 2, cells := 0, slots := 0, locals := 24 } : Room).slots) := by
  refine MetFree.of_bodySF (plainFor_of_name pn_1) hisR ?_
  intro p e s m args below meth c s₁ Bd hml0 hP hK
  obtain ⟨rfl, hZ, hh⟩ := hP
  have hx := Bd.exec
  have hby := Bd.bytes
  have hml : c.maxLocals = 1 := hml0
  have hown : s.vm.findClass "com/example/entitygate/entitygate/HtmlNode$Parent" = some m.cls := findClass_of_methodNamed Bd.named
  have hnm := (name_of_methodNamed Bd.named Bd.method).1
  have X0 : Stand p l e ({ frames := 2, cells := 0, slots := 0, locals := 24 } : Room) s m #[(.ref o)] below meth c s₁ [] 0 0 := Stand.of_body Bd
  have e0 : s₁.heap = h0 := by rw [← hh, Bd.state]; rfl
  have N0 := Fr.nil n0
  have hret := Bd.returns
  have hlk : meth.locks = false := Bd.notSynchronized
  refine own_start (ef_0 m o) ?_
  show own_Go p e below s (Q_init_pa Z o h0 n0) ({ frames := 2, cells := 0, slots := 0, locals := 24 } : Room).cells ({ frames := 2, cells := 0, slots := 0, locals := 24 } : Room).slots (s₁.setTop (mkF m 0 #[.val (.ref o)] []))
  refine g_aload_n X0 hx 1 (hb hby d_prog_20_method_1_0) rfl rfl rfl ?_
  refine own_callI X0 hx hZ hown rfl (hw _ (List.mem_of_getElem? (i := 29) rfl)) (hw _ (List.mem_of_getElem? (i := 30) rfl)) (by decide) (rm_init_hn l Z a0 hw [] o h0 n0 Z0 ) (hw _ (List.mem_of_getElem? (i := 33) rfl)) (hw _ (List.mem_of_getElem? (i := 32) rfl)) e0 0 (by decide) (by decide) (by decide) (by decide) o [] [] rfl pd_0 rfl 4 rfl (by rw [hml]; rfl) rfl (hb hby d_prog_20_method_1_1) rfl fun T2 v2 L2 X2 hQ2 => ?_
  obtain ⟨rfl, Nq2, e2⟩ := hQ2
  have N2 := Fr.app N0 Nq2
  show own_Go p e below s _ _ _ (T2.setTop (mkF m 4 _ []))
  refine own_retV X2 hx hlk hret (hb hby d_prog_20_method_1_4) ?_ (by decide) (by decide)
  rw [e2]
  exact ⟨rfl, N2, rfl⟩
theorem d_prog_18_method_1_0 : decode prog_18_method_1_code 0 = .ok (.aload_n 0, 1) := by decide +kernel
theorem d_prog_18_method_1_1 : decode prog_18_method_1_code 1 = .ok (.invokespecial 1, 3) := by decide +kernel
theorem d_prog_18_method_1_4 : decode prog_18_method_1_code 4 = .ok (.aload_n 0, 1) := by decide +kernel
theorem d_prog_18_method_1_5 : decode prog_18_method_1_code 5 = .ok (.aload_n 1, 1) := by decide +kernel
theorem d_prog_18_method_1_6 : decode prog_18_method_1_code 6 = .ok (.putfield 7, 3) := by decide +kernel
theorem d_prog_18_method_1_9 : decode prog_18_method_1_code 9 = .ok (.aload_n 0, 1) := by decide +kernel
theorem d_prog_18_method_1_10 : decode prog_18_method_1_code 10 = .ok (.aload_n 2, 1) := by decide +kernel
theorem d_prog_18_method_1_11 : decode prog_18_method_1_code 11 = .ok (.putfield 13, 3) := by decide +kernel
theorem d_prog_18_method_1_14 : decode prog_18_method_1_code 14 = .ok (.aload_n 0, 1) := by decide +kernel
theorem d_prog_18_method_1_15 : decode prog_18_method_1_code 15 = .ok (.aload_n 3, 1) := by decide +kernel
theorem d_prog_18_method_1_16 : decode prog_18_method_1_code 16 = .ok (.putfield 17, 3) := by decide +kernel
theorem d_prog_18_method_1_19 : decode prog_18_method_1_code 19 = .ok (.aload_n 0, 1) := by decide +kernel
theorem d_prog_18_method_1_20 : decode prog_18_method_1_code 20 = .ok (.aload 4, 2) := by decide +kernel
theorem d_prog_18_method_1_22 : decode prog_18_method_1_code 22 = .ok (.putfield 21, 3) := by decide +kernel
theorem d_prog_18_method_1_25 : decode prog_18_method_1_code 25 = .ok (.aload_n 0, 1) := by decide +kernel
theorem d_prog_18_method_1_26 : decode prog_18_method_1_code 26 = .ok (.iload 5, 2) := by decide +kernel
theorem d_prog_18_method_1_28 : decode prog_18_method_1_code 28 = .ok (.putfield 25, 3) := by decide +kernel
theorem d_prog_18_method_1_31 : decode prog_18_method_1_code 31 = .ok (.aload_n 0, 1) := by decide +kernel
theorem d_prog_18_method_1_32 : decode prog_18_method_1_code 32 = .ok (.iload 6, 2) := by decide +kernel
theorem d_prog_18_method_1_34 : decode prog_18_method_1_code 34 = .ok (.putfield 29, 3) := by decide +kernel
theorem d_prog_18_method_1_37 : decode prog_18_method_1_code 37 = .ok (.return_, 1) := by decide +kernel
theorem ef_1 (m : MethodId) (x0 : Addr) (x5 : Int32) (x6 : Int32) : entryFrame m #[(.ref x0), .null, .null, .null, .null, (.int x5), (.int x6)] 7 = mkF m 0 #[.val (.ref x0), .val .null, .val .null, .val .null, .val .null, .val (.int x5), .val (.int x6)] [] := by first | (simp [entryFrame, mkF, argsToLocals, Value.category]; done) | rfl
theorem pn_2 : plainName "com/example/entitygate/entitygate/HtmlNode$Element" = true := by first | (simp [plainName, overriddenIn]; done) | decide +kernel
def Q_init_el (Z : State) (o : Addr) (h0 : Heap) (n0 : Nat) (v : Option Value) (h : Heap) (L : List Loc) : Prop := v = none ∧ Fr n0 L ∧ Keep h0 h [o] ∧ Fld Z h o "com/example/entitygate/entitygate/HtmlNode$Element" "tag" "Lcom/example/entitygate/entitygate/HtmlTag;" .null ∧ Fld Z h o "com/example/entitygate/entitygate/HtmlNode$Element" "namespace" "Lcom/example/entitygate/entitygate/HtmlNode$Namespace;" .null ∧ Fld Z h o "com/example/entitygate/entitygate/HtmlNode$Element" "open" "Z" (.int (0 : Int32))
set_option maxRecDepth 65536 in
set_option maxHeartbeats 40000000 in
theorem rm_init_el (l : Launch) (Z : State) (a0 : Array Value) (hw : ∀ d ∈ tables_1, d.before a0 Z = true) (ws : List Jvm.Cond) (o : Addr) (h0 : Heap) (n0 : Nat) (Z0 : n0 ≤ h0.size) (E_o : Exa Z h0 o "com/example/entitygate/entitygate/HtmlNode$Element") (F_o_name : Fld Z h0 o "com/example/entitygate/entitygate/HtmlNode$Element" "name" "Ljava/lang/String;" .null) (F_o_tag : Fld Z h0 o "com/example/entitygate/entitygate/HtmlNode$Element" "tag" "Lcom/example/entitygate/entitygate/HtmlTag;" .null) (F_o_namespace : Fld Z h0 o "com/example/entitygate/entitygate/HtmlNode$Element" "namespace" "Lcom/example/entitygate/entitygate/HtmlNode$Namespace;" .null) (F_o_attributes : Fld Z h0 o "com/example/entitygate/entitygate/HtmlNode$Element" "attributes" "Lcom/example/entitygate/entitygate/Attributes;" .null) (F_o_start : Fld Z h0 o "com/example/entitygate/entitygate/HtmlNode$Element" "start" "I" (.int (0 : Int32))) (F_o_nonceAt : Fld Z h0 o "com/example/entitygate/entitygate/HtmlNode$Element" "nonceAt" "I" (.int (0 : Int32))) (F_o_open : Fld Z h0 o "com/example/entitygate/entitygate/HtmlNode$Element" "open" "Z" (.int (0 : Int32))) (g_o : n0 ≤ o) :
    MetFree l (⟨"com/example/entitygate/entitygate/HtmlNode$Element", "<init>", "(Ljava/lang/String;Lcom/example/entitygate/entitygate/HtmlTag;Lcom/example/entitygate/entitygate/HtmlNode$Namespace;Lcom/example/entitygate/entitygate/Attributes;II)V"⟩ : MethodName) (head1 (Jvm.Cond.code (⟨"com/example/entitygate/entitygate/HtmlNode$Element", "<init>", "(Ljava/lang/String;Lcom/example/entitygate/entitygate/HtmlTag;Lcom/example/entitygate/entitygate/HtmlNode$Namespace;Lcom/example/entitygate/entitygate/Attributes;II)V"⟩ : MethodName) prog_18_method_1_code 7 none :: ws) ({ frames := 3, cells := 0, slots := 0, locals := 36 } : Room)) (fun aA U => aA = #[(.ref o), .null, .null, .null, .null, (.int (0 : Int32)), (.int (0 : Int32))] ∧ Z.Warmed39 U.vm ∧ U.heap = h0) (fun _ _ _ _ _ => True) (fun _ U oO U' => ∃ vV LL, oO = .returned vV ∧ Q_init_el Z o h0 n0 vV U'.heap LL ∧ FrameEnd U oO U' LL ({ frames := 3, cells := 0, slots := 0, locals := 36 } : Room).cells ({ frames := 3, cells := 0, slots := 0, locals := 36 } : Room).slots) := by
  refine MetFree.of_bodySF (plainFor_of_name pn_2) hisR ?_
  intro p e s m args below meth c s₁ Bd hml0 hP hK
  obtain ⟨rfl, hZ, hh⟩ := hP
  have hx := Bd.exec
  have hby := Bd.bytes
  have hml : c.maxLocals = 7 := hml0
  have hown : s.vm.findClass "com/example/entitygate/entitygate/HtmlNode$Element" = some m.cls := findClass_of_methodNamed Bd.named
  have hnm := (name_of_methodNamed Bd.named Bd.method).1
  have X0 : Stand p l e ({ frames := 3, cells := 0, slots := 0, locals := 36 } : Room) s m #[(.ref o), .null, .null, .null, .null, (.int (0 : Int32)), (.int (0 : Int32))] below meth c s₁ [] 0 0 := Stand.of_body Bd
  have e0 : s₁.heap = h0 := by rw [← hh, Bd.state]; rfl
  have N0 := Fr.nil n0
  have hret := Bd.returns
  have hlk : meth.locks = false := Bd.notSynchronized
  refine own_start (ef_1 m o (0 : Int32) (0 : Int32)) ?_
  show own_Go p e below s (Q_init_el Z o h0 n0) ({ frames := 3, cells := 0, slots := 0, locals := 36 } : Room).cells ({ frames := 3, cells := 0, slots := 0, locals := 36 } : Room).slots (s₁.setTop (mkF m 0 #[.val (.ref o), .val .null, .val .null, .val .null, .val .null, .val (.int (0 : Int32)), .val (.int (0 : Int32))] []))
  refine g_aload_n X0 hx 1 (hb hby d_prog_18_method_1_0) rfl rfl rfl ?_
  refine own_callI X0 hx hZ hown rfl (hw _ (List.mem_of_getElem? (i := 24) rfl)) (hw _ (List.mem_of_getElem? (i := 25) rfl)) (by decide) (rm_init_pa l Z a0 hw [] o h0 n0 Z0 ) (hw _ (List.mem_of_getElem? (i := 28) rfl)) (hw _ (List.mem_of_getElem? (i := 27) rfl)) e0 0 (by decide) (by decide) (by decide) (by decide) o [] [] rfl pd_0 rfl 4 rfl (by rw [hml]; rfl) rfl (hb hby d_prog_18_method_1_1) rfl fun T3 v3 L3 X3 hQ3 => ?_
  obtain ⟨rfl, Nq3, e3⟩ := hQ3
  have N3 := Fr.app N0 Nq3
  show own_Go p e below s _ _ _ (T3.setTop (mkF m 4 _ []))
  refine g_aload_n X3 hx 5 (hb hby d_prog_18_method_1_4) rfl rfl rfl ?_
  refine g_aload_n X3 hx 6 (hb hby d_prog_18_method_1_5) rfl rfl rfl ?_
  refine own_putF X3 hx hZ hown (host := "") (Or.inl (hw _ (List.mem_of_getElem? (i := 35) rfl))) Via.refl e3 F_o_name E_o (Or.inr ⟨(hw _ (List.mem_of_getElem? (i := 36) rfl)), rfl, hnm⟩) (hw _ (List.mem_of_getElem? (i := 19) rfl)) (ty := (.object "java/lang/String")) (by decide) rfl rfl 9 (hb hby d_prog_18_method_1_6) rfl fun T4 h4 X4 e4 W4 => ?_
  have f4 : Fld Z h4 o "com/example/entitygate/entitygate/HtmlNode$Element" "name" "Ljava/lang/String;" .null := Fld.same W4 F_o_name
  have N4 := Fr.snoc X4 N3 g_o
  have z5 : n0 ≤ h4.size := (Nat.le_trans Z0 (Keep.of_wr W4).1)
  have K6 : Keep h0 h4 [o] := (Keep.refl h0 [o]).wr W4 (Or.inl (List.mem_of_getElem? (i := 0) rfl))
  refine g_aload_n X4 hx 10 (hb hby d_prog_18_method_1_9) rfl rfl rfl ?_
  refine g_aload_n X4 hx 11 (hb hby d_prog_18_method_1_10) rfl rfl rfl ?_
  have f7 : Exa Z h4 o "com/example/entitygate/entitygate/HtmlNode$Element" := (Exa.wr W4 E_o)
  have f8 : Fld Z h4 o "com/example/entitygate/entitygate/HtmlNode$Element" "tag" "Lcom/example/entitygate/entitygate/HtmlTag;" .null := (Fld.other W4 F_o_tag (Or.inr (slot_ne (Or.inr (hw _ (List.mem_of_getElem? (i := 38) rfl))) (Or.inr (hw _ (List.mem_of_getElem? (i := 36) rfl))) (by decide) (t := (.object "com/example/entitygate/entitygate/HtmlTag")) (t' := (.object "java/lang/String")) (by decide) (by decide))))
  refine own_putF X4 hx hZ hown (host := "") (Or.inl (hw _ (List.mem_of_getElem? (i := 37) rfl))) Via.refl e4 f8 f7 (Or.inr ⟨(hw _ (List.mem_of_getElem? (i := 38) rfl)), rfl, hnm⟩) (hw _ (List.mem_of_getElem? (i := 19) rfl)) (ty := (.object "com/example/entitygate/entitygate/HtmlTag")) (by decide) rfl rfl 14 (hb hby d_prog_18_method_1_11) rfl fun T9 h9 X9 e9 W9 => ?_
  have f9 : Fld Z h9 o "com/example/entitygate/entitygate/HtmlNode$Element" "tag" "Lcom/example/entitygate/entitygate/HtmlTag;" .null := Fld.same W9 f8
  have N9 := Fr.snoc X9 N4 g_o
  have z10 : n0 ≤ h9.size := (Nat.le_trans z5 (Keep.of_wr W9).1)
  have K11 : Keep h0 h9 [o] := K6.wr W9 (Or.inl (List.mem_of_getElem? (i := 0) rfl))
  refine g_aload_n X9 hx 15 (hb hby d_prog_18_method_1_14) rfl rfl rfl ?_
  refine g_aload_n X9 hx 16 (hb hby d_prog_18_method_1_15) rfl rfl rfl ?_
  have f12 : Exa Z h9 o "com/example/entitygate/entitygate/HtmlNode$Element" := (Exa.wr W9 f7)
  have f13 : Fld Z h9 o "com/example/entitygate/entitygate/HtmlNode$Element" "namespace" "Lcom/example/entitygate/entitygate/HtmlNode$Namespace;" .null := (Fld.other W9 (Fld.other W4 F_o_namespace (Or.inr (slot_ne (Or.inr (hw _ (List.mem_of_getElem? (i := 40) rfl))) (Or.inr (hw _ (List.mem_of_getElem? (i := 36) rfl))) (by decide) (t := (.object "com/example/entitygate/entitygate/HtmlNode$Namespace")) (t' := (.object "java/lang/String")) (by decide) (by decide)))) (Or.inr (slot_ne (Or.inr (hw _ (List.mem_of_getElem? (i := 40) rfl))) (Or.inr (hw _ (List.mem_of_getElem? (i := 38) rfl))) (by decide) (t := (.object "com/example/entitygate/entitygate/HtmlNode$Namespace")) (t' := (.object "com/example/entitygate/entitygate/HtmlTag")) (by decide) (by decide))))
  refine own_putF X9 hx hZ hown (host := "") (Or.inl (hw _ (List.mem_of_getElem? (i := 39) rfl))) Via.refl e9 f13 f12 (Or.inr ⟨(hw _ (List.mem_of_getElem? (i := 40) rfl)), rfl, hnm⟩) (hw _ (List.mem_of_getElem? (i := 19) rfl)) (ty := (.object "com/example/entitygate/entitygate/HtmlNode$Namespace")) (by decide) rfl rfl 19 (hb hby d_prog_18_method_1_16) rfl fun T14 h14 X14 e14 W14 => ?_
  have f14 : Fld Z h14 o "com/example/entitygate/entitygate/HtmlNode$Element" "namespace" "Lcom/example/entitygate/entitygate/HtmlNode$Namespace;" .null := Fld.same W14 f13
  have N14 := Fr.snoc X14 N9 g_o
  have z15 : n0 ≤ h14.size := (Nat.le_trans z10 (Keep.of_wr W14).1)
  have K16 : Keep h0 h14 [o] := K11.wr W14 (Or.inl (List.mem_of_getElem? (i := 0) rfl))
  refine g_aload_n X14 hx 20 (hb hby d_prog_18_method_1_19) rfl rfl rfl ?_
  refine g_aload X14 hx 22 (hb hby d_prog_18_method_1_20) rfl rfl rfl ?_
  have f17 : Exa Z h14 o "com/example/entitygate/entitygate/HtmlNode$Element" := (Exa.wr W14 f12)
  have f18 : Fld Z h14 o "com/example/entitygate/entitygate/HtmlNode$Element" "attributes" "Lcom/example/entitygate/entitygate/Attributes;" .null := (Fld.other W14 (Fld.other W9 (Fld.other W4 F_o_attributes (Or.inr (slot_ne (Or.inr (hw _ (List.mem_of_getElem? (i := 42) rfl))) (Or.inr (hw _ (List.mem_of_getElem? (i := 36) rfl))) (by decide) (t := (.object "com/example/entitygate/entitygate/Attributes")) (t' := (.object "java/lang/String")) (by decide) (by decide)))) (Or.inr (slot_ne (Or.inr (hw _ (List.mem_of_getElem? (i := 42) rfl))) (Or.inr (hw _ (List.mem_of_getElem? (i := 38) rfl))) (by decide) (t := (.object "com/example/entitygate/entitygate/Attributes")) (t' := (.object "com/example/entitygate/entitygate/HtmlTag")) (by decide) (by decide)))) (Or.inr (slot_ne (Or.inr (hw _ (List.mem_of_getElem? (i := 42) rfl))) (Or.inr (hw _ (List.mem_of_getElem? (i := 40) rfl))) (by decide) (t := (.object "com/example/entitygate/entitygate/Attributes")) (t' := (.object "com/example/entitygate/entitygate/HtmlNode$Namespace")) (by decide) (by decide))))
  refine own_putF X14 hx hZ hown (host := "") (Or.inl (hw _ (List.mem_of_getElem? (i := 41) rfl))) Via.refl e14 f18 f17 (Or.inr ⟨(hw _ (List.mem_of_getElem? (i := 42) rfl)), rfl, hnm⟩) (hw _ (List.mem_of_getElem? (i := 19) rfl)) (ty := (.object "com/example/entitygate/entitygate/Attributes")) (by decide) rfl rfl 25 (hb hby d_prog_18_method_1_22) rfl fun T19 h19 X19 e19 W19 => ?_
  have f19 : Fld Z h19 o "com/example/entitygate/entitygate/HtmlNode$Element" "attributes" "Lcom/example/entitygate/entitygate/Attributes;" .null := Fld.same W19 f18
  have N19 := Fr.snoc X19 N14 g_o
  have z20 : n0 ≤ h19.size := (Nat.le_trans z15 (Keep.of_wr W19).1)
  have K21 : Keep h0 h19 [o] := K16.wr W19 (Or.inl (List.mem_of_getElem? (i := 0) rfl))
  refine g_aload_n X19 hx 26 (hb hby d_prog_18_method_1_25) rfl rfl rfl ?_
  refine g_iload X19 hx 28 (hb hby d_prog_18_method_1_26) rfl rfl ?_
  have f22 : Exa Z h19 o "com/example/entitygate/entitygate/HtmlNode$Element" := (Exa.wr W19 f17)
  have f23 : Fld Z h19 o "com/example/entitygate/entitygate/HtmlNode$Element" "start" "I" (.int (0 : Int32)) := (Fld.other W19 (Fld.other W14 (Fld.other W9 (Fld.other W4 F_o_start (Or.inr (slot_ne (Or.inr (hw _ (List.mem_of_getElem? (i := 44) rfl))) (Or.inr (hw _ (List.mem_of_getElem? (i := 36) rfl))) (by decide) (t := .int) (t' := (.object "java/lang/String")) (by decide) (by decide)))) (Or.inr (slot_ne (Or.inr (hw _ (List.mem_of_getElem? (i := 44) rfl))) (Or.inr (hw _ (List.mem_of_getElem? (i := 38) rfl))) (by decide) (t := .int) (t' := (.object "com/example/entitygate/entitygate/HtmlTag")) (by decide) (by decide)))) (Or.inr (slot_ne (Or.inr (hw _ (List.mem_of_getElem? (i := 44) rfl))) (Or.inr (hw _ (List.mem_of_getElem? (i := 40) rfl))) (by decide) (t := .int) (t' := (.object "com/example/entitygate/entitygate/HtmlNode$Namespace")) (by decide) (by decide)))) (Or.inr (slot_ne (Or.inr (hw _ (List.mem_of_getElem? (i := 44) rfl))) (Or.inr (hw _ (List.mem_of_getElem? (i := 42) rfl))) (by decide) (t := .int) (t' := (.object "com/example/entitygate/entitygate/Attributes")) (by decide) (by decide))))
  refine own_putF X19 hx hZ hown (host := "") (Or.inl (hw _ (List.mem_of_getElem? (i := 43) rfl))) Via.refl e19 f23 f22 (Or.inr ⟨(hw _ (List.mem_of_getElem? (i := 44) rfl)), rfl, hnm⟩) (hw _ (List.mem_of_getElem? (i := 19) rfl)) (ty := .int) (by decide) rfl rfl 31 (hb hby d_prog_18_method_1_28) rfl fun T24 h24 X24 e24 W24 => ?_
  have f24 : Fld Z h24 o "com/example/entitygate/entitygate/HtmlNode$Element" "start" "I" (.int (0 : Int32)) := Fld.same W24 f23
  have N24 := Fr.snoc X24 N19 g_o
  have z25 : n0 ≤ h24.size := (Nat.le_trans z20 (Keep.of_wr W24).1)
  have K26 : Keep h0 h24 [o] := K21.wr W24 (Or.inl (List.mem_of_getElem? (i := 0) rfl))
  refine g_aload_n X24 hx 32 (hb hby d_prog_18_method_1_31) rfl rfl rfl ?_
  refine g_iload X24 hx 34 (hb hby d_prog_18_method_1_32) rfl rfl ?_
  have f27 : Exa Z h24 o "com/example/entitygate/entitygate/HtmlNode$Element" := (Exa.wr W24 f22)
  have f28 : Fld Z h24 o "com/example/entitygate/entitygate/HtmlNode$Element" "nonceAt" "I" (.int (0 : Int32)) := (Fld.other W24 (Fld.other W19 (Fld.other W14 (Fld.other W9 (Fld.other W4 F_o_nonceAt (Or.inr (slot_ne (Or.inr (hw _ (List.mem_of_getElem? (i := 46) rfl))) (Or.inr (hw _ (List.mem_of_getElem? (i := 36) rfl))) (by decide) (t := .int) (t' := (.object "java/lang/String")) (by decide) (by decide)))) (Or.inr (slot_ne (Or.inr (hw _ (List.mem_of_getElem? (i := 46) rfl))) (Or.inr (hw _ (List.mem_of_getElem? (i := 38) rfl))) (by decide) (t := .int) (t' := (.object "com/example/entitygate/entitygate/HtmlTag")) (by decide) (by decide)))) (Or.inr (slot_ne (Or.inr (hw _ (List.mem_of_getElem? (i := 46) rfl))) (Or.inr (hw _ (List.mem_of_getElem? (i := 40) rfl))) (by decide) (t := .int) (t' := (.object "com/example/entitygate/entitygate/HtmlNode$Namespace")) (by decide) (by decide)))) (Or.inr (slot_ne (Or.inr (hw _ (List.mem_of_getElem? (i := 46) rfl))) (Or.inr (hw _ (List.mem_of_getElem? (i := 42) rfl))) (by decide) (t := .int) (t' := (.object "com/example/entitygate/entitygate/Attributes")) (by decide) (by decide)))) (Or.inr (slot_ne (Or.inr (hw _ (List.mem_of_getElem? (i := 46) rfl))) (Or.inr (hw _ (List.mem_of_getElem? (i := 44) rfl))) (by decide) (t := .int) (t' := .int) (by decide) (by decide))))
  refine own_putF X24 hx hZ hown (host := "") (Or.inl (hw _ (List.mem_of_getElem? (i := 45) rfl))) Via.refl e24 f28 f27 (Or.inr ⟨(hw _ (List.mem_of_getElem? (i := 46) rfl)), rfl, hnm⟩) (hw _ (List.mem_of_getElem? (i := 19) rfl)) (ty := .int) (by decide) rfl rfl 37 (hb hby d_prog_18_method_1_34) rfl fun T29 h29 X29 e29 W29 => ?_
  have f29 : Fld Z h29 o "com/example/entitygate/entitygate/HtmlNode$Element" "nonceAt" "I" (.int (0 : Int32)) := Fld.same W29 f28
  have N29 := Fr.snoc X29 N24 g_o
  have z30 : n0 ≤ h29.size := (Nat.le_trans z25 (Keep.of_wr W29).1)
  have K31 : Keep h0 h29 [o] := K26.wr W29 (Or.inl (List.mem_of_getElem? (i := 0) rfl))
  have f32 : Fld Z h29 o "com/example/entitygate/entitygate/HtmlNode$Element" "tag" "Lcom/example/entitygate/entitygate/HtmlTag;" .null := (Fld.other W29 (Fld.other W24 (Fld.other W19 (Fld.other W14 f9 (Or.inr (slot_ne (Or.inr (hw _ (List.mem_of_getElem? (i := 38) rfl))) (Or.inr (hw _ (List.mem_of_getElem? (i := 40) rfl))) (by decide) (t := (.object "com/example/entitygate/entitygate/HtmlTag")) (t' := (.object "com/example/entitygate/entitygate/HtmlNode$Namespace")) (by decide) (by decide)))) (Or.inr (slot_ne (Or.inr (hw _ (List.mem_of_getElem? (i := 38) rfl))) (Or.inr (hw _ (List.mem_of_getElem? (i := 42) rfl))) (by decide) (t := (.object "com/example/entitygate/entitygate/HtmlTag")) (t' := (.object "com/example/entitygate/entitygate/Attributes")) (by decide) (by decide)))) (Or.inr (slot_ne (Or.inr (hw _ (List.mem_of_getElem? (i := 38) rfl))) (Or.inr (hw _ (List.mem_of_getElem? (i := 44) rfl))) (by decide) (t := (.object "com/example/entitygate/entitygate/HtmlTag")) (t' := .int) (by decide) (by decide)))) (Or.inr (slot_ne (Or.inr (hw _ (List.mem_of_getElem? (i := 38) rfl))) (Or.inr (hw _ (List.mem_of_getElem? (i := 46) rfl))) (by decide) (t := (.object "com/example/entitygate/entitygate/HtmlTag")) (t' := .int) (by decide) (by decide))))
  have f33 : Fld Z h29 o "com/example/entitygate/entitygate/HtmlNode$Element" "namespace" "Lcom/example/entitygate/entitygate/HtmlNode$Namespace;" .null := (Fld.other W29 (Fld.other W24 (Fld.other W19 f14 (Or.inr (slot_ne (Or.inr (hw _ (List.mem_of_getElem? (i := 40) rfl))) (Or.inr (hw _ (List.mem_of_getElem? (i := 42) rfl))) (by decide) (t := (.object "com/example/entitygate/entitygate/HtmlNode$Namespace")) (t' := (.object "com/example/entitygate/entitygate/Attributes")) (by decide) (by decide)))) (Or.inr (slot_ne (Or.inr (hw _ (List.mem_of_getElem? (i := 40) rfl))) (Or.inr (hw _ (List.mem_of_getElem? (i := 44) rfl))) (by decide) (t := (.object "com/example/entitygate/entitygate/HtmlNode$Namespace")) (t' := .int) (by decide) (by decide)))) (Or.inr (slot_ne (Or.inr (hw _ (List.mem_of_getElem? (i := 40) rfl))) (Or.inr (hw _ (List.mem_of_getElem? (i := 46) rfl))) (by decide) (t := (.object "com/example/entitygate/entitygate/HtmlNode$Namespace")) (t' := .int) (by decide) (by decide))))
  have f34 : Fld Z h29 o "com/example/entitygate/entitygate/HtmlNode$Element" "open" "Z" (.int (0 : Int32)) := (Fld.other W29 (Fld.other W24 (Fld.other W19 (Fld.other W14 (Fld.other W9 (Fld.other W4 F_o_open (Or.inr (slot_ne (Or.inl (hw _ (List.mem_of_getElem? (i := 54) rfl))) (Or.inr (hw _ (List.mem_of_getElem? (i := 36) rfl))) (by decide) (t := .boolean) (t' := (.object "java/lang/String")) (by decide) (by decide)))) (Or.inr (slot_ne (Or.inl (hw _ (List.mem_of_getElem? (i := 54) rfl))) (Or.inr (hw _ (List.mem_of_getElem? (i := 38) rfl))) (by decide) (t := .boolean) (t' := (.object "com/example/entitygate/entitygate/HtmlTag")) (by decide) (by decide)))) (Or.inr (slot_ne (Or.inl (hw _ (List.mem_of_getElem? (i := 54) rfl))) (Or.inr (hw _ (List.mem_of_getElem? (i := 40) rfl))) (by decide) (t := .boolean) (t' := (.object "com/example/entitygate/entitygate/HtmlNode$Namespace")) (by decide) (by decide)))) (Or.inr (slot_ne (Or.inl (hw _ (List.mem_of_getElem? (i := 54) rfl))) (Or.inr (hw _ (List.mem_of_getElem? (i := 42) rfl))) (by decide) (t := .boolean) (t' := (.object "com/example/entitygate/entitygate/Attributes")) (by decide) (by decide)))) (Or.inr (slot_ne (Or.inl (hw _ (List.mem_of_getElem? (i := 54) rfl))) (Or.inr (hw _ (List.mem_of_getElem? (i := 44) rfl))) (by decide) (t := .boolean) (t' := .int) (by decide) (by decide)))) (Or.inr (slot_ne (Or.inl (hw _ (List.mem_of_getElem? (i := 54) rfl))) (Or.inr (hw _ (List.mem_of_getElem? (i := 46) rfl))) (by decide) (t := .boolean) (t' := .int) (by decide) (by decide))))
  refine own_retV X29 hx hlk hret (hb hby d_prog_18_method_1_37) ?_ (by decide) (by decide)
  rw [e29]
  exact ⟨rfl, N29, K31, f32, f33, f34⟩
theorem d_prog_30_method_1_0 : decode prog_30_method_1_code 0 = .ok (.aload_n 0, 1) := by decide +kernel
theorem d_prog_30_method_1_1 : decode prog_30_method_1_code 1 = .ok (.invokespecial 1, 3) := by decide +kernel
theorem d_prog_30_method_1_4 : decode prog_30_method_1_code 4 = .ok (.aload_n 0, 1) := by decide +kernel
theorem d_prog_30_method_1_5 : decode prog_30_method_1_code 5 = .ok (.bipush 64, 2) := by decide +kernel
theorem d_prog_30_method_1_7 : decode prog_30_method_1_code 7 = .ok (.anewarray 7, 3) := by decide +kernel
theorem d_prog_30_method_1_10 : decode prog_30_method_1_code 10 = .ok (.putfield 9, 3) := by decide +kernel
theorem d_prog_30_method_1_13 : decode prog_30_method_1_code 13 = .ok (.aload_n 0, 1) := by decide +kernel
theorem d_prog_30_method_1_14 : decode prog_30_method_1_code 14 = .ok (.bipush 16, 2) := by decide +kernel
theorem d_prog_30_method_1_16 : decode prog_30_method_1_code 16 = .ok (.newarray .int, 2) := by decide +kernel
theorem d_prog_30_method_1_18 : decode prog_30_method_1_code 18 = .ok (.putfield 15, 3) := by decide +kernel
theorem d_prog_30_method_1_21 : decode prog_30_method_1_code 21 = .ok (.aload_n 0, 1) := by decide +kernel
theorem d_prog_30_method_1_22 : decode prog_30_method_1_code 22 = .ok (.aload_n 1, 1) := by decide +kernel
theorem d_prog_30_method_1_23 : decode prog_30_method_1_code 23 = .ok (.putfield 19, 3) := by decide +kernel
theorem d_prog_30_method_1_26 : decode prog_30_method_1_code 26 = .ok (.return_, 1) := by decide +kernel
theorem ef_2 (m : MethodId) (x0 : Addr) : entryFrame m #[(.ref x0), .null] 2 = mkF m 0 #[.val (.ref x0), .val .null] [] := by first | (simp [entryFrame, mkF, argsToLocals, Value.category]; done) | rfl
theorem pn_3 : plainName "com/example/entitygate/entitygate/OpenElements" = true := by first | (simp [plainName, overriddenIn]; done) | decide +kernel
def Q_init_oe (Z : State) (o : Addr) (h0 : Heap) (n0 : Nat) (v : Option Value) (h : Heap) (L : List Loc) : Prop := ∃ ae : Addr, ∃ ke : ClassId, v = none ∧ Fr n0 L ∧ Keep h0 h [o] ∧ n0 ≤ ae ∧ h0.size ≤ ae ∧ Fld Z h o "com/example/entitygate/entitygate/OpenElements" "elements" "[Lcom/example/entitygate/entitygate/HtmlNode$Element;" (.ref ae) ∧ Fld Z h o "com/example/entitygate/entitygate/OpenElements" "size" "I" (.int (0 : Int32)) ∧ Fld Z h o "com/example/entitygate/entitygate/OpenElements" "landmarkCount" "I" (.int (0 : Int32)) ∧ Arv Z h ae ke (.object "com/example/entitygate/entitygate/HtmlNode$Element") (64 : Int32) [.null, .null, .null, .null] .null ∧ Ovr Z ke "com/example/entitygate/entitygate/HtmlNode$Element"
set_option maxRecDepth 65536 in
set_option maxHeartbeats 40000000 in
theorem rm_init_oe (l : Launch) (Z : State) (a0 : Array Value) (hw : ∀ d ∈ tables_1, d.before a0 Z = true) (ws : List Jvm.Cond) (o : Addr) (h0 : Heap) (n0 : Nat) (Z0 : n0 ≤ h0.size) (E_o : Exa Z h0 o "com/example/entitygate/entitygate/OpenElements") (F_o_elements : Fld Z h0 o "com/example/entitygate/entitygate/OpenElements" "elements" "[Lcom/example/entitygate/entitygate/HtmlNode$Element;" .null) (F_o_landmarks : Fld Z h0 o "com/example/entitygate/entitygate/OpenElements" "landmarks" "[I" .null) (F_o_landmarkTags : Fld Z h0 o "com/example/entitygate/entitygate/OpenElements" "landmarkTags" "Ljava/util/Set;" .null) (F_o_size : Fld Z h0 o "com/example/entitygate/entitygate/OpenElements" "size" "I" (.int (0 : Int32))) (F_o_landmarkCount : Fld Z h0 o "com/example/entitygate/entitygate/OpenElements" "landmarkCount" "I" (.int (0 : Int32))) (g_o : n0 ≤ o) :
    MetFree l (⟨"com/example/entitygate/entitygate/OpenElements", "<init>", "(Ljava/util/Set;)V"⟩ : MethodName) (head1 (Jvm.Cond.code (⟨"com/example/entitygate/entitygate/OpenElements", "<init>", "(Ljava/util/Set;)V"⟩ : MethodName) prog_30_method_1_code 2 none :: ws) ({ frames := 1, cells := 2, slots := 80, locals := 12 } : Room)) (fun aA U => aA = #[(.ref o), .null] ∧ Z.Warmed39 U.vm ∧ U.heap = h0) (fun _ _ _ _ _ => True) (fun _ U oO U' => ∃ vV LL, oO = .returned vV ∧ Q_init_oe Z o h0 n0 vV U'.heap LL ∧ FrameEnd U oO U' LL ({ frames := 1, cells := 2, slots := 80, locals := 12 } : Room).cells ({ frames := 1, cells := 2, slots := 80, locals := 12 } : Room).slots) := by
  refine MetFree.of_bodySF (plainFor_of_name pn_3) hisR ?_
  intro p e s m args below meth c s₁ Bd hml0 hP hK
  obtain ⟨rfl, hZ, hh⟩ := hP
  have hx := Bd.exec
  have hby := Bd.bytes
  have hml : c.maxLocals = 2 := hml0
  have hown : s.vm.findClass "com/example/entitygate/entitygate/OpenElements" = some m.cls := findClass_of_methodNamed Bd.named
  have hnm := (name_of_methodNamed Bd.named Bd.method).1
  have X0 : Stand p l e ({ frames := 1, cells := 2, slots := 80, locals := 12 } : Room) s m #[(.ref o), .null] below meth c s₁ [] 0 0 := Stand.of_body Bd
  have e0 : s₁.heap = h0 := by rw [← hh, Bd.state]; rfl
  have N0 := Fr.nil n0
  have hret := Bd.returns
  have hlk : meth.locks = false := Bd.notSynchronized
  refine own_start (ef_2 m o) ?_
  show own_Go p e below s (Q_init_oe Z o h0 n0) ({ frames := 1, cells := 2, slots := 80, locals := 12 } : Room).cells ({ frames := 1, cells := 2, slots := 80, locals := 12 } : Room).slots (s₁.setTop (mkF m 0 #[.val (.ref o), .val .null] []))
  refine g_aload_n X0 hx 1 (hb hby d_prog_30_method_1_0) rfl rfl rfl ?_
  refine own_initO X0 hx hZ hown (hw _ (List.mem_of_getElem? (i := 6) rfl)) (hw _ (List.mem_of_getElem? (i := 7) rfl)) (hw _ (List.mem_of_getElem? (i := 8) rfl)) e0 4 (by rw [hml]; rfl) (hb hby d_prog_30_method_1_1) rfl (by decide) 0 rfl (by decide) fun T35 X35 e35 => ?_
  refine g_aload_n X35 hx 5 (hb hby d_prog_30_method_1_4) rfl rfl rfl ?_
  refine g_bipush X35 hx 7 (hb hby d_prog_30_method_1_5) (64 : Int32) rfl rfl ?_
  refine own_newR X35 hx hZ hown (hw _ (List.mem_of_getElem? (i := 9) rfl)) (hw _ (List.mem_of_getElem? (i := 10) rfl)) e35 10 (hb hby d_prog_30_method_1_7) rfl (by decide) 64 (by decide) (by decide) (by decide) (by decide) fun T36 h36 k36 b36 X36 e36 g36 E36 A36 O36 => ?_
  have ne37 : o ≠ b36 := Nat.ne_of_lt (Nat.lt_of_lt_of_le E_o.lt (Nat.le_of_eq g36.symm))
  have g_b36 : n0 ≤ b36 := Nat.le_trans Z0 (Nat.le_of_eq g36.symm)
  have sz_b36 : h0.size ≤ b36 := Nat.le_trans (Keep.refl h0 [o]).1 (Nat.le_of_eq g36.symm)
  have K38 : Keep h0 h36 [o] := (Keep.refl h0 [o]).ext E36
  have z39 : n0 ≤ h36.size := (Nat.le_trans Z0 E36.1)
  have V36 : Arv Z h36 b36 k36 (.object "com/example/entitygate/entitygate/HtmlNode$Element") (64 : Int32) [.null, .null, .null, .null] .null := (Arv.new A36 (by decide)).pad (pad_rep [] .null 4)
  have f40 : Exa Z h36 o "com/example/entitygate/entitygate/OpenElements" := (Exa.ext E36 E_o)
  have f41 : Fld Z h36 o "com/example/entitygate/entitygate/OpenElements" "elements" "[Lcom/example/entitygate/entitygate/HtmlNode$Element;" .null := (Fld.ext E36 F_o_elements)
  refine own_putF X36 hx hZ hown (host := "") (Or.inl (hw _ (List.mem_of_getElem? (i := 11) rfl))) Via.refl e36 f41 f40 (Or.inl (hw _ (List.mem_of_getElem? (i := 12) rfl))) (hw _ (List.mem_of_getElem? (i := 1) rfl)) (ty := (.array (.object "com/example/entitygate/entitygate/HtmlNode$Element"))) (by decide) rfl rfl 13 (hb hby d_prog_30_method_1_10) rfl fun T42 h42 X42 e42 W42 => ?_
  have f42 : Fld Z h42 o "com/example/entitygate/entitygate/OpenElements" "elements" "[Lcom/example/entitygate/entitygate/HtmlNode$Element;" (.ref b36) := Fld.same W42 f41
  have N42 := Fr.snoc X42 N0 g_o
  have z43 : n0 ≤ h42.size := (Nat.le_trans z39 (Keep.of_wr W42).1)
  have K44 : Keep h0 h42 [o] := K38.wr W42 (Or.inl (List.mem_of_getElem? (i := 0) rfl))
  refine g_aload_n X42 hx 14 (hb hby d_prog_30_method_1_13) rfl rfl rfl ?_
  refine g_bipush X42 hx 16 (hb hby d_prog_30_method_1_14) (16 : Int32) rfl rfl ?_
  refine own_newP X42 hx hZ (hw _ (List.mem_of_getElem? (i := 13) rfl)) e42 18 (hb hby d_prog_30_method_1_16) rfl (by decide) 16 (by decide) (by decide) (by decide) (by decide) fun T45 h45 k45 b45 X45 e45 g45 E45 A45 => ?_
  have f46 : Exa Z h42 o "com/example/entitygate/entitygate/OpenElements" := (Exa.wr W42 f40)
  have ne47 : o ≠ b45 := Nat.ne_of_lt (Nat.lt_of_lt_of_le f46.lt (Nat.le_of_eq g45.symm))
  have f48 : Arv Z h42 b36 k36 (.object "com/example/entitygate/entitygate/HtmlNode$Element") (64 : Int32) [.null, .null, .null, .null] .null := (V36.other W42 (Ne.symm ne37))
  have ne49 : b36 ≠ b45 := Nat.ne_of_lt (Nat.lt_of_lt_of_le f48.lt (Nat.le_of_eq g45.symm))
  have g_b45 : n0 ≤ b45 := Nat.le_trans z43 (Nat.le_of_eq g45.symm)
  have sz_b45 : h0.size ≤ b45 := Nat.le_trans K44.1 (Nat.le_of_eq g45.symm)
  have K50 : Keep h0 h45 [o] := K44.ext E45
  have z51 : n0 ≤ h45.size := (Nat.le_trans z43 E45.1)
  have V45 : Arv Z h45 b45 k45 .int (16 : Int32) [] (.int (0 : Int32)) := (Arv.new A45 (by decide)).pad (pad_rep [] (.int (0 : Int32)) 0)
  have f52 : Exa Z h45 o "com/example/entitygate/entitygate/OpenElements" := (Exa.ext E45 f46)
  have f53 : Fld Z h45 o "com/example/entitygate/entitygate/OpenElements" "landmarks" "[I" .null := (Fld.ext E45 (Fld.other W42 (Fld.ext E36 F_o_landmarks) (Or.inr (slot_ne (Or.inl (hw _ (List.mem_of_getElem? (i := 15) rfl))) (Or.inl (hw _ (List.mem_of_getElem? (i := 12) rfl))) (by decide) (t := (.array .int)) (t' := (.array (.object "com/example/entitygate/entitygate/HtmlNode$Element"))) (by decide) (by decide)))))
  refine own_putF X45 hx hZ hown (host := "") (Or.inl (hw _ (List.mem_of_getElem? (i := 14) rfl))) Via.refl e45 f53 f52 (Or.inl (hw _ (List.mem_of_getElem? (i := 15) rfl))) (hw _ (List.mem_of_getElem? (i := 1) rfl)) (ty := (.array .int)) (by decide) rfl rfl 21 (hb hby d_prog_30_method_1_18) rfl fun T54 h54 X54 e54 W54 => ?_
  have f54 : Fld Z h54 o "com/example/entitygate/entitygate/OpenElements" "landmarks" "[I" (.ref b45) := Fld.same W54 f53
  have N54 := Fr.snoc X54 N42 g_o
  have z55 : n0 ≤ h54.size := (Nat.le_trans z51 (Keep.of_wr W54).1)
  have K56 : Keep h0 h54 [o] := K50.wr W54 (Or.inl (List.mem_of_getElem? (i := 0) rfl))
  refine g_aload_n X54 hx 22 (hb hby d_prog_30_method_1_21) rfl rfl rfl ?_
  refine g_aload_n X54 hx 23 (hb hby d_prog_30_method_1_22) rfl rfl rfl ?_
  have f57 : Exa Z h54 o "com/example/entitygate/entitygate/OpenElements" := (Exa.wr W54 f52)
  have f58 : Fld Z h54 o "com/example/entitygate/entitygate/OpenElements" "landmarkTags" "Ljava/util/Set;" .null := (Fld.other W54 (Fld.ext E45 (Fld.other W42 (Fld.ext E36 F_o_landmarkTags) (Or.inr (slot_ne (Or.inr (hw _ (List.mem_of_getElem? (i := 17) rfl))) (Or.inl (hw _ (List.mem_of_getElem? (i := 12) rfl))) (by decide) (t := (.object "java/util/Set")) (t' := (.array (.object "com/example/entitygate/entitygate/HtmlNode$Element"))) (by decide) (by decide))))) (Or.inr (slot_ne (Or.inr (hw _ (List.mem_of_getElem? (i := 17) rfl))) (Or.inl (hw _ (List.mem_of_getElem? (i := 15) rfl))) (by decide) (t := (.object "java/util/Set")) (t' := (.array .int)) (by decide) (by decide))))
  refine own_putF X54 hx hZ hown (host := "") (Or.inl (hw _ (List.mem_of_getElem? (i := 16) rfl))) Via.refl e54 f58 f57 (Or.inr ⟨(hw _ (List.mem_of_getElem? (i := 17) rfl)), rfl, hnm⟩) (hw _ (List.mem_of_getElem? (i := 1) rfl)) (ty := (.object "java/util/Set")) (by decide) rfl rfl 26 (hb hby d_prog_30_method_1_23) rfl fun T59 h59 X59 e59 W59 => ?_
  have f59 : Fld Z h59 o "com/example/entitygate/entitygate/OpenElements" "landmarkTags" "Ljava/util/Set;" .null := Fld.same W59 f58
  have N59 := Fr.snoc X59 N54 g_o
  have z60 : n0 ≤ h59.size := (Nat.le_trans z55 (Keep.of_wr W59).1)
  have K61 : Keep h0 h59 [o] := K56.wr W59 (Or.inl (List.mem_of_getElem? (i := 0) rfl))
  have f62 : Fld Z h59 o "com/example/entitygate/entitygate/OpenElements" "elements" "[Lcom/example/entitygate/entitygate/HtmlNode$Element;" (.ref b36) := (Fld.other W59 (Fld.other W54 (Fld.ext E45 f42) (Or.inr (slot_ne (Or.inl (hw _ (List.mem_of_getElem? (i := 12) rfl))) (Or.inl (hw _ (List.mem_of_getElem? (i := 15) rfl))) (by decide) (t := (.array (.object "com/example/entitygate/entitygate/HtmlNode$Element"))) (t' := (.array .int)) (by decide) (by decide)))) (Or.inr (slot_ne (Or.inl (hw _ (List.mem_of_getElem? (i := 12) rfl))) (Or.inr (hw _ (List.mem_of_getElem? (i := 17) rfl))) (by decide) (t := (.array (.object "com/example/entitygate/entitygate/HtmlNode$Element"))) (t' := (.object "java/util/Set")) (by decide) (by decide))))
  have f63 : Fld Z h59 o "com/example/entitygate/entitygate/OpenElements" "size" "I" (.int (0 : Int32)) := (Fld.other W59 (Fld.other W54 (Fld.ext E45 (Fld.other W42 (Fld.ext E36 F_o_size) (Or.inr (slot_ne (Or.inl (hw _ (List.mem_of_getElem? (i := 61) rfl))) (Or.inl (hw _ (List.mem_of_getElem? (i := 12) rfl))) (by decide) (t := .int) (t' := (.array (.object "com/example/entitygate/entitygate/HtmlNode$Element"))) (by decide) (by decide))))) (Or.inr (slot_ne (Or.inl (hw _ (List.mem_of_getElem? (i := 61) rfl))) (Or.inl (hw _ (List.mem_of_getElem? (i := 15) rfl))) (by decide) (t := .int) (t' := (.array .int)) (by decide) (by decide)))) (Or.inr (slot_ne (Or.inl (hw _ (List.mem_of_getElem? (i := 61) rfl))) (Or.inr (hw _ (List.mem_of_getElem? (i := 17) rfl))) (by decide) (t := .int) (t' := (.object "java/util/Set")) (by decide) (by decide))))
  have f64 : Fld Z h59 o "com/example/entitygate/entitygate/OpenElements" "landmarkCount" "I" (.int (0 : Int32)) := (Fld.other W59 (Fld.other W54 (Fld.ext E45 (Fld.other W42 (Fld.ext E36 F_o_landmarkCount) (Or.inr (slot_ne (Or.inl (hw _ (List.mem_of_getElem? (i := 73) rfl))) (Or.inl (hw _ (List.mem_of_getElem? (i := 12) rfl))) (by decide) (t := .int) (t' := (.array (.object "com/example/entitygate/entitygate/HtmlNode$Element"))) (by decide) (by decide))))) (Or.inr (slot_ne (Or.inl (hw _ (List.mem_of_getElem? (i := 73) rfl))) (Or.inl (hw _ (List.mem_of_getElem? (i := 15) rfl))) (by decide) (t := .int) (t' := (.array .int)) (by decide) (by decide)))) (Or.inr (slot_ne (Or.inl (hw _ (List.mem_of_getElem? (i := 73) rfl))) (Or.inr (hw _ (List.mem_of_getElem? (i := 17) rfl))) (by decide) (t := .int) (t' := (.object "java/util/Set")) (by decide) (by decide))))
  have f65 : Arv Z h59 b36 k36 (.object "com/example/entitygate/entitygate/HtmlNode$Element") (64 : Int32) [.null, .null, .null, .null] .null := (((f48.ext E45).other W54 (Ne.symm ne37)).other W59 (Ne.symm ne37))
  refine own_retV X59 hx hlk hret (hb hby d_prog_30_method_1_26) ?_ (by decide) (by decide)
  rw [e59]
  exact ⟨b36, k36, rfl, N59, K61, g_b36, sz_b36, f62, f63, f64, f65, O36⟩
theorem d_prog_18_method_3_0 : decode prog_18_method_3_code 0 = .ok (.aload_n 0, 1) := by decide +kernel
theorem d_prog_18_method_3_1 : decode prog_18_method_3_code 1 = .ok (.getfield 17, 3) := by decide +kernel
theorem d_prog_18_method_3_4 : decode prog_18_method_3_code 4 = .ok (.getstatic 32, 3) := by decide +kernel
theorem d_prog_18_method_3_7 : decode prog_18_method_3_code 7 = .ok (.if_acmp .ne 7, 3) := by decide +kernel
theorem d_prog_18_method_3_14 : decode prog_18_method_3_code 14 = .ok (.iconst 0, 1) := by decide +kernel
theorem d_prog_18_method_3_15 : decode prog_18_method_3_code 15 = .ok (.ireturn, 1) := by decide +kernel
def Q_isHtml (Z : State) (x : Addr) (ht : Addr) (h0 : Heap) (n0 : Nat) (v : Option Value) (h : Heap) (L : List Loc) : Prop := v = some (.int (0 : Int32)) ∧ Fr n0 L ∧ h = h0
set_option maxRecDepth 65536 in
set_option maxHeartbeats 40000000 in
theorem rm_isHtml (l : Launch) (Z : State) (a0 : Array Value) (hw : ∀ d ∈ tables_1, d.before a0 Z = true) (ws : List Jvm.Cond) (x : Addr) (ht : Addr) (h0 : Heap) (n0 : Nat) (Z0 : n0 ≤ h0.size) (F_x_namespace : Fld Z h0 x "com/example/entitygate/entitygate/HtmlNode$Element" "namespace" "Lcom/example/entitygate/entitygate/HtmlNode$Namespace;" .null) (S_HTML : Sta Z h0 "com/example/entitygate/entitygate/HtmlNode$Namespace" "HTML" "Lcom/example/entitygate/entitygate/HtmlNode$Namespace;" (.ref ht)) :
    MetFree l (⟨"com/example/entitygate/entitygate/HtmlNode$Element", "isHtml", "()Z"⟩ : MethodName) (head1 (Jvm.Cond.code (⟨"com/example/entitygate/entitygate/HtmlNode$Element", "isHtml", "()Z"⟩ : MethodName) prog_18_method_3_code 1 (some .boolean) :: ws) ({ frames := 0, cells := 0, slots := 0, locals := 0 } : Room)) (fun aA U => aA = #[(.ref x)] ∧ Z.Warmed39 U.vm ∧ U.heap = h0) (fun _ _ _ _ _ => True) (fun _ U oO U' => ∃ vV LL, oO = .returned vV ∧ Q_isHtml Z x ht h0 n0 vV U'.heap LL ∧ FrameEnd U oO U' LL ({ frames := 0, cells := 0, slots := 0, locals := 0 } : Room).cells ({ frames := 0, cells := 0, slots := 0, locals := 0 } : Room).slots) := by
  refine MetFree.of_bodySF (plainFor_of_name pn_2) hisR ?_
  intro p e s m args below meth c s₁ Bd hml0 hP hK
  obtain ⟨rfl, hZ, hh⟩ := hP
  have hx := Bd.exec
  have hby := Bd.bytes
  have hml : c.maxLocals = 1 := hml0
  have hown : s.vm.findClass "com/example/entitygate/entitygate/HtmlNode$Element" = some m.cls := findClass_of_methodNamed Bd.named
  have hnm := (name_of_methodNamed Bd.named Bd.method).1
  have X0 : Stand p l e ({ frames := 0, cells := 0, slots := 0, locals := 0 } : Room) s m #[(.ref x)] below meth c s₁ [] 0 0 := Stand.of_body Bd
  have e0 : s₁.heap = h0 := by rw [← hh, Bd.state]; rfl
  have N0 := Fr.nil n0
  have hret := Bd.returns
  have hlk : meth.locks = false := Bd.notSynchronized
  refine own_start (ef_0 m x) ?_
  show own_Go p e below s (Q_isHtml Z x ht h0 n0) ({ frames := 0, cells := 0, slots := 0, locals := 0 } : Room).cells ({ frames := 0, cells := 0, slots := 0, locals := 0 } : Room).slots (s₁.setTop (mkF m 0 #[.val (.ref x)] []))
  refine g_aload_n X0 hx 1 (hb hby d_prog_18_method_3_0) rfl rfl rfl ?_
  refine own_getF X0 hx hZ hown (host := "") (Or.inl (hw _ (List.mem_of_getElem? (i := 39) rfl))) Via.refl e0 F_x_namespace 4 (hb hby d_prog_18_method_3_1) rfl fun T66 X66 e66 => ?_
  refine own_getS X66 hx hZ hown (host := "") (Or.inl (hw _ (List.mem_of_getElem? (i := 83) rfl))) Via.refl e66 S_HTML 7 (hb hby d_prog_18_method_3_4) rfl fun T67 X67 e67 => ?_
  refine g_acmp X67 hx (x := .null) (y := (.ref ht)) (same := false) 14 (hb hby d_prog_18_method_3_7) rfl rfl (decide_eq_false nofun) (by decide) (by decide) ?_
  refine g_iconst X67 hx 15 (hb hby d_prog_18_method_3_14) (0 : Int32) rfl rfl ?_
  refine own_retN X67 hx hlk (t := .boolean) hret (by simp) (hb hby d_prog_18_method_3_15) ?_ (by decide) (by decide)
  rw [e67]
  exact ⟨(own_rb rfl), N0, rfl⟩
theorem d_prog_30_method_20_0 : decode prog_30_method_20_code 0 = .ok (.aload_n 1, 1) := by decide +kernel
theorem d_prog_30_method_20_1 : decode prog_30_method_20_code 1 = .ok (.invokevirtual 59, 3) := by decide +kernel
theorem pd_1 : parseMethodDescriptor "()Z" = some ⟨[], some .boolean⟩ := by decide +kernel
theorem d_prog_30_method_20_4 : decode prog_30_method_20_code 4 = .ok (.ifCond .eq 30, 3) := by decide +kernel
theorem d_prog_30_method_20_34 : decode prog_30_method_20_code 34 = .ok (.iconst 0, 1) := by decide +kernel
theorem d_prog_30_method_20_35 : decode prog_30_method_20_code 35 = .ok (.ireturn, 1) := by decide +kernel
theorem ef_3 (m : MethodId) (x0 : Addr) (x1 : Addr) : entryFrame m #[(.ref x0), (.ref x1)] 2 = mkF m 0 #[.val (.ref x0), .val (.ref x1)] [] := by first | (simp [entryFrame, mkF, argsToLocals, Value.category]; done) | rfl
def Q_isLm (Z : State) (o : Addr) (x : Addr) (ht : Addr) (h0 : Heap) (n0 : Nat) (v : Option Value) (h : Heap) (L : List Loc) : Prop := v = some (.int (0 : Int32)) ∧ Fr n0 L ∧ h = h0
set_option maxRecDepth 65536 in
set_option maxHeartbeats 40000000 in
theorem rm_isLm (l : Launch) (Z : State) (a0 : Array Value) (hw : ∀ d ∈ tables_1, d.before a0 Z = true) (ws : List Jvm.Cond) (o : Addr) (x : Addr) (ht : Addr) (h0 : Heap) (n0 : Nat) (Z0 : n0 ≤ h0.size) (E_x : Exa Z h0 x "com/example/entitygate/entitygate/HtmlNode$Element") (F_x_namespace : Fld Z h0 x "com/example/entitygate/entitygate/HtmlNode$Element" "namespace" "Lcom/example/entitygate/entitygate/HtmlNode$Namespace;" .null) (S_HTML : Sta Z h0 "com/example/entitygate/entitygate/HtmlNode$Namespace" "HTML" "Lcom/example/entitygate/entitygate/HtmlNode$Namespace;" (.ref ht)) :
    MetFree l (⟨"com/example/entitygate/entitygate/OpenElements", "isLandmark", "(Lcom/example/entitygate/entitygate/HtmlNode$Element;)Z"⟩ : MethodName) (head1 (Jvm.Cond.code (⟨"com/example/entitygate/entitygate/OpenElements", "isLandmark", "(Lcom/example/entitygate/entitygate/HtmlNode$Element;)Z"⟩ : MethodName) prog_30_method_20_code 2 (some .boolean) :: ws) ({ frames := 1, cells := 0, slots := 0, locals := 12 } : Room)) (fun aA U => aA = #[(.ref o), (.ref x)] ∧ Z.Warmed39 U.vm ∧ U.heap = h0) (fun _ _ _ _ _ => True) (fun _ U oO U' => ∃ vV LL, oO = .returned vV ∧ Q_isLm Z o x ht h0 n0 vV U'.heap LL ∧ FrameEnd U oO U' LL ({ frames := 1, cells := 0, slots := 0, locals := 12 } : Room).cells ({ frames := 1, cells := 0, slots := 0, locals := 12 } : Room).slots) := by
  refine MetFree.of_bodySF (plainFor_of_name pn_3) hisR ?_
  intro p e s m args below meth c s₁ Bd hml0 hP hK
  obtain ⟨rfl, hZ, hh⟩ := hP
  have hx := Bd.exec
  have hby := Bd.bytes
  have hml : c.maxLocals = 2 := hml0
  have hown : s.vm.findClass "com/example/entitygate/entitygate/OpenElements" = some m.cls := findClass_of_methodNamed Bd.named
  have hnm := (name_of_methodNamed Bd.named Bd.method).1
  have X0 : Stand p l e ({ frames := 1, cells := 0, slots := 0, locals := 12 } : Room) s m #[(.ref o), (.ref x)] below meth c s₁ [] 0 0 := Stand.of_body Bd
  have e0 : s₁.heap = h0 := by rw [← hh, Bd.state]; rfl
  have N0 := Fr.nil n0
  have hret := Bd.returns
  have hlk : meth.locks = false := Bd.notSynchronized
  refine own_start (ef_3 m o x) ?_
  show own_Go p e below s (Q_isLm Z o x ht h0 n0) ({ frames := 1, cells := 0, slots := 0, locals := 12 } : Room).cells ({ frames := 1, cells := 0, slots := 0, locals := 12 } : Room).slots (s₁.setTop (mkF m 0 #[.val (.ref o), .val (.ref x)] []))
  refine g_aload_n X0 hx 1 (hb hby d_prog_30_method_20_0) rfl rfl rfl ?_
  refine own_callV X0 hx hZ hown (hw _ (List.mem_of_getElem? (i := 78) rfl)) (hw _ (List.mem_of_getElem? (i := 79) rfl)) (own_nf hZ (hw _ (List.mem_of_getElem? (i := 81) rfl))) (hw _ (List.mem_of_getElem? (i := 81) rfl)) (hw _ (List.mem_of_getElem? (i := 80) rfl)) (by decide) (rm_isHtml l Z a0 hw [] x ht h0 n0 Z0 F_x_namespace S_HTML) (hw _ (List.mem_of_getElem? (i := 82) rfl)) (hw _ (List.mem_of_getElem? (i := 20) rfl)) e0 0 (by decide) (by decide) (by decide) (by decide) E_x [] [] rfl pd_1 rfl 4 rfl (by rw [hml]; rfl) rfl (hb hby d_prog_30_method_20_1) rfl fun T68 v68 L68 X68 hQ68 => ?_
  obtain ⟨rfl, Nq68, e68⟩ := hQ68
  have N68 := Fr.app N0 Nq68
  show own_Go p e below s _ _ _ (T68.setTop (mkF m 4 _ [(.int (0 : Int32))]))
  refine g_ifYes X68 hx 34 (hb hby d_prog_30_method_20_4) (own_i0_eq_t (by decide)) (by decide) (by decide) ?_
  refine g_iconst X68 hx 35 (hb hby d_prog_30_method_20_34) (0 : Int32) rfl rfl ?_
  refine own_retN X68 hx hlk (t := .boolean) hret (by simp) (hb hby d_prog_30_method_20_35) ?_ (by decide) (by decide)
  rw [e68]
  exact ⟨(own_rb rfl), N68, rfl⟩
theorem d_prog_30_method_15_0 : decode prog_30_method_15_code 0 = .ok (.aload_n 0, 1) := by decide +kernel
theorem d_prog_30_method_15_1 : decode prog_30_method_15_code 1 = .ok (.getfield 23, 3) := by decide +kernel
theorem d_prog_30_method_15_4 : decode prog_30_method_15_code 4 = .ok (.aload_n 0, 1) := by decide +kernel
theorem d_prog_30_method_15_5 : decode prog_30_method_15_code 5 = .ok (.getfield 9, 3) := by decide +kernel
theorem d_prog_30_method_15_8 : decode prog_30_method_15_code 8 = .ok (.arraylength, 1) := by decide +kernel
theorem d_prog_30_method_15_9 : decode prog_30_method_15_code 9 = .ok (.if_icmp .ne 23, 3) := by decide +kernel
theorem d_prog_30_method_15_32 : decode prog_30_method_15_code 32 = .ok (.aload_n 0, 1) := by decide +kernel
theorem d_prog_30_method_15_33 : decode prog_30_method_15_code 33 = .ok (.getfield 9, 3) := by decide +kernel
theorem d_prog_30_method_15_36 : decode prog_30_method_15_code 36 = .ok (.iload_n 1, 1) := by decide +kernel
theorem d_prog_30_method_15_37 : decode prog_30_method_15_code 37 = .ok (.aload_n 0, 1) := by decide +kernel
theorem d_prog_30_method_15_38 : decode prog_30_method_15_code 38 = .ok (.getfield 9, 3) := by decide +kernel
theorem d_prog_30_method_15_41 : decode prog_30_method_15_code 41 = .ok (.iload_n 1, 1) := by decide +kernel
theorem d_prog_30_method_15_42 : decode prog_30_method_15_code 42 = .ok (.iconst 1, 1) := by decide +kernel
theorem d_prog_30_method_15_43 : decode prog_30_method_15_code 43 = .ok (.iadd, 1) := by decide +kernel
theorem d_prog_30_method_15_44 : decode prog_30_method_15_code 44 = .ok (.aload_n 0, 1) := by decide +kernel
theorem d_prog_30_method_15_45 : decode prog_30_method_15_code 45 = .ok (.getfield 23, 3) := by decide +kernel
theorem d_prog_30_method_15_48 : decode prog_30_method_15_code 48 = .ok (.iload_n 1, 1) := by decide +kernel
theorem d_prog_30_method_15_49 : decode prog_30_method_15_code 49 = .ok (.isub, 1) := by decide +kernel
theorem d_prog_30_method_15_50 : decode prog_30_method_15_code 50 = .ok (.invokestatic 84, 3) := by decide +kernel
theorem d_prog_30_method_15_53 : decode prog_30_method_15_code 53 = .ok (.aload_n 0, 1) := by decide +kernel
theorem d_prog_30_method_15_54 : decode prog_30_method_15_code 54 = .ok (.getfield 9, 3) := by decide +kernel
theorem d_prog_30_method_15_57 : decode prog_30_method_15_code 57 = .ok (.iload_n 1, 1) := by decide +kernel
theorem d_prog_30_method_15_58 : decode prog_30_method_15_code 58 = .ok (.aload_n 2, 1) := by decide +kernel
theorem d_prog_30_method_15_59 : decode prog_30_method_15_code 59 = .ok (.aastore, 1) := by decide +kernel
theorem d_prog_30_method_15_60 : decode prog_30_method_15_code 60 = .ok (.aload_n 0, 1) := by decide +kernel
theorem d_prog_30_method_15_61 : decode prog_30_method_15_code 61 = .ok (.dup, 1) := by decide +kernel
theorem d_prog_30_method_15_62 : decode prog_30_method_15_code 62 = .ok (.getfield 23, 3) := by decide +kernel
theorem d_prog_30_method_15_65 : decode prog_30_method_15_code 65 = .ok (.iconst 1, 1) := by decide +kernel
theorem d_prog_30_method_15_66 : decode prog_30_method_15_code 66 = .ok (.iadd, 1) := by decide +kernel
theorem d_prog_30_method_15_67 : decode prog_30_method_15_code 67 = .ok (.putfield 23, 3) := by decide +kernel
theorem d_prog_30_method_15_70 : decode prog_30_method_15_code 70 = .ok (.aload_n 2, 1) := by decide +kernel
theorem d_prog_30_method_15_71 : decode prog_30_method_15_code 71 = .ok (.iconst 1, 1) := by decide +kernel
theorem d_prog_30_method_15_72 : decode prog_30_method_15_code 72 = .ok (.putfield 31, 3) := by decide +kernel
theorem d_prog_30_method_15_75 : decode prog_30_method_15_code 75 = .ok (.aload_n 0, 1) := by decide +kernel
theorem d_prog_30_method_15_76 : decode prog_30_method_15_code 76 = .ok (.getfield 39, 3) := by decide +kernel
theorem d_prog_30_method_15_79 : decode prog_30_method_15_code 79 = .ok (.istore_n 3, 1) := by decide +kernel
theorem d_prog_30_method_15_80 : decode prog_30_method_15_code 80 = .ok (.iload_n 3, 1) := by decide +kernel
theorem d_prog_30_method_15_81 : decode prog_30_method_15_code 81 = .ok (.ifCond .le 33, 3) := by decide +kernel
theorem d_prog_30_method_15_114 : decode prog_30_method_15_code 114 = .ok (.aload_n 0, 1) := by decide +kernel
theorem d_prog_30_method_15_115 : decode prog_30_method_15_code 115 = .ok (.aload_n 2, 1) := by decide +kernel
theorem d_prog_30_method_15_116 : decode prog_30_method_15_code 116 = .ok (.invokevirtual 35, 3) := by decide +kernel
theorem pd_2 : parseMethodDescriptor "(Lcom/example/entitygate/entitygate/HtmlNode$Element;)Z" = some ⟨[(.object "com/example/entitygate/entitygate/HtmlNode$Element")], some .boolean⟩ := by decide +kernel
theorem d_prog_30_method_15_119 : decode prog_30_method_15_code 119 = .ok (.ifCond .eq 70, 3) := by decide +kernel
theorem d_prog_30_method_15_189 : decode prog_30_method_15_code 189 = .ok (.return_, 1) := by decide +kernel
theorem ef_4 (m : MethodId) (x0 : Addr) (x1 : Int32) (x2 : Addr) : entryFrame m #[(.ref x0), (.int x1), (.ref x2)] 4 = mkF m 0 #[.val (.ref x0), .val (.int x1), .val (.ref x2), .unset] [] := by first | (simp [entryFrame, mkF, argsToLocals, Value.category]; done) | rfl
def Q_insAt0 (Z : State) (o : Addr) (x : Addr) (ae : Addr) (ke : ClassId) (ht : Addr) (h0 : Heap) (n0 : Nat) (v : Option Value) (h : Heap) (L : List Loc) : Prop := v = none ∧ Fr n0 L ∧ Keep h0 h [o, x, ae] ∧ Fld Z h o "com/example/entitygate/entitygate/OpenElements" "elements" "[Lcom/example/entitygate/entitygate/HtmlNode$Element;" (.ref ae) ∧ Fld Z h o "com/example/entitygate/entitygate/OpenElements" "size" "I" (.int (1 : Int32)) ∧ Fld Z h o "com/example/entitygate/entitygate/OpenElements" "landmarkCount" "I" (.int (0 : Int32)) ∧ Fld Z h x "com/example/entitygate/entitygate/HtmlNode$Element" "open" "Z" (.int (1 : Int32)) ∧ Arv Z h ae ke (.object "com/example/entitygate/entitygate/HtmlNode$Element") (64 : Int32) [(.ref x), .null, .null, .null] .null
set_option maxRecDepth 65536 in
set_option maxHeartbeats 40000000 in
theorem rm_insAt0 (l : Launch) (Z : State) (a0 : Array Value) (hw : ∀ d ∈ tables_1, d.before a0 Z = true) (ws : List Jvm.Cond) (o : Addr) (x : Addr) (ae : Addr) (ke : ClassId) (ht : Addr) (h0 : Heap) (n0 : Nat) (Z0 : n0 ≤ h0.size) (E_o : Exa Z h0 o "com/example/entitygate/entitygate/OpenElements") (E_x : Exa Z h0 x "com/example/entitygate/entitygate/HtmlNode$Element") (F_o_elements : Fld Z h0 o "com/example/entitygate/entitygate/OpenElements" "elements" "[Lcom/example/entitygate/entitygate/HtmlNode$Element;" (.ref ae)) (F_o_size : Fld Z h0 o "com/example/entitygate/entitygate/OpenElements" "size" "I" (.int (0 : Int32))) (F_o_landmarkCount : Fld Z h0 o "com/example/entitygate/entitygate/OpenElements" "landmarkCount" "I" (.int (0 : Int32))) (F_x_tag : Fld Z h0 x "com/example/entitygate/entitygate/HtmlNode$Element" "tag" "Lcom/example/entitygate/entitygate/HtmlTag;" .null) (F_x_namespace : Fld Z h0 x "com/example/entitygate/entitygate/HtmlNode$Element" "namespace" "Lcom/example/entitygate/entitygate/HtmlNode$Namespace;" .null) (F_x_open : Fld Z h0 x "com/example/entitygate/entitygate/HtmlNode$Element" "open" "Z" (.int (0 : Int32))) (V_ae : Arv Z h0 ae ke (.object "com/example/entitygate/entitygate/HtmlNode$Element") (64 : Int32) [.null, .null, .null, .null] .null) (O_ae : Ovr Z ke "com/example/entitygate/entitygate/HtmlNode$Element") (S_HTML : Sta Z h0 "com/example/entitygate/entitygate/HtmlNode$Namespace" "HTML" "Lcom/example/entitygate/entitygate/HtmlNode$Namespace;" (.ref ht)) (ne_o_x : o ≠ x) (ne_o_ae : o ≠ ae) (ne_x_ae : x ≠ ae) (g_o : n0 ≤ o) (g_x : n0 ≤ x) (g_ae : n0 ≤ ae) :
    MetFree l (⟨"com/example/entitygate/entitygate/OpenElements", "insertAt", "(ILcom/example/entitygate/entitygate/HtmlNode$Element;)V"⟩ : MethodName) (head1 (Jvm.Cond.code (⟨"com/example/entitygate/entitygate/OpenElements", "insertAt", "(ILcom/example/entitygate/entitygate/HtmlNode$Element;)V"⟩ : MethodName) prog_30_method_15_code 4 none :: ws) ({ frames := 2, cells := 0, slots := 0, locals := 25 } : Room)) (fun aA U => aA = #[(.ref o), (.int (0 : Int32)), (.ref x)] ∧ Z.Warmed39 U.vm ∧ U.heap = h0) (fun _ _ _ _ _ => True) (fun _ U oO U' => ∃ vV LL, oO = .returned vV ∧ Q_insAt0 Z o x ae ke ht h0 n0 vV U'.heap LL ∧ FrameEnd U oO U' LL ({ frames := 2, cells := 0, slots := 0, locals := 25 } : Room).cells ({ frames := 2, cells := 0, slots := 0, locals := 25 } : Room).slots) := by
  refine MetFree.of_bodySF (plainFor_of_name pn_3) hisR ?_
  intro p e s m args below meth c s₁ Bd hml0 hP hK
  obtain ⟨rfl, hZ, hh⟩ := hP
  have hx := Bd.exec
  have hby := Bd.bytes
  have hml : c.maxLocals = 4 := hml0
  have hown : s.vm.findClass "com/example/entitygate/entitygate/OpenElements" = some m.cls := findClass_of_methodNamed Bd.named
  have hnm := (name_of_methodNamed Bd.named Bd.method).1
  have X0 : Stand p l e ({ frames := 2, cells := 0, slots := 0, locals := 25 } : Room) s m #[(.ref o), (.int (0 : Int32)), (.ref x)] below meth c s₁ [] 0 0 := Stand.of_body Bd
  have e0 : s₁.heap = h0 := by rw [← hh, Bd.state]; rfl
  have N0 := Fr.nil n0
  have hret := Bd.returns
  have hlk : meth.locks = false := Bd.notSynchronized
  refine own_start (ef_4 m o (0 : Int32) x) ?_
  show own_Go p e below s (Q_insAt0 Z o x ae ke ht h0 n0) ({ frames := 2, cells := 0, slots := 0, locals := 25 } : Room).cells ({ frames := 2, cells := 0, slots := 0, locals := 25 } : Room).slots (s₁.setTop (mkF m 0 #[.val (.ref o), .val (.int (0 : Int32)), .val (.ref x), .unset] []))
  refine g_aload_n X0 hx 1 (hb hby d_prog_30_method_15_0) rfl rfl rfl ?_
  refine own_getF X0 hx hZ hown (host := "") (Or.inl (hw _ (List.mem_of_getElem? (i := 60) rfl))) Via.refl e0 F_o_size 4 (hb hby d_prog_30_method_15_1) rfl fun T69 X69 e69 => ?_
  refine g_aload_n X69 hx 5 (hb hby d_prog_30_method_15_4) rfl rfl rfl ?_
  refine own_getF X69 hx hZ hown (host := "") (Or.inl (hw _ (List.mem_of_getElem? (i := 11) rfl))) Via.refl e69 F_o_elements 8 (hb hby d_prog_30_method_15_5) rfl fun T70 X70 e70 => ?_
  obtain ⟨cl71, Ar71, q71, S71, P71, H71, G71⟩ := id V_ae
  refine own_arraylength X70 hx hZ e70 Ar71 S71 P71 9 (hb hby d_prog_30_method_15_8) rfl ?_
  refine g_icmpYes X70 hx 32 (hb hby d_prog_30_method_15_9) (own_ii_ne_t (by decide)) (by decide) (by decide) ?_
  refine g_aload_n X70 hx 33 (hb hby d_prog_30_method_15_32) rfl rfl rfl ?_
  refine own_getF X70 hx hZ hown (host := "") (Or.inl (hw _ (List.mem_of_getElem? (i := 11) rfl))) Via.refl e70 F_o_elements 36 (hb hby d_prog_30_method_15_33) rfl fun T72 X72 e72 => ?_
  refine g_iload_n X72 hx 37 (hb hby d_prog_30_method_15_36) rfl rfl ?_
  refine g_aload_n X72 hx 38 (hb hby d_prog_30_method_15_37) rfl rfl rfl ?_
  refine own_getF X72 hx hZ hown (host := "") (Or.inl (hw _ (List.mem_of_getElem? (i := 11) rfl))) Via.refl e72 F_o_elements 41 (hb hby d_prog_30_method_15_38) rfl fun T73 X73 e73 => ?_
  refine g_iload_n X73 hx 42 (hb hby d_prog_30_method_15_41) rfl rfl ?_
  refine g_iconst X73 hx 43 (hb hby d_prog_30_method_15_42) (1 : Int32) rfl rfl ?_
  refine g_iadd X73 hx 44 (hb hby d_prog_30_method_15_43) rfl ?_
  show own_Go p e below s _ _ _ (T73.setTop (mkF m 44 _ [(.int (1 : Int32)), (.ref ae), (.int (0 : Int32)), (.ref ae)]))
  refine g_aload_n X73 hx 45 (hb hby d_prog_30_method_15_44) rfl rfl rfl ?_
  refine own_getF X73 hx hZ hown (host := "") (Or.inl (hw _ (List.mem_of_getElem? (i := 60) rfl))) Via.refl e73 F_o_size 48 (hb hby d_prog_30_method_15_45) rfl fun T74 X74 e74 => ?_
  refine g_iload_n X74 hx 49 (hb hby d_prog_30_method_15_48) rfl rfl ?_
  refine g_isub X74 hx 50 (hb hby d_prog_30_method_15_49) rfl ?_
  show own_Go p e below s _ _ _ (T74.setTop (mkF m 50 _ [(.int (0 : Int32)), (.int (1 : Int32)), (.ref ae), (.int (0 : Int32)), (.ref ae)]))
  refine own_cpA X74 hx hZ hown (hw _ (List.mem_of_getElem? (i := 67) rfl)) (hw _ (List.mem_of_getElem? (i := 70) rfl)) (hw _ (List.mem_of_getElem? (i := 68) rfl)) (hw _ (List.mem_of_getElem? (i := 69) rfl)) e74 [] V_ae V_ae (Or.inr ⟨rfl, rfl, trivial⟩) (by decide) (by decide) (by decide) (by decide) (by decide) rfl (Nat.le_of_ble_eq_true rfl) N0 g_ae 53 (by rw [hml]; rfl) (hb hby d_prog_30_method_15_50) rfl (by decide) 0 rfl (by decide) fun T75 h75 L75 X75 e75 N75 Kc75 Vc75 => ?_
  have V75 : Arv Z h75 ae ke (.object "com/example/entitygate/entitygate/HtmlNode$Element") (64 : Int32) [.null, .null, .null, .null] .null := Vc75
  have K76 : Keep h0 h75 [o, x, ae] := (Keep.refl h0 [o, x, ae]).trans Kc75 (allS (Or.inl (List.mem_of_getElem? (i := 2) rfl)) all0)
  have z77 : n0 ≤ h75.size := (Nat.le_trans Z0 Kc75.1)
  refine g_aload_n X75 hx 54 (hb hby d_prog_30_method_15_53) rfl rfl rfl ?_
  have f78 : Fld Z h75 o "com/example/entitygate/entitygate/OpenElements" "elements" "[Lcom/example/entitygate/entitygate/HtmlNode$Element;" (.ref ae) := (F_o_elements.keep Kc75 (ninS ne_o_ae nin0))
  refine own_getF X75 hx hZ hown (host := "") (Or.inl (hw _ (List.mem_of_getElem? (i := 11) rfl))) Via.refl e75 f78 57 (hb hby d_prog_30_method_15_54) rfl fun T79 X79 e79 => ?_
  refine g_iload_n X79 hx 58 (hb hby d_prog_30_method_15_57) rfl rfl ?_
  refine g_aload_n X79 hx 59 (hb hby d_prog_30_method_15_58) rfl rfl rfl ?_
  obtain ⟨cl80, Ar80, q80, S80, P80, H80, G80⟩ := id V75
  have hin80 := inb_of (j := (0 : Int32)) S80 ⟨by decide, by decide⟩
  have f81 : Exa Z h75 x "com/example/entitygate/entitygate/HtmlNode$Element" := (E_x.keep Kc75)
  refine own_stR X79 hx hZ e79 Ar80 hin80 rfl (Sto.ofV Ar80 q80 O_ae (Ins.self f81)) 60 (hb hby d_prog_30_method_15_59) rfl fun T80 h80 X80 e80 W80 => ?_
  have V80 : Arv Z h80 ae ke (.object "com/example/entitygate/entitygate/HtmlNode$Element") (64 : Int32) [(.ref x), .null, .null, .null] .null := Arv.set Ar80 q80 S80 P80 H80 G80 (v := (.ref x)) rfl W80 0 rfl (Nat.le_of_ble_eq_true rfl)
  have N80 := Fr.snoc X80 N75 g_ae
  have z82 : n0 ≤ h80.size := (Nat.le_trans z77 (Keep.of_wr W80).1)
  have K83 : Keep h0 h80 [o, x, ae] := K76.wr W80 (Or.inl (List.mem_of_getElem? (i := 2) rfl))
  refine g_aload_n X80 hx 61 (hb hby d_prog_30_method_15_60) rfl rfl rfl ?_
  refine g_dup X80 hx 62 (hb hby d_prog_30_method_15_61) rfl rfl ?_
  have f84 : Fld Z h80 o "com/example/entitygate/entitygate/OpenElements" "size" "I" (.int (0 : Int32)) := (Fld.other W80 (F_o_size.keep Kc75 (ninS ne_o_ae nin0)) (Or.inl ne_o_ae))
  refine own_getF X80 hx hZ hown (host := "") (Or.inl (hw _ (List.mem_of_getElem? (i := 60) rfl))) Via.refl e80 f84 65 (hb hby d_prog_30_method_15_62) rfl fun T85 X85 e85 => ?_
  refine g_iconst X85 hx 66 (hb hby d_prog_30_method_15_65) (1 : Int32) rfl rfl ?_
  refine g_iadd X85 hx 67 (hb hby d_prog_30_method_15_66) rfl ?_
  show own_Go p e below s _ _ _ (T85.setTop (mkF m 67 _ [(.int (1 : Int32)), (.ref o)]))
  have f86 : Exa Z h80 o "com/example/entitygate/entitygate/OpenElements" := (Exa.wr W80 (E_o.keep Kc75))
  refine own_putF X85 hx hZ hown (host := "") (Or.inl (hw _ (List.mem_of_getElem? (i := 60) rfl))) Via.refl e85 f84 f86 (Or.inl (hw _ (List.mem_of_getElem? (i := 61) rfl))) (hw _ (List.mem_of_getElem? (i := 1) rfl)) (ty := .int) (by decide) rfl rfl 70 (hb hby d_prog_30_method_15_67) rfl fun T87 h87 X87 e87 W87 => ?_
  have f87 : Fld Z h87 o "com/example/entitygate/entitygate/OpenElements" "size" "I" (.int (1 : Int32)) := Fld.same W87 f84
  have N87 := Fr.snoc X87 N80 g_o
  have z88 : n0 ≤ h87.size := (Nat.le_trans z82 (Keep.of_wr W87).1)
  have K89 : Keep h0 h87 [o, x, ae] := K83.wr W87 (Or.inl (List.mem_of_getElem? (i := 0) rfl))
  refine g_aload_n X87 hx 71 (hb hby d_prog_30_method_15_70) rfl rfl rfl ?_
  refine g_iconst X87 hx 72 (hb hby d_prog_30_method_15_71) (1 : Int32) rfl rfl ?_
  have f90 : Exa Z h87 x "com/example/entitygate/entitygate/HtmlNode$Element" := (Exa.wr W87 (Exa.wr W80 f81))
  have f91 : Fld Z h87 x "com/example/entitygate/entitygate/HtmlNode$Element" "open" "Z" (.int (0 : Int32)) := (Fld.other W87 (Fld.other W80 (F_x_open.keep Kc75 (ninS ne_x_ae nin0)) (Or.inl ne_x_ae)) (Or.inl (Ne.symm ne_o_x)))
  refine own_putFN X87 hx hZ hown (hw _ (List.mem_of_getElem? (i := 53) rfl)) Via.refl e87 (.int (1 : Int32)) f91 f90 (Or.inl (hw _ (List.mem_of_getElem? (i := 54) rfl))) (hw _ (List.mem_of_getElem? (i := 19) rfl)) (ty := .boolean) (by decide) rfl rfl 75 (hb hby d_prog_30_method_15_72) rfl fun T92 h92 X92 e92 W92 => ?_
  have f92 : Fld Z h92 x "com/example/entitygate/entitygate/HtmlNode$Element" "open" "Z" (.int (1 : Int32)) := Fld.same W92 f91
  have N92 := Fr.snoc X92 N87 g_x
  have z93 : n0 ≤ h92.size := (Nat.le_trans z88 (Keep.of_wr W92).1)
  have K94 : Keep h0 h92 [o, x, ae] := K89.wr W92 (Or.inl (List.mem_of_getElem? (i := 1) rfl))
  refine g_aload_n X92 hx 76 (hb hby d_prog_30_method_15_75) rfl rfl rfl ?_
  have f95 : Fld Z h92 o "com/example/entitygate/entitygate/OpenElements" "landmarkCount" "I" (.int (0 : Int32)) := (Fld.other W92 (Fld.other W87 (Fld.other W80 (F_o_landmarkCount.keep Kc75 (ninS ne_o_ae nin0)) (Or.inl ne_o_ae)) (Or.inr (slot_ne (Or.inl (hw _ (List.mem_of_getElem? (i := 73) rfl))) (Or.inl (hw _ (List.mem_of_getElem? (i := 61) rfl))) (by decide) (t := .int) (t' := .int) (by decide) (by decide)))) (Or.inl ne_o_x))
  refine own_getF X92 hx hZ hown (host := "") (Or.inl (hw _ (List.mem_of_getElem? (i := 72) rfl))) Via.refl e92 f95 79 (hb hby d_prog_30_method_15_76) rfl fun T96 X96 e96 => ?_
  refine g_istore_n X96 hx 80 (hb hby d_prog_30_method_15_79) (l' := #[.val (.ref o), .val (.int (0 : Int32)), .val (.ref x), .val (.int (0 : Int32))]) rfl rfl ?_
  refine g_iload_n X96 hx 81 (hb hby d_prog_30_method_15_80) rfl rfl ?_
  refine g_ifYes X96 hx 114 (hb hby d_prog_30_method_15_81) (own_i0_le_t (by decide)) (by decide) (by decide) ?_
  refine g_aload_n X96 hx 115 (hb hby d_prog_30_method_15_114) rfl rfl rfl ?_
  refine g_aload_n X96 hx 116 (hb hby d_prog_30_method_15_115) rfl rfl rfl ?_
  have f98 : Exa Z h92 x "com/example/entitygate/entitygate/HtmlNode$Element" := (Exa.wr W92 f90)
  have f99 : Fld Z h92 x "com/example/entitygate/entitygate/HtmlNode$Element" "namespace" "Lcom/example/entitygate/entitygate/HtmlNode$Namespace;" .null := (Fld.other W92 (Fld.other W87 (Fld.other W80 (F_x_namespace.keep Kc75 (ninS ne_x_ae nin0)) (Or.inl ne_x_ae)) (Or.inl (Ne.symm ne_o_x))) (Or.inr (slot_ne (Or.inr (hw _ (List.mem_of_getElem? (i := 40) rfl))) (Or.inl (hw _ (List.mem_of_getElem? (i := 54) rfl))) (by decide) (t := (.object "com/example/entitygate/entitygate/HtmlNode$Namespace")) (t' := .boolean) (by decide) (by decide))))
  have f100 : Sta Z h92 "com/example/entitygate/entitygate/HtmlNode$Namespace" "HTML" "Lcom/example/entitygate/entitygate/HtmlNode$Namespace;" (.ref ht) := (Sta.wr W92 (Sta.wr W87 (Sta.wr W80 (own_Sta_keep Kc75 S_HTML (allS (own_plainA V_ae) all0)))))
  have f101 : Exa Z h92 o "com/example/entitygate/entitygate/OpenElements" := (Exa.wr W92 (Exa.wr W87 f86))
  refine own_callP X96 hx hZ hown (hw _ (List.mem_of_getElem? (i := 74) rfl)) (hw _ (List.mem_of_getElem? (i := 75) rfl)) (hw _ (List.mem_of_getElem? (i := 51) rfl)) rfl (hw _ (List.mem_of_getElem? (i := 76) rfl)) (by decide) (rm_isLm l Z a0 hw [] o x ht h92 n0 z93 f98 f99 f100) (hw _ (List.mem_of_getElem? (i := 77) rfl)) (hw _ (List.mem_of_getElem? (i := 2) rfl)) e96 0 (by decide) (by decide) (by decide) (by decide) f101 [(.ref x)] [] rfl pd_2 rfl 119 rfl (by rw [hml]; rfl) rfl (hb hby d_prog_30_method_15_116) rfl fun T97 v97 L97 X97 hQ97 => ?_
  obtain ⟨rfl, Nq97, e97⟩ := hQ97
  have N97 := Fr.app N92 Nq97
  show own_Go p e below s _ _ _ (T97.setTop (mkF m 119 _ [(.int (0 : Int32))]))
  refine g_ifYes X97 hx 189 (hb hby d_prog_30_method_15_119) (own_i0_eq_t (by decide)) (by decide) (by decide) ?_
  have f102 : Fld Z h92 o "com/example/entitygate/entitygate/OpenElements" "elements" "[Lcom/example/entitygate/entitygate/HtmlNode$Element;" (.ref ae) := (Fld.other W92 (Fld.other W87 (Fld.other W80 f78 (Or.inl ne_o_ae)) (Or.inr (slot_ne (Or.inl (hw _ (List.mem_of_getElem? (i := 12) rfl))) (Or.inl (hw _ (List.mem_of_getElem? (i := 61) rfl))) (by decide) (t := (.array (.object "com/example/entitygate/entitygate/HtmlNode$Element"))) (t' := .int) (by decide) (by decide)))) (Or.inl ne_o_x))
  have f103 : Fld Z h92 o "com/example/entitygate/entitygate/OpenElements" "size" "I" (.int (1 : Int32)) := (Fld.other W92 f87 (Or.inl ne_o_x))
  have f104 : Arv Z h92 ae ke (.object "com/example/entitygate/entitygate/HtmlNode$Element") (64 : Int32) [(.ref x), .null, .null, .null] .null := ((V80.other W87 (Ne.symm ne_o_ae)).other W92 (Ne.symm ne_x_ae))
  refine own_retV X97 hx hlk hret (hb hby d_prog_30_method_15_189) ?_ (by decide) (by decide)
  rw [e97]
  exact ⟨rfl, N97, K94, f102, f103, f95, f92, f104⟩
theorem d_prog_30_method_5_0 : decode prog_30_method_5_code 0 = .ok (.aload_n 0, 1) := by decide +kernel
theorem d_prog_30_method_5_1 : decode prog_30_method_5_code 1 = .ok (.aload_n 0, 1) := by decide +kernel
theorem d_prog_30_method_5_2 : decode prog_30_method_5_code 2 = .ok (.getfield 23, 3) := by decide +kernel
theorem d_prog_30_method_5_5 : decode prog_30_method_5_code 5 = .ok (.aload_n 1, 1) := by decide +kernel
theorem d_prog_30_method_5_6 : decode prog_30_method_5_code 6 = .ok (.invokevirtual 27, 3) := by decide +kernel
theorem pd_3 : parseMethodDescriptor "(ILcom/example/entitygate/entitygate/HtmlNode$Element;)V" = some ⟨[.int, (.object "com/example/entitygate/entitygate/HtmlNode$Element")], none⟩ := by decide +kernel
theorem d_prog_30_method_5_9 : decode prog_30_method_5_code 9 = .ok (.return_, 1) := by decide +kernel
def Q_push0 (Z : State) (o : Addr) (x : Addr) (ae : Addr) (ke : ClassId) (ht : Addr) (h0 : Heap) (n0 : Nat) (v : Option Value) (h : Heap) (L : List Loc) : Prop := v = none ∧ Fr n0 L ∧ Keep h0 h [o, x, ae] ∧ Fld Z h o "com/example/entitygate/entitygate/OpenElements" "elements" "[Lcom/example/entitygate/entitygate/HtmlNode$Element;" (.ref ae) ∧ Fld Z h o "com/example/entitygate/entitygate/OpenElements" "size" "I" (.int (1 : Int32)) ∧ Fld Z h o "com/example/entitygate/entitygate/OpenElements" "landmarkCount" "I" (.int (0 : Int32)) ∧ Fld Z h x "com/example/entitygate/entitygate/HtmlNode$Element" "open" "Z" (.int (1 : Int32)) ∧ Arv Z h ae ke (.object "com/example/entitygate/entitygate/HtmlNode$Element") (64 : Int32) [(.ref x), .null, .null, .null] .null
set_option maxRecDepth 65536 in
set_option maxHeartbeats 40000000 in
theorem rm_push0 (l : Launch) (Z : State) (a0 : Array Value) (hw : ∀ d ∈ tables_1, d.before a0 Z = true) (ws : List Jvm.Cond) (o : Addr) (x : Addr) (ae : Addr) (ke : ClassId) (ht : Addr) (h0 : Heap) (n0 : Nat) (Z0 : n0 ≤ h0.size) (E_o : Exa Z h0 o "com/example/entitygate/entitygate/OpenElements") (E_x : Exa Z h0 x "com/example/entitygate/entitygate/HtmlNode$Element") (F_o_elements : Fld Z h0 o "com/example/entitygate/entitygate/OpenElements" "elements" "[Lcom/example/entitygate/entitygate/HtmlNode$Element;" (.ref ae)) (F_o_size : Fld Z h0 o "com/example/entitygate/entitygate/OpenElements" "size" "I" (.int (0 : Int32))) (F_o_landmarkCount : Fld Z h0 o "com/example/entitygate/entitygate/OpenElements" "landmarkCount" "I" (.int (0 : Int32))) (F_x_tag : Fld Z h0 x "com/example/entitygate/entitygate/HtmlNode$Element" "tag" "Lcom/example/entitygate/entitygate/HtmlTag;" .null) (F_x_namespace : Fld Z h0 x "com/example/entitygate/entitygate/HtmlNode$Element" "namespace" "Lcom/example/entitygate/entitygate/HtmlNode$Namespace;" .null) (F_x_open : Fld Z h0 x "com/example/entitygate/entitygate/HtmlNode$Element" "open" "Z" (.int (0 : Int32))) (V_ae : Arv Z h0 ae ke (.object "com/example/entitygate/entitygate/HtmlNode$Element") (64 : Int32) [.null, .null, .null, .null] .null) (O_ae : Ovr Z ke "com/example/entitygate/entitygate/HtmlNode$Element") (S_HTML : Sta Z h0 "com/example/entitygate/entitygate/HtmlNode$Namespace" "HTML" "Lcom/example/entitygate/entitygate/HtmlNode$Namespace;" (.ref ht)) (ne_o_x : o ≠ x) (ne_o_ae : o ≠ ae) (ne_x_ae : x ≠ ae) (g_o : n0 ≤ o) (g_x : n0 ≤ x) (g_ae : n0 ≤ ae) :
    MetFree l (⟨"com/example/entitygate/entitygate/OpenElements", "push", "(Lcom/example/entitygate/entitygate/HtmlNode$Element;)V"⟩ : MethodName) (head1 (Jvm.Cond.code (⟨"com/example/entitygate/entitygate/OpenElements", "push", "(Lcom/example/entitygate/entitygate/HtmlNode$Element;)V"⟩ : MethodName) prog_30_method_5_code 2 none :: ws) ({ frames := 3, cells := 0, slots := 0, locals := 40 } : Room)) (fun aA U => aA = #[(.ref o), (.ref x)] ∧ Z.Warmed39 U.vm ∧ U.heap = h0) (fun _ _ _ _ _ => True) (fun _ U oO U' => ∃ vV LL, oO = .returned vV ∧ Q_push0 Z o x ae ke ht h0 n0 vV U'.heap LL ∧ FrameEnd U oO U' LL ({ frames := 3, cells := 0, slots := 0, locals := 40 } : Room).cells ({ frames := 3, cells := 0, slots := 0, locals := 40 } : Room).slots) := by
  refine MetFree.of_bodySF (plainFor_of_name pn_3) hisR ?_
  intro p e s m args below meth c s₁ Bd hml0 hP hK
  obtain ⟨rfl, hZ, hh⟩ := hP
  have hx := Bd.exec
  have hby := Bd.bytes
  have hml : c.maxLocals = 2 := hml0
  have hown : s.vm.findClass "com/example/entitygate/entitygate/OpenElements" = some m.cls := findClass_of_methodNamed Bd.named
  have hnm := (name_of_methodNamed Bd.named Bd.method).1
  have X0 : Stand p l e ({ frames := 3, cells := 0, slots := 0, locals := 40 } : Room) s m #[(.ref o), (.ref x)] below meth c s₁ [] 0 0 := Stand.of_body Bd
  have e0 : s₁.heap = h0 := by rw [← hh, Bd.state]; rfl
  have N0 := Fr.nil n0
  have hret := Bd.returns
  have hlk : meth.locks = false := Bd.notSynchronized
  refine own_start (ef_3 m o x) ?_
  show own_Go p e below s (Q_push0 Z o x ae ke ht h0 n0) ({ frames := 3, cells := 0, slots := 0, locals := 40 } : Room).cells ({ frames := 3, cells := 0, slots := 0, locals := 40 } : Room).slots (s₁.setTop (mkF m 0 #[.val (.ref o), .val (.ref x)] []))
  refine g_aload_n X0 hx 1 (hb hby d_prog_30_method_5_0) rfl rfl rfl ?_
  refine g_aload_n X0 hx 2 (hb hby d_prog_30_method_5_1) rfl rfl rfl ?_
  refine own_getF X0 hx hZ hown (host := "") (Or.inl (hw _ (List.mem_of_getElem? (i := 60) rfl))) Via.refl e0 F_o_size 5 (hb hby d_prog_30_method_5_2) rfl fun T105 X105 e105 => ?_
  refine g_aload_n X105 hx 6 (hb hby d_prog_30_method_5_5) rfl rfl rfl ?_
  refine own_callV X105 hx hZ hown (hw _ (List.mem_of_getElem? (i := 62) rfl)) (hw _ (List.mem_of_getElem? (i := 63) rfl)) (own_nf hZ (hw _ (List.mem_of_getElem? (i := 65) rfl))) (hw _ (List.mem_of_getElem? (i := 65) rfl)) (hw _ (List.mem_of_getElem? (i := 64) rfl)) (by decide) (rm_insAt0 l Z a0 hw [] o x ae ke ht h0 n0 Z0 E_o E_x F_o_elements F_o_size F_o_landmarkCount F_x_tag F_x_namespace F_x_open V_ae O_ae S_HTML ne_o_x ne_o_ae ne_x_ae g_o g_x g_ae) (hw _ (List.mem_of_getElem? (i := 66) rfl)) (hw _ (List.mem_of_getElem? (i := 2) rfl)) e105 0 (by decide) (by decide) (by decide) (by decide) E_o [(.int (0 : Int32)), (.ref x)] [] rfl pd_3 rfl 9 rfl (by rw [hml]; rfl) rfl (hb hby d_prog_30_method_5_6) rfl fun T106 v106 L106 X106 hQ106 => ?_
  obtain ⟨rfl, Nq106, Kq106, f106_0, f106_1, f106_2, f106_3, v106_0⟩ := hQ106
  have N106 := Fr.app N0 Nq106
  have K107 : Keep h0 T106.heap [o, x, ae] := (Keep.refl h0 [o, x, ae]).trans Kq106 (allS (Or.inl (List.mem_of_getElem? (i := 0) rfl)) (allS (Or.inl (List.mem_of_getElem? (i := 1) rfl)) (allS (Or.inl (List.mem_of_getElem? (i := 2) rfl)) all0)))
  have z108 : n0 ≤ T106.heap.size := (Nat.le_trans Z0 Kq106.1)
  show own_Go p e below s _ _ _ (T106.setTop (mkF m 9 _ []))
  refine own_retV X106 hx hlk hret (hb hby d_prog_30_method_5_9) ?_ (by decide) (by decide)
  exact ⟨rfl, N106, K107, f106_0, f106_1, f106_2, f106_3, v106_0⟩
def Q_insAt1 (Z : State) (o : Addr) (x : Addr) (ae : Addr) (ke : ClassId) (ht : Addr) (y0 : Addr) (h0 : Heap) (n0 : Nat) (v : Option Value) (h : Heap) (L : List Loc) : Prop := v = none ∧ Fr n0 L ∧ Keep h0 h [o, x, ae] ∧ Fld Z h o "com/example/entitygate/entitygate/OpenElements" "elements" "[Lcom/example/entitygate/entitygate/HtmlNode$Element;" (.ref ae) ∧ Fld Z h o "com/example/entitygate/entitygate/OpenElements" "size" "I" (.int (2 : Int32)) ∧ Fld Z h o "com/example/entitygate/entitygate/OpenElements" "landmarkCount" "I" (.int (0 : Int32)) ∧ Fld Z h x "com/example/entitygate/entitygate/HtmlNode$Element" "open" "Z" (.int (1 : Int32)) ∧ Arv Z h ae ke (.object "com/example/entitygate/entitygate/HtmlNode$Element") (64 : Int32) [(.ref y0), (.ref x), .null, .null] .null
set_option maxRecDepth 65536 in
set_option maxHeartbeats 40000000 in
theorem rm_insAt1 (l : Launch) (Z : State) (a0 : Array Value) (hw : ∀ d ∈ tables_1, d.before a0 Z = true) (ws : List Jvm.Cond) (o : Addr) (x : Addr) (ae : Addr) (ke : ClassId) (ht : Addr) (y0 : Addr) (h0 : Heap) (n0 : Nat) (Z0 : n0 ≤ h0.size) (E_o : Exa Z h0 o "com/example/entitygate/entitygate/OpenElements") (E_x : Exa Z h0 x "com/example/entitygate/entitygate/HtmlNode$Element") (F_o_elements : Fld Z h0 o "com/example/entitygate/entitygate/OpenElements" "elements" "[Lcom/example/entitygate/entitygate/HtmlNode$Element;" (.ref ae)) (F_o_size : Fld Z h0 o "com/example/entitygate/entitygate/OpenElements" "size" "I" (.int (1 : Int32))) (F_o_landmarkCount : Fld Z h0 o "com/example/entitygate/entitygate/OpenElements" "landmarkCount" "I" (.int (0 : Int32))) (F_x_tag : Fld Z h0 x "com/example/entitygate/entitygate/HtmlNode$Element" "tag" "Lcom/example/entitygate/entitygate/HtmlTag;" .null) (F_x_namespace : Fld Z h0 x "com/example/entitygate/entitygate/HtmlNode$Element" "namespace" "Lcom/example/entitygate/entitygate/HtmlNode$Namespace;" .null) (F_x_open : Fld Z h0 x "com/example/entitygate/entitygate/HtmlNode$Element" "open" "Z" (.int (0 : Int32))) (V_ae : Arv Z h0 ae ke (.object "com/example/entitygate/entitygate/HtmlNode$Element") (64 : Int32) [(.ref y0), .null, .null, .null] .null) (O_ae : Ovr Z ke "com/example/entitygate/entitygate/HtmlNode$Element") (S_HTML : Sta Z h0 "com/example/entitygate/entitygate/HtmlNode$Namespace" "HTML" "Lcom/example/entitygate/entitygate/HtmlNode$Namespace;" (.ref ht)) (ne_o_x : o ≠ x) (ne_o_ae : o ≠ ae) (ne_x_ae : x ≠ ae) (g_o : n0 ≤ o) (g_x : n0 ≤ x) (g_ae : n0 ≤ ae) :
    MetFree l (⟨"com/example/entitygate/entitygate/OpenElements", "insertAt", "(ILcom/example/entitygate/entitygate/HtmlNode$Element;)V"⟩ : MethodName) (head1 (Jvm.Cond.code (⟨"com/example/entitygate/entitygate/OpenElements", "insertAt", "(ILcom/example/entitygate/entitygate/HtmlNode$Element;)V"⟩ : MethodName) prog_30_method_15_code 4 none :: ws) ({ frames := 2, cells := 0, slots := 0, locals := 25 } : Room)) (fun aA U => aA = #[(.ref o), (.int (1 : Int32)), (.ref x)] ∧ Z.Warmed39 U.vm ∧ U.heap = h0) (fun _ _ _ _ _ => True) (fun _ U oO U' => ∃ vV LL, oO = .returned vV ∧ Q_insAt1 Z o x ae ke ht y0 h0 n0 vV U'.heap LL ∧ FrameEnd U oO U' LL ({ frames := 2, cells := 0, slots := 0, locals := 25 } : Room).cells ({ frames := 2, cells := 0, slots := 0, locals := 25 } : Room).slots) := by
  refine MetFree.of_bodySF (plainFor_of_name pn_3) hisR ?_
  intro p e s m args below meth c s₁ Bd hml0 hP hK
  obtain ⟨rfl, hZ, hh⟩ := hP
  have hx := Bd.exec
  have hby := Bd.bytes
  have hml : c.maxLocals = 4 := hml0
  have hown : s.vm.findClass "com/example/entitygate/entitygate/OpenElements" = some m.cls := findClass_of_methodNamed Bd.named
  have hnm := (name_of_methodNamed Bd.named Bd.method).1
  have X0 : Stand p l e ({ frames := 2, cells := 0, slots := 0, locals := 25 } : Room) s m #[(.ref o), (.int (1 : Int32)), (.ref x)] below meth c s₁ [] 0 0 := Stand.of_body Bd
  have e0 : s₁.heap = h0 := by rw [← hh, Bd.state]; rfl
  have N0 := Fr.nil n0
  have hret := Bd.returns
  have hlk : meth.locks = false := Bd.notSynchronized
  refine own_start (ef_4 m o (1 : Int32) x) ?_
  show own_Go p e below s (Q_insAt1 Z o x ae ke ht y0 h0 n0) ({ frames := 2, cells := 0, slots := 0, locals := 25 } : Room).cells ({ frames := 2, cells := 0, slots := 0, locals := 25 } : Room).slots (s₁.setTop (mkF m 0 #[.val (.ref o), .val (.int (1 : Int32)), .val (.ref x), .unset] []))
  refine g_aload_n X0 hx 1 (hb hby d_prog_30_method_15_0) rfl rfl rfl ?_
  refine own_getF X0 hx hZ hown (host := "") (Or.inl (hw _ (List.mem_of_getElem? (i := 60) rfl))) Via.refl e0 F_o_size 4 (hb hby d_prog_30_method_15_1) rfl fun T109 X109 e109 => ?_
  refine g_aload_n X109 hx 5 (hb hby d_prog_30_method_15_4) rfl rfl rfl ?_
  refine own_getF X109 hx hZ hown (host := "") (Or.inl (hw _ (List.mem_of_getElem? (i := 11) rfl))) Via.refl e109 F_o_elements 8 (hb hby d_prog_30_method_15_5) rfl fun T110 X110 e110 => ?_
  obtain ⟨cl111, Ar111, q111, S111, P111, H111, G111⟩ := id V_ae
  refine own_arraylength X110 hx hZ e110 Ar111 S111 P111 9 (hb hby d_prog_30_method_15_8) rfl ?_
  refine g_icmpYes X110 hx 32 (hb hby d_prog_30_method_15_9) (own_ii_ne_t (by decide)) (by decide) (by decide) ?_
  refine g_aload_n X110 hx 33 (hb hby d_prog_30_method_15_32) rfl rfl rfl ?_
  refine own_getF X110 hx hZ hown (host := "") (Or.inl (hw _ (List.mem_of_getElem? (i := 11) rfl))) Via.refl e110 F_o_elements 36 (hb hby d_prog_30_method_15_33) rfl fun T112 X112 e112 => ?_
  refine g_iload_n X112 hx 37 (hb hby d_prog_30_method_15_36) rfl rfl ?_
  refine g_aload_n X112 hx 38 (hb hby d_prog_30_method_15_37) rfl rfl rfl ?_
  refine own_getF X112 hx hZ hown (host := "") (Or.inl (hw _ (List.mem_of_getElem? (i := 11) rfl))) Via.refl e112 F_o_elements 41 (hb hby d_prog_30_method_15_38) rfl fun T113 X113 e113 => ?_
  refine g_iload_n X113 hx 42 (hb hby d_prog_30_method_15_41) rfl rfl ?_
  refine g_iconst X113 hx 43 (hb hby d_prog_30_method_15_42) (1 : Int32) rfl rfl ?_
  refine g_iadd X113 hx 44 (hb hby d_prog_30_method_15_43) rfl ?_
  show own_Go p e below s _ _ _ (T113.setTop (mkF m 44 _ [(.int (2 : Int32)), (.ref ae), (.int (1 : Int32)), (.ref ae)]))
  refine g_aload_n X113 hx 45 (hb hby d_prog_30_method_15_44) rfl rfl rfl ?_
  refine own_getF X113 hx hZ hown (host := "") (Or.inl (hw _ (List.mem_of_getElem? (i := 60) rfl))) Via.refl e113 F_o_size 48 (hb hby d_prog_30_method_15_45) rfl fun T114 X114 e114 => ?_
  refine g_iload_n X114 hx 49 (hb hby d_prog_30_method_15_48) rfl rfl ?_
  refine g_isub X114 hx 50 (hb hby d_prog_30_method_15_49) rfl ?_
  show own_Go p e below s _ _ _ (T114.setTop (mkF m 50 _ [(.int (0 : Int32)), (.int (2 : Int32)), (.ref ae), (.int (1 : Int32)), (.ref ae)]))
  refine own_cpA X114 hx hZ hown (hw _ (List.mem_of_getElem? (i := 67) rfl)) (hw _ (List.mem_of_getElem? (i := 70) rfl)) (hw _ (List.mem_of_getElem? (i := 68) rfl)) (hw _ (List.mem_of_getElem? (i := 69) rfl)) e114 [] V_ae V_ae (Or.inr ⟨rfl, rfl, trivial⟩) (by decide) (by decide) (by decide) (by decide) (by decide) rfl (Nat.le_of_ble_eq_true rfl) N0 g_ae 53 (by rw [hml]; rfl) (hb hby d_prog_30_method_15_50) rfl (by decide) 0 rfl (by decide) fun T115 h115 L115 X115 e115 N115 Kc115 Vc115 => ?_
  have V115 : Arv Z h115 ae ke (.object "com/example/entitygate/entitygate/HtmlNode$Element") (64 : Int32) [(.ref y0), .null, .null, .null] .null := Vc115
  have K116 : Keep h0 h115 [o, x, ae] := (Keep.refl h0 [o, x, ae]).trans Kc115 (allS (Or.inl (List.mem_of_getElem? (i := 2) rfl)) all0)
  have z117 : n0 ≤ h115.size := (Nat.le_trans Z0 Kc115.1)
  refine g_aload_n X115 hx 54 (hb hby d_prog_30_method_15_53) rfl rfl rfl ?_
  have f118 : Fld Z h115 o "com/example/entitygate/entitygate/OpenElements" "elements" "[Lcom/example/entitygate/entitygate/HtmlNode$Element;" (.ref ae) := (F_o_elements.keep Kc115 (ninS ne_o_ae nin0))
  refine own_getF X115 hx hZ hown (host := "") (Or.inl (hw _ (List.mem_of_getElem? (i := 11) rfl))) Via.refl e115 f118 57 (hb hby d_prog_30_method_15_54) rfl fun T119 X119 e119 => ?_
  refine g_iload_n X119 hx 58 (hb hby d_prog_30_method_15_57) rfl rfl ?_
  refine g_aload_n X119 hx 59 (hb hby d_prog_30_method_15_58) rfl rfl rfl ?_
  obtain ⟨cl120, Ar120, q120, S120, P120, H120, G120⟩ := id V115
  have hin120 := inb_of (j := (1 : Int32)) S120 ⟨by decide, by decide⟩
  have f121 : Exa Z h115 x "com/example/entitygate/entitygate/HtmlNode$Element" := (E_x.keep Kc115)
  refine own_stR X119 hx hZ e119 Ar120 hin120 rfl (Sto.ofV Ar120 q120 O_ae (Ins.self f121)) 60 (hb hby d_prog_30_method_15_59) rfl fun T120 h120 X120 e120 W120 => ?_
  have V120 : Arv Z h120 ae ke (.object "com/example/entitygate/entitygate/HtmlNode$Element") (64 : Int32) [(.ref y0), (.ref x), .null, .null] .null := Arv.set Ar120 q120 S120 P120 H120 G120 (v := (.ref x)) rfl W120 1 rfl (Nat.le_of_ble_eq_true rfl)
  have N120 := Fr.snoc X120 N115 g_ae
  have z122 : n0 ≤ h120.size := (Nat.le_trans z117 (Keep.of_wr W120).1)
  have K123 : Keep h0 h120 [o, x, ae] := K116.wr W120 (Or.inl (List.mem_of_getElem? (i := 2) rfl))
  refine g_aload_n X120 hx 61 (hb hby d_prog_30_method_15_60) rfl rfl rfl ?_
  refine g_dup X120 hx 62 (hb hby d_prog_30_method_15_61) rfl rfl ?_
  have f124 : Fld Z h120 o "com/example/entitygate/entitygate/OpenElements" "size" "I" (.int (1 : Int32)) := (Fld.other W120 (F_o_size.keep Kc115 (ninS ne_o_ae nin0)) (Or.inl ne_o_ae))
  refine own_getF X120 hx hZ hown (host := "") (Or.inl (hw _ (List.mem_of_getElem? (i := 60) rfl))) Via.refl e120 f124 65 (hb hby d_prog_30_method_15_62) rfl fun T125 X125 e125 => ?_
  refine g_iconst X125 hx 66 (hb hby d_prog_30_method_15_65) (1 : Int32) rfl rfl ?_
  refine g_iadd X125 hx 67 (hb hby d_prog_30_method_15_66) rfl ?_
  show own_Go p e below s _ _ _ (T125.setTop (mkF m 67 _ [(.int (2 : Int32)), (.ref o)]))
  have f126 : Exa Z h120 o "com/example/entitygate/entitygate/OpenElements" := (Exa.wr W120 (E_o.keep Kc115))
  refine own_putF X125 hx hZ hown (host := "") (Or.inl (hw _ (List.mem_of_getElem? (i := 60) rfl))) Via.refl e125 f124 f126 (Or.inl (hw _ (List.mem_of_getElem? (i := 61) rfl))) (hw _ (List.mem_of_getElem? (i := 1) rfl)) (ty := .int) (by decide) rfl rfl 70 (hb hby d_prog_30_method_15_67) rfl fun T127 h127 X127 e127 W127 => ?_
  have f127 : Fld Z h127 o "com/example/entitygate/entitygate/OpenElements" "size" "I" (.int (2 : Int32)) := Fld.same W127 f124
  have N127 := Fr.snoc X127 N120 g_o
  have z128 : n0 ≤ h127.size := (Nat.le_trans z122 (Keep.of_wr W127).1)
  have K129 : Keep h0 h127 [o, x, ae] := K123.wr W127 (Or.inl (List.mem_of_getElem? (i := 0) rfl))
  refine g_aload_n X127 hx 71 (hb hby d_prog_30_method_15_70) rfl rfl rfl ?_
  refine g_iconst X127 hx 72 (hb hby d_prog_30_method_15_71) (1 : Int32) rfl rfl ?_
  have f130 : Exa Z h127 x "com/example/entitygate/entitygate/HtmlNode$Element" := (Exa.wr W127 (Exa.wr W120 f121))
  have f131 : Fld Z h127 x "com/example/entitygate/entitygate/HtmlNode$Element" "open" "Z" (.int (0 : Int32)) := (Fld.other W127 (Fld.other W120 (F_x_open.keep Kc115 (ninS ne_x_ae nin0)) (Or.inl ne_x_ae)) (Or.inl (Ne.symm ne_o_x)))
  refine own_putFN X127 hx hZ hown (hw _ (List.mem_of_getElem? (i := 53) rfl)) Via.refl e127 (.int (1 : Int32)) f131 f130 (Or.inl (hw _ (List.mem_of_getElem? (i := 54) rfl))) (hw _ (List.mem_of_getElem? (i := 19) rfl)) (ty := .boolean) (by decide) rfl rfl 75 (hb hby d_prog_30_method_15_72) rfl fun T132 h132 X132 e132 W132 => ?_
  have f132 : Fld Z h132 x "com/example/entitygate/entitygate/HtmlNode$Element" "open" "Z" (.int (1 : Int32)) := Fld.same W132 f131
  have N132 := Fr.snoc X132 N127 g_x
  have z133 : n0 ≤ h132.size := (Nat.le_trans z128 (Keep.of_wr W132).1)
  have K134 : Keep h0 h132 [o, x, ae] := K129.wr W132 (Or.inl (List.mem_of_getElem? (i := 1) rfl))
  refine g_aload_n X132 hx 76 (hb hby d_prog_30_method_15_75) rfl rfl rfl ?_
  have f135 : Fld Z h132 o "com/example/entitygate/entitygate/OpenElements" "landmarkCount" "I" (.int (0 : Int32)) := (Fld.other W132 (Fld.other W127 (Fld.other W120 (F_o_landmarkCount.keep Kc115 (ninS ne_o_ae nin0)) (Or.inl ne_o_ae)) (Or.inr (slot_ne (Or.inl (hw _ (List.mem_of_getElem? (i := 73) rfl))) (Or.inl (hw _ (List.mem_of_getElem? (i := 61) rfl))) (by decide) (t := .int) (t' := .int) (by decide) (by decide)))) (Or.inl ne_o_x))
  refine own_getF X132 hx hZ hown (host := "") (Or.inl (hw _ (List.mem_of_getElem? (i := 72) rfl))) Via.refl e132 f135 79 (hb hby d_prog_30_method_15_76) rfl fun T136 X136 e136 => ?_
  refine g_istore_n X136 hx 80 (hb hby d_prog_30_method_15_79) (l' := #[.val (.ref o), .val (.int (1 : Int32)), .val (.ref x), .val (.int (0 : Int32))]) rfl rfl ?_
  refine g_iload_n X136 hx 81 (hb hby d_prog_30_method_15_80) rfl rfl ?_
  refine g_ifYes X136 hx 114 (hb hby d_prog_30_method_15_81) (own_i0_le_t (by decide)) (by decide) (by decide) ?_
  refine g_aload_n X136 hx 115 (hb hby d_prog_30_method_15_114) rfl rfl rfl ?_
  refine g_aload_n X136 hx 116 (hb hby d_prog_30_method_15_115) rfl rfl rfl ?_
  have f138 : Exa Z h132 x "com/example/entitygate/entitygate/HtmlNode$Element" := (Exa.wr W132 f130)
  have f139 : Fld Z h132 x "com/example/entitygate/entitygate/HtmlNode$Element" "namespace" "Lcom/example/entitygate/entitygate/HtmlNode$Namespace;" .null := (Fld.other W132 (Fld.other W127 (Fld.other W120 (F_x_namespace.keep Kc115 (ninS ne_x_ae nin0)) (Or.inl ne_x_ae)) (Or.inl (Ne.symm ne_o_x))) (Or.inr (slot_ne (Or.inr (hw _ (List.mem_of_getElem? (i := 40) rfl))) (Or.inl (hw _ (List.mem_of_getElem? (i := 54) rfl))) (by decide) (t := (.object "com/example/entitygate/entitygate/HtmlNode$Namespace")) (t' := .boolean) (by decide) (by decide))))
  have f140 : Sta Z h132 "com/example/entitygate/entitygate/HtmlNode$Namespace" "HTML" "Lcom/example/entitygate/entitygate/HtmlNode$Namespace;" (.ref ht) := (Sta.wr W132 (Sta.wr W127 (Sta.wr W120 (own_Sta_keep Kc115 S_HTML (allS (own_plainA V_ae) all0)))))
  have f141 : Exa Z h132 o "com/example/entitygate/entitygate/OpenElements" := (Exa.wr W132 (Exa.wr W127 f126))
  refine own_callP X136 hx hZ hown (hw _ (List.mem_of_getElem? (i := 74) rfl)) (hw _ (List.mem_of_getElem? (i := 75) rfl)) (hw _ (List.mem_of_getElem? (i := 51) rfl)) rfl (hw _ (List.mem_of_getElem? (i := 76) rfl)) (by decide) (rm_isLm l Z a0 hw [] o x ht h132 n0 z133 f138 f139 f140) (hw _ (List.mem_of_getElem? (i := 77) rfl)) (hw _ (List.mem_of_getElem? (i := 2) rfl)) e136 0 (by decide) (by decide) (by decide) (by decide) f141 [(.ref x)] [] rfl pd_2 rfl 119 rfl (by rw [hml]; rfl) rfl (hb hby d_prog_30_method_15_116) rfl fun T137 v137 L137 X137 hQ137 => ?_
  obtain ⟨rfl, Nq137, e137⟩ := hQ137
  have N137 := Fr.app N132 Nq137
  show own_Go p e below s _ _ _ (T137.setTop (mkF m 119 _ [(.int (0 : Int32))]))
  refine g_ifYes X137 hx 189 (hb hby d_prog_30_method_15_119) (own_i0_eq_t (by decide)) (by decide) (by decide) ?_
  have f142 : Fld Z h132 o "com/example/entitygate/entitygate/OpenElements" "elements" "[Lcom/example/entitygate/entitygate/HtmlNode$Element;" (.ref ae) := (Fld.other W132 (Fld.other W127 (Fld.other W120 f118 (Or.inl ne_o_ae)) (Or.inr (slot_ne (Or.inl (hw _ (List.mem_of_getElem? (i := 12) rfl))) (Or.inl (hw _ (List.mem_of_getElem? (i := 61) rfl))) (by decide) (t := (.array (.object "com/example/entitygate/entitygate/HtmlNode$Element"))) (t' := .int) (by decide) (by decide)))) (Or.inl ne_o_x))
  have f143 : Fld Z h132 o "com/example/entitygate/entitygate/OpenElements" "size" "I" (.int (2 : Int32)) := (Fld.other W132 f127 (Or.inl ne_o_x))
  have f144 : Arv Z h132 ae ke (.object "com/example/entitygate/entitygate/HtmlNode$Element") (64 : Int32) [(.ref y0), (.ref x), .null, .null] .null := ((V120.other W127 (Ne.symm ne_o_ae)).other W132 (Ne.symm ne_x_ae))
  refine own_retV X137 hx hlk hret (hb hby d_prog_30_method_15_189) ?_ (by decide) (by decide)
  rw [e137]
  exact ⟨rfl, N137, K134, f142, f143, f135, f132, f144⟩
def Q_push1 (Z : State) (o : Addr) (x : Addr) (ae : Addr) (ke : ClassId) (ht : Addr) (y0 : Addr) (h0 : Heap) (n0 : Nat) (v : Option Value) (h : Heap) (L : List Loc) : Prop := v = none ∧ Fr n0 L ∧ Keep h0 h [o, x, ae] ∧ Fld Z h o "com/example/entitygate/entitygate/OpenElements" "elements" "[Lcom/example/entitygate/entitygate/HtmlNode$Element;" (.ref ae) ∧ Fld Z h o "com/example/entitygate/entitygate/OpenElements" "size" "I" (.int (2 : Int32)) ∧ Fld Z h o "com/example/entitygate/entitygate/OpenElements" "landmarkCount" "I" (.int (0 : Int32)) ∧ Fld Z h x "com/example/entitygate/entitygate/HtmlNode$Element" "open" "Z" (.int (1 : Int32)) ∧ Arv Z h ae ke (.object "com/example/entitygate/entitygate/HtmlNode$Element") (64 : Int32) [(.ref y0), (.ref x), .null, .null] .null
set_option maxRecDepth 65536 in
set_option maxHeartbeats 40000000 in
theorem rm_push1 (l : Launch) (Z : State) (a0 : Array Value) (hw : ∀ d ∈ tables_1, d.before a0 Z = true) (ws : List Jvm.Cond) (o : Addr) (x : Addr) (ae : Addr) (ke : ClassId) (ht : Addr) (y0 : Addr) (h0 : Heap) (n0 : Nat) (Z0 : n0 ≤ h0.size) (E_o : Exa Z h0 o "com/example/entitygate/entitygate/OpenElements") (E_x : Exa Z h0 x "com/example/entitygate/entitygate/HtmlNode$Element") (F_o_elements : Fld Z h0 o "com/example/entitygate/entitygate/OpenElements" "elements" "[Lcom/example/entitygate/entitygate/HtmlNode$Element;" (.ref ae)) (F_o_size : Fld Z h0 o "com/example/entitygate/entitygate/OpenElements" "size" "I" (.int (1 : Int32))) (F_o_landmarkCount : Fld Z h0 o "com/example/entitygate/entitygate/OpenElements" "landmarkCount" "I" (.int (0 : Int32))) (F_x_tag : Fld Z h0 x "com/example/entitygate/entitygate/HtmlNode$Element" "tag" "Lcom/example/entitygate/entitygate/HtmlTag;" .null) (F_x_namespace : Fld Z h0 x "com/example/entitygate/entitygate/HtmlNode$Element" "namespace" "Lcom/example/entitygate/entitygate/HtmlNode$Namespace;" .null) (F_x_open : Fld Z h0 x "com/example/entitygate/entitygate/HtmlNode$Element" "open" "Z" (.int (0 : Int32))) (V_ae : Arv Z h0 ae ke (.object "com/example/entitygate/entitygate/HtmlNode$Element") (64 : Int32) [(.ref y0), .null, .null, .null] .null) (O_ae : Ovr Z ke "com/example/entitygate/entitygate/HtmlNode$Element") (S_HTML : Sta Z h0 "com/example/entitygate/entitygate/HtmlNode$Namespace" "HTML" "Lcom/example/entitygate/entitygate/HtmlNode$Namespace;" (.ref ht)) (ne_o_x : o ≠ x) (ne_o_ae : o ≠ ae) (ne_x_ae : x ≠ ae) (g_o : n0 ≤ o) (g_x : n0 ≤ x) (g_ae : n0 ≤ ae) :
    MetFree l (⟨"com/example/entitygate/entitygate/OpenElements", "push", "(Lcom/example/entitygate/entitygate/HtmlNode$Element;)V"⟩ : MethodName) (head1 (Jvm.Cond.code (⟨"com/example/entitygate/entitygate/OpenElements", "push", "(Lcom/example/entitygate/entitygate/HtmlNode$Element;)V"⟩ : MethodName) prog_30_method_5_code 2 none :: ws) ({ frames := 3, cells := 0, slots := 0, locals := 40 } : Room)) (fun aA U => aA = #[(.ref o), (.ref x)] ∧ Z.Warmed39 U.vm ∧ U.heap = h0) (fun _ _ _ _ _ => True) (fun _ U oO U' => ∃ vV LL, oO = .returned vV ∧ Q_push1 Z o x ae ke ht y0 h0 n0 vV U'.heap LL ∧ FrameEnd U oO U' LL ({ frames := 3, cells := 0, slots := 0, locals := 40 } : Room).cells ({ frames := 3, cells := 0, slots := 0, locals := 40 } : Room).slots) := by
  refine MetFree.of_bodySF (plainFor_of_name pn_3) hisR ?_
  intro p e s m args below meth c s₁ Bd hml0 hP hK
  obtain ⟨rfl, hZ, hh⟩ := hP
  have hx := Bd.exec
  have hby := Bd.bytes
  have hml : c.maxLocals = 2 := hml0
  have hown : s.vm.findClass "com/example/entitygate/entitygate/OpenElements" = some m.cls := findClass_of_methodNamed Bd.named
  have hnm := (name_of_methodNamed Bd.named Bd.method).1
  have X0 : Stand p l e ({ frames := 3, cells := 0, slots := 0, locals := 40 } : Room) s m #[(.ref o), (.ref x)] below meth c s₁ [] 0 0 := Stand.of_body Bd
  have e0 : s₁.heap = h0 := by rw [← hh, Bd.state]; rfl
  have N0 := Fr.nil n0
  have hret := Bd.returns
  have hlk : meth.locks = false := Bd.notSynchronized
  refine own_start (ef_3 m o x) ?_
  show own_Go p e below s (Q_push1 Z o x ae ke ht y0 h0 n0) ({ frames := 3, cells := 0, slots := 0, locals := 40 } : Room).cells ({ frames := 3, cells := 0, slots := 0, locals := 40 } : Room).slots (s₁.setTop (mkF m 0 #[.val (.ref o), .val (.ref x)] []))
  refine g_aload_n X0 hx 1 (hb hby d_prog_30_method_5_0) rfl rfl rfl ?_
  refine g_aload_n X0 hx 2 (hb hby d_prog_30_method_5_1) rfl rfl rfl ?_
  refine own_getF X0 hx hZ hown (host := "") (Or.inl (hw _ (List.mem_of_getElem? (i := 60) rfl))) Via.refl e0 F_o_size 5 (hb hby d_prog_30_method_5_2) rfl fun T145 X145 e145 => ?_
  refine g_aload_n X145 hx 6 (hb hby d_prog_30_method_5_5) rfl rfl rfl ?_
  refine own_callV X145 hx hZ hown (hw _ (List.mem_of_getElem? (i := 62) rfl)) (hw _ (List.mem_of_getElem? (i := 63) rfl)) (own_nf hZ (hw _ (List.mem_of_getElem? (i := 65) rfl))) (hw _ (List.mem_of_getElem? (i := 65) rfl)) (hw _ (List.mem_of_getElem? (i := 64) rfl)) (by decide) (rm_insAt1 l Z a0 hw [] o x ae ke ht y0 h0 n0 Z0 E_o E_x F_o_elements F_o_size F_o_landmarkCount F_x_tag F_x_namespace F_x_open V_ae O_ae S_HTML ne_o_x ne_o_ae ne_x_ae g_o g_x g_ae) (hw _ (List.mem_of_getElem? (i := 66) rfl)) (hw _ (List.mem_of_getElem? (i := 2) rfl)) e145 0 (by decide) (by decide) (by decide) (by decide) E_o [(.int (1 : Int32)), (.ref x)] [] rfl pd_3 rfl 9 rfl (by rw [hml]; rfl) rfl (hb hby d_prog_30_method_5_6) rfl fun T146 v146 L146 X146 hQ146 => ?_
  obtain ⟨rfl, Nq146, Kq146, f146_0, f146_1, f146_2, f146_3, v146_0⟩ := hQ146
  have N146 := Fr.app N0 Nq146
  have K147 : Keep h0 T146.heap [o, x, ae] := (Keep.refl h0 [o, x, ae]).trans Kq146 (allS (Or.inl (List.mem_of_getElem? (i := 0) rfl)) (allS (Or.inl (List.mem_of_getElem? (i := 1) rfl)) (allS (Or.inl (List.mem_of_getElem? (i := 2) rfl)) all0)))
  have z148 : n0 ≤ T146.heap.size := (Nat.le_trans Z0 Kq146.1)
  show own_Go p e below s _ _ _ (T146.setTop (mkF m 9 _ []))
  refine own_retV X146 hx hlk hret (hb hby d_prog_30_method_5_9) ?_ (by decide) (by decide)
  exact ⟨rfl, N146, K147, f146_0, f146_1, f146_2, f146_3, v146_0⟩
def Q_insAt2 (Z : State) (o : Addr) (x : Addr) (ae : Addr) (ke : ClassId) (ht : Addr) (y0 : Addr) (y1 : Addr) (h0 : Heap) (n0 : Nat) (v : Option Value) (h : Heap) (L : List Loc) : Prop := v = none ∧ Fr n0 L ∧ Keep h0 h [o, x, ae] ∧ Fld Z h o "com/example/entitygate/entitygate/OpenElements" "elements" "[Lcom/example/entitygate/entitygate/HtmlNode$Element;" (.ref ae) ∧ Fld Z h o "com/example/entitygate/entitygate/OpenElements" "size" "I" (.int (3 : Int32)) ∧ Fld Z h o "com/example/entitygate/entitygate/OpenElements" "landmarkCount" "I" (.int (0 : Int32)) ∧ Fld Z h x "com/example/entitygate/entitygate/HtmlNode$Element" "open" "Z" (.int (1 : Int32)) ∧ Arv Z h ae ke (.object "com/example/entitygate/entitygate/HtmlNode$Element") (64 : Int32) [(.ref y0), (.ref y1), (.ref x), .null] .null
set_option maxRecDepth 65536 in
set_option maxHeartbeats 40000000 in
theorem rm_insAt2 (l : Launch) (Z : State) (a0 : Array Value) (hw : ∀ d ∈ tables_1, d.before a0 Z = true) (ws : List Jvm.Cond) (o : Addr) (x : Addr) (ae : Addr) (ke : ClassId) (ht : Addr) (y0 : Addr) (y1 : Addr) (h0 : Heap) (n0 : Nat) (Z0 : n0 ≤ h0.size) (E_o : Exa Z h0 o "com/example/entitygate/entitygate/OpenElements") (E_x : Exa Z h0 x "com/example/entitygate/entitygate/HtmlNode$Element") (F_o_elements : Fld Z h0 o "com/example/entitygate/entitygate/OpenElements" "elements" "[Lcom/example/entitygate/entitygate/HtmlNode$Element;" (.ref ae)) (F_o_size : Fld Z h0 o "com/example/entitygate/entitygate/OpenElements" "size" "I" (.int (2 : Int32))) (F_o_landmarkCount : Fld Z h0 o "com/example/entitygate/entitygate/OpenElements" "landmarkCount" "I" (.int (0 : Int32))) (F_x_tag : Fld Z h0 x "com/example/entitygate/entitygate/HtmlNode$Element" "tag" "Lcom/example/entitygate/entitygate/HtmlTag;" .null) (F_x_namespace : Fld Z h0 x "com/example/entitygate/entitygate/HtmlNode$Element" "namespace" "Lcom/example/entitygate/entitygate/HtmlNode$Namespace;" .null) (F_x_open : Fld Z h0 x "com/example/entitygate/entitygate/HtmlNode$Element" "open" "Z" (.int (0 : Int32))) (V_ae : Arv Z h0 ae ke (.object "com/example/entitygate/entitygate/HtmlNode$Element") (64 : Int32) [(.ref y0), (.ref y1), .null, .null] .null) (O_ae : Ovr Z ke "com/example/entitygate/entitygate/HtmlNode$Element") (S_HTML : Sta Z h0 "com/example/entitygate/entitygate/HtmlNode$Namespace" "HTML" "Lcom/example/entitygate/entitygate/HtmlNode$Namespace;" (.ref ht)) (ne_o_x : o ≠ x) (ne_o_ae : o ≠ ae) (ne_x_ae : x ≠ ae) (g_o : n0 ≤ o) (g_x : n0 ≤ x) (g_ae : n0 ≤ ae) :
    MetFree l (⟨"com/example/entitygate/entitygate/OpenElements", "insertAt", "(ILcom/example/entitygate/entitygate/HtmlNode$Element;)V"⟩ : MethodName) (head1 (Jvm.Cond.code (⟨"com/example/entitygate/entitygate/OpenElements", "insertAt", "(ILcom/example/entitygate/entitygate/HtmlNode$Element;)V"⟩ : MethodName) prog_30_method_15_code 4 none :: ws) ({ frames := 2, cells := 0, slots := 0, locals := 25 } : Room)) (fun aA U => aA = #[(.ref o), (.int (2 : Int32)), (.ref x)] ∧ Z.Warmed39 U.vm ∧ U.heap = h0) (fun _ _ _ _ _ => True) (fun _ U oO U' => ∃ vV LL, oO = .returned vV ∧ Q_insAt2 Z o x ae ke ht y0 y1 h0 n0 vV U'.heap LL ∧ FrameEnd U oO U' LL ({ frames := 2, cells := 0, slots := 0, locals := 25 } : Room).cells ({ frames := 2, cells := 0, slots := 0, locals := 25 } : Room).slots) := by
  refine MetFree.of_bodySF (plainFor_of_name pn_3) hisR ?_
  intro p e s m args below meth c s₁ Bd hml0 hP hK
  obtain ⟨rfl, hZ, hh⟩ := hP
  have hx := Bd.exec
  have hby := Bd.bytes
  have hml : c.maxLocals = 4 := hml0
  have hown : s.vm.findClass "com/example/entitygate/entitygate/OpenElements" = some m.cls := findClass_of_methodNamed Bd.named
  have hnm := (name_of_methodNamed Bd.named Bd.method).1
  have X0 : Stand p l e ({ frames := 2, cells := 0, slots := 0, locals := 25 } : Room) s m #[(.ref o), (.int (2 : Int32)), (.ref x)] below meth c s₁ [] 0 0 := Stand.of_body Bd
  have e0 : s₁.heap = h0 := by rw [← hh, Bd.state]; rfl
  have N0 := Fr.nil n0
  have hret := Bd.returns
  have hlk : meth.locks = false := Bd.notSynchronized
  refine own_start (ef_4 m o (2 : Int32) x) ?_
  show own_Go p e below s (Q_insAt2 Z o x ae ke ht y0 y1 h0 n0) ({ frames := 2, cells := 0, slots := 0, locals := 25 } : Room).cells ({ frames := 2, cells := 0, slots := 0, locals := 25 } : Room).slots (s₁.setTop (mkF m 0 #[.val (.ref o), .val (.int (2 : Int32)), .val (.ref x), .unset] []))
  refine g_aload_n X0 hx 1 (hb hby d_prog_30_method_15_0) rfl rfl rfl ?_
  refine own_getF X0 hx hZ hown (host := "") (Or.inl (hw _ (List.mem_of_getElem? (i := 60) rfl))) Via.refl e0 F_o_size 4 (hb hby d_prog_30_method_15_1) rfl fun T149 X149 e149 => ?_
  refine g_aload_n X149 hx 5 (hb hby d_prog_30_method_15_4) rfl rfl rfl ?_
  refine own_getF X149 hx hZ hown (host := "") (Or.inl (hw _ (List.mem_of_getElem? (i := 11) rfl))) Via.refl e149 F_o_elements 8 (hb hby d_prog_30_method_15_5) rfl fun T150 X150 e150 => ?_
  obtain ⟨cl151, Ar151, q151, S151, P151, H151, G151⟩ := id V_ae
  refine own_arraylength X150 hx hZ e150 Ar151 S151 P151 9 (hb hby d_prog_30_method_15_8) rfl ?_
  refine g_icmpYes X150 hx 32 (hb hby d_prog_30_method_15_9) (own_ii_ne_t (by decide)) (by decide) (by decide) ?_
  refine g_aload_n X150 hx 33 (hb hby d_prog_30_method_15_32) rfl rfl rfl ?_
  refine own_getF X150 hx hZ hown (host := "") (Or.inl (hw _ (List.mem_of_getElem? (i := 11) rfl))) Via.refl e150 F_o_elements 36 (hb hby d_prog_30_method_15_33) rfl fun T152 X152 e152 => ?_
  refine g_iload_n X152 hx 37 (hb hby d_prog_30_method_15_36) rfl rfl ?_
  refine g_aload_n X152 hx 38 (hb hby d_prog_30_method_15_37) rfl rfl rfl ?_
  refine own_getF X152 hx hZ hown (host := "") (Or.inl (hw _ (List.mem_of_getElem? (i := 11) rfl))) Via.refl e152 F_o_elements 41 (hb hby d_prog_30_method_15_38) rfl fun T153 X153 e153 => ?_
  refine g_iload_n X153 hx 42 (hb hby d_prog_30_method_15_41) rfl rfl ?_
  refine g_iconst X153 hx 43 (hb hby d_prog_30_method_15_42) (1 : Int32) rfl rfl ?_
  refine g_iadd X153 hx 44 (hb hby d_prog_30_method_15_43) rfl ?_
  show own_Go p e below s _ _ _ (T153.setTop (mkF m 44 _ [(.int (3 : Int32)), (.ref ae), (.int (2 : Int32)), (.ref ae)]))
  refine g_aload_n X153 hx 45 (hb hby d_prog_30_method_15_44) rfl rfl rfl ?_
  refine own_getF X153 hx hZ hown (host := "") (Or.inl (hw _ (List.mem_of_getElem? (i := 60) rfl))) Via.refl e153 F_o_size 48 (hb hby d_prog_30_method_15_45) rfl fun T154 X154 e154 => ?_
  refine g_iload_n X154 hx 49 (hb hby d_prog_30_method_15_48) rfl rfl ?_
  refine g_isub X154 hx 50 (hb hby d_prog_30_method_15_49) rfl ?_
  show own_Go p e below s _ _ _ (T154.setTop (mkF m 50 _ [(.int (0 : Int32)), (.int (3 : Int32)), (.ref ae), (.int (2 : Int32)), (.ref ae)]))
  refine own_cpA X154 hx hZ hown (hw _ (List.mem_of_getElem? (i := 67) rfl)) (hw _ (List.mem_of_getElem? (i := 70) rfl)) (hw _ (List.mem_of_getElem? (i := 68) rfl)) (hw _ (List.mem_of_getElem? (i := 69) rfl)) e154 [] V_ae V_ae (Or.inr ⟨rfl, rfl, trivial⟩) (by decide) (by decide) (by decide) (by decide) (by decide) rfl (Nat.le_of_ble_eq_true rfl) N0 g_ae 53 (by rw [hml]; rfl) (hb hby d_prog_30_method_15_50) rfl (by decide) 0 rfl (by decide) fun T155 h155 L155 X155 e155 N155 Kc155 Vc155 => ?_
  have V155 : Arv Z h155 ae ke (.object "com/example/entitygate/entitygate/HtmlNode$Element") (64 : Int32) [(.ref y0), (.ref y1), .null, .null] .null := Vc155
  have K156 : Keep h0 h155 [o, x, ae] := (Keep.refl h0 [o, x, ae]).trans Kc155 (allS (Or.inl (List.mem_of_getElem? (i := 2) rfl)) all0)
  have z157 : n0 ≤ h155.size := (Nat.le_trans Z0 Kc155.1)
  refine g_aload_n X155 hx 54 (hb hby d_prog_30_method_15_53) rfl rfl rfl ?_
  have f158 : Fld Z h155 o "com/example/entitygate/entitygate/OpenElements" "elements" "[Lcom/example/entitygate/entitygate/HtmlNode$Element;" (.ref ae) := (F_o_elements.keep Kc155 (ninS ne_o_ae nin0))
  refine own_getF X155 hx hZ hown (host := "") (Or.inl (hw _ (List.mem_of_getElem? (i := 11) rfl))) Via.refl e155 f158 57 (hb hby d_prog_30_method_15_54) rfl fun T159 X159 e159 => ?_
  refine g_iload_n X159 hx 58 (hb hby d_prog_30_method_15_57) rfl rfl ?_
  refine g_aload_n X159 hx 59 (hb hby d_prog_30_method_15_58) rfl rfl rfl ?_
  obtain ⟨cl160, Ar160, q160, S160, P160, H160, G160⟩ := id V155
  have hin160 := inb_of (j := (2 : Int32)) S160 ⟨by decide, by decide⟩
  have f161 : Exa Z h155 x "com/example/entitygate/entitygate/HtmlNode$Element" := (E_x.keep Kc155)
  refine own_stR X159 hx hZ e159 Ar160 hin160 rfl (Sto.ofV Ar160 q160 O_ae (Ins.self f161)) 60 (hb hby d_prog_30_method_15_59) rfl fun T160 h160 X160 e160 W160 => ?_
  have V160 : Arv Z h160 ae ke (.object "com/example/entitygate/entitygate/HtmlNode$Element") (64 : Int32) [(.ref y0), (.ref y1), (.ref x), .null] .null := Arv.set Ar160 q160 S160 P160 H160 G160 (v := (.ref x)) rfl W160 2 rfl (Nat.le_of_ble_eq_true rfl)
  have N160 := Fr.snoc X160 N155 g_ae
  have z162 : n0 ≤ h160.size := (Nat.le_trans z157 (Keep.of_wr W160).1)
  have K163 : Keep h0 h160 [o, x, ae] := K156.wr W160 (Or.inl (List.mem_of_getElem? (i := 2) rfl))
  refine g_aload_n X160 hx 61 (hb hby d_prog_30_method_15_60) rfl rfl rfl ?_
  refine g_dup X160 hx 62 (hb hby d_prog_30_method_15_61) rfl rfl ?_
  have f164 : Fld Z h160 o "com/example/entitygate/entitygate/OpenElements" "size" "I" (.int (2 : Int32)) := (Fld.other W160 (F_o_size.keep Kc155 (ninS ne_o_ae nin0)) (Or.inl ne_o_ae))
  refine own_getF X160 hx hZ hown (host := "") (Or.inl (hw _ (List.mem_of_getElem? (i := 60) rfl))) Via.refl e160 f164 65 (hb hby d_prog_30_method_15_62) rfl fun T165 X165 e165 => ?_
  refine g_iconst X165 hx 66 (hb hby d_prog_30_method_15_65) (1 : Int32) rfl rfl ?_
  refine g_iadd X165 hx 67 (hb hby d_prog_30_method_15_66) rfl ?_
  show own_Go p e below s _ _ _ (T165.setTop (mkF m 67 _ [(.int (3 : Int32)), (.ref o)]))
  have f166 : Exa Z h160 o "com/example/entitygate/entitygate/OpenElements" := (Exa.wr W160 (E_o.keep Kc155))
  refine own_putF X165 hx hZ hown (host := "") (Or.inl (hw _ (List.mem_of_getElem? (i := 60) rfl))) Via.refl e165 f164 f166 (Or.inl (hw _ (List.mem_of_getElem? (i := 61) rfl))) (hw _ (List.mem_of_getElem? (i := 1) rfl)) (ty := .int) (by decide) rfl rfl 70 (hb hby d_prog_30_method_15_67) rfl fun T167 h167 X167 e167 W167 => ?_
  have f167 : Fld Z h167 o "com/example/entitygate/entitygate/OpenElements" "size" "I" (.int (3 : Int32)) := Fld.same W167 f164
  have N167 := Fr.snoc X167 N160 g_o
  have z168 : n0 ≤ h167.size := (Nat.le_trans z162 (Keep.of_wr W167).1)
  have K169 : Keep h0 h167 [o, x, ae] := K163.wr W167 (Or.inl (List.mem_of_getElem? (i := 0) rfl))
  refine g_aload_n X167 hx 71 (hb hby d_prog_30_method_15_70) rfl rfl rfl ?_
  refine g_iconst X167 hx 72 (hb hby d_prog_30_method_15_71) (1 : Int32) rfl rfl ?_
  have f170 : Exa Z h167 x "com/example/entitygate/entitygate/HtmlNode$Element" := (Exa.wr W167 (Exa.wr W160 f161))
  have f171 : Fld Z h167 x "com/example/entitygate/entitygate/HtmlNode$Element" "open" "Z" (.int (0 : Int32)) := (Fld.other W167 (Fld.other W160 (F_x_open.keep Kc155 (ninS ne_x_ae nin0)) (Or.inl ne_x_ae)) (Or.inl (Ne.symm ne_o_x)))
  refine own_putFN X167 hx hZ hown (hw _ (List.mem_of_getElem? (i := 53) rfl)) Via.refl e167 (.int (1 : Int32)) f171 f170 (Or.inl (hw _ (List.mem_of_getElem? (i := 54) rfl))) (hw _ (List.mem_of_getElem? (i := 19) rfl)) (ty := .boolean) (by decide) rfl rfl 75 (hb hby d_prog_30_method_15_72) rfl fun T172 h172 X172 e172 W172 => ?_
  have f172 : Fld Z h172 x "com/example/entitygate/entitygate/HtmlNode$Element" "open" "Z" (.int (1 : Int32)) := Fld.same W172 f171
  have N172 := Fr.snoc X172 N167 g_x
  have z173 : n0 ≤ h172.size := (Nat.le_trans z168 (Keep.of_wr W172).1)
  have K174 : Keep h0 h172 [o, x, ae] := K169.wr W172 (Or.inl (List.mem_of_getElem? (i := 1) rfl))
  refine g_aload_n X172 hx 76 (hb hby d_prog_30_method_15_75) rfl rfl rfl ?_
  have f175 : Fld Z h172 o "com/example/entitygate/entitygate/OpenElements" "landmarkCount" "I" (.int (0 : Int32)) := (Fld.other W172 (Fld.other W167 (Fld.other W160 (F_o_landmarkCount.keep Kc155 (ninS ne_o_ae nin0)) (Or.inl ne_o_ae)) (Or.inr (slot_ne (Or.inl (hw _ (List.mem_of_getElem? (i := 73) rfl))) (Or.inl (hw _ (List.mem_of_getElem? (i := 61) rfl))) (by decide) (t := .int) (t' := .int) (by decide) (by decide)))) (Or.inl ne_o_x))
  refine own_getF X172 hx hZ hown (host := "") (Or.inl (hw _ (List.mem_of_getElem? (i := 72) rfl))) Via.refl e172 f175 79 (hb hby d_prog_30_method_15_76) rfl fun T176 X176 e176 => ?_
  refine g_istore_n X176 hx 80 (hb hby d_prog_30_method_15_79) (l' := #[.val (.ref o), .val (.int (2 : Int32)), .val (.ref x), .val (.int (0 : Int32))]) rfl rfl ?_
  refine g_iload_n X176 hx 81 (hb hby d_prog_30_method_15_80) rfl rfl ?_
  refine g_ifYes X176 hx 114 (hb hby d_prog_30_method_15_81) (own_i0_le_t (by decide)) (by decide) (by decide) ?_
  refine g_aload_n X176 hx 115 (hb hby d_prog_30_method_15_114) rfl rfl rfl ?_
  refine g_aload_n X176 hx 116 (hb hby d_prog_30_method_15_115) rfl rfl rfl ?_
  have f178 : Exa Z h172 x "com/example/entitygate/entitygate/HtmlNode$Element" := (Exa.wr W172 f170)
  have f179 : Fld Z h172 x "com/example/entitygate/entitygate/HtmlNode$Element" "namespace" "Lcom/example/entitygate/entitygate/HtmlNode$Namespace;" .null := (Fld.other W172 (Fld.other W167 (Fld.other W160 (F_x_namespace.keep Kc155 (ninS ne_x_ae nin0)) (Or.inl ne_x_ae)) (Or.inl (Ne.symm ne_o_x))) (Or.inr (slot_ne (Or.inr (hw _ (List.mem_of_getElem? (i := 40) rfl))) (Or.inl (hw _ (List.mem_of_getElem? (i := 54) rfl))) (by decide) (t := (.object "com/example/entitygate/entitygate/HtmlNode$Namespace")) (t' := .boolean) (by decide) (by decide))))
  have f180 : Sta Z h172 "com/example/entitygate/entitygate/HtmlNode$Namespace" "HTML" "Lcom/example/entitygate/entitygate/HtmlNode$Namespace;" (.ref ht) := (Sta.wr W172 (Sta.wr W167 (Sta.wr W160 (own_Sta_keep Kc155 S_HTML (allS (own_plainA V_ae) all0)))))
  have f181 : Exa Z h172 o "com/example/entitygate/entitygate/OpenElements" := (Exa.wr W172 (Exa.wr W167 f166))
  refine own_callP X176 hx hZ hown (hw _ (List.mem_of_getElem? (i := 74) rfl)) (hw _ (List.mem_of_getElem? (i := 75) rfl)) (hw _ (List.mem_of_getElem? (i := 51) rfl)) rfl (hw _ (List.mem_of_getElem? (i := 76) rfl)) (by decide) (rm_isLm l Z a0 hw [] o x ht h172 n0 z173 f178 f179 f180) (hw _ (List.mem_of_getElem? (i := 77) rfl)) (hw _ (List.mem_of_getElem? (i := 2) rfl)) e176 0 (by decide) (by decide) (by decide) (by decide) f181 [(.ref x)] [] rfl pd_2 rfl 119 rfl (by rw [hml]; rfl) rfl (hb hby d_prog_30_method_15_116) rfl fun T177 v177 L177 X177 hQ177 => ?_
  obtain ⟨rfl, Nq177, e177⟩ := hQ177
  have N177 := Fr.app N172 Nq177
  show own_Go p e below s _ _ _ (T177.setTop (mkF m 119 _ [(.int (0 : Int32))]))
  refine g_ifYes X177 hx 189 (hb hby d_prog_30_method_15_119) (own_i0_eq_t (by decide)) (by decide) (by decide) ?_
  have f182 : Fld Z h172 o "com/example/entitygate/entitygate/OpenElements" "elements" "[Lcom/example/entitygate/entitygate/HtmlNode$Element;" (.ref ae) := (Fld.other W172 (Fld.other W167 (Fld.other W160 f158 (Or.inl ne_o_ae)) (Or.inr (slot_ne (Or.inl (hw _ (List.mem_of_getElem? (i := 12) rfl))) (Or.inl (hw _ (List.mem_of_getElem? (i := 61) rfl))) (by decide) (t := (.array (.object "com/example/entitygate/entitygate/HtmlNode$Element"))) (t' := .int) (by decide) (by decide)))) (Or.inl ne_o_x))
  have f183 : Fld Z h172 o "com/example/entitygate/entitygate/OpenElements" "size" "I" (.int (3 : Int32)) := (Fld.other W172 f167 (Or.inl ne_o_x))
  have f184 : Arv Z h172 ae ke (.object "com/example/entitygate/entitygate/HtmlNode$Element") (64 : Int32) [(.ref y0), (.ref y1), (.ref x), .null] .null := ((V160.other W167 (Ne.symm ne_o_ae)).other W172 (Ne.symm ne_x_ae))
  refine own_retV X177 hx hlk hret (hb hby d_prog_30_method_15_189) ?_ (by decide) (by decide)
  rw [e177]
  exact ⟨rfl, N177, K174, f182, f183, f175, f172, f184⟩
def Q_push2 (Z : State) (o : Addr) (x : Addr) (ae : Addr) (ke : ClassId) (ht : Addr) (y0 : Addr) (y1 : Addr) (h0 : Heap) (n0 : Nat) (v : Option Value) (h : Heap) (L : List Loc) : Prop := v = none ∧ Fr n0 L ∧ Keep h0 h [o, x, ae] ∧ Fld Z h o "com/example/entitygate/entitygate/OpenElements" "elements" "[Lcom/example/entitygate/entitygate/HtmlNode$Element;" (.ref ae) ∧ Fld Z h o "com/example/entitygate/entitygate/OpenElements" "size" "I" (.int (3 : Int32)) ∧ Fld Z h o "com/example/entitygate/entitygate/OpenElements" "landmarkCount" "I" (.int (0 : Int32)) ∧ Fld Z h x "com/example/entitygate/entitygate/HtmlNode$Element" "open" "Z" (.int (1 : Int32)) ∧ Arv Z h ae ke (.object "com/example/entitygate/entitygate/HtmlNode$Element") (64 : Int32) [(.ref y0), (.ref y1), (.ref x), .null] .null
set_option maxRecDepth 65536 in
set_option maxHeartbeats 40000000 in
theorem rm_push2 (l : Launch) (Z : State) (a0 : Array Value) (hw : ∀ d ∈ tables_1, d.before a0 Z = true) (ws : List Jvm.Cond) (o : Addr) (x : Addr) (ae : Addr) (ke : ClassId) (ht : Addr) (y0 : Addr) (y1 : Addr) (h0 : Heap) (n0 : Nat) (Z0 : n0 ≤ h0.size) (E_o : Exa Z h0 o "com/example/entitygate/entitygate/OpenElements") (E_x : Exa Z h0 x "com/example/entitygate/entitygate/HtmlNode$Element") (F_o_elements : Fld Z h0 o "com/example/entitygate/entitygate/OpenElements" "elements" "[Lcom/example/entitygate/entitygate/HtmlNode$Element;" (.ref ae)) (F_o_size : Fld Z h0 o "com/example/entitygate/entitygate/OpenElements" "size" "I" (.int (2 : Int32))) (F_o_landmarkCount : Fld Z h0 o "com/example/entitygate/entitygate/OpenElements" "landmarkCount" "I" (.int (0 : Int32))) (F_x_tag : Fld Z h0 x "com/example/entitygate/entitygate/HtmlNode$Element" "tag" "Lcom/example/entitygate/entitygate/HtmlTag;" .null) (F_x_namespace : Fld Z h0 x "com/example/entitygate/entitygate/HtmlNode$Element" "namespace" "Lcom/example/entitygate/entitygate/HtmlNode$Namespace;" .null) (F_x_open : Fld Z h0 x "com/example/entitygate/entitygate/HtmlNode$Element" "open" "Z" (.int (0 : Int32))) (V_ae : Arv Z h0 ae ke (.object "com/example/entitygate/entitygate/HtmlNode$Element") (64 : Int32) [(.ref y0), (.ref y1), .null, .null] .null) (O_ae : Ovr Z ke "com/example/entitygate/entitygate/HtmlNode$Element") (S_HTML : Sta Z h0 "com/example/entitygate/entitygate/HtmlNode$Namespace" "HTML" "Lcom/example/entitygate/entitygate/HtmlNode$Namespace;" (.ref ht)) (ne_o_x : o ≠ x) (ne_o_ae : o ≠ ae) (ne_x_ae : x ≠ ae) (g_o : n0 ≤ o) (g_x : n0 ≤ x) (g_ae : n0 ≤ ae) :
    MetFree l (⟨"com/example/entitygate/entitygate/OpenElements", "push", "(Lcom/example/entitygate/entitygate/HtmlNode$Element;)V"⟩ : MethodName) (head1 (Jvm.Cond.code (⟨"com/example/entitygate/entitygate/OpenElements", "push", "(Lcom/example/entitygate/entitygate/HtmlNode$Element;)V"⟩ : MethodName) prog_30_method_5_code 2 none :: ws) ({ frames := 3, cells := 0, slots := 0, locals := 40 } : Room)) (fun aA U => aA = #[(.ref o), (.ref x)] ∧ Z.Warmed39 U.vm ∧ U.heap = h0) (fun _ _ _ _ _ => True) (fun _ U oO U' => ∃ vV LL, oO = .returned vV ∧ Q_push2 Z o x ae ke ht y0 y1 h0 n0 vV U'.heap LL ∧ FrameEnd U oO U' LL ({ frames := 3, cells := 0, slots := 0, locals := 40 } : Room).cells ({ frames := 3, cells := 0, slots := 0, locals := 40 } : Room).slots) := by
  refine MetFree.of_bodySF (plainFor_of_name pn_3) hisR ?_
  intro p e s m args below meth c s₁ Bd hml0 hP hK
  obtain ⟨rfl, hZ, hh⟩ := hP
  have hx := Bd.exec
  have hby := Bd.bytes
  have hml : c.maxLocals = 2 := hml0
  have hown : s.vm.findClass "com/example/entitygate/entitygate/OpenElements" = some m.cls := findClass_of_methodNamed Bd.named
  have hnm := (name_of_methodNamed Bd.named Bd.method).1
  have X0 : Stand p l e ({ frames := 3, cells := 0, slots := 0, locals := 40 } : Room) s m #[(.ref o), (.ref x)] below meth c s₁ [] 0 0 := Stand.of_body Bd
  have e0 : s₁.heap = h0 := by rw [← hh, Bd.state]; rfl
  have N0 := Fr.nil n0
  have hret := Bd.returns
  have hlk : meth.locks = false := Bd.notSynchronized
  refine own_start (ef_3 m o x) ?_
  show own_Go p e below s (Q_push2 Z o x ae ke ht y0 y1 h0 n0) ({ frames := 3, cells := 0, slots := 0, locals := 40 } : Room).cells ({ frames := 3, cells := 0, slots := 0, locals := 40 } : Room).slots (s₁.setTop (mkF m 0 #[.val (.ref o), .val (.ref x)] []))
  refine g_aload_n X0 hx 1 (hb hby d_prog_30_method_5_0) rfl rfl rfl ?_
  refine g_aload_n X0 hx 2 (hb hby d_prog_30_method_5_1) rfl rfl rfl ?_
  refine own_getF X0 hx hZ hown (host := "") (Or.inl (hw _ (List.mem_of_getElem? (i := 60) rfl))) Via.refl e0 F_o_size 5 (hb hby d_prog_30_method_5_2) rfl fun T185 X185 e185 => ?_
  refine g_aload_n X185 hx 6 (hb hby d_prog_30_method_5_5) rfl rfl rfl ?_
  refine own_callV X185 hx hZ hown (hw _ (List.mem_of_getElem? (i := 62) rfl)) (hw _ (List.mem_of_getElem? (i := 63) rfl)) (own_nf hZ (hw _ (List.mem_of_getElem? (i := 65) rfl))) (hw _ (List.mem_of_getElem? (i := 65) rfl)) (hw _ (List.mem_of_getElem? (i := 64) rfl)) (by decide) (rm_insAt2 l Z a0 hw [] o x ae ke ht y0 y1 h0 n0 Z0 E_o E_x F_o_elements F_o_size F_o_landmarkCount F_x_tag F_x_namespace F_x_open V_ae O_ae S_HTML ne_o_x ne_o_ae ne_x_ae g_o g_x g_ae) (hw _ (List.mem_of_getElem? (i := 66) rfl)) (hw _ (List.mem_of_getElem? (i := 2) rfl)) e185 0 (by decide) (by decide) (by decide) (by decide) E_o [(.int (2 : Int32)), (.ref x)] [] rfl pd_3 rfl 9 rfl (by rw [hml]; rfl) rfl (hb hby d_prog_30_method_5_6) rfl fun T186 v186 L186 X186 hQ186 => ?_
  obtain ⟨rfl, Nq186, Kq186, f186_0, f186_1, f186_2, f186_3, v186_0⟩ := hQ186
  have N186 := Fr.app N0 Nq186
  have K187 : Keep h0 T186.heap [o, x, ae] := (Keep.refl h0 [o, x, ae]).trans Kq186 (allS (Or.inl (List.mem_of_getElem? (i := 0) rfl)) (allS (Or.inl (List.mem_of_getElem? (i := 1) rfl)) (allS (Or.inl (List.mem_of_getElem? (i := 2) rfl)) all0)))
  have z188 : n0 ≤ T186.heap.size := (Nat.le_trans Z0 Kq186.1)
  show own_Go p e below s _ _ _ (T186.setTop (mkF m 9 _ []))
  refine own_retV X186 hx hlk hret (hb hby d_prog_30_method_5_9) ?_ (by decide) (by decide)
  exact ⟨rfl, N186, K187, f186_0, f186_1, f186_2, f186_3, v186_0⟩
theorem d_prog_30_method_10_0 : decode prog_30_method_10_code 0 = .ok (.aload_n 1, 1) := by decide +kernel
theorem d_prog_30_method_10_1 : decode prog_30_method_10_code 1 = .ok (.getfield 31, 3) := by decide +kernel
theorem d_prog_30_method_10_4 : decode prog_30_method_10_code 4 = .ok (.ifCond .ne 5, 3) := by decide +kernel
theorem d_prog_30_method_10_7 : decode prog_30_method_10_code 7 = .ok (.iconst (-1), 1) := by decide +kernel
theorem d_prog_30_method_10_8 : decode prog_30_method_10_code 8 = .ok (.ireturn, 1) := by decide +kernel
theorem ef_5 (m : MethodId) (x0 : Addr) (x1 : Addr) : entryFrame m #[(.ref x0), (.ref x1)] 3 = mkF m 0 #[.val (.ref x0), .val (.ref x1), .unset] [] := by first | (simp [entryFrame, mkF, argsToLocals, Value.category]; done) | rfl
def Q_ix0closed (Z : State) (o : Addr) (x : Addr) (h0 : Heap) (n0 : Nat) (v : Option Value) (h : Heap) (L : List Loc) : Prop := v = some (.int (-1 : Int32)) ∧ Fr n0 L ∧ h = h0
set_option maxRecDepth 65536 in
set_option maxHeartbeats 40000000 in
theorem rm_ix0closed (l : Launch) (Z : State) (a0 : Array Value) (hw : ∀ d ∈ tables_1, d.before a0 Z = true) (ws : List Jvm.Cond) (o : Addr) (x : Addr) (h0 : Heap) (n0 : Nat) (Z0 : n0 ≤ h0.size) (F_x_open : Fld Z h0 x "com/example/entitygate/entitygate/HtmlNode$Element" "open" "Z" (.int (0 : Int32))) :
    MetFree l (⟨"com/example/entitygate/entitygate/OpenElements", "indexOf", "(Lcom/example/entitygate/entitygate/HtmlNode$Element;)I"⟩ : MethodName) (head1 (Jvm.Cond.code (⟨"com/example/entitygate/entitygate/OpenElements", "indexOf", "(Lcom/example/entitygate/entitygate/HtmlNode$Element;)I"⟩ : MethodName) prog_30_method_10_code 3 (some .int) :: ws) ({ frames := 0, cells := 0, slots := 0, locals := 0 } : Room)) (fun aA U => aA = #[(.ref o), (.ref x)] ∧ Z.Warmed39 U.vm ∧ U.heap = h0) (fun _ _ _ _ _ => True) (fun _ U oO U' => ∃ vV LL, oO = .returned vV ∧ Q_ix0closed Z o x h0 n0 vV U'.heap LL ∧ FrameEnd U oO U' LL ({ frames := 0, cells := 0, slots := 0, locals := 0 } : Room).cells ({ frames := 0, cells := 0, slots := 0, locals := 0 } : Room).slots) := by
  refine MetFree.of_bodySF (plainFor_of_name pn_3) hisR ?_
  intro p e s m args below meth c s₁ Bd hml0 hP hK
  obtain ⟨rfl, hZ, hh⟩ := hP
  have hx := Bd.exec
  have hby := Bd.bytes
  have hml : c.maxLocals = 3 := hml0
  have hown : s.vm.findClass "com/example/entitygate/entitygate/OpenElements" = some m.cls := findClass_of_methodNamed Bd.named
  have hnm := (name_of_methodNamed Bd.named Bd.method).1
  have X0 : Stand p l e ({ frames := 0, cells := 0, slots := 0, locals := 0 } : Room) s m #[(.ref o), (.ref x)] below meth c s₁ [] 0 0 := Stand.of_body Bd
  have e0 : s₁.heap = h0 := by rw [← hh, Bd.state]; rfl
  have N0 := Fr.nil n0
  have hret := Bd.returns
  have hlk : meth.locks = false := Bd.notSynchronized
  refine own_start (ef_5 m o x) ?_
  show own_Go p e below s (Q_ix0closed Z o x h0 n0) ({ frames := 0, cells := 0, slots := 0, locals := 0 } : Room).cells ({ frames := 0, cells := 0, slots := 0, locals := 0 } : Room).slots (s₁.setTop (mkF m 0 #[.val (.ref o), .val (.ref x), .unset] []))
  refine g_aload_n X0 hx 1 (hb hby d_prog_30_method_10_0) rfl rfl rfl ?_
  refine own_getF X0 hx hZ hown (host := "") (Or.inl (hw _ (List.mem_of_getElem? (i := 53) rfl))) Via.refl e0 F_x_open 4 (hb hby d_prog_30_method_10_1) rfl fun T189 X189 e189 => ?_
  refine g_ifNo X189 hx 7 (hb hby d_prog_30_method_10_4) (own_i0_ne_f (by decide)) rfl ?_
  refine g_iconst X189 hx 8 (hb hby d_prog_30_method_10_7) (-1 : Int32) rfl rfl ?_
  refine own_retI X189 hx hlk hret (hb hby d_prog_30_method_10_8) ?_ (by decide) (by decide)
  rw [e189]
  exact ⟨rfl, N0, rfl⟩
theorem d_prog_30_method_10_9 : decode prog_30_method_10_code 9 = .ok (.aload_n 0, 1) := by decide +kernel
theorem d_prog_30_method_10_10 : decode prog_30_method_10_code 10 = .ok (.getfield 23, 3) := by decide +kernel
theorem d_prog_30_method_10_13 : decode prog_30_method_10_code 13 = .ok (.iconst 1, 1) := by decide +kernel
theorem d_prog_30_method_10_14 : decode prog_30_method_10_code 14 = .ok (.isub, 1) := by decide +kernel
theorem d_prog_30_method_10_15 : decode prog_30_method_10_code 15 = .ok (.istore_n 2, 1) := by decide +kernel
theorem d_prog_30_method_10_16 : decode prog_30_method_10_code 16 = .ok (.iload_n 2, 1) := by decide +kernel
theorem d_prog_30_method_10_17 : decode prog_30_method_10_code 17 = .ok (.ifCond .lt 21, 3) := by decide +kernel
theorem d_prog_30_method_10_38 : decode prog_30_method_10_code 38 = .ok (.iconst (-1), 1) := by decide +kernel
theorem d_prog_30_method_10_39 : decode prog_30_method_10_code 39 = .ok (.ireturn, 1) := by decide +kernel
def Q_ix0open (Z : State) (o : Addr) (ae : Addr) (ke : ClassId) (x : Addr) (h0 : Heap) (n0 : Nat) (v : Option Value) (h : Heap) (L : List Loc) : Prop := v = some (.int (-1 : Int32)) ∧ Fr n0 L ∧ h = h0
set_option maxRecDepth 65536 in
set_option maxHeartbeats 40000000 in
theorem rm_ix0open (l : Launch) (Z : State) (a0 : Array Value) (hw : ∀ d ∈ tables_1, d.before a0 Z = true) (ws : List Jvm.Cond) (o : Addr) (ae : Addr) (ke : ClassId) (x : Addr) (h0 : Heap) (n0 : Nat) (Z0 : n0 ≤ h0.size) (F_x_open : Fld Z h0 x "com/example/entitygate/entitygate/HtmlNode$Element" "open" "Z" (.int (1 : Int32))) (F_o_elements : Fld Z h0 o "com/example/entitygate/entitygate/OpenElements" "elements" "[Lcom/example/entitygate/entitygate/HtmlNode$Element;" (.ref ae)) (F_o_size : Fld Z h0 o "com/example/entitygate/entitygate/OpenElements" "size" "I" (.int (0 : Int32))) (V_ae : Arv Z h0 ae ke (.object "com/example/entitygate/entitygate/HtmlNode$Element") (64 : Int32) [.null, .null, .null, .null] .null) (O_ae : Ovr Z ke "com/example/entitygate/entitygate/HtmlNode$Element") :
    MetFree l (⟨"com/example/entitygate/entitygate/OpenElements", "indexOf", "(Lcom/example/entitygate/entitygate/HtmlNode$Element;)I"⟩ : MethodName) (head1 (Jvm.Cond.code (⟨"com/example/entitygate/entitygate/OpenElements", "indexOf", "(Lcom/example/entitygate/entitygate/HtmlNode$Element;)I"⟩ : MethodName) prog_30_method_10_code 3 (some .int) :: ws) ({ frames := 0, cells := 0, slots := 0, locals := 0 } : Room)) (fun aA U => aA = #[(.ref o), (.ref x)] ∧ Z.Warmed39 U.vm ∧ U.heap = h0) (fun _ _ _ _ _ => True) (fun _ U oO U' => ∃ vV LL, oO = .returned vV ∧ Q_ix0open Z o ae ke x h0 n0 vV U'.heap LL ∧ FrameEnd U oO U' LL ({ frames := 0, cells := 0, slots := 0, locals := 0 } : Room).cells ({ frames := 0, cells := 0, slots := 0, locals := 0 } : Room).slots) := by
  refine MetFree.of_bodySF (plainFor_of_name pn_3) hisR ?_
  intro p e s m args below meth c s₁ Bd hml0 hP hK
  obtain ⟨rfl, hZ, hh⟩ := hP
  have hx := Bd.exec
  have hby := Bd.bytes
  have hml : c.maxLocals = 3 := hml0
  have hown : s.vm.findClass "com/example/entitygate/entitygate/OpenElements" = some m.cls := findClass_of_methodNamed Bd.named
  have hnm := (name_of_methodNamed Bd.named Bd.method).1
  have X0 : Stand p l e ({ frames := 0, cells := 0, slots := 0, locals := 0 } : Room) s m #[(.ref o), (.ref x)] below meth c s₁ [] 0 0 := Stand.of_body Bd
  have e0 : s₁.heap = h0 := by rw [← hh, Bd.state]; rfl
  have N0 := Fr.nil n0
  have hret := Bd.returns
  have hlk : meth.locks = false := Bd.notSynchronized
  refine own_start (ef_5 m o x) ?_
  show own_Go p e below s (Q_ix0open Z o ae ke x h0 n0) ({ frames := 0, cells := 0, slots := 0, locals := 0 } : Room).cells ({ frames := 0, cells := 0, slots := 0, locals := 0 } : Room).slots (s₁.setTop (mkF m 0 #[.val (.ref o), .val (.ref x), .unset] []))
  refine g_aload_n X0 hx 1 (hb hby d_prog_30_method_10_0) rfl rfl rfl ?_
  refine own_getF X0 hx hZ hown (host := "") (Or.inl (hw _ (List.mem_of_getElem? (i := 53) rfl))) Via.refl e0 F_x_open 4 (hb hby d_prog_30_method_10_1) rfl fun T190 X190 e190 => ?_
  refine g_ifYes X190 hx 9 (hb hby d_prog_30_method_10_4) (own_i0_ne_t (by decide)) (by decide) (by decide) ?_
  refine g_aload_n X190 hx 10 (hb hby d_prog_30_method_10_9) rfl rfl rfl ?_
  refine own_getF X190 hx hZ hown (host := "") (Or.inl (hw _ (List.mem_of_getElem? (i := 60) rfl))) Via.refl e190 F_o_size 13 (hb hby d_prog_30_method_10_10) rfl fun T191 X191 e191 => ?_
  refine g_iconst X191 hx 14 (hb hby d_prog_30_method_10_13) (1 : Int32) rfl rfl ?_
  refine g_isub X191 hx 15 (hb hby d_prog_30_method_10_14) rfl ?_
  show own_Go p e below s _ _ _ (T191.setTop (mkF m 15 _ [(.int (-1 : Int32))]))
  refine g_istore_n X191 hx 16 (hb hby d_prog_30_method_10_15) (l' := #[.val (.ref o), .val (.ref x), .val (.int (-1 : Int32))]) rfl rfl ?_
  refine g_iload_n X191 hx 17 (hb hby d_prog_30_method_10_16) rfl rfl ?_
  refine g_ifYes X191 hx 38 (hb hby d_prog_30_method_10_17) (own_i0_lt_t (by decide)) (by decide) (by decide) ?_
  refine g_iconst X191 hx 39 (hb hby d_prog_30_method_10_38) (-1 : Int32) rfl rfl ?_
  refine own_retI X191 hx hlk hret (hb hby d_prog_30_method_10_39) ?_ (by decide) (by decide)
  rw [e191]
  exact ⟨rfl, N0, rfl⟩
theorem d_prog_30_method_10_20 : decode prog_30_method_10_code 20 = .ok (.aload_n 0, 1) := by decide +kernel
theorem d_prog_30_method_10_21 : decode prog_30_method_10_code 21 = .ok (.getfield 9, 3) := by decide +kernel
theorem d_prog_30_method_10_24 : decode prog_30_method_10_code 24 = .ok (.iload_n 2, 1) := by decide +kernel
theorem d_prog_30_method_10_25 : decode prog_30_method_10_code 25 = .ok (.aaload, 1) := by decide +kernel
theorem d_prog_30_method_10_26 : decode prog_30_method_10_code 26 = .ok (.aload_n 1, 1) := by decide +kernel
theorem d_prog_30_method_10_27 : decode prog_30_method_10_code 27 = .ok (.if_acmp .ne 5, 3) := by decide +kernel
theorem d_prog_30_method_10_30 : decode prog_30_method_10_code 30 = .ok (.iload_n 2, 1) := by decide +kernel
theorem d_prog_30_method_10_31 : decode prog_30_method_10_code 31 = .ok (.ireturn, 1) := by decide +kernel
def Q_ix10 (Z : State) (o : Addr) (ae : Addr) (ke : ClassId) (y0 : Addr) (h0 : Heap) (n0 : Nat) (v : Option Value) (h : Heap) (L : List Loc) : Prop := v = some (.int (0 : Int32)) ∧ Fr n0 L ∧ h = h0
set_option maxRecDepth 65536 in
set_option maxHeartbeats 40000000 in
theorem rm_ix10 (l : Launch) (Z : State) (a0 : Array Value) (hw : ∀ d ∈ tables_1, d.before a0 Z = true) (ws : List Jvm.Cond) (o : Addr) (ae : Addr) (ke : ClassId) (y0 : Addr) (h0 : Heap) (n0 : Nat) (Z0 : n0 ≤ h0.size) (F_y0_open : Fld Z h0 y0 "com/example/entitygate/entitygate/HtmlNode$Element" "open" "Z" (.int (1 : Int32))) (F_o_elements : Fld Z h0 o "com/example/entitygate/entitygate/OpenElements" "elements" "[Lcom/example/entitygate/entitygate/HtmlNode$Element;" (.ref ae)) (F_o_size : Fld Z h0 o "com/example/entitygate/entitygate/OpenElements" "size" "I" (.int (1 : Int32))) (V_ae : Arv Z h0 ae ke (.object "com/example/entitygate/entitygate/HtmlNode$Element") (64 : Int32) [(.ref y0), .null, .null, .null] .null) (O_ae : Ovr Z ke "com/example/entitygate/entitygate/HtmlNode$Element") :
    MetFree l (⟨"com/example/entitygate/entitygate/OpenElements", "indexOf", "(Lcom/example/entitygate/entitygate/HtmlNode$Element;)I"⟩ : MethodName) (head1 (Jvm.Cond.code (⟨"com/example/entitygate/entitygate/OpenElements", "indexOf", "(Lcom/example/entitygate/entitygate/HtmlNode$Element;)I"⟩ : MethodName) prog_30_method_10_code 3 (some .int) :: ws) ({ frames := 0, cells := 0, slots := 0, locals := 0 } : Room)) (fun aA U => aA = #[(.ref o), (.ref y0)] ∧ Z.Warmed39 U.vm ∧ U.heap = h0) (fun _ _ _ _ _ => True) (fun _ U oO U' => ∃ vV LL, oO = .returned vV ∧ Q_ix10 Z o ae ke y0 h0 n0 vV U'.heap LL ∧ FrameEnd U oO U' LL ({ frames := 0, cells := 0, slots := 0, locals := 0 } : Room).cells ({ frames := 0, cells := 0, slots := 0, locals := 0 } : Room).slots) := by
  refine MetFree.of_bodySF (plainFor_of_name pn_3) hisR ?_
  intro p e s m args below meth c s₁ Bd hml0 hP hK
  obtain ⟨rfl, hZ, hh⟩ := hP
  have hx := Bd.exec
  have hby := Bd.bytes
  have hml : c.maxLocals = 3 := hml0
  have hown : s.vm.findClass "com/example/entitygate/entitygate/OpenElements" = some m.cls := findClass_of_methodNamed Bd.named
  have hnm := (name_of_methodNamed Bd.named Bd.method).1
  have X0 : Stand p l e ({ frames := 0, cells := 0, slots := 0, locals := 0 } : Room) s m #[(.ref o), (.ref y0)] below meth c s₁ [] 0 0 := Stand.of_body Bd
  have e0 : s₁.heap = h0 := by rw [← hh, Bd.state]; rfl
  have N0 := Fr.nil n0
  have hret := Bd.returns
  have hlk : meth.locks = false := Bd.notSynchronized
  refine own_start (ef_5 m o y0) ?_
  show own_Go p e below s (Q_ix10 Z o ae ke y0 h0 n0) ({ frames := 0, cells := 0, slots := 0, locals := 0 } : Room).cells ({ frames := 0, cells := 0, slots := 0, locals := 0 } : Room).slots (s₁.setTop (mkF m 0 #[.val (.ref o), .val (.ref y0), .unset] []))
  refine g_aload_n X0 hx 1 (hb hby d_prog_30_method_10_0) rfl rfl rfl ?_
  refine own_getF X0 hx hZ hown (host := "") (Or.inl (hw _ (List.mem_of_getElem? (i := 53) rfl))) Via.refl e0 F_y0_open 4 (hb hby d_prog_30_method_10_1) rfl fun T192 X192 e192 => ?_
  refine g_ifYes X192 hx 9 (hb hby d_prog_30_method_10_4) (own_i0_ne_t (by decide)) (by decide) (by decide) ?_
  refine g_aload_n X192 hx 10 (hb hby d_prog_30_method_10_9) rfl rfl rfl ?_
  refine own_getF X192 hx hZ hown (host := "") (Or.inl (hw _ (List.mem_of_getElem? (i := 60) rfl))) Via.refl e192 F_o_size 13 (hb hby d_prog_30_method_10_10) rfl fun T193 X193 e193 => ?_
  refine g_iconst X193 hx 14 (hb hby d_prog_30_method_10_13) (1 : Int32) rfl rfl ?_
  refine g_isub X193 hx 15 (hb hby d_prog_30_method_10_14) rfl ?_
  show own_Go p e below s _ _ _ (T193.setTop (mkF m 15 _ [(.int (0 : Int32))]))
  refine g_istore_n X193 hx 16 (hb hby d_prog_30_method_10_15) (l' := #[.val (.ref o), .val (.ref y0), .val (.int (0 : Int32))]) rfl rfl ?_
  refine g_iload_n X193 hx 17 (hb hby d_prog_30_method_10_16) rfl rfl ?_
  refine g_ifNo X193 hx 20 (hb hby d_prog_30_method_10_17) (own_i0_lt_f (by decide)) rfl ?_
  refine g_aload_n X193 hx 21 (hb hby d_prog_30_method_10_20) rfl rfl rfl ?_
  refine own_getF X193 hx hZ hown (host := "") (Or.inl (hw _ (List.mem_of_getElem? (i := 11) rfl))) Via.refl e193 F_o_elements 24 (hb hby d_prog_30_method_10_21) rfl fun T194 X194 e194 => ?_
  refine g_iload_n X194 hx 25 (hb hby d_prog_30_method_10_24) rfl rfl ?_
  obtain ⟨cl195, Ar195, q195, S195, P195, H195, G195⟩ := id V_ae
  have hin195 := inb_of (j := (0 : Int32)) S195 ⟨by decide, by decide⟩
  refine own_aaload X194 hx hZ e194 rfl Ar195 (v := (.ref y0)) hin195 (Has.at H195 hin195 rfl) 26 (hb hby d_prog_30_method_10_25) rfl ?_
  refine g_aload_n X194 hx 27 (hb hby d_prog_30_method_10_26) rfl rfl rfl ?_
  refine g_acmp X194 hx (x := (.ref y0)) (y := (.ref y0)) (same := true) 30 (hb hby d_prog_30_method_10_27) rfl rfl (decide_eq_true rfl) (by decide) (by decide) ?_
  refine g_iload_n X194 hx 31 (hb hby d_prog_30_method_10_30) rfl rfl ?_
  refine own_retI X194 hx hlk hret (hb hby d_prog_30_method_10_31) ?_ (by decide) (by decide)
  rw [e194]
  exact ⟨rfl, N0, rfl⟩
def Q_ix1closed (Z : State) (o : Addr) (x : Addr) (h0 : Heap) (n0 : Nat) (v : Option Value) (h : Heap) (L : List Loc) : Prop := v = some (.int (-1 : Int32)) ∧ Fr n0 L ∧ h = h0
set_option maxRecDepth 65536 in
set_option maxHeartbeats 40000000 in
theorem rm_ix1closed (l : Launch) (Z : State) (a0 : Array Value) (hw : ∀ d ∈ tables_1, d.before a0 Z = true) (ws : List Jvm.Cond) (o : Addr) (x : Addr) (h0 : Heap) (n0 : Nat) (Z0 : n0 ≤ h0.size) (F_x_open : Fld Z h0 x "com/example/entitygate/entitygate/HtmlNode$Element" "open" "Z" (.int (0 : Int32))) :
    MetFree l (⟨"com/example/entitygate/entitygate/OpenElements", "indexOf", "(Lcom/example/entitygate/entitygate/HtmlNode$Element;)I"⟩ : MethodName) (head1 (Jvm.Cond.code (⟨"com/example/entitygate/entitygate/OpenElements", "indexOf", "(Lcom/example/entitygate/entitygate/HtmlNode$Element;)I"⟩ : MethodName) prog_30_method_10_code 3 (some .int) :: ws) ({ frames := 0, cells := 0, slots := 0, locals := 0 } : Room)) (fun aA U => aA = #[(.ref o), (.ref x)] ∧ Z.Warmed39 U.vm ∧ U.heap = h0) (fun _ _ _ _ _ => True) (fun _ U oO U' => ∃ vV LL, oO = .returned vV ∧ Q_ix1closed Z o x h0 n0 vV U'.heap LL ∧ FrameEnd U oO U' LL ({ frames := 0, cells := 0, slots := 0, locals := 0 } : Room).cells ({ frames := 0, cells := 0, slots := 0, locals := 0 } : Room).slots) := by
  refine MetFree.of_bodySF (plainFor_of_name pn_3) hisR ?_
  intro p e s m args below meth c s₁ Bd hml0 hP hK
  obtain ⟨rfl, hZ, hh⟩ := hP
  have hx := Bd.exec
  have hby := Bd.bytes
  have hml : c.maxLocals = 3 := hml0
  have hown : s.vm.findClass "com/example/entitygate/entitygate/OpenElements" = some m.cls := findClass_of_methodNamed Bd.named
  have hnm := (name_of_methodNamed Bd.named Bd.method).1
  have X0 : Stand p l e ({ frames := 0, cells := 0, slots := 0, locals := 0 } : Room) s m #[(.ref o), (.ref x)] below meth c s₁ [] 0 0 := Stand.of_body Bd
  have e0 : s₁.heap = h0 := by rw [← hh, Bd.state]; rfl
  have N0 := Fr.nil n0
  have hret := Bd.returns
  have hlk : meth.locks = false := Bd.notSynchronized
  refine own_start (ef_5 m o x) ?_
  show own_Go p e below s (Q_ix1closed Z o x h0 n0) ({ frames := 0, cells := 0, slots := 0, locals := 0 } : Room).cells ({ frames := 0, cells := 0, slots := 0, locals := 0 } : Room).slots (s₁.setTop (mkF m 0 #[.val (.ref o), .val (.ref x), .unset] []))
  refine g_aload_n X0 hx 1 (hb hby d_prog_30_method_10_0) rfl rfl rfl ?_
  refine own_getF X0 hx hZ hown (host := "") (Or.inl (hw _ (List.mem_of_getElem? (i := 53) rfl))) Via.refl e0 F_x_open 4 (hb hby d_prog_30_method_10_1) rfl fun T196 X196 e196 => ?_
  refine g_ifNo X196 hx 7 (hb hby d_prog_30_method_10_4) (own_i0_ne_f (by decide)) rfl ?_
  refine g_iconst X196 hx 8 (hb hby d_prog_30_method_10_7) (-1 : Int32) rfl rfl ?_
  refine own_retI X196 hx hlk hret (hb hby d_prog_30_method_10_8) ?_ (by decide) (by decide)
  rw [e196]
  exact ⟨rfl, N0, rfl⟩
theorem d_prog_30_method_10_32 : decode prog_30_method_10_code 32 = .ok (.iinc 2 (-1), 3) := by decide +kernel
theorem d_prog_30_method_10_35 : decode prog_30_method_10_code 35 = .ok (.goto (-19), 3) := by decide +kernel
def Q_ix1open (Z : State) (o : Addr) (ae : Addr) (ke : ClassId) (y0 : Addr) (x : Addr) (h0 : Heap) (n0 : Nat) (v : Option Value) (h : Heap) (L : List Loc) : Prop := v = some (.int (-1 : Int32)) ∧ Fr n0 L ∧ h = h0
set_option maxRecDepth 65536 in
set_option maxHeartbeats 40000000 in
theorem rm_ix1open (l : Launch) (Z : State) (a0 : Array Value) (hw : ∀ d ∈ tables_1, d.before a0 Z = true) (ws : List Jvm.Cond) (o : Addr) (ae : Addr) (ke : ClassId) (y0 : Addr) (x : Addr) (h0 : Heap) (n0 : Nat) (Z0 : n0 ≤ h0.size) (F_x_open : Fld Z h0 x "com/example/entitygate/entitygate/HtmlNode$Element" "open" "Z" (.int (1 : Int32))) (F_o_elements : Fld Z h0 o "com/example/entitygate/entitygate/OpenElements" "elements" "[Lcom/example/entitygate/entitygate/HtmlNode$Element;" (.ref ae)) (F_o_size : Fld Z h0 o "com/example/entitygate/entitygate/OpenElements" "size" "I" (.int (1 : Int32))) (V_ae : Arv Z h0 ae ke (.object "com/example/entitygate/entitygate/HtmlNode$Element") (64 : Int32) [(.ref y0), .null, .null, .null] .null) (O_ae : Ovr Z ke "com/example/entitygate/entitygate/HtmlNode$Element") (ne_y0_x : y0 ≠ x) :
    MetFree l (⟨"com/example/entitygate/entitygate/OpenElements", "indexOf", "(Lcom/example/entitygate/entitygate/HtmlNode$Element;)I"⟩ : MethodName) (head1 (Jvm.Cond.code (⟨"com/example/entitygate/entitygate/OpenElements", "indexOf", "(Lcom/example/entitygate/entitygate/HtmlNode$Element;)I"⟩ : MethodName) prog_30_method_10_code 3 (some .int) :: ws) ({ frames := 0, cells := 0, slots := 0, locals := 0 } : Room)) (fun aA U => aA = #[(.ref o), (.ref x)] ∧ Z.Warmed39 U.vm ∧ U.heap = h0) (fun _ _ _ _ _ => True) (fun _ U oO U' => ∃ vV LL, oO = .returned vV ∧ Q_ix1open Z o ae ke y0 x h0 n0 vV U'.heap LL ∧ FrameEnd U oO U' LL ({ frames := 0, cells := 0, slots := 0, locals := 0 } : Room).cells ({ frames := 0, cells := 0, slots := 0, locals := 0 } : Room).slots) := by
  refine MetFree.of_bodySF (plainFor_of_name pn_3) hisR ?_
  intro p e s m args below meth c s₁ Bd hml0 hP hK
  obtain ⟨rfl, hZ, hh⟩ := hP
  have hx := Bd.exec
  have hby := Bd.bytes
  have hml : c.maxLocals = 3 := hml0
  have hown : s.vm.findClass "com/example/entitygate/entitygate/OpenElements" = some m.cls := findClass_of_methodNamed Bd.named
  have hnm := (name_of_methodNamed Bd.named Bd.method).1
  have X0 : Stand p l e ({ frames := 0, cells := 0, slots := 0, locals := 0 } : Room) s m #[(.ref o), (.ref x)] below meth c s₁ [] 0 0 := Stand.of_body Bd
  have e0 : s₁.heap = h0 := by rw [← hh, Bd.state]; rfl
  have N0 := Fr.nil n0
  have hret := Bd.returns
  have hlk : meth.locks = false := Bd.notSynchronized
  refine own_start (ef_5 m o x) ?_
  show own_Go p e below s (Q_ix1open Z o ae ke y0 x h0 n0) ({ frames := 0, cells := 0, slots := 0, locals := 0 } : Room).cells ({ frames := 0, cells := 0, slots := 0, locals := 0 } : Room).slots (s₁.setTop (mkF m 0 #[.val (.ref o), .val (.ref x), .unset] []))
  refine g_aload_n X0 hx 1 (hb hby d_prog_30_method_10_0) rfl rfl rfl ?_
  refine own_getF X0 hx hZ hown (host := "") (Or.inl (hw _ (List.mem_of_getElem? (i := 53) rfl))) Via.refl e0 F_x_open 4 (hb hby d_prog_30_method_10_1) rfl fun T197 X197 e197 => ?_
  refine g_ifYes X197 hx 9 (hb hby d_prog_30_method_10_4) (own_i0_ne_t (by decide)) (by decide) (by decide) ?_
  refine g_aload_n X197 hx 10 (hb hby d_prog_30_method_10_9) rfl rfl rfl ?_
  refine own_getF X197 hx hZ hown (host := "") (Or.inl (hw _ (List.mem_of_getElem? (i := 60) rfl))) Via.refl e197 F_o_size 13 (hb hby d_prog_30_method_10_10) rfl fun T198 X198 e198 => ?_
  refine g_iconst X198 hx 14 (hb hby d_prog_30_method_10_13) (1 : Int32) rfl rfl ?_
  refine g_isub X198 hx 15 (hb hby d_prog_30_method_10_14) rfl ?_
  show own_Go p e below s _ _ _ (T198.setTop (mkF m 15 _ [(.int (0 : Int32))]))
  refine g_istore_n X198 hx 16 (hb hby d_prog_30_method_10_15) (l' := #[.val (.ref o), .val (.ref x), .val (.int (0 : Int32))]) rfl rfl ?_
  refine g_iload_n X198 hx 17 (hb hby d_prog_30_method_10_16) rfl rfl ?_
  refine g_ifNo X198 hx 20 (hb hby d_prog_30_method_10_17) (own_i0_lt_f (by decide)) rfl ?_
  refine g_aload_n X198 hx 21 (hb hby d_prog_30_method_10_20) rfl rfl rfl ?_
  refine own_getF X198 hx hZ hown (host := "") (Or.inl (hw _ (List.mem_of_getElem? (i := 11) rfl))) Via.refl e198 F_o_elements 24 (hb hby d_prog_30_method_10_21) rfl fun T199 X199 e199 => ?_
  refine g_iload_n X199 hx 25 (hb hby d_prog_30_method_10_24) rfl rfl ?_
  obtain ⟨cl200, Ar200, q200, S200, P200, H200, G200⟩ := id V_ae
  have hin200 := inb_of (j := (0 : Int32)) S200 ⟨by decide, by decide⟩
  refine own_aaload X199 hx hZ e199 rfl Ar200 (v := (.ref y0)) hin200 (Has.at H200 hin200 rfl) 26 (hb hby d_prog_30_method_10_25) rfl ?_
  refine g_aload_n X199 hx 27 (hb hby d_prog_30_method_10_26) rfl rfl rfl ?_
  refine g_acmp X199 hx (x := (.ref y0)) (y := (.ref x)) (same := false) 32 (hb hby d_prog_30_method_10_27) rfl rfl (decide_eq_false fun q => ne_y0_x (Value.ref.inj q)) (by decide) (by decide) ?_
  refine g_iinc X199 hx 35 (hb hby d_prog_30_method_10_32) (z := (-1 : Int32)) rfl rfl (l' := #[.val (.ref o), .val (.ref x), .val (.int (-1 : Int32))]) rfl rfl ?_
  refine g_goto X199 hx 16 (hb hby d_prog_30_method_10_35) (by decide) (by decide) ?_
  refine g_iload_n X199 hx 17 (hb hby d_prog_30_method_10_16) rfl rfl ?_
  refine g_ifYes X199 hx 38 (hb hby d_prog_30_method_10_17) (own_i0_lt_t (by decide)) (by decide) (by decide) ?_
  refine g_iconst X199 hx 39 (hb hby d_prog_30_method_10_38) (-1 : Int32) rfl rfl ?_
  refine own_retI X199 hx hlk hret (hb hby d_prog_30_method_10_39) ?_ (by decide) (by decide)
  rw [e199]
  exact ⟨rfl, N0, rfl⟩
def Q_ix20 (Z : State) (o : Addr) (ae : Addr) (ke : ClassId) (y0 : Addr) (y1 : Addr) (h0 : Heap) (n0 : Nat) (v : Option Value) (h : Heap) (L : List Loc) : Prop := v = some (.int (0 : Int32)) ∧ Fr n0 L ∧ h = h0
set_option maxRecDepth 65536 in
set_option maxHeartbeats 40000000 in
theorem rm_ix20 (l : Launch) (Z : State) (a0 : Array Value) (hw : ∀ d ∈ tables_1, d.before a0 Z = true) (ws : List Jvm.Cond) (o : Addr) (ae : Addr) (ke : ClassId) (y0 : Addr) (y1 : Addr) (h0 : Heap) (n0 : Nat) (Z0 : n0 ≤ h0.size) (F_y0_open : Fld Z h0 y0 "com/example/entitygate/entitygate/HtmlNode$Element" "open" "Z" (.int (1 : Int32))) (F_o_elements : Fld Z h0 o "com/example/entitygate/entitygate/OpenElements" "elements" "[Lcom/example/entitygate/entitygate/HtmlNode$Element;" (.ref ae)) (F_o_size : Fld Z h0 o "com/example/entitygate/entitygate/OpenElements" "size" "I" (.int (2 : Int32))) (V_ae : Arv Z h0 ae ke (.object "com/example/entitygate/entitygate/HtmlNode$Element") (64 : Int32) [(.ref y0), (.ref y1), .null, .null] .null) (O_ae : Ovr Z ke "com/example/entitygate/entitygate/HtmlNode$Element") (ne_y1_y0 : y1 ≠ y0) :
    MetFree l (⟨"com/example/entitygate/entitygate/OpenElements", "indexOf", "(Lcom/example/entitygate/entitygate/HtmlNode$Element;)I"⟩ : MethodName) (head1 (Jvm.Cond.code (⟨"com/example/entitygate/entitygate/OpenElements", "indexOf", "(Lcom/example/entitygate/entitygate/HtmlNode$Element;)I"⟩ : MethodName) prog_30_method_10_code 3 (some .int) :: ws) ({ frames := 0, cells := 0, slots := 0, locals := 0 } : Room)) (fun aA U => aA = #[(.ref o), (.ref y0)] ∧ Z.Warmed39 U.vm ∧ U.heap = h0) (fun _ _ _ _ _ => True) (fun _ U oO U' => ∃ vV LL, oO = .returned vV ∧ Q_ix20 Z o ae ke y0 y1 h0 n0 vV U'.heap LL ∧ FrameEnd U oO U' LL ({ frames := 0, cells := 0, slots := 0, locals := 0 } : Room).cells ({ frames := 0, cells := 0, slots := 0, locals := 0 } : Room).slots) := by
  refine MetFree.of_bodySF (plainFor_of_name pn_3) hisR ?_
  intro p e s m args below meth c s₁ Bd hml0 hP hK
  obtain ⟨rfl, hZ, hh⟩ := hP
  have hx := Bd.exec
  have hby := Bd.bytes
  have hml : c.maxLocals = 3 := hml0
  have hown : s.vm.findClass "com/example/entitygate/entitygate/OpenElements" = some m.cls := findClass_of_methodNamed Bd.named
  have hnm := (name_of_methodNamed Bd.named Bd.method).1
  have X0 : Stand p l e ({ frames := 0, cells := 0, slots := 0, locals := 0 } : Room) s m #[(.ref o), (.ref y0)] below meth c s₁ [] 0 0 := Stand.of_body Bd
  have e0 : s₁.heap = h0 := by rw [← hh, Bd.state]; rfl
  have N0 := Fr.nil n0
  have hret := Bd.returns
  have hlk : meth.locks = false := Bd.notSynchronized
  refine own_start (ef_5 m o y0) ?_
  show own_Go p e below s (Q_ix20 Z o ae ke y0 y1 h0 n0) ({ frames := 0, cells := 0, slots := 0, locals := 0 } : Room).cells ({ frames := 0, cells := 0, slots := 0, locals := 0 } : Room).slots (s₁.setTop (mkF m 0 #[.val (.ref o), .val (.ref y0), .unset] []))
  refine g_aload_n X0 hx 1 (hb hby d_prog_30_method_10_0) rfl rfl rfl ?_
  refine own_getF X0 hx hZ hown (host := "") (Or.inl (hw _ (List.mem_of_getElem? (i := 53) rfl))) Via.refl e0 F_y0_open 4 (hb hby d_prog_30_method_10_1) rfl fun T201 X201 e201 => ?_
  refine g_ifYes X201 hx 9 (hb hby d_prog_30_method_10_4) (own_i0_ne_t (by decide)) (by decide) (by decide) ?_
  refine g_aload_n X201 hx 10 (hb hby d_prog_30_method_10_9) rfl rfl rfl ?_
  refine own_getF X201 hx hZ hown (host := "") (Or.inl (hw _ (List.mem_of_getElem? (i := 60) rfl))) Via.refl e201 F_o_size 13 (hb hby d_prog_30_method_10_10) rfl fun T202 X202 e202 => ?_
  refine g_iconst X202 hx 14 (hb hby d_prog_30_method_10_13) (1 : Int32) rfl rfl ?_
  refine g_isub X202 hx 15 (hb hby d_prog_30_method_10_14) rfl ?_
  show own_Go p e below s _ _ _ (T202.setTop (mkF m 15 _ [(.int (1 : Int32))]))
  refine g_istore_n X202 hx 16 (hb hby d_prog_30_method_10_15) (l' := #[.val (.ref o), .val (.ref y0), .val (.int (1 : Int32))]) rfl rfl ?_
  refine g_iload_n X202 hx 17 (hb hby d_prog_30_method_10_16) rfl rfl ?_
  refine g_ifNo X202 hx 20 (hb hby d_prog_30_method_10_17) (own_i0_lt_f (by decide)) rfl ?_
  refine g_aload_n X202 hx 21 (hb hby d_prog_30_method_10_20) rfl rfl rfl ?_
  refine own_getF X202 hx hZ hown (host := "") (Or.inl (hw _ (List.mem_of_getElem? (i := 11) rfl))) Via.refl e202 F_o_elements 24 (hb hby d_prog_30_method_10_21) rfl fun T203 X203 e203 => ?_
  refine g_iload_n X203 hx 25 (hb hby d_prog_30_method_10_24) rfl rfl ?_
  obtain ⟨cl204, Ar204, q204, S204, P204, H204, G204⟩ := id V_ae
  have hin204 := inb_of (j := (1 : Int32)) S204 ⟨by decide, by decide⟩
  refine own_aaload X203 hx hZ e203 rfl Ar204 (v := (.ref y1)) hin204 (Has.at H204 hin204 rfl) 26 (hb hby d_prog_30_method_10_25) rfl ?_
  refine g_aload_n X203 hx 27 (hb hby d_prog_30_method_10_26) rfl rfl rfl ?_
  refine g_acmp X203 hx (x := (.ref y1)) (y := (.ref y0)) (same := false) 32 (hb hby d_prog_30_method_10_27) rfl rfl (decide_eq_false fun q => ne_y1_y0 (Value.ref.inj q)) (by decide) (by decide) ?_
  refine g_iinc X203 hx 35 (hb hby d_prog_30_method_10_32) (z := (0 : Int32)) rfl rfl (l' := #[.val (.ref o), .val (.ref y0), .val (.int (0 : Int32))]) rfl rfl ?_
  refine g_goto X203 hx 16 (hb hby d_prog_30_method_10_35) (by decide) (by decide) ?_
  refine g_iload_n X203 hx 17 (hb hby d_prog_30_method_10_16) rfl rfl ?_
  refine g_ifNo X203 hx 20 (hb hby d_prog_30_method_10_17) (own_i0_lt_f (by decide)) rfl ?_
  refine g_aload_n X203 hx 21 (hb hby d_prog_30_method_10_20) rfl rfl rfl ?_
  refine own_getF X203 hx hZ hown (host := "") (Or.inl (hw _ (List.mem_of_getElem? (i := 11) rfl))) Via.refl e203 F_o_elements 24 (hb hby d_prog_30_method_10_21) rfl fun T205 X205 e205 => ?_
  refine g_iload_n X205 hx 25 (hb hby d_prog_30_method_10_24) rfl rfl ?_
  obtain ⟨cl206, Ar206, q206, S206, P206, H206, G206⟩ := id V_ae
  have hin206 := inb_of (j := (0 : Int32)) S206 ⟨by decide, by decide⟩
  refine own_aaload X205 hx hZ e205 rfl Ar206 (v := (.ref y0)) hin206 (Has.at H206 hin206 rfl) 26 (hb hby d_prog_30_method_10_25) rfl ?_
  refine g_aload_n X205 hx 27 (hb hby d_prog_30_method_10_26) rfl rfl rfl ?_
  refine g_acmp X205 hx (x := (.ref y0)) (y := (.ref y0)) (same := true) 30 (hb hby d_prog_30_method_10_27) rfl rfl (decide_eq_true rfl) (by decide) (by decide) ?_
  refine g_iload_n X205 hx 31 (hb hby d_prog_30_method_10_30) rfl rfl ?_
  refine own_retI X205 hx hlk hret (hb hby d_prog_30_method_10_31) ?_ (by decide) (by decide)
  rw [e205]
  exact ⟨rfl, N0, rfl⟩
def Q_ix21 (Z : State) (o : Addr) (ae : Addr) (ke : ClassId) (y0 : Addr) (y1 : Addr) (h0 : Heap) (n0 : Nat) (v : Option Value) (h : Heap) (L : List Loc) : Prop := v = some (.int (1 : Int32)) ∧ Fr n0 L ∧ h = h0
set_option maxRecDepth 65536 in
set_option maxHeartbeats 40000000 in
theorem rm_ix21 (l : Launch) (Z : State) (a0 : Array Value) (hw : ∀ d ∈ tables_1, d.before a0 Z = true) (ws : List Jvm.Cond) (o : Addr) (ae : Addr) (ke : ClassId) (y0 : Addr) (y1 : Addr) (h0 : Heap) (n0 : Nat) (Z0 : n0 ≤ h0.size) (F_y1_open : Fld Z h0 y1 "com/example/entitygate/entitygate/HtmlNode$Element" "open" "Z" (.int (1 : Int32))) (F_o_elements : Fld Z h0 o "com/example/entitygate/entitygate/OpenElements" "elements" "[Lcom/example/entitygate/entitygate/HtmlNode$Element;" (.ref ae)) (F_o_size : Fld Z h0 o "com/example/entitygate/entitygate/OpenElements" "size" "I" (.int (2 : Int32))) (V_ae : Arv Z h0 ae ke (.object "com/example/entitygate/entitygate/HtmlNode$Element") (64 : Int32) [(.ref y0), (.ref y1), .null, .null] .null) (O_ae : Ovr Z ke "com/example/entitygate/entitygate/HtmlNode$Element") :
    MetFree l (⟨"com/example/entitygate/entitygate/OpenElements", "indexOf", "(Lcom/example/entitygate/entitygate/HtmlNode$Element;)I"⟩ : MethodName) (head1 (Jvm.Cond.code (⟨"com/example/entitygate/entitygate/OpenElements", "indexOf", "(Lcom/example/entitygate/entitygate/HtmlNode$Element;)I"⟩ : MethodName) prog_30_method_10_code 3 (some .int) :: ws) ({ frames := 0, cells := 0, slots := 0, locals := 0 } : Room)) (fun aA U => aA = #[(.ref o), (.ref y1)] ∧ Z.Warmed39 U.vm ∧ U.heap = h0) (fun _ _ _ _ _ => True) (fun _ U oO U' => ∃ vV LL, oO = .returned vV ∧ Q_ix21 Z o ae ke y0 y1 h0 n0 vV U'.heap LL ∧ FrameEnd U oO U' LL ({ frames := 0, cells := 0, slots := 0, locals := 0 } : Room).cells ({ frames := 0, cells := 0, slots := 0, locals := 0 } : Room).slots) := by
  refine MetFree.of_bodySF (plainFor_of_name pn_3) hisR ?_
  intro p e s m args below meth c s₁ Bd hml0 hP hK
  obtain ⟨rfl, hZ, hh⟩ := hP
  have hx := Bd.exec
  have hby := Bd.bytes
  have hml : c.maxLocals = 3 := hml0
  have hown : s.vm.findClass "com/example/entitygate/entitygate/OpenElements" = some m.cls := findClass_of_methodNamed Bd.named
  have hnm := (name_of_methodNamed Bd.named Bd.method).1
  have X0 : Stand p l e ({ frames := 0, cells := 0, slots := 0, locals := 0 } : Room) s m #[(.ref o), (.ref y1)] below meth c s₁ [] 0 0 := Stand.of_body Bd
  have e0 : s₁.heap = h0 := by rw [← hh, Bd.state]; rfl
  have N0 := Fr.nil n0
  have hret := Bd.returns
  have hlk : meth.locks = false := Bd.notSynchronized
  refine own_start (ef_5 m o y1) ?_
  show own_Go p e below s (Q_ix21 Z o ae ke y0 y1 h0 n0) ({ frames := 0, cells := 0, slots := 0, locals := 0 } : Room).cells ({ frames := 0, cells := 0, slots := 0, locals := 0 } : Room).slots (s₁.setTop (mkF m 0 #[.val (.ref o), .val (.ref y1), .unset] []))
  refine g_aload_n X0 hx 1 (hb hby d_prog_30_method_10_0) rfl rfl rfl ?_
  refine own_getF X0 hx hZ hown (host := "") (Or.inl (hw _ (List.mem_of_getElem? (i := 53) rfl))) Via.refl e0 F_y1_open 4 (hb hby d_prog_30_method_10_1) rfl fun T207 X207 e207 => ?_
  refine g_ifYes X207 hx 9 (hb hby d_prog_30_method_10_4) (own_i0_ne_t (by decide)) (by decide) (by decide) ?_
  refine g_aload_n X207 hx 10 (hb hby d_prog_30_method_10_9) rfl rfl rfl ?_
  refine own_getF X207 hx hZ hown (host := "") (Or.inl (hw _ (List.mem_of_getElem? (i := 60) rfl))) Via.refl e207 F_o_size 13 (hb hby d_prog_30_method_10_10) rfl fun T208 X208 e208 => ?_
  refine g_iconst X208 hx 14 (hb hby d_prog_30_method_10_13) (1 : Int32) rfl rfl ?_
  refine g_isub X208 hx 15 (hb hby d_prog_30_method_10_14) rfl ?_
  show own_Go p e below s _ _ _ (T208.setTop (mkF m 15 _ [(.int (1 : Int32))]))
  refine g_istore_n X208 hx 16 (hb hby d_prog_30_method_10_15) (l' := #[.val (.ref o), .val (.ref y1), .val (.int (1 : Int32))]) rfl rfl ?_
  refine g_iload_n X208 hx 17 (hb hby d_prog_30_method_10_16) rfl rfl ?_
  refine g_ifNo X208 hx 20 (hb hby d_prog_30_method_10_17) (own_i0_lt_f (by decide)) rfl ?_
  refine g_aload_n X208 hx 21 (hb hby d_prog_30_method_10_20) rfl rfl rfl ?_
  refine own_getF X208 hx hZ hown (host := "") (Or.inl (hw _ (List.mem_of_getElem? (i := 11) rfl))) Via.refl e208 F_o_elements 24 (hb hby d_prog_30_method_10_21) rfl fun T209 X209 e209 => ?_
  refine g_iload_n X209 hx 25 (hb hby d_prog_30_method_10_24) rfl rfl ?_
  obtain ⟨cl210, Ar210, q210, S210, P210, H210, G210⟩ := id V_ae
  have hin210 := inb_of (j := (1 : Int32)) S210 ⟨by decide, by decide⟩
  refine own_aaload X209 hx hZ e209 rfl Ar210 (v := (.ref y1)) hin210 (Has.at H210 hin210 rfl) 26 (hb hby d_prog_30_method_10_25) rfl ?_
  refine g_aload_n X209 hx 27 (hb hby d_prog_30_method_10_26) rfl rfl rfl ?_
  refine g_acmp X209 hx (x := (.ref y1)) (y := (.ref y1)) (same := true) 30 (hb hby d_prog_30_method_10_27) rfl rfl (decide_eq_true rfl) (by decide) (by decide) ?_
  refine g_iload_n X209 hx 31 (hb hby d_prog_30_method_10_30) rfl rfl ?_
  refine own_retI X209 hx hlk hret (hb hby d_prog_30_method_10_31) ?_ (by decide) (by decide)
  rw [e209]
  exact ⟨rfl, N0, rfl⟩
def Q_ix2closed (Z : State) (o : Addr) (x : Addr) (h0 : Heap) (n0 : Nat) (v : Option Value) (h : Heap) (L : List Loc) : Prop := v = some (.int (-1 : Int32)) ∧ Fr n0 L ∧ h = h0
set_option maxRecDepth 65536 in
set_option maxHeartbeats 40000000 in
theorem rm_ix2closed (l : Launch) (Z : State) (a0 : Array Value) (hw : ∀ d ∈ tables_1, d.before a0 Z = true) (ws : List Jvm.Cond) (o : Addr) (x : Addr) (h0 : Heap) (n0 : Nat) (Z0 : n0 ≤ h0.size) (F_x_open : Fld Z h0 x "com/example/entitygate/entitygate/HtmlNode$Element" "open" "Z" (.int (0 : Int32))) :
    MetFree l (⟨"com/example/entitygate/entitygate/OpenElements", "indexOf", "(Lcom/example/entitygate/entitygate/HtmlNode$Element;)I"⟩ : MethodName) (head1 (Jvm.Cond.code (⟨"com/example/entitygate/entitygate/OpenElements", "indexOf", "(Lcom/example/entitygate/entitygate/HtmlNode$Element;)I"⟩ : MethodName) prog_30_method_10_code 3 (some .int) :: ws) ({ frames := 0, cells := 0, slots := 0, locals := 0 } : Room)) (fun aA U => aA = #[(.ref o), (.ref x)] ∧ Z.Warmed39 U.vm ∧ U.heap = h0) (fun _ _ _ _ _ => True) (fun _ U oO U' => ∃ vV LL, oO = .returned vV ∧ Q_ix2closed Z o x h0 n0 vV U'.heap LL ∧ FrameEnd U oO U' LL ({ frames := 0, cells := 0, slots := 0, locals := 0 } : Room).cells ({ frames := 0, cells := 0, slots := 0, locals := 0 } : Room).slots) := by
  refine MetFree.of_bodySF (plainFor_of_name pn_3) hisR ?_
  intro p e s m args below meth c s₁ Bd hml0 hP hK
  obtain ⟨rfl, hZ, hh⟩ := hP
  have hx := Bd.exec
  have hby := Bd.bytes
  have hml : c.maxLocals = 3 := hml0
  have hown : s.vm.findClass "com/example/entitygate/entitygate/OpenElements" = some m.cls := findClass_of_methodNamed Bd.named
  have hnm := (name_of_methodNamed Bd.named Bd.method).1
  have X0 : Stand p l e ({ frames := 0, cells := 0, slots := 0, locals := 0 } : Room) s m #[(.ref o), (.ref x)] below meth c s₁ [] 0 0 := Stand.of_body Bd
  have e0 : s₁.heap = h0 := by rw [← hh, Bd.state]; rfl
  have N0 := Fr.nil n0
  have hret := Bd.returns
  have hlk : meth.locks = false := Bd.notSynchronized
  refine own_start (ef_5 m o x) ?_
  show own_Go p e below s (Q_ix2closed Z o x h0 n0) ({ frames := 0, cells := 0, slots := 0, locals := 0 } : Room).cells ({ frames := 0, cells := 0, slots := 0, locals := 0 } : Room).slots (s₁.setTop (mkF m 0 #[.val (.ref o), .val (.ref x), .unset] []))
  refine g_aload_n X0 hx 1 (hb hby d_prog_30_method_10_0) rfl rfl rfl ?_
  refine own_getF X0 hx hZ hown (host := "") (Or.inl (hw _ (List.mem_of_getElem? (i := 53) rfl))) Via.refl e0 F_x_open 4 (hb hby d_prog_30_method_10_1) rfl fun T211 X211 e211 => ?_
  refine g_ifNo X211 hx 7 (hb hby d_prog_30_method_10_4) (own_i0_ne_f (by decide)) rfl ?_
  refine g_iconst X211 hx 8 (hb hby d_prog_30_method_10_7) (-1 : Int32) rfl rfl ?_
  refine own_retI X211 hx hlk hret (hb hby d_prog_30_method_10_8) ?_ (by decide) (by decide)
  rw [e211]
  exact ⟨rfl, N0, rfl⟩
def Q_ix2open (Z : State) (o : Addr) (ae : Addr) (ke : ClassId) (y0 : Addr) (y1 : Addr) (x : Addr) (h0 : Heap) (n0 : Nat) (v : Option Value) (h : Heap) (L : List Loc) : Prop := v = some (.int (-1 : Int32)) ∧ Fr n0 L ∧ h = h0
set_option maxRecDepth 65536 in
set_option maxHeartbeats 40000000 in
theorem rm_ix2open (l : Launch) (Z : State) (a0 : Array Value) (hw : ∀ d ∈ tables_1, d.before a0 Z = true) (ws : List Jvm.Cond) (o : Addr) (ae : Addr) (ke : ClassId) (y0 : Addr) (y1 : Addr) (x : Addr) (h0 : Heap) (n0 : Nat) (Z0 : n0 ≤ h0.size) (F_x_open : Fld Z h0 x "com/example/entitygate/entitygate/HtmlNode$Element" "open" "Z" (.int (1 : Int32))) (F_o_elements : Fld Z h0 o "com/example/entitygate/entitygate/OpenElements" "elements" "[Lcom/example/entitygate/entitygate/HtmlNode$Element;" (.ref ae)) (F_o_size : Fld Z h0 o "com/example/entitygate/entitygate/OpenElements" "size" "I" (.int (2 : Int32))) (V_ae : Arv Z h0 ae ke (.object "com/example/entitygate/entitygate/HtmlNode$Element") (64 : Int32) [(.ref y0), (.ref y1), .null, .null] .null) (O_ae : Ovr Z ke "com/example/entitygate/entitygate/HtmlNode$Element") (ne_y0_x : y0 ≠ x) (ne_y1_x : y1 ≠ x) :
    MetFree l (⟨"com/example/entitygate/entitygate/OpenElements", "indexOf", "(Lcom/example/entitygate/entitygate/HtmlNode$Element;)I"⟩ : MethodName) (head1 (Jvm.Cond.code (⟨"com/example/entitygate/entitygate/OpenElements", "indexOf", "(Lcom/example/entitygate/entitygate/HtmlNode$Element;)I"⟩ : MethodName) prog_30_method_10_code 3 (some .int) :: ws) ({ frames := 0, cells := 0, slots := 0, locals := 0 } : Room)) (fun aA U => aA = #[(.ref o), (.ref x)] ∧ Z.Warmed39 U.vm ∧ U.heap = h0) (fun _ _ _ _ _ => True) (fun _ U oO U' => ∃ vV LL, oO = .returned vV ∧ Q_ix2open Z o ae ke y0 y1 x h0 n0 vV U'.heap LL ∧ FrameEnd U oO U' LL ({ frames := 0, cells := 0, slots := 0, locals := 0 } : Room).cells ({ frames := 0, cells := 0, slots := 0, locals := 0 } : Room).slots) := by
  refine MetFree.of_bodySF (plainFor_of_name pn_3) hisR ?_
  intro p e s m args below meth c s₁ Bd hml0 hP hK
  obtain ⟨rfl, hZ, hh⟩ := hP
  have hx := Bd.exec
  have hby := Bd.bytes
  have hml : c.maxLocals = 3 := hml0
  have hown : s.vm.findClass "com/example/entitygate/entitygate/OpenElements" = some m.cls := findClass_of_methodNamed Bd.named
  have hnm := (name_of_methodNamed Bd.named Bd.method).1
  have X0 : Stand p l e ({ frames := 0, cells := 0, slots := 0, locals := 0 } : Room) s m #[(.ref o), (.ref x)] below meth c s₁ [] 0 0 := Stand.of_body Bd
  have e0 : s₁.heap = h0 := by rw [← hh, Bd.state]; rfl
  have N0 := Fr.nil n0
  have hret := Bd.returns
  have hlk : meth.locks = false := Bd.notSynchronized
  refine own_start (ef_5 m o x) ?_
  show own_Go p e below s (Q_ix2open Z o ae ke y0 y1 x h0 n0) ({ frames := 0, cells := 0, slots := 0, locals := 0 } : Room).cells ({ frames := 0, cells := 0, slots := 0, locals := 0 } : Room).slots (s₁.setTop (mkF m 0 #[.val (.ref o), .val (.ref x), .unset] []))
  refine g_aload_n X0 hx 1 (hb hby d_prog_30_method_10_0) rfl rfl rfl ?_
  refine own_getF X0 hx hZ hown (host := "") (Or.inl (hw _ (List.mem_of_getElem? (i := 53) rfl))) Via.refl e0 F_x_open 4 (hb hby d_prog_30_method_10_1) rfl fun T212 X212 e212 => ?_
  refine g_ifYes X212 hx 9 (hb hby d_prog_30_method_10_4) (own_i0_ne_t (by decide)) (by decide) (by decide) ?_
  refine g_aload_n X212 hx 10 (hb hby d_prog_30_method_10_9) rfl rfl rfl ?_
  refine own_getF X212 hx hZ hown (host := "") (Or.inl (hw _ (List.mem_of_getElem? (i := 60) rfl))) Via.refl e212 F_o_size 13 (hb hby d_prog_30_method_10_10) rfl fun T213 X213 e213 => ?_
  refine g_iconst X213 hx 14 (hb hby d_prog_30_method_10_13) (1 : Int32) rfl rfl ?_
  refine g_isub X213 hx 15 (hb hby d_prog_30_method_10_14) rfl ?_
  show own_Go p e below s _ _ _ (T213.setTop (mkF m 15 _ [(.int (1 : Int32))]))
  refine g_istore_n X213 hx 16 (hb hby d_prog_30_method_10_15) (l' := #[.val (.ref o), .val (.ref x), .val (.int (1 : Int32))]) rfl rfl ?_
  refine g_iload_n X213 hx 17 (hb hby d_prog_30_method_10_16) rfl rfl ?_
  refine g_ifNo X213 hx 20 (hb hby d_prog_30_method_10_17) (own_i0_lt_f (by decide)) rfl ?_
  refine g_aload_n X213 hx 21 (hb hby d_prog_30_method_10_20) rfl rfl rfl ?_
  refine own_getF X213 hx hZ hown (host := "") (Or.inl (hw _ (List.mem_of_getElem? (i := 11) rfl))) Via.refl e213 F_o_elements 24 (hb hby d_prog_30_method_10_21) rfl fun T214 X214 e214 => ?_
  refine g_iload_n X214 hx 25 (hb hby d_prog_30_method_10_24) rfl rfl ?_
  obtain ⟨cl215, Ar215, q215, S215, P215, H215, G215⟩ := id V_ae
  have hin215 := inb_of (j := (1 : Int32)) S215 ⟨by decide, by decide⟩
  refine own_aaload X214 hx hZ e214 rfl Ar215 (v := (.ref y1)) hin215 (Has.at H215 hin215 rfl) 26 (hb hby d_prog_30_method_10_25) rfl ?_
  refine g_aload_n X214 hx 27 (hb hby d_prog_30_method_10_26) rfl rfl rfl ?_
  refine g_acmp X214 hx (x := (.ref y1)) (y := (.ref x)) (same := false) 32 (hb hby d_prog_30_method_10_27) rfl rfl (decide_eq_false fun q => ne_y1_x (Value.ref.inj q)) (by decide) (by decide) ?_
  refine g_iinc X214 hx 35 (hb hby d_prog_30_method_10_32) (z := (0 : Int32)) rfl rfl (l' := #[.val (.ref o), .val (.ref x), .val (.int (0 : Int32))]) rfl rfl ?_
  refine g_goto X214 hx 16 (hb hby d_prog_30_method_10_35) (by decide) (by decide) ?_
  refine g_iload_n X214 hx 17 (hb hby d_prog_30_method_10_16) rfl rfl ?_
  refine g_ifNo X214 hx 20 (hb hby d_prog_30_method_10_17) (own_i0_lt_f (by decide)) rfl ?_
  refine g_aload_n X214 hx 21 (hb hby d_prog_30_method_10_20) rfl rfl rfl ?_
  refine own_getF X214 hx hZ hown (host := "") (Or.inl (hw _ (List.mem_of_getElem? (i := 11) rfl))) Via.refl e214 F_o_elements 24 (hb hby d_prog_30_method_10_21) rfl fun T216 X216 e216 => ?_
  refine g_iload_n X216 hx 25 (hb hby d_prog_30_method_10_24) rfl rfl ?_
  obtain ⟨cl217, Ar217, q217, S217, P217, H217, G217⟩ := id V_ae
  have hin217 := inb_of (j := (0 : Int32)) S217 ⟨by decide, by decide⟩
  refine own_aaload X216 hx hZ e216 rfl Ar217 (v := (.ref y0)) hin217 (Has.at H217 hin217 rfl) 26 (hb hby d_prog_30_method_10_25) rfl ?_
  refine g_aload_n X216 hx 27 (hb hby d_prog_30_method_10_26) rfl rfl rfl ?_
  refine g_acmp X216 hx (x := (.ref y0)) (y := (.ref x)) (same := false) 32 (hb hby d_prog_30_method_10_27) rfl rfl (decide_eq_false fun q => ne_y0_x (Value.ref.inj q)) (by decide) (by decide) ?_
  refine g_iinc X216 hx 35 (hb hby d_prog_30_method_10_32) (z := (-1 : Int32)) rfl rfl (l' := #[.val (.ref o), .val (.ref x), .val (.int (-1 : Int32))]) rfl rfl ?_
  refine g_goto X216 hx 16 (hb hby d_prog_30_method_10_35) (by decide) (by decide) ?_
  refine g_iload_n X216 hx 17 (hb hby d_prog_30_method_10_16) rfl rfl ?_
  refine g_ifYes X216 hx 38 (hb hby d_prog_30_method_10_17) (own_i0_lt_t (by decide)) (by decide) (by decide) ?_
  refine g_iconst X216 hx 39 (hb hby d_prog_30_method_10_38) (-1 : Int32) rfl rfl ?_
  refine own_retI X216 hx hlk hret (hb hby d_prog_30_method_10_39) ?_ (by decide) (by decide)
  rw [e216]
  exact ⟨rfl, N0, rfl⟩
def Q_ix30 (Z : State) (o : Addr) (ae : Addr) (ke : ClassId) (y0 : Addr) (y1 : Addr) (y2 : Addr) (h0 : Heap) (n0 : Nat) (v : Option Value) (h : Heap) (L : List Loc) : Prop := v = some (.int (0 : Int32)) ∧ Fr n0 L ∧ h = h0
set_option maxRecDepth 65536 in
set_option maxHeartbeats 40000000 in
theorem rm_ix30 (l : Launch) (Z : State) (a0 : Array Value) (hw : ∀ d ∈ tables_1, d.before a0 Z = true) (ws : List Jvm.Cond) (o : Addr) (ae : Addr) (ke : ClassId) (y0 : Addr) (y1 : Addr) (y2 : Addr) (h0 : Heap) (n0 : Nat) (Z0 : n0 ≤ h0.size) (F_y0_open : Fld Z h0 y0 "com/example/entitygate/entitygate/HtmlNode$Element" "open" "Z" (.int (1 : Int32))) (F_o_elements : Fld Z h0 o "com/example/entitygate/entitygate/OpenElements" "elements" "[Lcom/example/entitygate/entitygate/HtmlNode$Element;" (.ref ae)) (F_o_size : Fld Z h0 o "com/example/entitygate/entitygate/OpenElements" "size" "I" (.int (3 : Int32))) (V_ae : Arv Z h0 ae ke (.object "com/example/entitygate/entitygate/HtmlNode$Element") (64 : Int32) [(.ref y0), (.ref y1), (.ref y2), .null] .null) (O_ae : Ovr Z ke "com/example/entitygate/entitygate/HtmlNode$Element") (ne_y1_y0 : y1 ≠ y0) (ne_y2_y0 : y2 ≠ y0) :
    MetFree l (⟨"com/example/entitygate/entitygate/OpenElements", "indexOf", "(Lcom/example/entitygate/entitygate/HtmlNode$Element;)I"⟩ : MethodName) (head1 (Jvm.Cond.code (⟨"com/example/entitygate/entitygate/OpenElements", "indexOf", "(Lcom/example/entitygate/entitygate/HtmlNode$Element;)I"⟩ : MethodName) prog_30_method_10_code 3 (some .int) :: ws) ({ frames := 0, cells := 0, slots := 0, locals := 0 } : Room)) (fun aA U => aA = #[(.ref o), (.ref y0)] ∧ Z.Warmed39 U.vm ∧ U.heap = h0) (fun _ _ _ _ _ => True) (fun _ U oO U' => ∃ vV LL, oO = .returned vV ∧ Q_ix30 Z o ae ke y0 y1 y2 h0 n0 vV U'.heap LL ∧ FrameEnd U oO U' LL ({ frames := 0, cells := 0, slots := 0, locals := 0 } : Room).cells ({ frames := 0, cells := 0, slots := 0, locals := 0 } : Room).slots) := by
  refine MetFree.of_bodySF (plainFor_of_name pn_3) hisR ?_
  intro p e s m args below meth c s₁ Bd hml0 hP hK
  obtain ⟨rfl, hZ, hh⟩ := hP
  have hx := Bd.exec
  have hby := Bd.bytes
  have hml : c.maxLocals = 3 := hml0
  have hown : s.vm.findClass "com/example/entitygate/entitygate/OpenElements" = some m.cls := findClass_of_methodNamed Bd.named
  have hnm := (name_of_methodNamed Bd.named Bd.method).1
  have X0 : Stand p l e ({ frames := 0, cells := 0, slots := 0, locals := 0 } : Room) s m #[(.ref o), (.ref y0)] below meth c s₁ [] 0 0 := Stand.of_body Bd
  have e0 : s₁.heap = h0 := by rw [← hh, Bd.state]; rfl
  have N0 := Fr.nil n0
  have hret := Bd.returns
  have hlk : meth.locks = false := Bd.notSynchronized
  refine own_start (ef_5 m o y0) ?_
  show own_Go p e below s (Q_ix30 Z o ae ke y0 y1 y2 h0 n0) ({ frames := 0, cells := 0, slots := 0, locals := 0 } : Room).cells ({ frames := 0, cells := 0, slots := 0, locals := 0 } : Room).slots (s₁.setTop (mkF m 0 #[.val (.ref o), .val (.ref y0), .unset] []))
  refine g_aload_n X0 hx 1 (hb hby d_prog_30_method_10_0) rfl rfl rfl ?_
  refine own_getF X0 hx hZ hown (host := "") (Or.inl (hw _ (List.mem_of_getElem? (i := 53) rfl))) Via.refl e0 F_y0_open 4 (hb hby d_prog_30_method_10_1) rfl fun T218 X218 e218 => ?_
  refine g_ifYes X218 hx 9 (hb hby d_prog_30_method_10_4) (own_i0_ne_t (by decide)) (by decide) (by decide) ?_
  refine g_aload_n X218 hx 10 (hb hby d_prog_30_method_10_9) rfl rfl rfl ?_
  refine own_getF X218 hx hZ hown (host := "") (Or.inl (hw _ (List.mem_of_getElem? (i := 60) rfl))) Via.refl e218 F_o_size 13 (hb hby d_prog_30_method_10_10) rfl fun T219 X219 e219 => ?_
  refine g_iconst X219 hx 14 (hb hby d_prog_30_method_10_13) (1 : Int32) rfl rfl ?_
  refine g_isub X219 hx 15 (hb hby d_prog_30_method_10_14) rfl ?_
  show own_Go p e below s _ _ _ (T219.setTop (mkF m 15 _ [(.int (2 : Int32))]))
  refine g_istore_n X219 hx 16 (hb hby d_prog_30_method_10_15) (l' := #[.val (.ref o), .val (.ref y0), .val (.int (2 : Int32))]) rfl rfl ?_
  refine g_iload_n X219 hx 17 (hb hby d_prog_30_method_10_16) rfl rfl ?_
  refine g_ifNo X219 hx 20 (hb hby d_prog_30_method_10_17) (own_i0_lt_f (by decide)) rfl ?_
  refine g_aload_n X219 hx 21 (hb hby d_prog_30_method_10_20) rfl rfl rfl ?_
  refine own_getF X219 hx hZ hown (host := "") (Or.inl (hw _ (List.mem_of_getElem? (i := 11) rfl))) Via.refl e219 F_o_elements 24 (hb hby d_prog_30_method_10_21) rfl fun T220 X220 e220 => ?_
  refine g_iload_n X220 hx 25 (hb hby d_prog_30_method_10_24) rfl rfl ?_
  obtain ⟨cl221, Ar221, q221, S221, P221, H221, G221⟩ := id V_ae
  have hin221 := inb_of (j := (2 : Int32)) S221 ⟨by decide, by decide⟩
  refine own_aaload X220 hx hZ e220 rfl Ar221 (v := (.ref y2)) hin221 (Has.at H221 hin221 rfl) 26 (hb hby d_prog_30_method_10_25) rfl ?_
  refine g_aload_n X220 hx 27 (hb hby d_prog_30_method_10_26) rfl rfl rfl ?_
  refine g_acmp X220 hx (x := (.ref y2)) (y := (.ref y0)) (same := false) 32 (hb hby d_prog_30_method_10_27) rfl rfl (decide_eq_false fun q => ne_y2_y0 (Value.ref.inj q)) (by decide) (by decide) ?_
  refine g_iinc X220 hx 35 (hb hby d_prog_30_method_10_32) (z := (1 : Int32)) rfl rfl (l' := #[.val (.ref o), .val (.ref y0), .val (.int (1 : Int32))]) rfl rfl ?_
  refine g_goto X220 hx 16 (hb hby d_prog_30_method_10_35) (by decide) (by decide) ?_
  refine g_iload_n X220 hx 17 (hb hby d_prog_30_method_10_16) rfl rfl ?_
  refine g_ifNo X220 hx 20 (hb hby d_prog_30_method_10_17) (own_i0_lt_f (by decide)) rfl ?_
  refine g_aload_n X220 hx 21 (hb hby d_prog_30_method_10_20) rfl rfl rfl ?_
  refine own_getF X220 hx hZ hown (host := "") (Or.inl (hw _ (List.mem_of_getElem? (i := 11) rfl))) Via.refl e220 F_o_elements 24 (hb hby d_prog_30_method_10_21) rfl fun T222 X222 e222 => ?_
  refine g_iload_n X222 hx 25 (hb hby d_prog_30_method_10_24) rfl rfl ?_
  obtain ⟨cl223, Ar223, q223, S223, P223, H223, G223⟩ := id V_ae
  have hin223 := inb_of (j := (1 : Int32)) S223 ⟨by decide, by decide⟩
  refine own_aaload X222 hx hZ e222 rfl Ar223 (v := (.ref y1)) hin223 (Has.at H223 hin223 rfl) 26 (hb hby d_prog_30_method_10_25) rfl ?_
  refine g_aload_n X222 hx 27 (hb hby d_prog_30_method_10_26) rfl rfl rfl ?_
  refine g_acmp X222 hx (x := (.ref y1)) (y := (.ref y0)) (same := false) 32 (hb hby d_prog_30_method_10_27) rfl rfl (decide_eq_false fun q => ne_y1_y0 (Value.ref.inj q)) (by decide) (by decide) ?_
  refine g_iinc X222 hx 35 (hb hby d_prog_30_method_10_32) (z := (0 : Int32)) rfl rfl (l' := #[.val (.ref o), .val (.ref y0), .val (.int (0 : Int32))]) rfl rfl ?_
  refine g_goto X222 hx 16 (hb hby d_prog_30_method_10_35) (by decide) (by decide) ?_
  refine g_iload_n X222 hx 17 (hb hby d_prog_30_method_10_16) rfl rfl ?_
  refine g_ifNo X222 hx 20 (hb hby d_prog_30_method_10_17) (own_i0_lt_f (by decide)) rfl ?_
  refine g_aload_n X222 hx 21 (hb hby d_prog_30_method_10_20) rfl rfl rfl ?_
  refine own_getF X222 hx hZ hown (host := "") (Or.inl (hw _ (List.mem_of_getElem? (i := 11) rfl))) Via.refl e222 F_o_elements 24 (hb hby d_prog_30_method_10_21) rfl fun T224 X224 e224 => ?_
  refine g_iload_n X224 hx 25 (hb hby d_prog_30_method_10_24) rfl rfl ?_
  obtain ⟨cl225, Ar225, q225, S225, P225, H225, G225⟩ := id V_ae
  have hin225 := inb_of (j := (0 : Int32)) S225 ⟨by decide, by decide⟩
  refine own_aaload X224 hx hZ e224 rfl Ar225 (v := (.ref y0)) hin225 (Has.at H225 hin225 rfl) 26 (hb hby d_prog_30_method_10_25) rfl ?_
  refine g_aload_n X224 hx 27 (hb hby d_prog_30_method_10_26) rfl rfl rfl ?_
  refine g_acmp X224 hx (x := (.ref y0)) (y := (.ref y0)) (same := true) 30 (hb hby d_prog_30_method_10_27) rfl rfl (decide_eq_true rfl) (by decide) (by decide) ?_
  refine g_iload_n X224 hx 31 (hb hby d_prog_30_method_10_30) rfl rfl ?_
  refine own_retI X224 hx hlk hret (hb hby d_prog_30_method_10_31) ?_ (by decide) (by decide)
  rw [e224]
  exact ⟨rfl, N0, rfl⟩
def Q_ix31 (Z : State) (o : Addr) (ae : Addr) (ke : ClassId) (y0 : Addr) (y1 : Addr) (y2 : Addr) (h0 : Heap) (n0 : Nat) (v : Option Value) (h : Heap) (L : List Loc) : Prop := v = some (.int (1 : Int32)) ∧ Fr n0 L ∧ h = h0
set_option maxRecDepth 65536 in
set_option maxHeartbeats 40000000 in
theorem rm_ix31 (l : Launch) (Z : State) (a0 : Array Value) (hw : ∀ d ∈ tables_1, d.before a0 Z = true) (ws : List Jvm.Cond) (o : Addr) (ae : Addr) (ke : ClassId) (y0 : Addr) (y1 : Addr) (y2 : Addr) (h0 : Heap) (n0 : Nat) (Z0 : n0 ≤ h0.size) (F_y1_open : Fld Z h0 y1 "com/example/entitygate/entitygate/HtmlNode$Element" "open" "Z" (.int (1 : Int32))) (F_o_elements : Fld Z h0 o "com/example/entitygate/entitygate/OpenElements" "elements" "[Lcom/example/entitygate/entitygate/HtmlNode$Element;" (.ref ae)) (F_o_size : Fld Z h0 o "com/example/entitygate/entitygate/OpenElements" "size" "I" (.int (3 : Int32))) (V_ae : Arv Z h0 ae ke (.object "com/example/entitygate/entitygate/HtmlNode$Element") (64 : Int32) [(.ref y0), (.ref y1), (.ref y2), .null] .null) (O_ae : Ovr Z ke "com/example/entitygate/entitygate/HtmlNode$Element") (ne_y2_y1 : y2 ≠ y1) :
    MetFree l (⟨"com/example/entitygate/entitygate/OpenElements", "indexOf", "(Lcom/example/entitygate/entitygate/HtmlNode$Element;)I"⟩ : MethodName) (head1 (Jvm.Cond.code (⟨"com/example/entitygate/entitygate/OpenElements", "indexOf", "(Lcom/example/entitygate/entitygate/HtmlNode$Element;)I"⟩ : MethodName) prog_30_method_10_code 3 (some .int) :: ws) ({ frames := 0, cells := 0, slots := 0, locals := 0 } : Room)) (fun aA U => aA = #[(.ref o), (.ref y1)] ∧ Z.Warmed39 U.vm ∧ U.heap = h0) (fun _ _ _ _ _ => True) (fun _ U oO U' => ∃ vV LL, oO = .returned vV ∧ Q_ix31 Z o ae ke y0 y1 y2 h0 n0 vV U'.heap LL ∧ FrameEnd U oO U' LL ({ frames := 0, cells := 0, slots := 0, locals := 0 } : Room).cells ({ frames := 0, cells := 0, slots := 0, locals := 0 } : Room).slots) := by
  refine MetFree.of_bodySF (plainFor_of_name pn_3) hisR ?_
  intro p e s m args below meth c s₁ Bd hml0 hP hK
  obtain ⟨rfl, hZ, hh⟩ := hP
  have hx := Bd.exec
  have hby := Bd.bytes
  have hml : c.maxLocals = 3 := hml0
  have hown : s.vm.findClass "com/example/entitygate/entitygate/OpenElements" = some m.cls := findClass_of_methodNamed Bd.named
  have hnm := (name_of_methodNamed Bd.named Bd.method).1
  have X0 : Stand p l e ({ frames := 0, cells := 0, slots := 0, locals := 0 } : Room) s m #[(.ref o), (.ref y1)] below meth c s₁ [] 0 0 := Stand.of_body Bd
  have e0 : s₁.heap = h0 := by rw [← hh, Bd.state]; rfl
  have N0 := Fr.nil n0
  have hret := Bd.returns
  have hlk : meth.locks = false := Bd.notSynchronized
  refine own_start (ef_5 m o y1) ?_
  show own_Go p e below s (Q_ix31 Z o ae ke y0 y1 y2 h0 n0) ({ frames := 0, cells := 0, slots := 0, locals := 0 } : Room).cells ({ frames := 0, cells := 0, slots := 0, locals := 0 } : Room).slots (s₁.setTop (mkF m 0 #[.val (.ref o), .val (.ref y1), .unset] []))
  refine g_aload_n X0 hx 1 (hb hby d_prog_30_method_10_0) rfl rfl rfl ?_
  refine own_getF X0 hx hZ hown (host := "") (Or.inl (hw _ (List.mem_of_getElem? (i := 53) rfl))) Via.refl e0 F_y1_open 4 (hb hby d_prog_30_method_10_1) rfl fun T226 X226 e226 => ?_
  refine g_ifYes X226 hx 9 (hb hby d_prog_30_method_10_4) (own_i0_ne_t (by decide)) (by decide) (by decide) ?_
  refine g_aload_n X226 hx 10 (hb hby d_prog_30_method_10_9) rfl rfl rfl ?_
  refine own_getF X226 hx hZ hown (host := "") (Or.inl (hw _ (List.mem_of_getElem? (i := 60) rfl))) Via.refl e226 F_o_size 13 (hb hby d_prog_30_method_10_10) rfl fun T227 X227 e227 => ?_
  refine g_iconst X227 hx 14 (hb hby d_prog_30_method_10_13) (1 : Int32) rfl rfl ?_
  refine g_isub X227 hx 15 (hb hby d_prog_30_method_10_14) rfl ?_
  show own_Go p e below s _ _ _ (T227.setTop (mkF m 15 _ [(.int (2 : Int32))]))
  refine g_istore_n X227 hx 16 (hb hby d_prog_30_method_10_15) (l' := #[.val (.ref o), .val (.ref y1), .val (.int (2 : Int32))]) rfl rfl ?_
  refine g_iload_n X227 hx 17 (hb hby d_prog_30_method_10_16) rfl rfl ?_
  refine g_ifNo X227 hx 20 (hb hby d_prog_30_method_10_17) (own_i0_lt_f (by decide)) rfl ?_
  refine g_aload_n X227 hx 21 (hb hby d_prog_30_method_10_20) rfl rfl rfl ?_
  refine own_getF X227 hx hZ hown (host := "") (Or.inl (hw _ (List.mem_of_getElem? (i := 11) rfl))) Via.refl e227 F_o_elements 24 (hb hby d_prog_30_method_10_21) rfl fun T228 X228 e228 => ?_
  refine g_iload_n X228 hx 25 (hb hby d_prog_30_method_10_24) rfl rfl ?_
  obtain ⟨cl229, Ar229, q229, S229, P229, H229, G229⟩ := id V_ae
  have hin229 := inb_of (j := (2 : Int32)) S229 ⟨by decide, by decide⟩
  refine own_aaload X228 hx hZ e228 rfl Ar229 (v := (.ref y2)) hin229 (Has.at H229 hin229 rfl) 26 (hb hby d_prog_30_method_10_25) rfl ?_
  refine g_aload_n X228 hx 27 (hb hby d_prog_30_method_10_26) rfl rfl rfl ?_
  refine g_acmp X228 hx (x := (.ref y2)) (y := (.ref y1)) (same := false) 32 (hb hby d_prog_30_method_10_27) rfl rfl (decide_eq_false fun q => ne_y2_y1 (Value.ref.inj q)) (by decide) (by decide) ?_
  refine g_iinc X228 hx 35 (hb hby d_prog_30_method_10_32) (z := (1 : Int32)) rfl rfl (l' := #[.val (.ref o), .val (.ref y1), .val (.int (1 : Int32))]) rfl rfl ?_
  refine g_goto X228 hx 16 (hb hby d_prog_30_method_10_35) (by decide) (by decide) ?_
  refine g_iload_n X228 hx 17 (hb hby d_prog_30_method_10_16) rfl rfl ?_
  refine g_ifNo X228 hx 20 (hb hby d_prog_30_method_10_17) (own_i0_lt_f (by decide)) rfl ?_
  refine g_aload_n X228 hx 21 (hb hby d_prog_30_method_10_20) rfl rfl rfl ?_
  refine own_getF X228 hx hZ hown (host := "") (Or.inl (hw _ (List.mem_of_getElem? (i := 11) rfl))) Via.refl e228 F_o_elements 24 (hb hby d_prog_30_method_10_21) rfl fun T230 X230 e230 => ?_
  refine g_iload_n X230 hx 25 (hb hby d_prog_30_method_10_24) rfl rfl ?_
  obtain ⟨cl231, Ar231, q231, S231, P231, H231, G231⟩ := id V_ae
  have hin231 := inb_of (j := (1 : Int32)) S231 ⟨by decide, by decide⟩
  refine own_aaload X230 hx hZ e230 rfl Ar231 (v := (.ref y1)) hin231 (Has.at H231 hin231 rfl) 26 (hb hby d_prog_30_method_10_25) rfl ?_
  refine g_aload_n X230 hx 27 (hb hby d_prog_30_method_10_26) rfl rfl rfl ?_
  refine g_acmp X230 hx (x := (.ref y1)) (y := (.ref y1)) (same := true) 30 (hb hby d_prog_30_method_10_27) rfl rfl (decide_eq_true rfl) (by decide) (by decide) ?_
  refine g_iload_n X230 hx 31 (hb hby d_prog_30_method_10_30) rfl rfl ?_
  refine own_retI X230 hx hlk hret (hb hby d_prog_30_method_10_31) ?_ (by decide) (by decide)
  rw [e230]
  exact ⟨rfl, N0, rfl⟩
def Q_ix32 (Z : State) (o : Addr) (ae : Addr) (ke : ClassId) (y0 : Addr) (y1 : Addr) (y2 : Addr) (h0 : Heap) (n0 : Nat) (v : Option Value) (h : Heap) (L : List Loc) : Prop := v = some (.int (2 : Int32)) ∧ Fr n0 L ∧ h = h0
set_option maxRecDepth 65536 in
set_option maxHeartbeats 40000000 in
theorem rm_ix32 (l : Launch) (Z : State) (a0 : Array Value) (hw : ∀ d ∈ tables_1, d.before a0 Z = true) (ws : List Jvm.Cond) (o : Addr) (ae : Addr) (ke : ClassId) (y0 : Addr) (y1 : Addr) (y2 : Addr) (h0 : Heap) (n0 : Nat) (Z0 : n0 ≤ h0.size) (F_y2_open : Fld Z h0 y2 "com/example/entitygate/entitygate/HtmlNode$Element" "open" "Z" (.int (1 : Int32))) (F_o_elements : Fld Z h0 o "com/example/entitygate/entitygate/OpenElements" "elements" "[Lcom/example/entitygate/entitygate/HtmlNode$Element;" (.ref ae)) (F_o_size : Fld Z h0 o "com/example/entitygate/entitygate/OpenElements" "size" "I" (.int (3 : Int32))) (V_ae : Arv Z h0 ae ke (.object "com/example/entitygate/entitygate/HtmlNode$Element") (64 : Int32) [(.ref y0), (.ref y1), (.ref y2), .null] .null) (O_ae : Ovr Z ke "com/example/entitygate/entitygate/HtmlNode$Element") :
    MetFree l (⟨"com/example/entitygate/entitygate/OpenElements", "indexOf", "(Lcom/example/entitygate/entitygate/HtmlNode$Element;)I"⟩ : MethodName) (head1 (Jvm.Cond.code (⟨"com/example/entitygate/entitygate/OpenElements", "indexOf", "(Lcom/example/entitygate/entitygate/HtmlNode$Element;)I"⟩ : MethodName) prog_30_method_10_code 3 (some .int) :: ws) ({ frames := 0, cells := 0, slots := 0, locals := 0 } : Room)) (fun aA U => aA = #[(.ref o), (.ref y2)] ∧ Z.Warmed39 U.vm ∧ U.heap = h0) (fun _ _ _ _ _ => True) (fun _ U oO U' => ∃ vV LL, oO = .returned vV ∧ Q_ix32 Z o ae ke y0 y1 y2 h0 n0 vV U'.heap LL ∧ FrameEnd U oO U' LL ({ frames := 0, cells := 0, slots := 0, locals := 0 } : Room).cells ({ frames := 0, cells := 0, slots := 0, locals := 0 } : Room).slots) := by
  refine MetFree.of_bodySF (plainFor_of_name pn_3) hisR ?_
  intro p e s m args below meth c s₁ Bd hml0 hP hK
  obtain ⟨rfl, hZ, hh⟩ := hP
  have hx := Bd.exec
  have hby := Bd.bytes
  have hml : c.maxLocals = 3 := hml0
  have hown : s.vm.findClass "com/example/entitygate/entitygate/OpenElements" = some m.cls := findClass_of_methodNamed Bd.named
  have hnm := (name_of_methodNamed Bd.named Bd.method).1
  have X0 : Stand p l e ({ frames := 0, cells := 0, slots := 0, locals := 0 } : Room) s m #[(.ref o), (.ref y2)] below meth c s₁ [] 0 0 := Stand.of_body Bd
  have e0 : s₁.heap = h0 := by rw [← hh, Bd.state]; rfl
  have N0 := Fr.nil n0
  have hret := Bd.returns
  have hlk : meth.locks = false := Bd.notSynchronized
  refine own_start (ef_5 m o y2) ?_
  show own_Go p e below s (Q_ix32 Z o ae ke y0 y1 y2 h0 n0) ({ frames := 0, cells := 0, slots := 0, locals := 0 } : Room).cells ({ frames := 0, cells := 0, slots := 0, locals := 0 } : Room).slots (s₁.setTop (mkF m 0 #[.val (.ref o), .val (.ref y2), .unset] []))
  refine g_aload_n X0 hx 1 (hb hby d_prog_30_method_10_0) rfl rfl rfl ?_
  refine own_getF X0 hx hZ hown (host := "") (Or.inl (hw _ (List.mem_of_getElem? (i := 53) rfl))) Via.refl e0 F_y2_open 4 (hb hby d_prog_30_method_10_1) rfl fun T232 X232 e232 => ?_
  refine g_ifYes X232 hx 9 (hb hby d_prog_30_method_10_4) (own_i0_ne_t (by decide)) (by decide) (by decide) ?_
  refine g_aload_n X232 hx 10 (hb hby d_prog_30_method_10_9) rfl rfl rfl ?_
  refine own_getF X232 hx hZ hown (host := "") (Or.inl (hw _ (List.mem_of_getElem? (i := 60) rfl))) Via.refl e232 F_o_size 13 (hb hby d_prog_30_method_10_10) rfl fun T233 X233 e233 => ?_
  refine g_iconst X233 hx 14 (hb hby d_prog_30_method_10_13) (1 : Int32) rfl rfl ?_
  refine g_isub X233 hx 15 (hb hby d_prog_30_method_10_14) rfl ?_
  show own_Go p e below s _ _ _ (T233.setTop (mkF m 15 _ [(.int (2 : Int32))]))
  refine g_istore_n X233 hx 16 (hb hby d_prog_30_method_10_15) (l' := #[.val (.ref o), .val (.ref y2), .val (.int (2 : Int32))]) rfl rfl ?_
  refine g_iload_n X233 hx 17 (hb hby d_prog_30_method_10_16) rfl rfl ?_
  refine g_ifNo X233 hx 20 (hb hby d_prog_30_method_10_17) (own_i0_lt_f (by decide)) rfl ?_
  refine g_aload_n X233 hx 21 (hb hby d_prog_30_method_10_20) rfl rfl rfl ?_
  refine own_getF X233 hx hZ hown (host := "") (Or.inl (hw _ (List.mem_of_getElem? (i := 11) rfl))) Via.refl e233 F_o_elements 24 (hb hby d_prog_30_method_10_21) rfl fun T234 X234 e234 => ?_
  refine g_iload_n X234 hx 25 (hb hby d_prog_30_method_10_24) rfl rfl ?_
  obtain ⟨cl235, Ar235, q235, S235, P235, H235, G235⟩ := id V_ae
  have hin235 := inb_of (j := (2 : Int32)) S235 ⟨by decide, by decide⟩
  refine own_aaload X234 hx hZ e234 rfl Ar235 (v := (.ref y2)) hin235 (Has.at H235 hin235 rfl) 26 (hb hby d_prog_30_method_10_25) rfl ?_
  refine g_aload_n X234 hx 27 (hb hby d_prog_30_method_10_26) rfl rfl rfl ?_
  refine g_acmp X234 hx (x := (.ref y2)) (y := (.ref y2)) (same := true) 30 (hb hby d_prog_30_method_10_27) rfl rfl (decide_eq_true rfl) (by decide) (by decide) ?_
  refine g_iload_n X234 hx 31 (hb hby d_prog_30_method_10_30) rfl rfl ?_
  refine own_retI X234 hx hlk hret (hb hby d_prog_30_method_10_31) ?_ (by decide) (by decide)
  rw [e234]
  exact ⟨rfl, N0, rfl⟩
def Q_ix3closed (Z : State) (o : Addr) (x : Addr) (h0 : Heap) (n0 : Nat) (v : Option Value) (h : Heap) (L : List Loc) : Prop := v = some (.int (-1 : Int32)) ∧ Fr n0 L ∧ h = h0
set_option maxRecDepth 65536 in
set_option maxHeartbeats 40000000 in
theorem rm_ix3closed (l : Launch) (Z : State) (a0 : Array Value) (hw : ∀ d ∈ tables_1, d.before a0 Z = true) (ws : List Jvm.Cond) (o : Addr) (x : Addr) (h0 : Heap) (n0 : Nat) (Z0 : n0 ≤ h0.size) (F_x_open : Fld Z h0 x "com/example/entitygate/entitygate/HtmlNode$Element" "open" "Z" (.int (0 : Int32))) :
    MetFree l (⟨"com/example/entitygate/entitygate/OpenElements", "indexOf", "(Lcom/example/entitygate/entitygate/HtmlNode$Element;)I"⟩ : MethodName) (head1 (Jvm.Cond.code (⟨"com/example/entitygate/entitygate/OpenElements", "indexOf", "(Lcom/example/entitygate/entitygate/HtmlNode$Element;)I"⟩ : MethodName) prog_30_method_10_code 3 (some .int) :: ws) ({ frames := 0, cells := 0, slots := 0, locals := 0 } : Room)) (fun aA U => aA = #[(.ref o), (.ref x)] ∧ Z.Warmed39 U.vm ∧ U.heap = h0) (fun _ _ _ _ _ => True) (fun _ U oO U' => ∃ vV LL, oO = .returned vV ∧ Q_ix3closed Z o x h0 n0 vV U'.heap LL ∧ FrameEnd U oO U' LL ({ frames := 0, cells := 0, slots := 0, locals := 0 } : Room).cells ({ frames := 0, cells := 0, slots := 0, locals := 0 } : Room).slots) := by
  refine MetFree.of_bodySF (plainFor_of_name pn_3) hisR ?_
  intro p e s m args below meth c s₁ Bd hml0 hP hK
  obtain ⟨rfl, hZ, hh⟩ := hP
  have hx := Bd.exec
  have hby := Bd.bytes
  have hml : c.maxLocals = 3 := hml0
  have hown : s.vm.findClass "com/example/entitygate/entitygate/OpenElements" = some m.cls := findClass_of_methodNamed Bd.named
  have hnm := (name_of_methodNamed Bd.named Bd.method).1
  have X0 : Stand p l e ({ frames := 0, cells := 0, slots := 0, locals := 0 } : Room) s m #[(.ref o), (.ref x)] below meth c s₁ [] 0 0 := Stand.of_body Bd
  have e0 : s₁.heap = h0 := by rw [← hh, Bd.state]; rfl
  have N0 := Fr.nil n0
  have hret := Bd.returns
  have hlk : meth.locks = false := Bd.notSynchronized
  refine own_start (ef_5 m o x) ?_
  show own_Go p e below s (Q_ix3closed Z o x h0 n0) ({ frames := 0, cells := 0, slots := 0, locals := 0 } : Room).cells ({ frames := 0, cells := 0, slots := 0, locals := 0 } : Room).slots (s₁.setTop (mkF m 0 #[.val (.ref o), .val (.ref x), .unset] []))
  refine g_aload_n X0 hx 1 (hb hby d_prog_30_method_10_0) rfl rfl rfl ?_
  refine own_getF X0 hx hZ hown (host := "") (Or.inl (hw _ (List.mem_of_getElem? (i := 53) rfl))) Via.refl e0 F_x_open 4 (hb hby d_prog_30_method_10_1) rfl fun T236 X236 e236 => ?_
  refine g_ifNo X236 hx 7 (hb hby d_prog_30_method_10_4) (own_i0_ne_f (by decide)) rfl ?_
  refine g_iconst X236 hx 8 (hb hby d_prog_30_method_10_7) (-1 : Int32) rfl rfl ?_
  refine own_retI X236 hx hlk hret (hb hby d_prog_30_method_10_8) ?_ (by decide) (by decide)
  rw [e236]
  exact ⟨rfl, N0, rfl⟩
def Q_ix3open (Z : State) (o : Addr) (ae : Addr) (ke : ClassId) (y0 : Addr) (y1 : Addr) (y2 : Addr) (x : Addr) (h0 : Heap) (n0 : Nat) (v : Option Value) (h : Heap) (L : List Loc) : Prop := v = some (.int (-1 : Int32)) ∧ Fr n0 L ∧ h = h0
set_option maxRecDepth 65536 in
set_option maxHeartbeats 40000000 in
theorem rm_ix3open (l : Launch) (Z : State) (a0 : Array Value) (hw : ∀ d ∈ tables_1, d.before a0 Z = true) (ws : List Jvm.Cond) (o : Addr) (ae : Addr) (ke : ClassId) (y0 : Addr) (y1 : Addr) (y2 : Addr) (x : Addr) (h0 : Heap) (n0 : Nat) (Z0 : n0 ≤ h0.size) (F_x_open : Fld Z h0 x "com/example/entitygate/entitygate/HtmlNode$Element" "open" "Z" (.int (1 : Int32))) (F_o_elements : Fld Z h0 o "com/example/entitygate/entitygate/OpenElements" "elements" "[Lcom/example/entitygate/entitygate/HtmlNode$Element;" (.ref ae)) (F_o_size : Fld Z h0 o "com/example/entitygate/entitygate/OpenElements" "size" "I" (.int (3 : Int32))) (V_ae : Arv Z h0 ae ke (.object "com/example/entitygate/entitygate/HtmlNode$Element") (64 : Int32) [(.ref y0), (.ref y1), (.ref y2), .null] .null) (O_ae : Ovr Z ke "com/example/entitygate/entitygate/HtmlNode$Element") (ne_y0_x : y0 ≠ x) (ne_y1_x : y1 ≠ x) (ne_y2_x : y2 ≠ x) :
    MetFree l (⟨"com/example/entitygate/entitygate/OpenElements", "indexOf", "(Lcom/example/entitygate/entitygate/HtmlNode$Element;)I"⟩ : MethodName) (head1 (Jvm.Cond.code (⟨"com/example/entitygate/entitygate/OpenElements", "indexOf", "(Lcom/example/entitygate/entitygate/HtmlNode$Element;)I"⟩ : MethodName) prog_30_method_10_code 3 (some .int) :: ws) ({ frames := 0, cells := 0, slots := 0, locals := 0 } : Room)) (fun aA U => aA = #[(.ref o), (.ref x)] ∧ Z.Warmed39 U.vm ∧ U.heap = h0) (fun _ _ _ _ _ => True) (fun _ U oO U' => ∃ vV LL, oO = .returned vV ∧ Q_ix3open Z o ae ke y0 y1 y2 x h0 n0 vV U'.heap LL ∧ FrameEnd U oO U' LL ({ frames := 0, cells := 0, slots := 0, locals := 0 } : Room).cells ({ frames := 0, cells := 0, slots := 0, locals := 0 } : Room).slots) := by
  refine MetFree.of_bodySF (plainFor_of_name pn_3) hisR ?_
  intro p e s m args below meth c s₁ Bd hml0 hP hK
  obtain ⟨rfl, hZ, hh⟩ := hP
  have hx := Bd.exec
  have hby := Bd.bytes
  have hml : c.maxLocals = 3 := hml0
  have hown : s.vm.findClass "com/example/entitygate/entitygate/OpenElements" = some m.cls := findClass_of_methodNamed Bd.named
  have hnm := (name_of_methodNamed Bd.named Bd.method).1
  have X0 : Stand p l e ({ frames := 0, cells := 0, slots := 0, locals := 0 } : Room) s m #[(.ref o), (.ref x)] below meth c s₁ [] 0 0 := Stand.of_body Bd
  have e0 : s₁.heap = h0 := by rw [← hh, Bd.state]; rfl
  have N0 := Fr.nil n0
  have hret := Bd.returns
  have hlk : meth.locks = false := Bd.notSynchronized
  refine own_start (ef_5 m o x) ?_
  show own_Go p e below s (Q_ix3open Z o ae ke y0 y1 y2 x h0 n0) ({ frames := 0, cells := 0, slots := 0, locals := 0 } : Room).cells ({ frames := 0, cells := 0, slots := 0, locals := 0 } : Room).slots (s₁.setTop (mkF m 0 #[.val (.ref o), .val (.ref x), .unset] []))
  refine g_aload_n X0 hx 1 (hb hby d_prog_30_method_10_0) rfl rfl rfl ?_
  refine own_getF X0 hx hZ hown (host := "") (Or.inl (hw _ (List.mem_of_getElem? (i := 53) rfl))) Via.refl e0 F_x_open 4 (hb hby d_prog_30_method_10_1) rfl fun T237 X237 e237 => ?_
  refine g_ifYes X237 hx 9 (hb hby d_prog_30_method_10_4) (own_i0_ne_t (by decide)) (by decide) (by decide) ?_
  refine g_aload_n X237 hx 10 (hb hby d_prog_30_method_10_9) rfl rfl rfl ?_
  refine own_getF X237 hx hZ hown (host := "") (Or.inl (hw _ (List.mem_of_getElem? (i := 60) rfl))) Via.refl e237 F_o_size 13 (hb hby d_prog_30_method_10_10) rfl fun T238 X238 e238 => ?_
  refine g_iconst X238 hx 14 (hb hby d_prog_30_method_10_13) (1 : Int32) rfl rfl ?_
  refine g_isub X238 hx 15 (hb hby d_prog_30_method_10_14) rfl ?_
  show own_Go p e below s _ _ _ (T238.setTop (mkF m 15 _ [(.int (2 : Int32))]))
  refine g_istore_n X238 hx 16 (hb hby d_prog_30_method_10_15) (l' := #[.val (.ref o), .val (.ref x), .val (.int (2 : Int32))]) rfl rfl ?_
  refine g_iload_n X238 hx 17 (hb hby d_prog_30_method_10_16) rfl rfl ?_
  refine g_ifNo X238 hx 20 (hb hby d_prog_30_method_10_17) (own_i0_lt_f (by decide)) rfl ?_
  refine g_aload_n X238 hx 21 (hb hby d_prog_30_method_10_20) rfl rfl rfl ?_
  refine own_getF X238 hx hZ hown (host := "") (Or.inl (hw _ (List.mem_of_getElem? (i := 11) rfl))) Via.refl e238 F_o_elements 24 (hb hby d_prog_30_method_10_21) rfl fun T239 X239 e239 => ?_
  refine g_iload_n X239 hx 25 (hb hby d_prog_30_method_10_24) rfl rfl ?_
  obtain ⟨cl240, Ar240, q240, S240, P240, H240, G240⟩ := id V_ae
  have hin240 := inb_of (j := (2 : Int32)) S240 ⟨by decide, by decide⟩
  refine own_aaload X239 hx hZ e239 rfl Ar240 (v := (.ref y2)) hin240 (Has.at H240 hin240 rfl) 26 (hb hby d_prog_30_method_10_25) rfl ?_
  refine g_aload_n X239 hx 27 (hb hby d_prog_30_method_10_26) rfl rfl rfl ?_
  refine g_acmp X239 hx (x := (.ref y2)) (y := (.ref x)) (same := false) 32 (hb hby d_prog_30_method_10_27) rfl rfl (decide_eq_false fun q => ne_y2_x (Value.ref.inj q)) (by decide) (by decide) ?_
  refine g_iinc X239 hx 35 (hb hby d_prog_30_method_10_32) (z := (1 : Int32)) rfl rfl (l' := #[.val (.ref o), .val (.ref x), .val (.int (1 : Int32))]) rfl rfl ?_
  refine g_goto X239 hx 16 (hb hby d_prog_30_method_10_35) (by decide) (by decide) ?_
  refine g_iload_n X239 hx 17 (hb hby d_prog_30_method_10_16) rfl rfl ?_
  refine g_ifNo X239 hx 20 (hb hby d_prog_30_method_10_17) (own_i0_lt_f (by decide)) rfl ?_
  refine g_aload_n X239 hx 21 (hb hby d_prog_30_method_10_20) rfl rfl rfl ?_
  refine own_getF X239 hx hZ hown (host := "") (Or.inl (hw _ (List.mem_of_getElem? (i := 11) rfl))) Via.refl e239 F_o_elements 24 (hb hby d_prog_30_method_10_21) rfl fun T241 X241 e241 => ?_
  refine g_iload_n X241 hx 25 (hb hby d_prog_30_method_10_24) rfl rfl ?_
  obtain ⟨cl242, Ar242, q242, S242, P242, H242, G242⟩ := id V_ae
  have hin242 := inb_of (j := (1 : Int32)) S242 ⟨by decide, by decide⟩
  refine own_aaload X241 hx hZ e241 rfl Ar242 (v := (.ref y1)) hin242 (Has.at H242 hin242 rfl) 26 (hb hby d_prog_30_method_10_25) rfl ?_
  refine g_aload_n X241 hx 27 (hb hby d_prog_30_method_10_26) rfl rfl rfl ?_
  refine g_acmp X241 hx (x := (.ref y1)) (y := (.ref x)) (same := false) 32 (hb hby d_prog_30_method_10_27) rfl rfl (decide_eq_false fun q => ne_y1_x (Value.ref.inj q)) (by decide) (by decide) ?_
  refine g_iinc X241 hx 35 (hb hby d_prog_30_method_10_32) (z := (0 : Int32)) rfl rfl (l' := #[.val (.ref o), .val (.ref x), .val (.int (0 : Int32))]) rfl rfl ?_
  refine g_goto X241 hx 16 (hb hby d_prog_30_method_10_35) (by decide) (by decide) ?_
  refine g_iload_n X241 hx 17 (hb hby d_prog_30_method_10_16) rfl rfl ?_
  refine g_ifNo X241 hx 20 (hb hby d_prog_30_method_10_17) (own_i0_lt_f (by decide)) rfl ?_
  refine g_aload_n X241 hx 21 (hb hby d_prog_30_method_10_20) rfl rfl rfl ?_
  refine own_getF X241 hx hZ hown (host := "") (Or.inl (hw _ (List.mem_of_getElem? (i := 11) rfl))) Via.refl e241 F_o_elements 24 (hb hby d_prog_30_method_10_21) rfl fun T243 X243 e243 => ?_
  refine g_iload_n X243 hx 25 (hb hby d_prog_30_method_10_24) rfl rfl ?_
  obtain ⟨cl244, Ar244, q244, S244, P244, H244, G244⟩ := id V_ae
  have hin244 := inb_of (j := (0 : Int32)) S244 ⟨by decide, by decide⟩
  refine own_aaload X243 hx hZ e243 rfl Ar244 (v := (.ref y0)) hin244 (Has.at H244 hin244 rfl) 26 (hb hby d_prog_30_method_10_25) rfl ?_
  refine g_aload_n X243 hx 27 (hb hby d_prog_30_method_10_26) rfl rfl rfl ?_
  refine g_acmp X243 hx (x := (.ref y0)) (y := (.ref x)) (same := false) 32 (hb hby d_prog_30_method_10_27) rfl rfl (decide_eq_false fun q => ne_y0_x (Value.ref.inj q)) (by decide) (by decide) ?_
  refine g_iinc X243 hx 35 (hb hby d_prog_30_method_10_32) (z := (-1 : Int32)) rfl rfl (l' := #[.val (.ref o), .val (.ref x), .val (.int (-1 : Int32))]) rfl rfl ?_
  refine g_goto X243 hx 16 (hb hby d_prog_30_method_10_35) (by decide) (by decide) ?_
  refine g_iload_n X243 hx 17 (hb hby d_prog_30_method_10_16) rfl rfl ?_
  refine g_ifYes X243 hx 38 (hb hby d_prog_30_method_10_17) (own_i0_lt_t (by decide)) (by decide) (by decide) ?_
  refine g_iconst X243 hx 39 (hb hby d_prog_30_method_10_38) (-1 : Int32) rfl rfl ?_
  refine own_retI X243 hx hlk hret (hb hby d_prog_30_method_10_39) ?_ (by decide) (by decide)
  rw [e243]
  exact ⟨rfl, N0, rfl⟩
theorem pd_4 : parseMethodDescriptor "(Ljava/util/Set;)V" = some ⟨[(.object "java/util/Set")], none⟩ := by decide +kernel
theorem pd_5 : parseMethodDescriptor "(Ljava/lang/String;Lcom/example/entitygate/entitygate/HtmlTag;Lcom/example/entitygate/entitygate/HtmlNode$Namespace;Lcom/example/entitygate/entitygate/Attributes;II)V" = some ⟨[(.object "java/lang/String"), (.object "com/example/entitygate/entitygate/HtmlTag"), (.object "com/example/entitygate/entitygate/HtmlNode$Namespace"), (.object "com/example/entitygate/entitygate/Attributes"), .int, .int], none⟩ := by decide +kernel
theorem pd_6 : parseMethodDescriptor "(Lcom/example/entitygate/entitygate/HtmlNode$Element;)I" = some ⟨[(.object "com/example/entitygate/entitygate/HtmlNode$Element")], some .int⟩ := by decide +kernel
theorem pd_7 : parseMethodDescriptor "(Lcom/example/entitygate/entitygate/HtmlNode$Element;)V" = some ⟨[(.object "com/example/entitygate/entitygate/HtmlNode$Element")], none⟩ := by decide +kernel
theorem ef_6 (m : MethodId) (x0 : Int32) (x1 : Int32) (x2 : Int32) : entryFrame m #[(.int x0), (.int x1), (.int x2)] maxLocals = mkF m 0 #[.val (.int x0), .val (.int x1), .val (.int x2), .unset, .unset, .unset, .unset, .unset, .unset, .unset, .unset, .unset, .unset] [] := by first | (simp [entryFrame, mkF, argsToLocals, Value.category, maxLocals]; done) | rfl
theorem pn_4 : plainName "com/example/entitygate/entitygate/OpenElementsIndexOfPinLaw" = true := by first | (simp [plainName, overriddenIn]; done) | decide +kernel
def Q_law (Z : State) (p0 p1 p2 : Int32) (ht : Addr) (h0 : Heap) (n0 : Nat) (v : Option Value) (h : Heap) (L : List Loc) : Prop := v = some (.int 1) ∧ Fr n0 L
set_option maxRecDepth 65536 in
set_option maxHeartbeats 40000000 in
theorem rm_law (l : Launch) (Z : State) (a0 : Array Value) (hw : ∀ d ∈ tables_1, d.before a0 Z = true) (ws : List Jvm.Cond) (p0 p1 p2 : Int32) (ht : Addr) (h0 : Heap) (n0 : Nat) (Z0 : n0 ≤ h0.size) (S_ht : Sta Z h0 "com/example/entitygate/entitygate/HtmlNode$Namespace" "HTML" "Lcom/example/entitygate/entitygate/HtmlNode$Namespace;" (.ref ht)) :
    MetFree l x (head1 (Jvm.Cond.code x code maxLocals ret :: ws) room_1) (fun aA U => aA = #[(.int p0), (.int p1), (.int p2)] ∧ Z.Warmed39 U.vm ∧ U.heap = h0) (fun _ _ _ _ _ => True) (fun _ U oO U' => ∃ vV LL, oO = .returned vV ∧ Q_law Z p0 p1 p2 ht h0 n0 vV U'.heap LL ∧ FrameEnd U oO U' LL room_1.cells room_1.slots) := by
  refine MetFree.of_bodySF (plainFor_of_name pn_4) hisR ?_
  intro p e s m args below meth c s₁ Bd hml0 hP hK
  obtain ⟨rfl, hZ, hh⟩ := hP
  have hx := Bd.exec
  have hby := Bd.bytes
  have hml : c.maxLocals = 13 := hml0
  have hown : s.vm.findClass "com/example/entitygate/entitygate/OpenElementsIndexOfPinLaw" = some m.cls := findClass_of_methodNamed Bd.named
  have hnm := (name_of_methodNamed Bd.named Bd.method).1
  have X0 : Stand p l e room_1 s m #[(.int p0), (.int p1), (.int p2)] below meth c s₁ [] 0 0 := Stand.of_body Bd
  have e0 : s₁.heap = h0 := by rw [← hh, Bd.state]; rfl
  have N0 := Fr.nil n0
  have hret := Bd.returns
  have hlk : meth.locks = false := Bd.notSynchronized
  refine own_start (ef_6 m p0 p1 p2) ?_
  show own_Go p e below s (Q_law Z p0 p1 p2 ht h0 n0) room_1.cells room_1.slots (s₁.setTop (mkF m 0 #[.val (.int p0), .val (.int p1), .val (.int p2), .unset, .unset, .unset, .unset, .unset, .unset, .unset, .unset, .unset, .unset] []))
  refine own_newO X0 hx hZ hown (hw _ (List.mem_of_getElem? (i := 0) rfl)) (hw _ (List.mem_of_getElem? (i := 1) rfl)) (hw _ (List.mem_of_getElem? (i := 2) rfl)) e0 3 (hb hby at_0) rfl (by decide) (by decide) fun T245 h245 b245 X245 e245 g245 E245 A245 D245 => ?_
  have g_b245 : n0 ≤ b245 := Nat.le_trans Z0 (Nat.le_of_eq g245.symm)
  have sz_b245 : h0.size ≤ b245 := Nat.le_trans (Keep.refl h0 []).1 (Nat.le_of_eq g245.symm)
  have K246 : Keep h0 h245 [] := (Keep.refl h0 []).ext E245
  have z247 : n0 ≤ h245.size := (Nat.le_trans Z0 E245.1)
  have f248 : Fld Z h245 b245 "com/example/entitygate/entitygate/OpenElements" "elements" "[Lcom/example/entitygate/entitygate/HtmlNode$Element;" .null := D245 (Or.inl (hw _ (List.mem_of_getElem? (i := 12) rfl))) (ty := (.array (.object "com/example/entitygate/entitygate/HtmlNode$Element"))) (by decide)
  have f249 : Fld Z h245 b245 "com/example/entitygate/entitygate/OpenElements" "landmarks" "[I" .null := D245 (Or.inl (hw _ (List.mem_of_getElem? (i := 15) rfl))) (ty := (.array .int)) (by decide)
  have f250 : Fld Z h245 b245 "com/example/entitygate/entitygate/OpenElements" "landmarkTags" "Ljava/util/Set;" .null := D245 (Or.inr (hw _ (List.mem_of_getElem? (i := 17) rfl))) (ty := (.object "java/util/Set")) (by decide)
  have f251 : Fld Z h245 b245 "com/example/entitygate/entitygate/OpenElements" "size" "I" (.int (0 : Int32)) := D245 (Or.inl (hw _ (List.mem_of_getElem? (i := 61) rfl))) (ty := .int) (by decide)
  have f252 : Fld Z h245 b245 "com/example/entitygate/entitygate/OpenElements" "landmarkCount" "I" (.int (0 : Int32)) := D245 (Or.inl (hw _ (List.mem_of_getElem? (i := 73) rfl))) (ty := .int) (by decide)
  refine g_dup X245 hx 4 (hb hby at_3) rfl rfl ?_
  refine g_aconst_null X245 hx 5 (hb hby at_4) rfl ?_
  refine own_callI X245 hx hZ hown rfl (hw _ (List.mem_of_getElem? (i := 3) rfl)) (hw _ (List.mem_of_getElem? (i := 4) rfl)) (by decide) (rm_init_oe l Z a0 hw [] b245 h245 n0 z247 A245 f248 f249 f250 f251 f252 g_b245) (hw _ (List.mem_of_getElem? (i := 5) rfl)) (hw _ (List.mem_of_getElem? (i := 2) rfl)) e245 1 (by decide) (by decide) (by decide) (by decide) b245 [.null] [(.ref b245)] rfl pd_4 rfl 8 rfl (by rw [hml]; rfl) rfl (hb hby at_5) rfl fun T253 v253 L253 X253 hQ253 => ?_
  obtain ⟨ae_253, ke_253, rfl, Nq253, Kq253, g_ae_253, sz_ae_253, f253_0, f253_1, f253_2, v253_0, o253_0⟩ := hQ253
  have ne254 : b245 ≠ ae_253 := Nat.ne_of_lt (Nat.lt_of_lt_of_le A245.lt sz_ae_253)
  have N253 := Fr.app N0 Nq253
  have sq_ae_253 : h0.size ≤ ae_253 := Nat.le_trans K246.1 sz_ae_253
  have K255 : Keep h0 T253.heap [] := K246.trans Kq253 (allS (Or.inr sz_b245) all0)
  have z256 : n0 ≤ T253.heap.size := (Nat.le_trans z247 Kq253.1)
  show own_Go p e below s _ _ _ (T253.setTop (mkF m 8 _ [(.ref b245)]))
  refine g_astore_n X253 hx 9 (hb hby at_8) rfl (l' := #[.val (.int p0), .val (.int p1), .val (.int p2), .val (.ref b245), .unset, .unset, .unset, .unset, .unset, .unset, .unset, .unset, .unset]) rfl rfl ?_
  refine own_newO X253 hx hZ hown (hw _ (List.mem_of_getElem? (i := 0) rfl)) (hw _ (List.mem_of_getElem? (i := 1) rfl)) (hw _ (List.mem_of_getElem? (i := 2) rfl)) rfl 12 (hb hby at_9) rfl (by decide) (by decide) fun T257 h257 b257 X257 e257 g257 E257 A257 D257 => ?_
  have f258 : Exa Z T253.heap b245 "com/example/entitygate/entitygate/OpenElements" := (A245.keep Kq253)
  have ne259 : b245 ≠ b257 := Nat.ne_of_lt (Nat.lt_of_lt_of_le f258.lt (Nat.le_of_eq g257.symm))
  have ne260 : ae_253 ≠ b257 := Nat.ne_of_lt (Nat.lt_of_lt_of_le v253_0.lt (Nat.le_of_eq g257.symm))
  have g_b257 : n0 ≤ b257 := Nat.le_trans z256 (Nat.le_of_eq g257.symm)
  have sz_b257 : h0.size ≤ b257 := Nat.le_trans K255.1 (Nat.le_of_eq g257.symm)
  have K261 : Keep h0 h257 [] := K255.ext E257
  have z262 : n0 ≤ h257.size := (Nat.le_trans z256 E257.1)
  have f263 : Fld Z h257 b257 "com/example/entitygate/entitygate/OpenElements" "elements" "[Lcom/example/entitygate/entitygate/HtmlNode$Element;" .null := D257 (Or.inl (hw _ (List.mem_of_getElem? (i := 12) rfl))) (ty := (.array (.object "com/example/entitygate/entitygate/HtmlNode$Element"))) (by decide)
  have f264 : Fld Z h257 b257 "com/example/entitygate/entitygate/OpenElements" "landmarks" "[I" .null := D257 (Or.inl (hw _ (List.mem_of_getElem? (i := 15) rfl))) (ty := (.array .int)) (by decide)
  have f265 : Fld Z h257 b257 "com/example/entitygate/entitygate/OpenElements" "landmarkTags" "Ljava/util/Set;" .null := D257 (Or.inr (hw _ (List.mem_of_getElem? (i := 17) rfl))) (ty := (.object "java/util/Set")) (by decide)
  have f266 : Fld Z h257 b257 "com/example/entitygate/entitygate/OpenElements" "size" "I" (.int (0 : Int32)) := D257 (Or.inl (hw _ (List.mem_of_getElem? (i := 61) rfl))) (ty := .int) (by decide)
  have f267 : Fld Z h257 b257 "com/example/entitygate/entitygate/OpenElements" "landmarkCount" "I" (.int (0 : Int32)) := D257 (Or.inl (hw _ (List.mem_of_getElem? (i := 73) rfl))) (ty := .int) (by decide)
  refine g_dup X257 hx 13 (hb hby at_12) rfl rfl ?_
  refine g_aconst_null X257 hx 14 (hb hby at_13) rfl ?_
  refine own_callI X257 hx hZ hown rfl (hw _ (List.mem_of_getElem? (i := 3) rfl)) (hw _ (List.mem_of_getElem? (i := 4) rfl)) (by decide) (rm_init_oe l Z a0 hw [] b257 h257 n0 z262 A257 f263 f264 f265 f266 f267 g_b257) (hw _ (List.mem_of_getElem? (i := 5) rfl)) (hw _ (List.mem_of_getElem? (i := 2) rfl)) e257 1 (by decide) (by decide) (by decide) (by decide) b257 [.null] [(.ref b257)] rfl pd_4 rfl 17 rfl (by rw [hml]; rfl) rfl (hb hby at_14) rfl fun T268 v268 L268 X268 hQ268 => ?_
  obtain ⟨ae_268, ke_268, rfl, Nq268, Kq268, g_ae_268, sz_ae_268, f268_0, f268_1, f268_2, v268_0, o268_0⟩ := hQ268
  have f269 : Exa Z h257 b245 "com/example/entitygate/entitygate/OpenElements" := (Exa.ext E257 f258)
  have ne270 : b245 ≠ ae_268 := Nat.ne_of_lt (Nat.lt_of_lt_of_le f269.lt sz_ae_268)
  have f271 : Arv Z h257 ae_253 ke_253 (.object "com/example/entitygate/entitygate/HtmlNode$Element") (64 : Int32) [.null, .null, .null, .null] .null := (v253_0.ext E257)
  have ne272 : ae_253 ≠ ae_268 := Nat.ne_of_lt (Nat.lt_of_lt_of_le f271.lt sz_ae_268)
  have ne273 : b257 ≠ ae_268 := Nat.ne_of_lt (Nat.lt_of_lt_of_le A257.lt sz_ae_268)
  have N268 := Fr.app N253 Nq268
  have sq_ae_268 : h0.size ≤ ae_268 := Nat.le_trans K261.1 sz_ae_268
  have K274 : Keep h0 T268.heap [] := K261.trans Kq268 (allS (Or.inr sz_b257) all0)
  have z275 : n0 ≤ T268.heap.size := (Nat.le_trans z262 Kq268.1)
  show own_Go p e below s _ _ _ (T268.setTop (mkF m 17 _ [(.ref b257)]))
  refine g_astore X268 hx 19 (hb hby at_17) rfl (l' := #[.val (.int p0), .val (.int p1), .val (.int p2), .val (.ref b245), .val (.ref b257), .unset, .unset, .unset, .unset, .unset, .unset, .unset, .unset]) rfl rfl ?_
  refine own_newO X268 hx hZ hown (hw _ (List.mem_of_getElem? (i := 18) rfl)) (hw _ (List.mem_of_getElem? (i := 19) rfl)) (hw _ (List.mem_of_getElem? (i := 20) rfl)) rfl 22 (hb hby at_19) rfl (by decide) (by decide) fun T276 h276 b276 X276 e276 g276 E276 A276 D276 => ?_
  have f277 : Exa Z T268.heap b245 "com/example/entitygate/entitygate/OpenElements" := (f269.keep Kq268)
  have ne278 : b245 ≠ b276 := Nat.ne_of_lt (Nat.lt_of_lt_of_le f277.lt (Nat.le_of_eq g276.symm))
  have f279 : Arv Z T268.heap ae_253 ke_253 (.object "com/example/entitygate/entitygate/HtmlNode$Element") (64 : Int32) [.null, .null, .null, .null] .null := (f271.keep Kq268 (ninS ne260 nin0))
  have ne280 : ae_253 ≠ b276 := Nat.ne_of_lt (Nat.lt_of_lt_of_le f279.lt (Nat.le_of_eq g276.symm))
  have f281 : Exa Z T268.heap b257 "com/example/entitygate/entitygate/OpenElements" := (A257.keep Kq268)
  have ne282 : b257 ≠ b276 := Nat.ne_of_lt (Nat.lt_of_lt_of_le f281.lt (Nat.le_of_eq g276.symm))
  have ne283 : ae_268 ≠ b276 := Nat.ne_of_lt (Nat.lt_of_lt_of_le v268_0.lt (Nat.le_of_eq g276.symm))
  have g_b276 : n0 ≤ b276 := Nat.le_trans z275 (Nat.le_of_eq g276.symm)
  have sz_b276 : h0.size ≤ b276 := Nat.le_trans K274.1 (Nat.le_of_eq g276.symm)
  have K284 : Keep h0 h276 [] := K274.ext E276
  have z285 : n0 ≤ h276.size := (Nat.le_trans z275 E276.1)
  have f286 : Fld Z h276 b276 "com/example/entitygate/entitygate/HtmlNode$Element" "name" "Ljava/lang/String;" .null := D276 (Or.inr (hw _ (List.mem_of_getElem? (i := 36) rfl))) (ty := (.object "java/lang/String")) (by decide)
  have f287 : Fld Z h276 b276 "com/example/entitygate/entitygate/HtmlNode$Element" "tag" "Lcom/example/entitygate/entitygate/HtmlTag;" .null := D276 (Or.inr (hw _ (List.mem_of_getElem? (i := 38) rfl))) (ty := (.object "com/example/entitygate/entitygate/HtmlTag")) (by decide)
  have f288 : Fld Z h276 b276 "com/example/entitygate/entitygate/HtmlNode$Element" "namespace" "Lcom/example/entitygate/entitygate/HtmlNode$Namespace;" .null := D276 (Or.inr (hw _ (List.mem_of_getElem? (i := 40) rfl))) (ty := (.object "com/example/entitygate/entitygate/HtmlNode$Namespace")) (by decide)
  have f289 : Fld Z h276 b276 "com/example/entitygate/entitygate/HtmlNode$Element" "attributes" "Lcom/example/entitygate/entitygate/Attributes;" .null := D276 (Or.inr (hw _ (List.mem_of_getElem? (i := 42) rfl))) (ty := (.object "com/example/entitygate/entitygate/Attributes")) (by decide)
  have f290 : Fld Z h276 b276 "com/example/entitygate/entitygate/HtmlNode$Element" "start" "I" (.int (0 : Int32)) := D276 (Or.inr (hw _ (List.mem_of_getElem? (i := 44) rfl))) (ty := .int) (by decide)
  have f291 : Fld Z h276 b276 "com/example/entitygate/entitygate/HtmlNode$Element" "nonceAt" "I" (.int (0 : Int32)) := D276 (Or.inr (hw _ (List.mem_of_getElem? (i := 46) rfl))) (ty := .int) (by decide)
  have f292 : Fld Z h276 b276 "com/example/entitygate/entitygate/HtmlNode$Element" "open" "Z" (.int (0 : Int32)) := D276 (Or.inl (hw _ (List.mem_of_getElem? (i := 54) rfl))) (ty := .boolean) (by decide)
  refine g_dup X276 hx 23 (hb hby at_22) rfl rfl ?_
  refine g_aconst_null X276 hx 24 (hb hby at_23) rfl ?_
  refine g_aconst_null X276 hx 25 (hb hby at_24) rfl ?_
  refine g_aconst_null X276 hx 26 (hb hby at_25) rfl ?_
  refine g_aconst_null X276 hx 27 (hb hby at_26) rfl ?_
  refine g_iconst X276 hx 28 (hb hby at_27) (0 : Int32) rfl rfl ?_
  refine g_iconst X276 hx 29 (hb hby at_28) (0 : Int32) rfl rfl ?_
  refine own_callI X276 hx hZ hown rfl (hw _ (List.mem_of_getElem? (i := 21) rfl)) (hw _ (List.mem_of_getElem? (i := 22) rfl)) (by decide) (rm_init_el l Z a0 hw [] b276 h276 n0 z285 A276 f286 f287 f288 f289 f290 f291 f292 g_b276) (hw _ (List.mem_of_getElem? (i := 23) rfl)) (hw _ (List.mem_of_getElem? (i := 20) rfl)) e276 1 (by decide) (by decide) (by decide) (by decide) b276 [.null, .null, .null, .null, (.int (0 : Int32)), (.int (0 : Int32))] [(.ref b276)] rfl pd_5 rfl 32 rfl (by rw [hml]; rfl) rfl (hb hby at_29) rfl fun T293 v293 L293 X293 hQ293 => ?_
  obtain ⟨rfl, Nq293, Kq293, f293_0, f293_1, f293_2⟩ := hQ293
  have N293 := Fr.app N268 Nq293
  have K294 : Keep h0 T293.heap [] := K284.trans Kq293 (allS (Or.inr sz_b276) all0)
  have z295 : n0 ≤ T293.heap.size := (Nat.le_trans z285 Kq293.1)
  show own_Go p e below s _ _ _ (T293.setTop (mkF m 32 _ [(.ref b276)]))
  refine g_astore X293 hx 34 (hb hby at_32) rfl (l' := #[.val (.int p0), .val (.int p1), .val (.int p2), .val (.ref b245), .val (.ref b257), .val (.ref b276), .unset, .unset, .unset, .unset, .unset, .unset, .unset]) rfl rfl ?_
  refine own_newO X293 hx hZ hown (hw _ (List.mem_of_getElem? (i := 18) rfl)) (hw _ (List.mem_of_getElem? (i := 19) rfl)) (hw _ (List.mem_of_getElem? (i := 20) rfl)) rfl 37 (hb hby at_34) rfl (by decide) (by decide) fun T296 h296 b296 X296 e296 g296 E296 A296 D296 => ?_
  have f297 : Exa Z T293.heap b245 "com/example/entitygate/entitygate/OpenElements" := ((Exa.ext E276 f277).keep Kq293)
  have ne298 : b245 ≠ b296 := Nat.ne_of_lt (Nat.lt_of_lt_of_le f297.lt (Nat.le_of_eq g296.symm))
  have f299 : Arv Z T293.heap ae_253 ke_253 (.object "com/example/entitygate/entitygate/HtmlNode$Element") (64 : Int32) [.null, .null, .null, .null] .null := ((f279.ext E276).keep Kq293 (ninS ne280 nin0))
  have ne300 : ae_253 ≠ b296 := Nat.ne_of_lt (Nat.lt_of_lt_of_le f299.lt (Nat.le_of_eq g296.symm))
  have f301 : Exa Z T293.heap b257 "com/example/entitygate/entitygate/OpenElements" := ((Exa.ext E276 f281).keep Kq293)
  have ne302 : b257 ≠ b296 := Nat.ne_of_lt (Nat.lt_of_lt_of_le f301.lt (Nat.le_of_eq g296.symm))
  have f303 : Arv Z T293.heap ae_268 ke_268 (.object "com/example/entitygate/entitygate/HtmlNode$Element") (64 : Int32) [.null, .null, .null, .null] .null := ((v268_0.ext E276).keep Kq293 (ninS ne283 nin0))
  have ne304 : ae_268 ≠ b296 := Nat.ne_of_lt (Nat.lt_of_lt_of_le f303.lt (Nat.le_of_eq g296.symm))
  have f305 : Exa Z T293.heap b276 "com/example/entitygate/entitygate/HtmlNode$Element" := (A276.keep Kq293)
  have ne306 : b276 ≠ b296 := Nat.ne_of_lt (Nat.lt_of_lt_of_le f305.lt (Nat.le_of_eq g296.symm))
  have g_b296 : n0 ≤ b296 := Nat.le_trans z295 (Nat.le_of_eq g296.symm)
  have sz_b296 : h0.size ≤ b296 := Nat.le_trans K294.1 (Nat.le_of_eq g296.symm)
  have K307 : Keep h0 h296 [] := K294.ext E296
  have z308 : n0 ≤ h296.size := (Nat.le_trans z295 E296.1)
  have f309 : Fld Z h296 b296 "com/example/entitygate/entitygate/HtmlNode$Element" "name" "Ljava/lang/String;" .null := D296 (Or.inr (hw _ (List.mem_of_getElem? (i := 36) rfl))) (ty := (.object "java/lang/String")) (by decide)
  have f310 : Fld Z h296 b296 "com/example/entitygate/entitygate/HtmlNode$Element" "tag" "Lcom/example/entitygate/entitygate/HtmlTag;" .null := D296 (Or.inr (hw _ (List.mem_of_getElem? (i := 38) rfl))) (ty := (.object "com/example/entitygate/entitygate/HtmlTag")) (by decide)
  have f311 : Fld Z h296 b296 "com/example/entitygate/entitygate/HtmlNode$Element" "namespace" "Lcom/example/entitygate/entitygate/HtmlNode$Namespace;" .null := D296 (Or.inr (hw _ (List.mem_of_getElem? (i := 40) rfl))) (ty := (.object "com/example/entitygate/entitygate/HtmlNode$Namespace")) (by decide)
  have f312 : Fld Z h296 b296 "com/example/entitygate/entitygate/HtmlNode$Element" "attributes" "Lcom/example/entitygate/entitygate/Attributes;" .null := D296 (Or.inr (hw _ (List.mem_of_getElem? (i := 42) rfl))) (ty := (.object "com/example/entitygate/entitygate/Attributes")) (by decide)
  have f313 : Fld Z h296 b296 "com/example/entitygate/entitygate/HtmlNode$Element" "start" "I" (.int (0 : Int32)) := D296 (Or.inr (hw _ (List.mem_of_getElem? (i := 44) rfl))) (ty := .int) (by decide)
  have f314 : Fld Z h296 b296 "com/example/entitygate/entitygate/HtmlNode$Element" "nonceAt" "I" (.int (0 : Int32)) := D296 (Or.inr (hw _ (List.mem_of_getElem? (i := 46) rfl))) (ty := .int) (by decide)
  have f315 : Fld Z h296 b296 "com/example/entitygate/entitygate/HtmlNode$Element" "open" "Z" (.int (0 : Int32)) := D296 (Or.inl (hw _ (List.mem_of_getElem? (i := 54) rfl))) (ty := .boolean) (by decide)
  refine g_dup X296 hx 38 (hb hby at_37) rfl rfl ?_
  refine g_aconst_null X296 hx 39 (hb hby at_38) rfl ?_
  refine g_aconst_null X296 hx 40 (hb hby at_39) rfl ?_
  refine g_aconst_null X296 hx 41 (hb hby at_40) rfl ?_
  refine g_aconst_null X296 hx 42 (hb hby at_41) rfl ?_
  refine g_iconst X296 hx 43 (hb hby at_42) (0 : Int32) rfl rfl ?_
  refine g_iconst X296 hx 44 (hb hby at_43) (0 : Int32) rfl rfl ?_
  refine own_callI X296 hx hZ hown rfl (hw _ (List.mem_of_getElem? (i := 21) rfl)) (hw _ (List.mem_of_getElem? (i := 22) rfl)) (by decide) (rm_init_el l Z a0 hw [] b296 h296 n0 z308 A296 f309 f310 f311 f312 f313 f314 f315 g_b296) (hw _ (List.mem_of_getElem? (i := 23) rfl)) (hw _ (List.mem_of_getElem? (i := 20) rfl)) e296 1 (by decide) (by decide) (by decide) (by decide) b296 [.null, .null, .null, .null, (.int (0 : Int32)), (.int (0 : Int32))] [(.ref b296)] rfl pd_5 rfl 47 rfl (by rw [hml]; rfl) rfl (hb hby at_44) rfl fun T316 v316 L316 X316 hQ316 => ?_
  obtain ⟨rfl, Nq316, Kq316, f316_0, f316_1, f316_2⟩ := hQ316
  have N316 := Fr.app N293 Nq316
  have K317 : Keep h0 T316.heap [] := K307.trans Kq316 (allS (Or.inr sz_b296) all0)
  have z318 : n0 ≤ T316.heap.size := (Nat.le_trans z308 Kq316.1)
  show own_Go p e below s _ _ _ (T316.setTop (mkF m 47 _ [(.ref b296)]))
  refine g_astore X316 hx 49 (hb hby at_47) rfl (l' := #[.val (.int p0), .val (.int p1), .val (.int p2), .val (.ref b245), .val (.ref b257), .val (.ref b276), .val (.ref b296), .unset, .unset, .unset, .unset, .unset, .unset]) rfl rfl ?_
  refine own_newO X316 hx hZ hown (hw _ (List.mem_of_getElem? (i := 18) rfl)) (hw _ (List.mem_of_getElem? (i := 19) rfl)) (hw _ (List.mem_of_getElem? (i := 20) rfl)) rfl 52 (hb hby at_49) rfl (by decide) (by decide) fun T319 h319 b319 X319 e319 g319 E319 A319 D319 => ?_
  have f320 : Exa Z T316.heap b245 "com/example/entitygate/entitygate/OpenElements" := ((Exa.ext E296 f297).keep Kq316)
  have ne321 : b245 ≠ b319 := Nat.ne_of_lt (Nat.lt_of_lt_of_le f320.lt (Nat.le_of_eq g319.symm))
  have f322 : Arv Z T316.heap ae_253 ke_253 (.object "com/example/entitygate/entitygate/HtmlNode$Element") (64 : Int32) [.null, .null, .null, .null] .null := ((f299.ext E296).keep Kq316 (ninS ne300 nin0))
  have ne323 : ae_253 ≠ b319 := Nat.ne_of_lt (Nat.lt_of_lt_of_le f322.lt (Nat.le_of_eq g319.symm))
  have f324 : Exa Z T316.heap b257 "com/example/entitygate/entitygate/OpenElements" := ((Exa.ext E296 f301).keep Kq316)
  have ne325 : b257 ≠ b319 := Nat.ne_of_lt (Nat.lt_of_lt_of_le f324.lt (Nat.le_of_eq g319.symm))
  have f326 : Arv Z T316.heap ae_268 ke_268 (.object "com/example/entitygate/entitygate/HtmlNode$Element") (64 : Int32) [.null, .null, .null, .null] .null := ((f303.ext E296).keep Kq316 (ninS ne304 nin0))
  have ne327 : ae_268 ≠ b319 := Nat.ne_of_lt (Nat.lt_of_lt_of_le f326.lt (Nat.le_of_eq g319.symm))
  have f328 : Exa Z T316.heap b276 "com/example/entitygate/entitygate/HtmlNode$Element" := ((Exa.ext E296 f305).keep Kq316)
  have ne329 : b276 ≠ b319 := Nat.ne_of_lt (Nat.lt_of_lt_of_le f328.lt (Nat.le_of_eq g319.symm))
  have f330 : Exa Z T316.heap b296 "com/example/entitygate/entitygate/HtmlNode$Element" := (A296.keep Kq316)
  have ne331 : b296 ≠ b319 := Nat.ne_of_lt (Nat.lt_of_lt_of_le f330.lt (Nat.le_of_eq g319.symm))
  have g_b319 : n0 ≤ b319 := Nat.le_trans z318 (Nat.le_of_eq g319.symm)
  have sz_b319 : h0.size ≤ b319 := Nat.le_trans K317.1 (Nat.le_of_eq g319.symm)
  have K332 : Keep h0 h319 [] := K317.ext E319
  have z333 : n0 ≤ h319.size := (Nat.le_trans z318 E319.1)
  have f334 : Fld Z h319 b319 "com/example/entitygate/entitygate/HtmlNode$Element" "name" "Ljava/lang/String;" .null := D319 (Or.inr (hw _ (List.mem_of_getElem? (i := 36) rfl))) (ty := (.object "java/lang/String")) (by decide)
  have f335 : Fld Z h319 b319 "com/example/entitygate/entitygate/HtmlNode$Element" "tag" "Lcom/example/entitygate/entitygate/HtmlTag;" .null := D319 (Or.inr (hw _ (List.mem_of_getElem? (i := 38) rfl))) (ty := (.object "com/example/entitygate/entitygate/HtmlTag")) (by decide)
  have f336 : Fld Z h319 b319 "com/example/entitygate/entitygate/HtmlNode$Element" "namespace" "Lcom/example/entitygate/entitygate/HtmlNode$Namespace;" .null := D319 (Or.inr (hw _ (List.mem_of_getElem? (i := 40) rfl))) (ty := (.object "com/example/entitygate/entitygate/HtmlNode$Namespace")) (by decide)
  have f337 : Fld Z h319 b319 "com/example/entitygate/entitygate/HtmlNode$Element" "attributes" "Lcom/example/entitygate/entitygate/Attributes;" .null := D319 (Or.inr (hw _ (List.mem_of_getElem? (i := 42) rfl))) (ty := (.object "com/example/entitygate/entitygate/Attributes")) (by decide)
  have f338 : Fld Z h319 b319 "com/example/entitygate/entitygate/HtmlNode$Element" "start" "I" (.int (0 : Int32)) := D319 (Or.inr (hw _ (List.mem_of_getElem? (i := 44) rfl))) (ty := .int) (by decide)
  have f339 : Fld Z h319 b319 "com/example/entitygate/entitygate/HtmlNode$Element" "nonceAt" "I" (.int (0 : Int32)) := D319 (Or.inr (hw _ (List.mem_of_getElem? (i := 46) rfl))) (ty := .int) (by decide)
  have f340 : Fld Z h319 b319 "com/example/entitygate/entitygate/HtmlNode$Element" "open" "Z" (.int (0 : Int32)) := D319 (Or.inl (hw _ (List.mem_of_getElem? (i := 54) rfl))) (ty := .boolean) (by decide)
  refine g_dup X319 hx 53 (hb hby at_52) rfl rfl ?_
  refine g_aconst_null X319 hx 54 (hb hby at_53) rfl ?_
  refine g_aconst_null X319 hx 55 (hb hby at_54) rfl ?_
  refine g_aconst_null X319 hx 56 (hb hby at_55) rfl ?_
  refine g_aconst_null X319 hx 57 (hb hby at_56) rfl ?_
  refine g_iconst X319 hx 58 (hb hby at_57) (0 : Int32) rfl rfl ?_
  refine g_iconst X319 hx 59 (hb hby at_58) (0 : Int32) rfl rfl ?_
  refine own_callI X319 hx hZ hown rfl (hw _ (List.mem_of_getElem? (i := 21) rfl)) (hw _ (List.mem_of_getElem? (i := 22) rfl)) (by decide) (rm_init_el l Z a0 hw [] b319 h319 n0 z333 A319 f334 f335 f336 f337 f338 f339 f340 g_b319) (hw _ (List.mem_of_getElem? (i := 23) rfl)) (hw _ (List.mem_of_getElem? (i := 20) rfl)) e319 1 (by decide) (by decide) (by decide) (by decide) b319 [.null, .null, .null, .null, (.int (0 : Int32)), (.int (0 : Int32))] [(.ref b319)] rfl pd_5 rfl 62 rfl (by rw [hml]; rfl) rfl (hb hby at_59) rfl fun T341 v341 L341 X341 hQ341 => ?_
  obtain ⟨rfl, Nq341, Kq341, f341_0, f341_1, f341_2⟩ := hQ341
  have N341 := Fr.app N316 Nq341
  have K342 : Keep h0 T341.heap [] := K332.trans Kq341 (allS (Or.inr sz_b319) all0)
  have z343 : n0 ≤ T341.heap.size := (Nat.le_trans z333 Kq341.1)
  show own_Go p e below s _ _ _ (T341.setTop (mkF m 62 _ [(.ref b319)]))
  refine g_astore X341 hx 64 (hb hby at_62) rfl (l' := #[.val (.int p0), .val (.int p1), .val (.int p2), .val (.ref b245), .val (.ref b257), .val (.ref b276), .val (.ref b296), .val (.ref b319), .unset, .unset, .unset, .unset, .unset]) rfl rfl ?_
  refine g_iload_n X341 hx 65 (hb hby at_64) rfl rfl ?_
  refine g_iconst X341 hx 66 (hb hby at_65) (3 : Int32) rfl rfl ?_
  refine g_iand X341 hx 67 (hb hby at_66) rfl ?_
  obtain ⟨cn, q_cn⟩ : ∃ z, z = (p0 &&& (3 : Int32)) := ⟨_, rfl⟩
  rw [← q_cn]
  refine g_istore X341 hx 69 (hb hby at_67) (l' := #[.val (.int p0), .val (.int p1), .val (.int p2), .val (.ref b245), .val (.ref b257), .val (.ref b276), .val (.ref b296), .val (.ref b319), .val (.int cn), .unset, .unset, .unset, .unset]) rfl rfl ?_
  refine g_iload_n X341 hx 70 (hb hby at_69) rfl rfl ?_
  refine g_ldc X341 hx hown 72 (z := (2147483647 : Int32)) (mvT hZ (hw _ (List.mem_of_getElem? (i := 47) rfl))) (hb hby at_70) rfl ?_
  refine g_iand X341 hx 73 (hb hby at_72) rfl ?_
  refine g_iconst X341 hx 74 (hb hby at_73) (3 : Int32) rfl rfl ?_
  refine g_irem X341 hx 75 (hb hby at_74) rfl (by decide) ?_
  obtain ⟨qx, q_qx⟩ : ∃ z, z = ((p1 &&& (2147483647 : Int32)) % (3 : Int32)) := ⟨_, rfl⟩
  rw [← q_qx]
  refine g_istore X341 hx 77 (hb hby at_75) (l' := #[.val (.int p0), .val (.int p1), .val (.int p2), .val (.ref b245), .val (.ref b257), .val (.ref b276), .val (.ref b296), .val (.ref b319), .val (.int cn), .val (.int qx), .unset, .unset, .unset]) rfl rfl ?_
  rcases own_three p1 q_qx with rfl | rfl | rfl
  · show own_Go p e below s _ _ _ (T341.setTop (mkF m 77 _ []))
    refine g_iload X341 hx 79 (hb hby at_77) rfl rfl ?_
    refine g_ifNo X341 hx 82 (hb hby at_79) (own_i0_ne_f (by decide)) rfl ?_
    refine g_aload X341 hx 84 (hb hby at_82) rfl rfl rfl ?_
    refine g_goto X341 hx 100 (hb hby at_84) (by decide) (by decide) ?_
    refine g_astore X341 hx 102 (hb hby at_100) rfl (l' := #[.val (.int p0), .val (.int p1), .val (.int p2), .val (.ref b245), .val (.ref b257), .val (.ref b276), .val (.ref b296), .val (.ref b319), .val (.int cn), .val (.int (0 : Int32)), .val (.ref b276), .unset, .unset]) rfl rfl ?_
    rcases own_four p0 q_cn with rfl | rfl | rfl | rfl
    · show own_Go p e below s _ _ _ (T341.setTop (mkF m 102 _ []))
      refine g_iload X341 hx 104 (hb hby at_102) rfl rfl ?_
      refine g_iconst X341 hx 105 (hb hby at_104) (1 : Int32) rfl rfl ?_
      refine g_icmpYes X341 hx 114 (hb hby at_105) (own_ii_lt_t (by decide)) (by decide) (by decide) ?_
      refine g_iload X341 hx 116 (hb hby at_114) rfl rfl ?_
      refine g_iconst X341 hx 117 (hb hby at_116) (2 : Int32) rfl rfl ?_
      refine g_icmpYes X341 hx 126 (hb hby at_117) (own_ii_lt_t (by decide)) (by decide) (by decide) ?_
      refine g_iload X341 hx 128 (hb hby at_126) rfl rfl ?_
      refine g_iconst X341 hx 129 (hb hby at_128) (3 : Int32) rfl rfl ?_
      refine g_icmpYes X341 hx 138 (hb hby at_129) (own_ii_lt_t (by decide)) (by decide) (by decide) ?_
      refine g_iload_n X341 hx 139 (hb hby at_138) rfl rfl ?_
      refine g_iconst X341 hx 140 (hb hby at_139) (1 : Int32) rfl rfl ?_
      refine g_iand X341 hx 141 (hb hby at_140) rfl ?_
      by_cases c344 : (p2 &&& (1 : Int32)) = (0 : Int32)
      · refine g_ifYes X341 hx 148 (hb hby at_141) (own_i0_eq_t c344) (by decide) (by decide) ?_
        refine g_iconst X341 hx 149 (hb hby at_148) (0 : Int32) rfl rfl ?_
        refine g_istore X341 hx 151 (hb hby at_149) (l' := #[.val (.int p0), .val (.int p1), .val (.int p2), .val (.ref b245), .val (.ref b257), .val (.ref b276), .val (.ref b296), .val (.ref b319), .val (.int (0 : Int32)), .val (.int (0 : Int32)), .val (.ref b276), .val (.int (0 : Int32)), .unset]) rfl rfl ?_
        refine g_iload X341 hx 153 (hb hby at_151) rfl rfl ?_
        refine g_iload X341 hx 155 (hb hby at_153) rfl rfl ?_
        refine g_icmpNo X341 hx 158 (hb hby at_155) (own_ii_lt_f (by decide)) rfl ?_
        refine g_iload X341 hx 160 (hb hby at_158) rfl rfl ?_
        refine g_ifYes X341 hx 170 (hb hby at_160) (own_i0_eq_t (by decide)) (by decide) (by decide) ?_
        refine g_iload X341 hx 172 (hb hby at_170) rfl rfl ?_
        refine g_iload X341 hx 174 (hb hby at_172) rfl rfl ?_
        refine g_icmpYes X341 hx 182 (hb hby at_174) (own_ii_ge_t (by decide)) (by decide) (by decide) ?_
        refine g_iconst X341 hx 183 (hb hby at_182) (-1 : Int32) rfl rfl ?_
        refine g_istore X341 hx 185 (hb hby at_183) (l' := #[.val (.int p0), .val (.int p1), .val (.int p2), .val (.ref b245), .val (.ref b257), .val (.ref b276), .val (.ref b296), .val (.ref b319), .val (.int (0 : Int32)), .val (.int (0 : Int32)), .val (.ref b276), .val (.int (0 : Int32)), .val (.int (-1 : Int32))]) rfl rfl ?_
        refine g_aload_n X341 hx 186 (hb hby at_185) rfl rfl rfl ?_
        refine g_aload X341 hx 188 (hb hby at_186) rfl rfl rfl ?_
        have f346 : Fld Z T341.heap b276 "com/example/entitygate/entitygate/HtmlNode$Element" "open" "Z" (.int (0 : Int32)) := ((Fld.ext E319 ((Fld.ext E296 f293_2).keep Kq316 (ninS ne306 nin0))).keep Kq341 (ninS ne329 nin0))
        have f347 : Exa Z T341.heap b245 "com/example/entitygate/entitygate/OpenElements" := ((Exa.ext E319 f320).keep Kq341)
        refine own_callV X341 hx hZ hown (hw _ (List.mem_of_getElem? (i := 48) rfl)) (hw _ (List.mem_of_getElem? (i := 49) rfl)) (own_nf hZ (hw _ (List.mem_of_getElem? (i := 51) rfl))) (hw _ (List.mem_of_getElem? (i := 51) rfl)) (hw _ (List.mem_of_getElem? (i := 50) rfl)) (by decide) (rm_ix0closed l Z a0 hw [] b245 b276 T341.heap n0 z343 f346) (hw _ (List.mem_of_getElem? (i := 52) rfl)) (hw _ (List.mem_of_getElem? (i := 2) rfl)) rfl 0 (by decide) (by decide) (by decide) (by decide) f347 [(.ref b276)] [] rfl pd_6 rfl 191 rfl (by rw [hml]; rfl) rfl (hb hby at_188) rfl fun T345 v345 L345 X345 hQ345 => ?_
        obtain ⟨rfl, Nq345, e345⟩ := hQ345
        have N345 := Fr.app N341 Nq345
        show own_Go p e below s _ _ _ (T345.setTop (mkF m 191 _ [(.int (-1 : Int32))]))
        refine g_iload X345 hx 193 (hb hby at_191) rfl rfl ?_
        refine g_icmpNo X345 hx 196 (hb hby at_193) (own_ii_ne_f (by decide)) rfl ?_
        refine g_iconst X345 hx 197 (hb hby at_196) (1 : Int32) rfl rfl ?_
        refine g_goto X345 hx 201 (hb hby at_197) (by decide) (by decide) ?_
        refine own_retN X345 hx hlk (t := .boolean) hret (by simp) (hb hby at_201) ?_ (by decide) (by decide)
        rw [e345]
        exact ⟨rfl, N345⟩
      · refine g_ifNo X341 hx 144 (hb hby at_141) (own_i0_eq_f c344) rfl ?_
        refine g_iconst X341 hx 145 (hb hby at_144) (1 : Int32) rfl rfl ?_
        refine g_goto X341 hx 149 (hb hby at_145) (by decide) (by decide) ?_
        refine g_istore X341 hx 151 (hb hby at_149) (l' := #[.val (.int p0), .val (.int p1), .val (.int p2), .val (.ref b245), .val (.ref b257), .val (.ref b276), .val (.ref b296), .val (.ref b319), .val (.int (0 : Int32)), .val (.int (0 : Int32)), .val (.ref b276), .val (.int (1 : Int32)), .unset]) rfl rfl ?_
        refine g_iload X341 hx 153 (hb hby at_151) rfl rfl ?_
        refine g_iload X341 hx 155 (hb hby at_153) rfl rfl ?_
        refine g_icmpNo X341 hx 158 (hb hby at_155) (own_ii_lt_f (by decide)) rfl ?_
        refine g_iload X341 hx 160 (hb hby at_158) rfl rfl ?_
        refine g_ifNo X341 hx 163 (hb hby at_160) (own_i0_eq_f (by decide)) rfl ?_
        refine g_aload X341 hx 165 (hb hby at_163) rfl rfl rfl ?_
        refine g_aload X341 hx 167 (hb hby at_165) rfl rfl rfl ?_
        have f349 : Exa Z T341.heap b257 "com/example/entitygate/entitygate/OpenElements" := ((Exa.ext E319 f324).keep Kq341)
        have f350 : Exa Z T341.heap b276 "com/example/entitygate/entitygate/HtmlNode$Element" := ((Exa.ext E319 f328).keep Kq341)
        have f351 : Fld Z T341.heap b257 "com/example/entitygate/entitygate/OpenElements" "elements" "[Lcom/example/entitygate/entitygate/HtmlNode$Element;" (.ref ae_268) := ((Fld.ext E319 ((Fld.ext E296 ((Fld.ext E276 f268_0).keep Kq293 (ninS ne282 nin0))).keep Kq316 (ninS ne302 nin0))).keep Kq341 (ninS ne325 nin0))
        have f352 : Fld Z T341.heap b257 "com/example/entitygate/entitygate/OpenElements" "size" "I" (.int (0 : Int32)) := ((Fld.ext E319 ((Fld.ext E296 ((Fld.ext E276 f268_1).keep Kq293 (ninS ne282 nin0))).keep Kq316 (ninS ne302 nin0))).keep Kq341 (ninS ne325 nin0))
        have f353 : Fld Z T341.heap b257 "com/example/entitygate/entitygate/OpenElements" "landmarkCount" "I" (.int (0 : Int32)) := ((Fld.ext E319 ((Fld.ext E296 ((Fld.ext E276 f268_2).keep Kq293 (ninS ne282 nin0))).keep Kq316 (ninS ne302 nin0))).keep Kq341 (ninS ne325 nin0))
        have f354 : Fld Z T341.heap b276 "com/example/entitygate/entitygate/HtmlNode$Element" "tag" "Lcom/example/entitygate/entitygate/HtmlTag;" .null := ((Fld.ext E319 ((Fld.ext E296 f293_0).keep Kq316 (ninS ne306 nin0))).keep Kq341 (ninS ne329 nin0))
        have f355 : Fld Z T341.heap b276 "com/example/entitygate/entitygate/HtmlNode$Element" "namespace" "Lcom/example/entitygate/entitygate/HtmlNode$Namespace;" .null := ((Fld.ext E319 ((Fld.ext E296 f293_1).keep Kq316 (ninS ne306 nin0))).keep Kq341 (ninS ne329 nin0))
        have f356 : Fld Z T341.heap b276 "com/example/entitygate/entitygate/HtmlNode$Element" "open" "Z" (.int (0 : Int32)) := ((Fld.ext E319 ((Fld.ext E296 f293_2).keep Kq316 (ninS ne306 nin0))).keep Kq341 (ninS ne329 nin0))
        have f357 : Arv Z T341.heap ae_268 ke_268 (.object "com/example/entitygate/entitygate/HtmlNode$Element") (64 : Int32) [.null, .null, .null, .null] .null := ((f326.ext E319).keep Kq341 (ninS ne327 nin0))
        have f358 : Sta Z T341.heap "com/example/entitygate/entitygate/HtmlNode$Namespace" "HTML" "Lcom/example/entitygate/entitygate/HtmlNode$Namespace;" (.ref ht) := (own_Sta_keep K342 S_ht all0)
        refine own_callV X341 hx hZ hown (hw _ (List.mem_of_getElem? (i := 55) rfl)) (hw _ (List.mem_of_getElem? (i := 56) rfl)) (own_nf hZ (hw _ (List.mem_of_getElem? (i := 58) rfl))) (hw _ (List.mem_of_getElem? (i := 58) rfl)) (hw _ (List.mem_of_getElem? (i := 57) rfl)) (by decide) (rm_push0 l Z a0 hw [] b257 b276 ae_268 ke_268 ht T341.heap n0 z343 f349 f350 f351 f352 f353 f354 f355 f356 f357 o268_0 f358 ne282 ne273 (Ne.symm ne283) g_b257 g_b276 g_ae_268) (hw _ (List.mem_of_getElem? (i := 59) rfl)) (hw _ (List.mem_of_getElem? (i := 2) rfl)) rfl 0 (by decide) (by decide) (by decide) (by decide) f349 [(.ref b276)] [] rfl pd_7 rfl 170 rfl (by rw [hml]; rfl) rfl (hb hby at_167) rfl fun T348 v348 L348 X348 hQ348 => ?_
        obtain ⟨rfl, Nq348, Kq348, f348_0, f348_1, f348_2, f348_3, v348_0⟩ := hQ348
        have N348 := Fr.app N341 Nq348
        have K359 : Keep h0 T348.heap [] := K342.trans Kq348 (allS (Or.inr sz_b257) (allS (Or.inr sz_b276) (allS (Or.inr sq_ae_268) all0)))
        have z360 : n0 ≤ T348.heap.size := (Nat.le_trans z343 Kq348.1)
        show own_Go p e below s _ _ _ (T348.setTop (mkF m 170 _ []))
        refine g_iload X348 hx 172 (hb hby at_170) rfl rfl ?_
        refine g_iload X348 hx 174 (hb hby at_172) rfl rfl ?_
        refine g_icmpYes X348 hx 182 (hb hby at_174) (own_ii_ge_t (by decide)) (by decide) (by decide) ?_
        refine g_iconst X348 hx 183 (hb hby at_182) (-1 : Int32) rfl rfl ?_
        refine g_istore X348 hx 185 (hb hby at_183) (l' := #[.val (.int p0), .val (.int p1), .val (.int p2), .val (.ref b245), .val (.ref b257), .val (.ref b276), .val (.ref b296), .val (.ref b319), .val (.int (0 : Int32)), .val (.int (0 : Int32)), .val (.ref b276), .val (.int (1 : Int32)), .val (.int (-1 : Int32))]) rfl rfl ?_
        refine g_aload_n X348 hx 186 (hb hby at_185) rfl rfl rfl ?_
        refine g_aload X348 hx 188 (hb hby at_186) rfl rfl rfl ?_
        have f362 : Fld Z T348.heap b245 "com/example/entitygate/entitygate/OpenElements" "elements" "[Lcom/example/entitygate/entitygate/HtmlNode$Element;" (.ref ae_253) := (((Fld.ext E319 ((Fld.ext E296 ((Fld.ext E276 ((Fld.ext E257 f253_0).keep Kq268 (ninS ne259 nin0))).keep Kq293 (ninS ne278 nin0))).keep Kq316 (ninS ne298 nin0))).keep Kq341 (ninS ne321 nin0)).keep Kq348 (ninS ne259 (ninS ne278 (ninS ne270 nin0))))
        have f363 : Fld Z T348.heap b245 "com/example/entitygate/entitygate/OpenElements" "size" "I" (.int (0 : Int32)) := (((Fld.ext E319 ((Fld.ext E296 ((Fld.ext E276 ((Fld.ext E257 f253_1).keep Kq268 (ninS ne259 nin0))).keep Kq293 (ninS ne278 nin0))).keep Kq316 (ninS ne298 nin0))).keep Kq341 (ninS ne321 nin0)).keep Kq348 (ninS ne259 (ninS ne278 (ninS ne270 nin0))))
        have f364 : Arv Z T348.heap ae_253 ke_253 (.object "com/example/entitygate/entitygate/HtmlNode$Element") (64 : Int32) [.null, .null, .null, .null] .null := (((f322.ext E319).keep Kq341 (ninS ne323 nin0)).keep Kq348 (ninS ne260 (ninS ne280 (ninS ne272 nin0))))
        have f365 : Exa Z T348.heap b245 "com/example/entitygate/entitygate/OpenElements" := (((Exa.ext E319 f320).keep Kq341).keep Kq348)
        refine own_callV X348 hx hZ hown (hw _ (List.mem_of_getElem? (i := 48) rfl)) (hw _ (List.mem_of_getElem? (i := 49) rfl)) (own_nf hZ (hw _ (List.mem_of_getElem? (i := 51) rfl))) (hw _ (List.mem_of_getElem? (i := 51) rfl)) (hw _ (List.mem_of_getElem? (i := 50) rfl)) (by decide) (rm_ix0open l Z a0 hw [] b245 ae_253 ke_253 b276 T348.heap n0 z360 f348_3 f362 f363 f364 o253_0) (hw _ (List.mem_of_getElem? (i := 52) rfl)) (hw _ (List.mem_of_getElem? (i := 2) rfl)) rfl 0 (by decide) (by decide) (by decide) (by decide) f365 [(.ref b276)] [] rfl pd_6 rfl 191 rfl (by rw [hml]; rfl) rfl (hb hby at_188) rfl fun T361 v361 L361 X361 hQ361 => ?_
        obtain ⟨rfl, Nq361, e361⟩ := hQ361
        have N361 := Fr.app N348 Nq361
        show own_Go p e below s _ _ _ (T361.setTop (mkF m 191 _ [(.int (-1 : Int32))]))
        refine g_iload X361 hx 193 (hb hby at_191) rfl rfl ?_
        refine g_icmpNo X361 hx 196 (hb hby at_193) (own_ii_ne_f (by decide)) rfl ?_
        refine g_iconst X361 hx 197 (hb hby at_196) (1 : Int32) rfl rfl ?_
        refine g_goto X361 hx 201 (hb hby at_197) (by decide) (by decide) ?_
        refine own_retN X361 hx hlk (t := .boolean) hret (by simp) (hb hby at_201) ?_ (by decide) (by decide)
        rw [e361]
        exact ⟨rfl, N361⟩
    · show own_Go p e below s _ _ _ (T341.setTop (mkF m 102 _ []))
      refine g_iload X341 hx 104 (hb hby at_102) rfl rfl ?_
      refine g_iconst X341 hx 105 (hb hby at_104) (1 : Int32) rfl rfl ?_
      refine g_icmpNo X341 hx 108 (hb hby at_105) (own_ii_lt_f (by decide)) rfl ?_
      refine g_aload_n X341 hx 109 (hb hby at_108) rfl rfl rfl ?_
      refine g_aload X341 hx 111 (hb hby at_109) rfl rfl rfl ?_
      have f367 : Exa Z T341.heap b245 "com/example/entitygate/entitygate/OpenElements" := ((Exa.ext E319 f320).keep Kq341)
      have f368 : Exa Z T341.heap b276 "com/example/entitygate/entitygate/HtmlNode$Element" := ((Exa.ext E319 f328).keep Kq341)
      have f369 : Fld Z T341.heap b245 "com/example/entitygate/entitygate/OpenElements" "elements" "[Lcom/example/entitygate/entitygate/HtmlNode$Element;" (.ref ae_253) := ((Fld.ext E319 ((Fld.ext E296 ((Fld.ext E276 ((Fld.ext E257 f253_0).keep Kq268 (ninS ne259 nin0))).keep Kq293 (ninS ne278 nin0))).keep Kq316 (ninS ne298 nin0))).keep Kq341 (ninS ne321 nin0))
      have f370 : Fld Z T341.heap b245 "com/example/entitygate/entitygate/OpenElements" "size" "I" (.int (0 : Int32)) := ((Fld.ext E319 ((Fld.ext E296 ((Fld.ext E276 ((Fld.ext E257 f253_1).keep Kq268 (ninS ne259 nin0))).keep Kq293 (ninS ne278 nin0))).keep Kq316 (ninS ne298 nin0))).keep Kq341 (ninS ne321 nin0))
      have f371 : Fld Z T341.heap b245 "com/example/entitygate/entitygate/OpenElements" "landmarkCount" "I" (.int (0 : Int32)) := ((Fld.ext E319 ((Fld.ext E296 ((Fld.ext E276 ((Fld.ext E257 f253_2).keep Kq268 (ninS ne259 nin0))).keep Kq293 (ninS ne278 nin0))).keep Kq316 (ninS ne298 nin0))).keep Kq341 (ninS ne321 nin0))
      have f372 : Fld Z T341.heap b276 "com/example/entitygate/entitygate/HtmlNode$Element" "tag" "Lcom/example/entitygate/entitygate/HtmlTag;" .null := ((Fld.ext E319 ((Fld.ext E296 f293_0).keep Kq316 (ninS ne306 nin0))).keep Kq341 (ninS ne329 nin0))
      have f373 : Fld Z T341.heap b276 "com/example/entitygate/entitygate/HtmlNode$Element" "namespace" "Lcom/example/entitygate/entitygate/HtmlNode$Namespace;" .null := ((Fld.ext E319 ((Fld.ext E296 f293_1).keep Kq316 (ninS ne306 nin0))).keep Kq341 (ninS ne329 nin0))
      have f374 : Fld Z T341.heap b276 "com/example/entitygate/entitygate/HtmlNode$Element" "open" "Z" (.int (0 : Int32)) := ((Fld.ext E319 ((Fld.ext E296 f293_2).keep Kq316 (ninS ne306 nin0))).keep Kq341 (ninS ne329 nin0))
      have f375 : Arv Z T341.heap ae_253 ke_253 (.object "com/example/entitygate/entitygate/HtmlNode$Element") (64 : Int32) [.null, .null, .null, .null] .null := ((f322.ext E319).keep Kq341 (ninS ne323 nin0))
      have f376 : Sta Z T341.heap "com/example/entitygate/entitygate/HtmlNode$Namespace" "HTML" "Lcom/example/entitygate/entitygate/HtmlNode$Namespace;" (.ref ht) := (own_Sta_keep K342 S_ht all0)
      refine own_callV X341 hx hZ hown (hw _ (List.mem_of_getElem? (i := 55) rfl)) (hw _ (List.mem_of_getElem? (i := 56) rfl)) (own_nf hZ (hw _ (List.mem_of_getElem? (i := 58) rfl))) (hw _ (List.mem_of_getElem? (i := 58) rfl)) (hw _ (List.mem_of_getElem? (i := 57) rfl)) (by decide) (rm_push0 l Z a0 hw [] b245 b276 ae_253 ke_253 ht T341.heap n0 z343 f367 f368 f369 f370 f371 f372 f373 f374 f375 o253_0 f376 ne278 ne254 (Ne.symm ne280) g_b245 g_b276 g_ae_253) (hw _ (List.mem_of_getElem? (i := 59) rfl)) (hw _ (List.mem_of_getElem? (i := 2) rfl)) rfl 0 (by decide) (by decide) (by decide) (by decide) f367 [(.ref b276)] [] rfl pd_7 rfl 114 rfl (by rw [hml]; rfl) rfl (hb hby at_111) rfl fun T366 v366 L366 X366 hQ366 => ?_
      obtain ⟨rfl, Nq366, Kq366, f366_0, f366_1, f366_2, f366_3, v366_0⟩ := hQ366
      have N366 := Fr.app N341 Nq366
      have K377 : Keep h0 T366.heap [] := K342.trans Kq366 (allS (Or.inr sz_b245) (allS (Or.inr sz_b276) (allS (Or.inr sq_ae_253) all0)))
      have z378 : n0 ≤ T366.heap.size := (Nat.le_trans z343 Kq366.1)
      show own_Go p e below s _ _ _ (T366.setTop (mkF m 114 _ []))
      refine g_iload X366 hx 116 (hb hby at_114) rfl rfl ?_
      refine g_iconst X366 hx 117 (hb hby at_116) (2 : Int32) rfl rfl ?_
      refine g_icmpYes X366 hx 126 (hb hby at_117) (own_ii_lt_t (by decide)) (by decide) (by decide) ?_
      refine g_iload X366 hx 128 (hb hby at_126) rfl rfl ?_
      refine g_iconst X366 hx 129 (hb hby at_128) (3 : Int32) rfl rfl ?_
      refine g_icmpYes X366 hx 138 (hb hby at_129) (own_ii_lt_t (by decide)) (by decide) (by decide) ?_
      refine g_iload_n X366 hx 139 (hb hby at_138) rfl rfl ?_
      refine g_iconst X366 hx 140 (hb hby at_139) (1 : Int32) rfl rfl ?_
      refine g_iand X366 hx 141 (hb hby at_140) rfl ?_
      by_cases c379 : (p2 &&& (1 : Int32)) = (0 : Int32)
      · refine g_ifYes X366 hx 148 (hb hby at_141) (own_i0_eq_t c379) (by decide) (by decide) ?_
        refine g_iconst X366 hx 149 (hb hby at_148) (0 : Int32) rfl rfl ?_
        refine g_istore X366 hx 151 (hb hby at_149) (l' := #[.val (.int p0), .val (.int p1), .val (.int p2), .val (.ref b245), .val (.ref b257), .val (.ref b276), .val (.ref b296), .val (.ref b319), .val (.int (1 : Int32)), .val (.int (0 : Int32)), .val (.ref b276), .val (.int (0 : Int32)), .unset]) rfl rfl ?_
        refine g_iload X366 hx 153 (hb hby at_151) rfl rfl ?_
        refine g_iload X366 hx 155 (hb hby at_153) rfl rfl ?_
        refine g_icmpYes X366 hx 170 (hb hby at_155) (own_ii_lt_t (by decide)) (by decide) (by decide) ?_
        refine g_iload X366 hx 172 (hb hby at_170) rfl rfl ?_
        refine g_iload X366 hx 174 (hb hby at_172) rfl rfl ?_
        refine g_icmpNo X366 hx 177 (hb hby at_174) (own_ii_ge_f (by decide)) rfl ?_
        refine g_iload X366 hx 179 (hb hby at_177) rfl rfl ?_
        refine g_goto X366 hx 183 (hb hby at_179) (by decide) (by decide) ?_
        refine g_istore X366 hx 185 (hb hby at_183) (l' := #[.val (.int p0), .val (.int p1), .val (.int p2), .val (.ref b245), .val (.ref b257), .val (.ref b276), .val (.ref b296), .val (.ref b319), .val (.int (1 : Int32)), .val (.int (0 : Int32)), .val (.ref b276), .val (.int (0 : Int32)), .val (.int (0 : Int32))]) rfl rfl ?_
        refine g_aload_n X366 hx 186 (hb hby at_185) rfl rfl rfl ?_
        refine g_aload X366 hx 188 (hb hby at_186) rfl rfl rfl ?_
        have f381 : Exa Z T366.heap b245 "com/example/entitygate/entitygate/OpenElements" := (f367.keep Kq366)
        refine own_callV X366 hx hZ hown (hw _ (List.mem_of_getElem? (i := 48) rfl)) (hw _ (List.mem_of_getElem? (i := 49) rfl)) (own_nf hZ (hw _ (List.mem_of_getElem? (i := 51) rfl))) (hw _ (List.mem_of_getElem? (i := 51) rfl)) (hw _ (List.mem_of_getElem? (i := 50) rfl)) (by decide) (rm_ix10 l Z a0 hw [] b245 ae_253 ke_253 b276 T366.heap n0 z378 f366_3 f366_0 f366_1 v366_0 o253_0) (hw _ (List.mem_of_getElem? (i := 52) rfl)) (hw _ (List.mem_of_getElem? (i := 2) rfl)) rfl 0 (by decide) (by decide) (by decide) (by decide) f381 [(.ref b276)] [] rfl pd_6 rfl 191 rfl (by rw [hml]; rfl) rfl (hb hby at_188) rfl fun T380 v380 L380 X380 hQ380 => ?_
        obtain ⟨rfl, Nq380, e380⟩ := hQ380
        have N380 := Fr.app N366 Nq380
        show own_Go p e below s _ _ _ (T380.setTop (mkF m 191 _ [(.int (0 : Int32))]))
        refine g_iload X380 hx 193 (hb hby at_191) rfl rfl ?_
        refine g_icmpNo X380 hx 196 (hb hby at_193) (own_ii_ne_f (by decide)) rfl ?_
        refine g_iconst X380 hx 197 (hb hby at_196) (1 : Int32) rfl rfl ?_
        refine g_goto X380 hx 201 (hb hby at_197) (by decide) (by decide) ?_
        refine own_retN X380 hx hlk (t := .boolean) hret (by simp) (hb hby at_201) ?_ (by decide) (by decide)
        rw [e380]
        exact ⟨rfl, N380⟩
      · refine g_ifNo X366 hx 144 (hb hby at_141) (own_i0_eq_f c379) rfl ?_
        refine g_iconst X366 hx 145 (hb hby at_144) (1 : Int32) rfl rfl ?_
        refine g_goto X366 hx 149 (hb hby at_145) (by decide) (by decide) ?_
        refine g_istore X366 hx 151 (hb hby at_149) (l' := #[.val (.int p0), .val (.int p1), .val (.int p2), .val (.ref b245), .val (.ref b257), .val (.ref b276), .val (.ref b296), .val (.ref b319), .val (.int (1 : Int32)), .val (.int (0 : Int32)), .val (.ref b276), .val (.int (1 : Int32)), .unset]) rfl rfl ?_
        refine g_iload X366 hx 153 (hb hby at_151) rfl rfl ?_
        refine g_iload X366 hx 155 (hb hby at_153) rfl rfl ?_
        refine g_icmpYes X366 hx 170 (hb hby at_155) (own_ii_lt_t (by decide)) (by decide) (by decide) ?_
        refine g_iload X366 hx 172 (hb hby at_170) rfl rfl ?_
        refine g_iload X366 hx 174 (hb hby at_172) rfl rfl ?_
        refine g_icmpNo X366 hx 177 (hb hby at_174) (own_ii_ge_f (by decide)) rfl ?_
        refine g_iload X366 hx 179 (hb hby at_177) rfl rfl ?_
        refine g_goto X366 hx 183 (hb hby at_179) (by decide) (by decide) ?_
        refine g_istore X366 hx 185 (hb hby at_183) (l' := #[.val (.int p0), .val (.int p1), .val (.int p2), .val (.ref b245), .val (.ref b257), .val (.ref b276), .val (.ref b296), .val (.ref b319), .val (.int (1 : Int32)), .val (.int (0 : Int32)), .val (.ref b276), .val (.int (1 : Int32)), .val (.int (0 : Int32))]) rfl rfl ?_
        refine g_aload_n X366 hx 186 (hb hby at_185) rfl rfl rfl ?_
        refine g_aload X366 hx 188 (hb hby at_186) rfl rfl rfl ?_
        have f383 : Exa Z T366.heap b245 "com/example/entitygate/entitygate/OpenElements" := (f367.keep Kq366)
        refine own_callV X366 hx hZ hown (hw _ (List.mem_of_getElem? (i := 48) rfl)) (hw _ (List.mem_of_getElem? (i := 49) rfl)) (own_nf hZ (hw _ (List.mem_of_getElem? (i := 51) rfl))) (hw _ (List.mem_of_getElem? (i := 51) rfl)) (hw _ (List.mem_of_getElem? (i := 50) rfl)) (by decide) (rm_ix10 l Z a0 hw [] b245 ae_253 ke_253 b276 T366.heap n0 z378 f366_3 f366_0 f366_1 v366_0 o253_0) (hw _ (List.mem_of_getElem? (i := 52) rfl)) (hw _ (List.mem_of_getElem? (i := 2) rfl)) rfl 0 (by decide) (by decide) (by decide) (by decide) f383 [(.ref b276)] [] rfl pd_6 rfl 191 rfl (by rw [hml]; rfl) rfl (hb hby at_188) rfl fun T382 v382 L382 X382 hQ382 => ?_
        obtain ⟨rfl, Nq382, e382⟩ := hQ382
        have N382 := Fr.app N366 Nq382
        show own_Go p e below s _ _ _ (T382.setTop (mkF m 191 _ [(.int (0 : Int32))]))
        refine g_iload X382 hx 193 (hb hby at_191) rfl rfl ?_
        refine g_icmpNo X382 hx 196 (hb hby at_193) (own_ii_ne_f (by decide)) rfl ?_
        refine g_iconst X382 hx 197 (hb hby at_196) (1 : Int32) rfl rfl ?_
        refine g_goto X382 hx 201 (hb hby at_197) (by decide) (by decide) ?_
        refine own_retN X382 hx hlk (t := .boolean) hret (by simp) (hb hby at_201) ?_ (by decide) (by decide)
        rw [e382]
        exact ⟨rfl, N382⟩
    · show own_Go p e below s _ _ _ (T341.setTop (mkF m 102 _ []))
      refine g_iload X341 hx 104 (hb hby at_102) rfl rfl ?_
      refine g_iconst X341 hx 105 (hb hby at_104) (1 : Int32) rfl rfl ?_
      refine g_icmpNo X341 hx 108 (hb hby at_105) (own_ii_lt_f (by decide)) rfl ?_
      refine g_aload_n X341 hx 109 (hb hby at_108) rfl rfl rfl ?_
      refine g_aload X341 hx 111 (hb hby at_109) rfl rfl rfl ?_
      have f385 : Exa Z T341.heap b245 "com/example/entitygate/entitygate/OpenElements" := ((Exa.ext E319 f320).keep Kq341)
      have f386 : Exa Z T341.heap b276 "com/example/entitygate/entitygate/HtmlNode$Element" := ((Exa.ext E319 f328).keep Kq341)
      have f387 : Fld Z T341.heap b245 "com/example/entitygate/entitygate/OpenElements" "elements" "[Lcom/example/entitygate/entitygate/HtmlNode$Element;" (.ref ae_253) := ((Fld.ext E319 ((Fld.ext E296 ((Fld.ext E276 ((Fld.ext E257 f253_0).keep Kq268 (ninS ne259 nin0))).keep Kq293 (ninS ne278 nin0))).keep Kq316 (ninS ne298 nin0))).keep Kq341 (ninS ne321 nin0))
      have f388 : Fld Z T341.heap b245 "com/example/entitygate/entitygate/OpenElements" "size" "I" (.int (0 : Int32)) := ((Fld.ext E319 ((Fld.ext E296 ((Fld.ext E276 ((Fld.ext E257 f253_1).keep Kq268 (ninS ne259 nin0))).keep Kq293 (ninS ne278 nin0))).keep Kq316 (ninS ne298 nin0))).keep Kq341 (ninS ne321 nin0))
      have f389 : Fld Z T341.heap b245 "com/example/entitygate/entitygate/OpenElements" "landmarkCount" "I" (.int (0 : Int32)) := ((Fld.ext E319 ((Fld.ext E296 ((Fld.ext E276 ((Fld.ext E257 f253_2).keep Kq268 (ninS ne259 nin0))).keep Kq293 (ninS ne278 nin0))).keep Kq316 (ninS ne298 nin0))).keep Kq341 (ninS ne321 nin0))
      have f390 : Fld Z T341.heap b276 "com/example/entitygate/entitygate/HtmlNode$Element" "tag" "Lcom/example/entitygate/entitygate/HtmlTag;" .null := ((Fld.ext E319 ((Fld.ext E296 f293_0).keep Kq316 (ninS ne306 nin0))).keep Kq341 (ninS ne329 nin0))
      have f391 : Fld Z T341.heap b276 "com/example/entitygate/entitygate/HtmlNode$Element" "namespace" "Lcom/example/entitygate/entitygate/HtmlNode$Namespace;" .null := ((Fld.ext E319 ((Fld.ext E296 f293_1).keep Kq316 (ninS ne306 nin0))).keep Kq341 (ninS ne329 nin0))
      have f392 : Fld Z T341.heap b276 "com/example/entitygate/entitygate/HtmlNode$Element" "open" "Z" (.int (0 : Int32)) := ((Fld.ext E319 ((Fld.ext E296 f293_2).keep Kq316 (ninS ne306 nin0))).keep Kq341 (ninS ne329 nin0))
      have f393 : Arv Z T341.heap ae_253 ke_253 (.object "com/example/entitygate/entitygate/HtmlNode$Element") (64 : Int32) [.null, .null, .null, .null] .null := ((f322.ext E319).keep Kq341 (ninS ne323 nin0))
      have f394 : Sta Z T341.heap "com/example/entitygate/entitygate/HtmlNode$Namespace" "HTML" "Lcom/example/entitygate/entitygate/HtmlNode$Namespace;" (.ref ht) := (own_Sta_keep K342 S_ht all0)
      refine own_callV X341 hx hZ hown (hw _ (List.mem_of_getElem? (i := 55) rfl)) (hw _ (List.mem_of_getElem? (i := 56) rfl)) (own_nf hZ (hw _ (List.mem_of_getElem? (i := 58) rfl))) (hw _ (List.mem_of_getElem? (i := 58) rfl)) (hw _ (List.mem_of_getElem? (i := 57) rfl)) (by decide) (rm_push0 l Z a0 hw [] b245 b276 ae_253 ke_253 ht T341.heap n0 z343 f385 f386 f387 f388 f389 f390 f391 f392 f393 o253_0 f394 ne278 ne254 (Ne.symm ne280) g_b245 g_b276 g_ae_253) (hw _ (List.mem_of_getElem? (i := 59) rfl)) (hw _ (List.mem_of_getElem? (i := 2) rfl)) rfl 0 (by decide) (by decide) (by decide) (by decide) f385 [(.ref b276)] [] rfl pd_7 rfl 114 rfl (by rw [hml]; rfl) rfl (hb hby at_111) rfl fun T384 v384 L384 X384 hQ384 => ?_
      obtain ⟨rfl, Nq384, Kq384, f384_0, f384_1, f384_2, f384_3, v384_0⟩ := hQ384
      have N384 := Fr.app N341 Nq384
      have K395 : Keep h0 T384.heap [] := K342.trans Kq384 (allS (Or.inr sz_b245) (allS (Or.inr sz_b276) (allS (Or.inr sq_ae_253) all0)))
      have z396 : n0 ≤ T384.heap.size := (Nat.le_trans z343 Kq384.1)
      show own_Go p e below s _ _ _ (T384.setTop (mkF m 114 _ []))
      refine g_iload X384 hx 116 (hb hby at_114) rfl rfl ?_
      refine g_iconst X384 hx 117 (hb hby at_116) (2 : Int32) rfl rfl ?_
      refine g_icmpNo X384 hx 120 (hb hby at_117) (own_ii_lt_f (by decide)) rfl ?_
      refine g_aload_n X384 hx 121 (hb hby at_120) rfl rfl rfl ?_
      refine g_aload X384 hx 123 (hb hby at_121) rfl rfl rfl ?_
      have f398 : Exa Z T384.heap b245 "com/example/entitygate/entitygate/OpenElements" := (f385.keep Kq384)
      have f399 : Exa Z T384.heap b296 "com/example/entitygate/entitygate/HtmlNode$Element" := (((Exa.ext E319 f330).keep Kq341).keep Kq384)
      have f400 : Fld Z T384.heap b296 "com/example/entitygate/entitygate/HtmlNode$Element" "tag" "Lcom/example/entitygate/entitygate/HtmlTag;" .null := (((Fld.ext E319 f316_0).keep Kq341 (ninS ne331 nin0)).keep Kq384 (ninS (Ne.symm ne298) (ninS (Ne.symm ne306) (ninS (Ne.symm ne300) nin0))))
      have f401 : Fld Z T384.heap b296 "com/example/entitygate/entitygate/HtmlNode$Element" "namespace" "Lcom/example/entitygate/entitygate/HtmlNode$Namespace;" .null := (((Fld.ext E319 f316_1).keep Kq341 (ninS ne331 nin0)).keep Kq384 (ninS (Ne.symm ne298) (ninS (Ne.symm ne306) (ninS (Ne.symm ne300) nin0))))
      have f402 : Fld Z T384.heap b296 "com/example/entitygate/entitygate/HtmlNode$Element" "open" "Z" (.int (0 : Int32)) := (((Fld.ext E319 f316_2).keep Kq341 (ninS ne331 nin0)).keep Kq384 (ninS (Ne.symm ne298) (ninS (Ne.symm ne306) (ninS (Ne.symm ne300) nin0))))
      have f403 : Sta Z T384.heap "com/example/entitygate/entitygate/HtmlNode$Namespace" "HTML" "Lcom/example/entitygate/entitygate/HtmlNode$Namespace;" (.ref ht) := (own_Sta_keep Kq384 f394 (allS (own_plainE f385) (allS (own_plainE f386) (allS (own_plainA f393) all0))))
      refine own_callV X384 hx hZ hown (hw _ (List.mem_of_getElem? (i := 55) rfl)) (hw _ (List.mem_of_getElem? (i := 56) rfl)) (own_nf hZ (hw _ (List.mem_of_getElem? (i := 58) rfl))) (hw _ (List.mem_of_getElem? (i := 58) rfl)) (hw _ (List.mem_of_getElem? (i := 57) rfl)) (by decide) (rm_push1 l Z a0 hw [] b245 b296 ae_253 ke_253 ht b276 T384.heap n0 z396 f398 f399 f384_0 f384_1 f384_2 f400 f401 f402 v384_0 o253_0 f403 ne298 ne254 (Ne.symm ne300) g_b245 g_b296 g_ae_253) (hw _ (List.mem_of_getElem? (i := 59) rfl)) (hw _ (List.mem_of_getElem? (i := 2) rfl)) rfl 0 (by decide) (by decide) (by decide) (by decide) f398 [(.ref b296)] [] rfl pd_7 rfl 126 rfl (by rw [hml]; rfl) rfl (hb hby at_123) rfl fun T397 v397 L397 X397 hQ397 => ?_
      obtain ⟨rfl, Nq397, Kq397, f397_0, f397_1, f397_2, f397_3, v397_0⟩ := hQ397
      have N397 := Fr.app N384 Nq397
      have K404 : Keep h0 T397.heap [] := K395.trans Kq397 (allS (Or.inr sz_b245) (allS (Or.inr sz_b296) (allS (Or.inr sq_ae_253) all0)))
      have z405 : n0 ≤ T397.heap.size := (Nat.le_trans z396 Kq397.1)
      show own_Go p e below s _ _ _ (T397.setTop (mkF m 126 _ []))
      refine g_iload X397 hx 128 (hb hby at_126) rfl rfl ?_
      refine g_iconst X397 hx 129 (hb hby at_128) (3 : Int32) rfl rfl ?_
      refine g_icmpYes X397 hx 138 (hb hby at_129) (own_ii_lt_t (by decide)) (by decide) (by decide) ?_
      refine g_iload_n X397 hx 139 (hb hby at_138) rfl rfl ?_
      refine g_iconst X397 hx 140 (hb hby at_139) (1 : Int32) rfl rfl ?_
      refine g_iand X397 hx 141 (hb hby at_140) rfl ?_
      by_cases c406 : (p2 &&& (1 : Int32)) = (0 : Int32)
      · refine g_ifYes X397 hx 148 (hb hby at_141) (own_i0_eq_t c406) (by decide) (by decide) ?_
        refine g_iconst X397 hx 149 (hb hby at_148) (0 : Int32) rfl rfl ?_
        refine g_istore X397 hx 151 (hb hby at_149) (l' := #[.val (.int p0), .val (.int p1), .val (.int p2), .val (.ref b245), .val (.ref b257), .val (.ref b276), .val (.ref b296), .val (.ref b319), .val (.int (2 : Int32)), .val (.int (0 : Int32)), .val (.ref b276), .val (.int (0 : Int32)), .unset]) rfl rfl ?_
        refine g_iload X397 hx 153 (hb hby at_151) rfl rfl ?_
        refine g_iload X397 hx 155 (hb hby at_153) rfl rfl ?_
        refine g_icmpYes X397 hx 170 (hb hby at_155) (own_ii_lt_t (by decide)) (by decide) (by decide) ?_
        refine g_iload X397 hx 172 (hb hby at_170) rfl rfl ?_
        refine g_iload X397 hx 174 (hb hby at_172) rfl rfl ?_
        refine g_icmpNo X397 hx 177 (hb hby at_174) (own_ii_ge_f (by decide)) rfl ?_
        refine g_iload X397 hx 179 (hb hby at_177) rfl rfl ?_
        refine g_goto X397 hx 183 (hb hby at_179) (by decide) (by decide) ?_
        refine g_istore X397 hx 185 (hb hby at_183) (l' := #[.val (.int p0), .val (.int p1), .val (.int p2), .val (.ref b245), .val (.ref b257), .val (.ref b276), .val (.ref b296), .val (.ref b319), .val (.int (2 : Int32)), .val (.int (0 : Int32)), .val (.ref b276), .val (.int (0 : Int32)), .val (.int (0 : Int32))]) rfl rfl ?_
        refine g_aload_n X397 hx 186 (hb hby at_185) rfl rfl rfl ?_
        refine g_aload X397 hx 188 (hb hby at_186) rfl rfl rfl ?_
        have f408 : Fld Z T397.heap b276 "com/example/entitygate/entitygate/HtmlNode$Element" "open" "Z" (.int (1 : Int32)) := (f384_3.keep Kq397 (ninS (Ne.symm ne278) (ninS ne306 (ninS (Ne.symm ne280) nin0))))
        have f409 : Exa Z T397.heap b245 "com/example/entitygate/entitygate/OpenElements" := (f398.keep Kq397)
        refine own_callV X397 hx hZ hown (hw _ (List.mem_of_getElem? (i := 48) rfl)) (hw _ (List.mem_of_getElem? (i := 49) rfl)) (own_nf hZ (hw _ (List.mem_of_getElem? (i := 51) rfl))) (hw _ (List.mem_of_getElem? (i := 51) rfl)) (hw _ (List.mem_of_getElem? (i := 50) rfl)) (by decide) (rm_ix20 l Z a0 hw [] b245 ae_253 ke_253 b276 b296 T397.heap n0 z405 f408 f397_0 f397_1 v397_0 o253_0 (Ne.symm ne306)) (hw _ (List.mem_of_getElem? (i := 52) rfl)) (hw _ (List.mem_of_getElem? (i := 2) rfl)) rfl 0 (by decide) (by decide) (by decide) (by decide) f409 [(.ref b276)] [] rfl pd_6 rfl 191 rfl (by rw [hml]; rfl) rfl (hb hby at_188) rfl fun T407 v407 L407 X407 hQ407 => ?_
        obtain ⟨rfl, Nq407, e407⟩ := hQ407
        have N407 := Fr.app N397 Nq407
        show own_Go p e below s _ _ _ (T407.setTop (mkF m 191 _ [(.int (0 : Int32))]))
        refine g_iload X407 hx 193 (hb hby at_191) rfl rfl ?_
        refine g_icmpNo X407 hx 196 (hb hby at_193) (own_ii_ne_f (by decide)) rfl ?_
        refine g_iconst X407 hx 197 (hb hby at_196) (1 : Int32) rfl rfl ?_
        refine g_goto X407 hx 201 (hb hby at_197) (by decide) (by decide) ?_
        refine own_retN X407 hx hlk (t := .boolean) hret (by simp) (hb hby at_201) ?_ (by decide) (by decide)
        rw [e407]
        exact ⟨rfl, N407⟩
      · refine g_ifNo X397 hx 144 (hb hby at_141) (own_i0_eq_f c406) rfl ?_
        refine g_iconst X397 hx 145 (hb hby at_144) (1 : Int32) rfl rfl ?_
        refine g_goto X397 hx 149 (hb hby at_145) (by decide) (by decide) ?_
        refine g_istore X397 hx 151 (hb hby at_149) (l' := #[.val (.int p0), .val (.int p1), .val (.int p2), .val (.ref b245), .val (.ref b257), .val (.ref b276), .val (.ref b296), .val (.ref b319), .val (.int (2 : Int32)), .val (.int (0 : Int32)), .val (.ref b276), .val (.int (1 : Int32)), .unset]) rfl rfl ?_
        refine g_iload X397 hx 153 (hb hby at_151) rfl rfl ?_
        refine g_iload X397 hx 155 (hb hby at_153) rfl rfl ?_
        refine g_icmpYes X397 hx 170 (hb hby at_155) (own_ii_lt_t (by decide)) (by decide) (by decide) ?_
        refine g_iload X397 hx 172 (hb hby at_170) rfl rfl ?_
        refine g_iload X397 hx 174 (hb hby at_172) rfl rfl ?_
        refine g_icmpNo X397 hx 177 (hb hby at_174) (own_ii_ge_f (by decide)) rfl ?_
        refine g_iload X397 hx 179 (hb hby at_177) rfl rfl ?_
        refine g_goto X397 hx 183 (hb hby at_179) (by decide) (by decide) ?_
        refine g_istore X397 hx 185 (hb hby at_183) (l' := #[.val (.int p0), .val (.int p1), .val (.int p2), .val (.ref b245), .val (.ref b257), .val (.ref b276), .val (.ref b296), .val (.ref b319), .val (.int (2 : Int32)), .val (.int (0 : Int32)), .val (.ref b276), .val (.int (1 : Int32)), .val (.int (0 : Int32))]) rfl rfl ?_
        refine g_aload_n X397 hx 186 (hb hby at_185) rfl rfl rfl ?_
        refine g_aload X397 hx 188 (hb hby at_186) rfl rfl rfl ?_
        have f411 : Fld Z T397.heap b276 "com/example/entitygate/entitygate/HtmlNode$Element" "open" "Z" (.int (1 : Int32)) := (f384_3.keep Kq397 (ninS (Ne.symm ne278) (ninS ne306 (ninS (Ne.symm ne280) nin0))))
        have f412 : Exa Z T397.heap b245 "com/example/entitygate/entitygate/OpenElements" := (f398.keep Kq397)
        refine own_callV X397 hx hZ hown (hw _ (List.mem_of_getElem? (i := 48) rfl)) (hw _ (List.mem_of_getElem? (i := 49) rfl)) (own_nf hZ (hw _ (List.mem_of_getElem? (i := 51) rfl))) (hw _ (List.mem_of_getElem? (i := 51) rfl)) (hw _ (List.mem_of_getElem? (i := 50) rfl)) (by decide) (rm_ix20 l Z a0 hw [] b245 ae_253 ke_253 b276 b296 T397.heap n0 z405 f411 f397_0 f397_1 v397_0 o253_0 (Ne.symm ne306)) (hw _ (List.mem_of_getElem? (i := 52) rfl)) (hw _ (List.mem_of_getElem? (i := 2) rfl)) rfl 0 (by decide) (by decide) (by decide) (by decide) f412 [(.ref b276)] [] rfl pd_6 rfl 191 rfl (by rw [hml]; rfl) rfl (hb hby at_188) rfl fun T410 v410 L410 X410 hQ410 => ?_
        obtain ⟨rfl, Nq410, e410⟩ := hQ410
        have N410 := Fr.app N397 Nq410
        show own_Go p e below s _ _ _ (T410.setTop (mkF m 191 _ [(.int (0 : Int32))]))
        refine g_iload X410 hx 193 (hb hby at_191) rfl rfl ?_
        refine g_icmpNo X410 hx 196 (hb hby at_193) (own_ii_ne_f (by decide)) rfl ?_
        refine g_iconst X410 hx 197 (hb hby at_196) (1 : Int32) rfl rfl ?_
        refine g_goto X410 hx 201 (hb hby at_197) (by decide) (by decide) ?_
        refine own_retN X410 hx hlk (t := .boolean) hret (by simp) (hb hby at_201) ?_ (by decide) (by decide)
        rw [e410]
        exact ⟨rfl, N410⟩
    · show own_Go p e below s _ _ _ (T341.setTop (mkF m 102 _ []))
      refine g_iload X341 hx 104 (hb hby at_102) rfl rfl ?_
      refine g_iconst X341 hx 105 (hb hby at_104) (1 : Int32) rfl rfl ?_
      refine g_icmpNo X341 hx 108 (hb hby at_105) (own_ii_lt_f (by decide)) rfl ?_
      refine g_aload_n X341 hx 109 (hb hby at_108) rfl rfl rfl ?_
      refine g_aload X341 hx 111 (hb hby at_109) rfl rfl rfl ?_
      have f414 : Exa Z T341.heap b245 "com/example/entitygate/entitygate/OpenElements" := ((Exa.ext E319 f320).keep Kq341)
      have f415 : Exa Z T341.heap b276 "com/example/entitygate/entitygate/HtmlNode$Element" := ((Exa.ext E319 f328).keep Kq341)
      have f416 : Fld Z T341.heap b245 "com/example/entitygate/entitygate/OpenElements" "elements" "[Lcom/example/entitygate/entitygate/HtmlNode$Element;" (.ref ae_253) := ((Fld.ext E319 ((Fld.ext E296 ((Fld.ext E276 ((Fld.ext E257 f253_0).keep Kq268 (ninS ne259 nin0))).keep Kq293 (ninS ne278 nin0))).keep Kq316 (ninS ne298 nin0))).keep Kq341 (ninS ne321 nin0))
      have f417 : Fld Z T341.heap b245 "com/example/entitygate/entitygate/OpenElements" "size" "I" (.int (0 : Int32)) := ((Fld.ext E319 ((Fld.ext E296 ((Fld.ext E276 ((Fld.ext E257 f253_1).keep Kq268 (ninS ne259 nin0))).keep Kq293 (ninS ne278 nin0))).keep Kq316 (ninS ne298 nin0))).keep Kq341 (ninS ne321 nin0))
      have f418 : Fld Z T341.heap b245 "com/example/entitygate/entitygate/OpenElements" "landmarkCount" "I" (.int (0 : Int32)) := ((Fld.ext E319 ((Fld.ext E296 ((Fld.ext E276 ((Fld.ext E257 f253_2).keep Kq268 (ninS ne259 nin0))).keep Kq293 (ninS ne278 nin0))).keep Kq316 (ninS ne298 nin0))).keep Kq341 (ninS ne321 nin0))
      have f419 : Fld Z T341.heap b276 "com/example/entitygate/entitygate/HtmlNode$Element" "tag" "Lcom/example/entitygate/entitygate/HtmlTag;" .null := ((Fld.ext E319 ((Fld.ext E296 f293_0).keep Kq316 (ninS ne306 nin0))).keep Kq341 (ninS ne329 nin0))
      have f420 : Fld Z T341.heap b276 "com/example/entitygate/entitygate/HtmlNode$Element" "namespace" "Lcom/example/entitygate/entitygate/HtmlNode$Namespace;" .null := ((Fld.ext E319 ((Fld.ext E296 f293_1).keep Kq316 (ninS ne306 nin0))).keep Kq341 (ninS ne329 nin0))
      have f421 : Fld Z T341.heap b276 "com/example/entitygate/entitygate/HtmlNode$Element" "open" "Z" (.int (0 : Int32)) := ((Fld.ext E319 ((Fld.ext E296 f293_2).keep Kq316 (ninS ne306 nin0))).keep Kq341 (ninS ne329 nin0))
      have f422 : Arv Z T341.heap ae_253 ke_253 (.object "com/example/entitygate/entitygate/HtmlNode$Element") (64 : Int32) [.null, .null, .null, .null] .null := ((f322.ext E319).keep Kq341 (ninS ne323 nin0))
      have f423 : Sta Z T341.heap "com/example/entitygate/entitygate/HtmlNode$Namespace" "HTML" "Lcom/example/entitygate/entitygate/HtmlNode$Namespace;" (.ref ht) := (own_Sta_keep K342 S_ht all0)
      refine own_callV X341 hx hZ hown (hw _ (List.mem_of_getElem? (i := 55) rfl)) (hw _ (List.mem_of_getElem? (i := 56) rfl)) (own_nf hZ (hw _ (List.mem_of_getElem? (i := 58) rfl))) (hw _ (List.mem_of_getElem? (i := 58) rfl)) (hw _ (List.mem_of_getElem? (i := 57) rfl)) (by decide) (rm_push0 l Z a0 hw [] b245 b276 ae_253 ke_253 ht T341.heap n0 z343 f414 f415 f416 f417 f418 f419 f420 f421 f422 o253_0 f423 ne278 ne254 (Ne.symm ne280) g_b245 g_b276 g_ae_253) (hw _ (List.mem_of_getElem? (i := 59) rfl)) (hw _ (List.mem_of_getElem? (i := 2) rfl)) rfl 0 (by decide) (by decide) (by decide) (by decide) f414 [(.ref b276)] [] rfl pd_7 rfl 114 rfl (by rw [hml]; rfl) rfl (hb hby at_111) rfl fun T413 v413 L413 X413 hQ413 => ?_
      obtain ⟨rfl, Nq413, Kq413, f413_0, f413_1, f413_2, f413_3, v413_0⟩ := hQ413
      have N413 := Fr.app N341 Nq413
      have K424 : Keep h0 T413.heap [] := K342.trans Kq413 (allS (Or.inr sz_b245) (allS (Or.inr sz_b276) (allS (Or.inr sq_ae_253) all0)))
      have z425 : n0 ≤ T413.heap.size := (Nat.le_trans z343 Kq413.1)
      show own_Go p e below s _ _ _ (T413.setTop (mkF m 114 _ []))
      refine g_iload X413 hx 116 (hb hby at_114) rfl rfl ?_
      refine g_iconst X413 hx 117 (hb hby at_116) (2 : Int32) rfl rfl ?_
      refine g_icmpNo X413 hx 120 (hb hby at_117) (own_ii_lt_f (by decide)) rfl ?_
      refine g_aload_n X413 hx 121 (hb hby at_120) rfl rfl rfl ?_
      refine g_aload X413 hx 123 (hb hby at_121) rfl rfl rfl ?_
      have f427 : Exa Z T413.heap b245 "com/example/entitygate/entitygate/OpenElements" := (f414.keep Kq413)
      have f428 : Exa Z T413.heap b296 "com/example/entitygate/entitygate/HtmlNode$Element" := (((Exa.ext E319 f330).keep Kq341).keep Kq413)
      have f429 : Fld Z T413.heap b296 "com/example/entitygate/entitygate/HtmlNode$Element" "tag" "Lcom/example/entitygate/entitygate/HtmlTag;" .null := (((Fld.ext E319 f316_0).keep Kq341 (ninS ne331 nin0)).keep Kq413 (ninS (Ne.symm ne298) (ninS (Ne.symm ne306) (ninS (Ne.symm ne300) nin0))))
      have f430 : Fld Z T413.heap b296 "com/example/entitygate/entitygate/HtmlNode$Element" "namespace" "Lcom/example/entitygate/entitygate/HtmlNode$Namespace;" .null := (((Fld.ext E319 f316_1).keep Kq341 (ninS ne331 nin0)).keep Kq413 (ninS (Ne.symm ne298) (ninS (Ne.symm ne306) (ninS (Ne.symm ne300) nin0))))
      have f431 : Fld Z T413.heap b296 "com/example/entitygate/entitygate/HtmlNode$Element" "open" "Z" (.int (0 : Int32)) := (((Fld.ext E319 f316_2).keep Kq341 (ninS ne331 nin0)).keep Kq413 (ninS (Ne.symm ne298) (ninS (Ne.symm ne306) (ninS (Ne.symm ne300) nin0))))
      have f432 : Sta Z T413.heap "com/example/entitygate/entitygate/HtmlNode$Namespace" "HTML" "Lcom/example/entitygate/entitygate/HtmlNode$Namespace;" (.ref ht) := (own_Sta_keep Kq413 f423 (allS (own_plainE f414) (allS (own_plainE f415) (allS (own_plainA f422) all0))))
      refine own_callV X413 hx hZ hown (hw _ (List.mem_of_getElem? (i := 55) rfl)) (hw _ (List.mem_of_getElem? (i := 56) rfl)) (own_nf hZ (hw _ (List.mem_of_getElem? (i := 58) rfl))) (hw _ (List.mem_of_getElem? (i := 58) rfl)) (hw _ (List.mem_of_getElem? (i := 57) rfl)) (by decide) (rm_push1 l Z a0 hw [] b245 b296 ae_253 ke_253 ht b276 T413.heap n0 z425 f427 f428 f413_0 f413_1 f413_2 f429 f430 f431 v413_0 o253_0 f432 ne298 ne254 (Ne.symm ne300) g_b245 g_b296 g_ae_253) (hw _ (List.mem_of_getElem? (i := 59) rfl)) (hw _ (List.mem_of_getElem? (i := 2) rfl)) rfl 0 (by decide) (by decide) (by decide) (by decide) f427 [(.ref b296)] [] rfl pd_7 rfl 126 rfl (by rw [hml]; rfl) rfl (hb hby at_123) rfl fun T426 v426 L426 X426 hQ426 => ?_
      obtain ⟨rfl, Nq426, Kq426, f426_0, f426_1, f426_2, f426_3, v426_0⟩ := hQ426
      have N426 := Fr.app N413 Nq426
      have K433 : Keep h0 T426.heap [] := K424.trans Kq426 (allS (Or.inr sz_b245) (allS (Or.inr sz_b296) (allS (Or.inr sq_ae_253) all0)))
      have z434 : n0 ≤ T426.heap.size := (Nat.le_trans z425 Kq426.1)
      show own_Go p e below s _ _ _ (T426.setTop (mkF m 126 _ []))
      refine g_iload X426 hx 128 (hb hby at_126) rfl rfl ?_
      refine g_iconst X426 hx 129 (hb hby at_128) (3 : Int32) rfl rfl ?_
      refine g_icmpNo X426 hx 132 (hb hby at_129) (own_ii_lt_f (by decide)) rfl ?_
      refine g_aload_n X426 hx 133 (hb hby at_132) rfl rfl rfl ?_
      refine g_aload X426 hx 135 (hb hby at_133) rfl rfl rfl ?_
      have f436 : Exa Z T426.heap b245 "com/example/entitygate/entitygate/OpenElements" := (f427.keep Kq426)
      have f437 : Exa Z T426.heap b319 "com/example/entitygate/entitygate/HtmlNode$Element" := (((A319.keep Kq341).keep Kq413).keep Kq426)
      have f438 : Fld Z T426.heap b319 "com/example/entitygate/entitygate/HtmlNode$Element" "tag" "Lcom/example/entitygate/entitygate/HtmlTag;" .null := ((f341_0.keep Kq413 (ninS (Ne.symm ne321) (ninS (Ne.symm ne329) (ninS (Ne.symm ne323) nin0)))).keep Kq426 (ninS (Ne.symm ne321) (ninS (Ne.symm ne331) (ninS (Ne.symm ne323) nin0))))
      have f439 : Fld Z T426.heap b319 "com/example/entitygate/entitygate/HtmlNode$Element" "namespace" "Lcom/example/entitygate/entitygate/HtmlNode$Namespace;" .null := ((f341_1.keep Kq413 (ninS (Ne.symm ne321) (ninS (Ne.symm ne329) (ninS (Ne.symm ne323) nin0)))).keep Kq426 (ninS (Ne.symm ne321) (ninS (Ne.symm ne331) (ninS (Ne.symm ne323) nin0))))
      have f440 : Fld Z T426.heap b319 "com/example/entitygate/entitygate/HtmlNode$Element" "open" "Z" (.int (0 : Int32)) := ((f341_2.keep Kq413 (ninS (Ne.symm ne321) (ninS (Ne.symm ne329) (ninS (Ne.symm ne323) nin0)))).keep Kq426 (ninS (Ne.symm ne321) (ninS (Ne.symm ne331) (ninS (Ne.symm ne323) nin0))))
      have f441 : Sta Z T426.heap "com/example/entitygate/entitygate/HtmlNode$Namespace" "HTML" "Lcom/example/entitygate/entitygate/HtmlNode$Namespace;" (.ref ht) := (own_Sta_keep Kq426 f432 (allS (own_plainE f427) (allS (own_plainE f428) (allS (own_plainA v413_0) all0))))
      refine own_callV X426 hx hZ hown (hw _ (List.mem_of_getElem? (i := 55) rfl)) (hw _ (List.mem_of_getElem? (i := 56) rfl)) (own_nf hZ (hw _ (List.mem_of_getElem? (i := 58) rfl))) (hw _ (List.mem_of_getElem? (i := 58) rfl)) (hw _ (List.mem_of_getElem? (i := 57) rfl)) (by decide) (rm_push2 l Z a0 hw [] b245 b319 ae_253 ke_253 ht b276 b296 T426.heap n0 z434 f436 f437 f426_0 f426_1 f426_2 f438 f439 f440 v426_0 o253_0 f441 ne321 ne254 (Ne.symm ne323) g_b245 g_b319 g_ae_253) (hw _ (List.mem_of_getElem? (i := 59) rfl)) (hw _ (List.mem_of_getElem? (i := 2) rfl)) rfl 0 (by decide) (by decide) (by decide) (by decide) f436 [(.ref b319)] [] rfl pd_7 rfl 138 rfl (by rw [hml]; rfl) rfl (hb hby at_135) rfl fun T435 v435 L435 X435 hQ435 => ?_
      obtain ⟨rfl, Nq435, Kq435, f435_0, f435_1, f435_2, f435_3, v435_0⟩ := hQ435
      have N435 := Fr.app N426 Nq435
      have K442 : Keep h0 T435.heap [] := K433.trans Kq435 (allS (Or.inr sz_b245) (allS (Or.inr sz_b319) (allS (Or.inr sq_ae_253) all0)))
      have z443 : n0 ≤ T435.heap.size := (Nat.le_trans z434 Kq435.1)
      show own_Go p e below s _ _ _ (T435.setTop (mkF m 138 _ []))
      refine g_iload_n X435 hx 139 (hb hby at_138) rfl rfl ?_
      refine g_iconst X435 hx 140 (hb hby at_139) (1 : Int32) rfl rfl ?_
      refine g_iand X435 hx 141 (hb hby at_140) rfl ?_
      by_cases c444 : (p2 &&& (1 : Int32)) = (0 : Int32)
      · refine g_ifYes X435 hx 148 (hb hby at_141) (own_i0_eq_t c444) (by decide) (by decide) ?_
        refine g_iconst X435 hx 149 (hb hby at_148) (0 : Int32) rfl rfl ?_
        refine g_istore X435 hx 151 (hb hby at_149) (l' := #[.val (.int p0), .val (.int p1), .val (.int p2), .val (.ref b245), .val (.ref b257), .val (.ref b276), .val (.ref b296), .val (.ref b319), .val (.int (3 : Int32)), .val (.int (0 : Int32)), .val (.ref b276), .val (.int (0 : Int32)), .unset]) rfl rfl ?_
        refine g_iload X435 hx 153 (hb hby at_151) rfl rfl ?_
        refine g_iload X435 hx 155 (hb hby at_153) rfl rfl ?_
        refine g_icmpYes X435 hx 170 (hb hby at_155) (own_ii_lt_t (by decide)) (by decide) (by decide) ?_
        refine g_iload X435 hx 172 (hb hby at_170) rfl rfl ?_
        refine g_iload X435 hx 174 (hb hby at_172) rfl rfl ?_
        refine g_icmpNo X435 hx 177 (hb hby at_174) (own_ii_ge_f (by decide)) rfl ?_
        refine g_iload X435 hx 179 (hb hby at_177) rfl rfl ?_
        refine g_goto X435 hx 183 (hb hby at_179) (by decide) (by decide) ?_
        refine g_istore X435 hx 185 (hb hby at_183) (l' := #[.val (.int p0), .val (.int p1), .val (.int p2), .val (.ref b245), .val (.ref b257), .val (.ref b276), .val (.ref b296), .val (.ref b319), .val (.int (3 : Int32)), .val (.int (0 : Int32)), .val (.ref b276), .val (.int (0 : Int32)), .val (.int (0 : Int32))]) rfl rfl ?_
        refine g_aload_n X435 hx 186 (hb hby at_185) rfl rfl rfl ?_
        refine g_aload X435 hx 188 (hb hby at_186) rfl rfl rfl ?_
        have f446 : Fld Z T435.heap b276 "com/example/entitygate/entitygate/HtmlNode$Element" "open" "Z" (.int (1 : Int32)) := ((f413_3.keep Kq426 (ninS (Ne.symm ne278) (ninS ne306 (ninS (Ne.symm ne280) nin0)))).keep Kq435 (ninS (Ne.symm ne278) (ninS ne329 (ninS (Ne.symm ne280) nin0))))
        have f447 : Exa Z T435.heap b245 "com/example/entitygate/entitygate/OpenElements" := (f436.keep Kq435)
        refine own_callV X435 hx hZ hown (hw _ (List.mem_of_getElem? (i := 48) rfl)) (hw _ (List.mem_of_getElem? (i := 49) rfl)) (own_nf hZ (hw _ (List.mem_of_getElem? (i := 51) rfl))) (hw _ (List.mem_of_getElem? (i := 51) rfl)) (hw _ (List.mem_of_getElem? (i := 50) rfl)) (by decide) (rm_ix30 l Z a0 hw [] b245 ae_253 ke_253 b276 b296 b319 T435.heap n0 z443 f446 f435_0 f435_1 v435_0 o253_0 (Ne.symm ne306) (Ne.symm ne329)) (hw _ (List.mem_of_getElem? (i := 52) rfl)) (hw _ (List.mem_of_getElem? (i := 2) rfl)) rfl 0 (by decide) (by decide) (by decide) (by decide) f447 [(.ref b276)] [] rfl pd_6 rfl 191 rfl (by rw [hml]; rfl) rfl (hb hby at_188) rfl fun T445 v445 L445 X445 hQ445 => ?_
        obtain ⟨rfl, Nq445, e445⟩ := hQ445
        have N445 := Fr.app N435 Nq445
        show own_Go p e below s _ _ _ (T445.setTop (mkF m 191 _ [(.int (0 : Int32))]))
        refine g_iload X445 hx 193 (hb hby at_191) rfl rfl ?_
        refine g_icmpNo X445 hx 196 (hb hby at_193) (own_ii_ne_f (by decide)) rfl ?_
        refine g_iconst X445 hx 197 (hb hby at_196) (1 : Int32) rfl rfl ?_
        refine g_goto X445 hx 201 (hb hby at_197) (by decide) (by decide) ?_
        refine own_retN X445 hx hlk (t := .boolean) hret (by simp) (hb hby at_201) ?_ (by decide) (by decide)
        rw [e445]
        exact ⟨rfl, N445⟩
      · refine g_ifNo X435 hx 144 (hb hby at_141) (own_i0_eq_f c444) rfl ?_
        refine g_iconst X435 hx 145 (hb hby at_144) (1 : Int32) rfl rfl ?_
        refine g_goto X435 hx 149 (hb hby at_145) (by decide) (by decide) ?_
        refine g_istore X435 hx 151 (hb hby at_149) (l' := #[.val (.int p0), .val (.int p1), .val (.int p2), .val (.ref b245), .val (.ref b257), .val (.ref b276), .val (.ref b296), .val (.ref b319), .val (.int (3 : Int32)), .val (.int (0 : Int32)), .val (.ref b276), .val (.int (1 : Int32)), .unset]) rfl rfl ?_
        refine g_iload X435 hx 153 (hb hby at_151) rfl rfl ?_
        refine g_iload X435 hx 155 (hb hby at_153) rfl rfl ?_
        refine g_icmpYes X435 hx 170 (hb hby at_155) (own_ii_lt_t (by decide)) (by decide) (by decide) ?_
        refine g_iload X435 hx 172 (hb hby at_170) rfl rfl ?_
        refine g_iload X435 hx 174 (hb hby at_172) rfl rfl ?_
        refine g_icmpNo X435 hx 177 (hb hby at_174) (own_ii_ge_f (by decide)) rfl ?_
        refine g_iload X435 hx 179 (hb hby at_177) rfl rfl ?_
        refine g_goto X435 hx 183 (hb hby at_179) (by decide) (by decide) ?_
        refine g_istore X435 hx 185 (hb hby at_183) (l' := #[.val (.int p0), .val (.int p1), .val (.int p2), .val (.ref b245), .val (.ref b257), .val (.ref b276), .val (.ref b296), .val (.ref b319), .val (.int (3 : Int32)), .val (.int (0 : Int32)), .val (.ref b276), .val (.int (1 : Int32)), .val (.int (0 : Int32))]) rfl rfl ?_
        refine g_aload_n X435 hx 186 (hb hby at_185) rfl rfl rfl ?_
        refine g_aload X435 hx 188 (hb hby at_186) rfl rfl rfl ?_
        have f449 : Fld Z T435.heap b276 "com/example/entitygate/entitygate/HtmlNode$Element" "open" "Z" (.int (1 : Int32)) := ((f413_3.keep Kq426 (ninS (Ne.symm ne278) (ninS ne306 (ninS (Ne.symm ne280) nin0)))).keep Kq435 (ninS (Ne.symm ne278) (ninS ne329 (ninS (Ne.symm ne280) nin0))))
        have f450 : Exa Z T435.heap b245 "com/example/entitygate/entitygate/OpenElements" := (f436.keep Kq435)
        refine own_callV X435 hx hZ hown (hw _ (List.mem_of_getElem? (i := 48) rfl)) (hw _ (List.mem_of_getElem? (i := 49) rfl)) (own_nf hZ (hw _ (List.mem_of_getElem? (i := 51) rfl))) (hw _ (List.mem_of_getElem? (i := 51) rfl)) (hw _ (List.mem_of_getElem? (i := 50) rfl)) (by decide) (rm_ix30 l Z a0 hw [] b245 ae_253 ke_253 b276 b296 b319 T435.heap n0 z443 f449 f435_0 f435_1 v435_0 o253_0 (Ne.symm ne306) (Ne.symm ne329)) (hw _ (List.mem_of_getElem? (i := 52) rfl)) (hw _ (List.mem_of_getElem? (i := 2) rfl)) rfl 0 (by decide) (by decide) (by decide) (by decide) f450 [(.ref b276)] [] rfl pd_6 rfl 191 rfl (by rw [hml]; rfl) rfl (hb hby at_188) rfl fun T448 v448 L448 X448 hQ448 => ?_
        obtain ⟨rfl, Nq448, e448⟩ := hQ448
        have N448 := Fr.app N435 Nq448
        show own_Go p e below s _ _ _ (T448.setTop (mkF m 191 _ [(.int (0 : Int32))]))
        refine g_iload X448 hx 193 (hb hby at_191) rfl rfl ?_
        refine g_icmpNo X448 hx 196 (hb hby at_193) (own_ii_ne_f (by decide)) rfl ?_
        refine g_iconst X448 hx 197 (hb hby at_196) (1 : Int32) rfl rfl ?_
        refine g_goto X448 hx 201 (hb hby at_197) (by decide) (by decide) ?_
        refine own_retN X448 hx hlk (t := .boolean) hret (by simp) (hb hby at_201) ?_ (by decide) (by decide)
        rw [e448]
        exact ⟨rfl, N448⟩
  · show own_Go p e below s _ _ _ (T341.setTop (mkF m 77 _ []))
    refine g_iload X341 hx 79 (hb hby at_77) rfl rfl ?_
    refine g_ifYes X341 hx 87 (hb hby at_79) (own_i0_ne_t (by decide)) (by decide) (by decide) ?_
    refine g_iload X341 hx 89 (hb hby at_87) rfl rfl ?_
    refine g_iconst X341 hx 90 (hb hby at_89) (1 : Int32) rfl rfl ?_
    refine g_icmpNo X341 hx 93 (hb hby at_90) (own_ii_ne_f (by decide)) rfl ?_
    refine g_aload X341 hx 95 (hb hby at_93) rfl rfl rfl ?_
    refine g_goto X341 hx 100 (hb hby at_95) (by decide) (by decide) ?_
    refine g_astore X341 hx 102 (hb hby at_100) rfl (l' := #[.val (.int p0), .val (.int p1), .val (.int p2), .val (.ref b245), .val (.ref b257), .val (.ref b276), .val (.ref b296), .val (.ref b319), .val (.int cn), .val (.int (1 : Int32)), .val (.ref b296), .unset, .unset]) rfl rfl ?_
    rcases own_four p0 q_cn with rfl | rfl | rfl | rfl
    · show own_Go p e below s _ _ _ (T341.setTop (mkF m 102 _ []))
      refine g_iload X341 hx 104 (hb hby at_102) rfl rfl ?_
      refine g_iconst X341 hx 105 (hb hby at_104) (1 : Int32) rfl rfl ?_
      refine g_icmpYes X341 hx 114 (hb hby at_105) (own_ii_lt_t (by decide)) (by decide) (by decide) ?_
      refine g_iload X341 hx 116 (hb hby at_114) rfl rfl ?_
      refine g_iconst X341 hx 117 (hb hby at_116) (2 : Int32) rfl rfl ?_
      refine g_icmpYes X341 hx 126 (hb hby at_117) (own_ii_lt_t (by decide)) (by decide) (by decide) ?_
      refine g_iload X341 hx 128 (hb hby at_126) rfl rfl ?_
      refine g_iconst X341 hx 129 (hb hby at_128) (3 : Int32) rfl rfl ?_
      refine g_icmpYes X341 hx 138 (hb hby at_129) (own_ii_lt_t (by decide)) (by decide) (by decide) ?_
      refine g_iload_n X341 hx 139 (hb hby at_138) rfl rfl ?_
      refine g_iconst X341 hx 140 (hb hby at_139) (1 : Int32) rfl rfl ?_
      refine g_iand X341 hx 141 (hb hby at_140) rfl ?_
      by_cases c451 : (p2 &&& (1 : Int32)) = (0 : Int32)
      · refine g_ifYes X341 hx 148 (hb hby at_141) (own_i0_eq_t c451) (by decide) (by decide) ?_
        refine g_iconst X341 hx 149 (hb hby at_148) (0 : Int32) rfl rfl ?_
        refine g_istore X341 hx 151 (hb hby at_149) (l' := #[.val (.int p0), .val (.int p1), .val (.int p2), .val (.ref b245), .val (.ref b257), .val (.ref b276), .val (.ref b296), .val (.ref b319), .val (.int (0 : Int32)), .val (.int (1 : Int32)), .val (.ref b296), .val (.int (0 : Int32)), .unset]) rfl rfl ?_
        refine g_iload X341 hx 153 (hb hby at_151) rfl rfl ?_
        refine g_iload X341 hx 155 (hb hby at_153) rfl rfl ?_
        refine g_icmpNo X341 hx 158 (hb hby at_155) (own_ii_lt_f (by decide)) rfl ?_
        refine g_iload X341 hx 160 (hb hby at_158) rfl rfl ?_
        refine g_ifYes X341 hx 170 (hb hby at_160) (own_i0_eq_t (by decide)) (by decide) (by decide) ?_
        refine g_iload X341 hx 172 (hb hby at_170) rfl rfl ?_
        refine g_iload X341 hx 174 (hb hby at_172) rfl rfl ?_
        refine g_icmpYes X341 hx 182 (hb hby at_174) (own_ii_ge_t (by decide)) (by decide) (by decide) ?_
        refine g_iconst X341 hx 183 (hb hby at_182) (-1 : Int32) rfl rfl ?_
        refine g_istore X341 hx 185 (hb hby at_183) (l' := #[.val (.int p0), .val (.int p1), .val (.int p2), .val (.ref b245), .val (.ref b257), .val (.ref b276), .val (.ref b296), .val (.ref b319), .val (.int (0 : Int32)), .val (.int (1 : Int32)), .val (.ref b296), .val (.int (0 : Int32)), .val (.int (-1 : Int32))]) rfl rfl ?_
        refine g_aload_n X341 hx 186 (hb hby at_185) rfl rfl rfl ?_
        refine g_aload X341 hx 188 (hb hby at_186) rfl rfl rfl ?_
        have f453 : Fld Z T341.heap b296 "com/example/entitygate/entitygate/HtmlNode$Element" "open" "Z" (.int (0 : Int32)) := ((Fld.ext E319 f316_2).keep Kq341 (ninS ne331 nin0))
        have f454 : Exa Z T341.heap b245 "com/example/entitygate/entitygate/OpenElements" := ((Exa.ext E319 f320).keep Kq341)
        refine own_callV X341 hx hZ hown (hw _ (List.mem_of_getElem? (i := 48) rfl)) (hw _ (List.mem_of_getElem? (i := 49) rfl)) (own_nf hZ (hw _ (List.mem_of_getElem? (i := 51) rfl))) (hw _ (List.mem_of_getElem? (i := 51) rfl)) (hw _ (List.mem_of_getElem? (i := 50) rfl)) (by decide) (rm_ix0closed l Z a0 hw [] b245 b296 T341.heap n0 z343 f453) (hw _ (List.mem_of_getElem? (i := 52) rfl)) (hw _ (List.mem_of_getElem? (i := 2) rfl)) rfl 0 (by decide) (by decide) (by decide) (by decide) f454 [(.ref b296)] [] rfl pd_6 rfl 191 rfl (by rw [hml]; rfl) rfl (hb hby at_188) rfl fun T452 v452 L452 X452 hQ452 => ?_
        obtain ⟨rfl, Nq452, e452⟩ := hQ452
        have N452 := Fr.app N341 Nq452
        show own_Go p e below s _ _ _ (T452.setTop (mkF m 191 _ [(.int (-1 : Int32))]))
        refine g_iload X452 hx 193 (hb hby at_191) rfl rfl ?_
        refine g_icmpNo X452 hx 196 (hb hby at_193) (own_ii_ne_f (by decide)) rfl ?_
        refine g_iconst X452 hx 197 (hb hby at_196) (1 : Int32) rfl rfl ?_
        refine g_goto X452 hx 201 (hb hby at_197) (by decide) (by decide) ?_
        refine own_retN X452 hx hlk (t := .boolean) hret (by simp) (hb hby at_201) ?_ (by decide) (by decide)
        rw [e452]
        exact ⟨rfl, N452⟩
      · refine g_ifNo X341 hx 144 (hb hby at_141) (own_i0_eq_f c451) rfl ?_
        refine g_iconst X341 hx 145 (hb hby at_144) (1 : Int32) rfl rfl ?_
        refine g_goto X341 hx 149 (hb hby at_145) (by decide) (by decide) ?_
        refine g_istore X341 hx 151 (hb hby at_149) (l' := #[.val (.int p0), .val (.int p1), .val (.int p2), .val (.ref b245), .val (.ref b257), .val (.ref b276), .val (.ref b296), .val (.ref b319), .val (.int (0 : Int32)), .val (.int (1 : Int32)), .val (.ref b296), .val (.int (1 : Int32)), .unset]) rfl rfl ?_
        refine g_iload X341 hx 153 (hb hby at_151) rfl rfl ?_
        refine g_iload X341 hx 155 (hb hby at_153) rfl rfl ?_
        refine g_icmpNo X341 hx 158 (hb hby at_155) (own_ii_lt_f (by decide)) rfl ?_
        refine g_iload X341 hx 160 (hb hby at_158) rfl rfl ?_
        refine g_ifNo X341 hx 163 (hb hby at_160) (own_i0_eq_f (by decide)) rfl ?_
        refine g_aload X341 hx 165 (hb hby at_163) rfl rfl rfl ?_
        refine g_aload X341 hx 167 (hb hby at_165) rfl rfl rfl ?_
        have f456 : Exa Z T341.heap b257 "com/example/entitygate/entitygate/OpenElements" := ((Exa.ext E319 f324).keep Kq341)
        have f457 : Exa Z T341.heap b296 "com/example/entitygate/entitygate/HtmlNode$Element" := ((Exa.ext E319 f330).keep Kq341)
        have f458 : Fld Z T341.heap b257 "com/example/entitygate/entitygate/OpenElements" "elements" "[Lcom/example/entitygate/entitygate/HtmlNode$Element;" (.ref ae_268) := ((Fld.ext E319 ((Fld.ext E296 ((Fld.ext E276 f268_0).keep Kq293 (ninS ne282 nin0))).keep Kq316 (ninS ne302 nin0))).keep Kq341 (ninS ne325 nin0))
        have f459 : Fld Z T341.heap b257 "com/example/entitygate/entitygate/OpenElements" "size" "I" (.int (0 : Int32)) := ((Fld.ext E319 ((Fld.ext E296 ((Fld.ext E276 f268_1).keep Kq293 (ninS ne282 nin0))).keep Kq316 (ninS ne302 nin0))).keep Kq341 (ninS ne325 nin0))
        have f460 : Fld Z T341.heap b257 "com/example/entitygate/entitygate/OpenElements" "landmarkCount" "I" (.int (0 : Int32)) := ((Fld.ext E319 ((Fld.ext E296 ((Fld.ext E276 f268_2).keep Kq293 (ninS ne282 nin0))).keep Kq316 (ninS ne302 nin0))).keep Kq341 (ninS ne325 nin0))
        have f461 : Fld Z T341.heap b296 "com/example/entitygate/entitygate/HtmlNode$Element" "tag" "Lcom/example/entitygate/entitygate/HtmlTag;" .null := ((Fld.ext E319 f316_0).keep Kq341 (ninS ne331 nin0))
        have f462 : Fld Z T341.heap b296 "com/example/entitygate/entitygate/HtmlNode$Element" "namespace" "Lcom/example/entitygate/entitygate/HtmlNode$Namespace;" .null := ((Fld.ext E319 f316_1).keep Kq341 (ninS ne331 nin0))
        have f463 : Fld Z T341.heap b296 "com/example/entitygate/entitygate/HtmlNode$Element" "open" "Z" (.int (0 : Int32)) := ((Fld.ext E319 f316_2).keep Kq341 (ninS ne331 nin0))
        have f464 : Arv Z T341.heap ae_268 ke_268 (.object "com/example/entitygate/entitygate/HtmlNode$Element") (64 : Int32) [.null, .null, .null, .null] .null := ((f326.ext E319).keep Kq341 (ninS ne327 nin0))
        have f465 : Sta Z T341.heap "com/example/entitygate/entitygate/HtmlNode$Namespace" "HTML" "Lcom/example/entitygate/entitygate/HtmlNode$Namespace;" (.ref ht) := (own_Sta_keep K342 S_ht all0)
        refine own_callV X341 hx hZ hown (hw _ (List.mem_of_getElem? (i := 55) rfl)) (hw _ (List.mem_of_getElem? (i := 56) rfl)) (own_nf hZ (hw _ (List.mem_of_getElem? (i := 58) rfl))) (hw _ (List.mem_of_getElem? (i := 58) rfl)) (hw _ (List.mem_of_getElem? (i := 57) rfl)) (by decide) (rm_push0 l Z a0 hw [] b257 b296 ae_268 ke_268 ht T341.heap n0 z343 f456 f457 f458 f459 f460 f461 f462 f463 f464 o268_0 f465 ne302 ne273 (Ne.symm ne304) g_b257 g_b296 g_ae_268) (hw _ (List.mem_of_getElem? (i := 59) rfl)) (hw _ (List.mem_of_getElem? (i := 2) rfl)) rfl 0 (by decide) (by decide) (by decide) (by decide) f456 [(.ref b296)] [] rfl pd_7 rfl 170 rfl (by rw [hml]; rfl) rfl (hb hby at_167) rfl fun T455 v455 L455 X455 hQ455 => ?_
        obtain ⟨rfl, Nq455, Kq455, f455_0, f455_1, f455_2, f455_3, v455_0⟩ := hQ455
        have N455 := Fr.app N341 Nq455
        have K466 : Keep h0 T455.heap [] := K342.trans Kq455 (allS (Or.inr sz_b257) (allS (Or.inr sz_b296) (allS (Or.inr sq_ae_268) all0)))
        have z467 : n0 ≤ T455.heap.size := (Nat.le_trans z343 Kq455.1)
        show own_Go p e below s _ _ _ (T455.setTop (mkF m 170 _ []))
        refine g_iload X455 hx 172 (hb hby at_170) rfl rfl ?_
        refine g_iload X455 hx 174 (hb hby at_172) rfl rfl ?_
        refine g_icmpYes X455 hx 182 (hb hby at_174) (own_ii_ge_t (by decide)) (by decide) (by decide) ?_
        refine g_iconst X455 hx 183 (hb hby at_182) (-1 : Int32) rfl rfl ?_
        refine g_istore X455 hx 185 (hb hby at_183) (l' := #[.val (.int p0), .val (.int p1), .val (.int p2), .val (.ref b245), .val (.ref b257), .val (.ref b276), .val (.ref b296), .val (.ref b319), .val (.int (0 : Int32)), .val (.int (1 : Int32)), .val (.ref b296), .val (.int (1 : Int32)), .val (.int (-1 : Int32))]) rfl rfl ?_
        refine g_aload_n X455 hx 186 (hb hby at_185) rfl rfl rfl ?_
        refine g_aload X455 hx 188 (hb hby at_186) rfl rfl rfl ?_
        have f469 : Fld Z T455.heap b245 "com/example/entitygate/entitygate/OpenElements" "elements" "[Lcom/example/entitygate/entitygate/HtmlNode$Element;" (.ref ae_253) := (((Fld.ext E319 ((Fld.ext E296 ((Fld.ext E276 ((Fld.ext E257 f253_0).keep Kq268 (ninS ne259 nin0))).keep Kq293 (ninS ne278 nin0))).keep Kq316 (ninS ne298 nin0))).keep Kq341 (ninS ne321 nin0)).keep Kq455 (ninS ne259 (ninS ne298 (ninS ne270 nin0))))
        have f470 : Fld Z T455.heap b245 "com/example/entitygate/entitygate/OpenElements" "size" "I" (.int (0 : Int32)) := (((Fld.ext E319 ((Fld.ext E296 ((Fld.ext E276 ((Fld.ext E257 f253_1).keep Kq268 (ninS ne259 nin0))).keep Kq293 (ninS ne278 nin0))).keep Kq316 (ninS ne298 nin0))).keep Kq341 (ninS ne321 nin0)).keep Kq455 (ninS ne259 (ninS ne298 (ninS ne270 nin0))))
        have f471 : Arv Z T455.heap ae_253 ke_253 (.object "com/example/entitygate/entitygate/HtmlNode$Element") (64 : Int32) [.null, .null, .null, .null] .null := (((f322.ext E319).keep Kq341 (ninS ne323 nin0)).keep Kq455 (ninS ne260 (ninS ne300 (ninS ne272 nin0))))
        have f472 : Exa Z T455.heap b245 "com/example/entitygate/entitygate/OpenElements" := (((Exa.ext E319 f320).keep Kq341).keep Kq455)
        refine own_callV X455 hx hZ hown (hw _ (List.mem_of_getElem? (i := 48) rfl)) (hw _ (List.mem_of_getElem? (i := 49) rfl)) (own_nf hZ (hw _ (List.mem_of_getElem? (i := 51) rfl))) (hw _ (List.mem_of_getElem? (i := 51) rfl)) (hw _ (List.mem_of_getElem? (i := 50) rfl)) (by decide) (rm_ix0open l Z a0 hw [] b245 ae_253 ke_253 b296 T455.heap n0 z467 f455_3 f469 f470 f471 o253_0) (hw _ (List.mem_of_getElem? (i := 52) rfl)) (hw _ (List.mem_of_getElem? (i := 2) rfl)) rfl 0 (by decide) (by decide) (by decide) (by decide) f472 [(.ref b296)] [] rfl pd_6 rfl 191 rfl (by rw [hml]; rfl) rfl (hb hby at_188) rfl fun T468 v468 L468 X468 hQ468 => ?_
        obtain ⟨rfl, Nq468, e468⟩ := hQ468
        have N468 := Fr.app N455 Nq468
        show own_Go p e below s _ _ _ (T468.setTop (mkF m 191 _ [(.int (-1 : Int32))]))
        refine g_iload X468 hx 193 (hb hby at_191) rfl rfl ?_
        refine g_icmpNo X468 hx 196 (hb hby at_193) (own_ii_ne_f (by decide)) rfl ?_
        refine g_iconst X468 hx 197 (hb hby at_196) (1 : Int32) rfl rfl ?_
        refine g_goto X468 hx 201 (hb hby at_197) (by decide) (by decide) ?_
        refine own_retN X468 hx hlk (t := .boolean) hret (by simp) (hb hby at_201) ?_ (by decide) (by decide)
        rw [e468]
        exact ⟨rfl, N468⟩
    · show own_Go p e below s _ _ _ (T341.setTop (mkF m 102 _ []))
      refine g_iload X341 hx 104 (hb hby at_102) rfl rfl ?_
      refine g_iconst X341 hx 105 (hb hby at_104) (1 : Int32) rfl rfl ?_
      refine g_icmpNo X341 hx 108 (hb hby at_105) (own_ii_lt_f (by decide)) rfl ?_
      refine g_aload_n X341 hx 109 (hb hby at_108) rfl rfl rfl ?_
      refine g_aload X341 hx 111 (hb hby at_109) rfl rfl rfl ?_
      have f474 : Exa Z T341.heap b245 "com/example/entitygate/entitygate/OpenElements" := ((Exa.ext E319 f320).keep Kq341)
      have f475 : Exa Z T341.heap b276 "com/example/entitygate/entitygate/HtmlNode$Element" := ((Exa.ext E319 f328).keep Kq341)
      have f476 : Fld Z T341.heap b245 "com/example/entitygate/entitygate/OpenElements" "elements" "[Lcom/example/entitygate/entitygate/HtmlNode$Element;" (.ref ae_253) := ((Fld.ext E319 ((Fld.ext E296 ((Fld.ext E276 ((Fld.ext E257 f253_0).keep Kq268 (ninS ne259 nin0))).keep Kq293 (ninS ne278 nin0))).keep Kq316 (ninS ne298 nin0))).keep Kq341 (ninS ne321 nin0))
      have f477 : Fld Z T341.heap b245 "com/example/entitygate/entitygate/OpenElements" "size" "I" (.int (0 : Int32)) := ((Fld.ext E319 ((Fld.ext E296 ((Fld.ext E276 ((Fld.ext E257 f253_1).keep Kq268 (ninS ne259 nin0))).keep Kq293 (ninS ne278 nin0))).keep Kq316 (ninS ne298 nin0))).keep Kq341 (ninS ne321 nin0))
      have f478 : Fld Z T341.heap b245 "com/example/entitygate/entitygate/OpenElements" "landmarkCount" "I" (.int (0 : Int32)) := ((Fld.ext E319 ((Fld.ext E296 ((Fld.ext E276 ((Fld.ext E257 f253_2).keep Kq268 (ninS ne259 nin0))).keep Kq293 (ninS ne278 nin0))).keep Kq316 (ninS ne298 nin0))).keep Kq341 (ninS ne321 nin0))
      have f479 : Fld Z T341.heap b276 "com/example/entitygate/entitygate/HtmlNode$Element" "tag" "Lcom/example/entitygate/entitygate/HtmlTag;" .null := ((Fld.ext E319 ((Fld.ext E296 f293_0).keep Kq316 (ninS ne306 nin0))).keep Kq341 (ninS ne329 nin0))
      have f480 : Fld Z T341.heap b276 "com/example/entitygate/entitygate/HtmlNode$Element" "namespace" "Lcom/example/entitygate/entitygate/HtmlNode$Namespace;" .null := ((Fld.ext E319 ((Fld.ext E296 f293_1).keep Kq316 (ninS ne306 nin0))).keep Kq341 (ninS ne329 nin0))
      have f481 : Fld Z T341.heap b276 "com/example/entitygate/entitygate/HtmlNode$Element" "open" "Z" (.int (0 : Int32)) := ((Fld.ext E319 ((Fld.ext E296 f293_2).keep Kq316 (ninS ne306 nin0))).keep Kq341 (ninS ne329 nin0))
      have f482 : Arv Z T341.heap ae_253 ke_253 (.object "com/example/entitygate/entitygate/HtmlNode$Element") (64 : Int32) [.null, .null, .null, .null] .null := ((f322.ext E319).keep Kq341 (ninS ne323 nin0))
      have f483 : Sta Z T341.heap "com/example/entitygate/entitygate/HtmlNode$Namespace" "HTML" "Lcom/example/entitygate/entitygate/HtmlNode$Namespace;" (.ref ht) := (own_Sta_keep K342 S_ht all0)
      refine own_callV X341 hx hZ hown (hw _ (List.mem_of_getElem? (i := 55) rfl)) (hw _ (List.mem_of_getElem? (i := 56) rfl)) (own_nf hZ (hw _ (List.mem_of_getElem? (i := 58) rfl))) (hw _ (List.mem_of_getElem? (i := 58) rfl)) (hw _ (List.mem_of_getElem? (i := 57) rfl)) (by decide) (rm_push0 l Z a0 hw [] b245 b276 ae_253 ke_253 ht T341.heap n0 z343 f474 f475 f476 f477 f478 f479 f480 f481 f482 o253_0 f483 ne278 ne254 (Ne.symm ne280) g_b245 g_b276 g_ae_253) (hw _ (List.mem_of_getElem? (i := 59) rfl)) (hw _ (List.mem_of_getElem? (i := 2) rfl)) rfl 0 (by decide) (by decide) (by decide) (by decide) f474 [(.ref b276)] [] rfl pd_7 rfl 114 rfl (by rw [hml]; rfl) rfl (hb hby at_111) rfl fun T473 v473 L473 X473 hQ473 => ?_
      obtain ⟨rfl, Nq473, Kq473, f473_0, f473_1, f473_2, f473_3, v473_0⟩ := hQ473
      have N473 := Fr.app N341 Nq473
      have K484 : Keep h0 T473.heap [] := K342.trans Kq473 (allS (Or.inr sz_b245) (allS (Or.inr sz_b276) (allS (Or.inr sq_ae_253) all0)))
      have z485 : n0 ≤ T473.heap.size := (Nat.le_trans z343 Kq473.1)
      show own_Go p e below s _ _ _ (T473.setTop (mkF m 114 _ []))
      refine g_iload X473 hx 116 (hb hby at_114) rfl rfl ?_
      refine g_iconst X473 hx 117 (hb hby at_116) (2 : Int32) rfl rfl ?_
      refine g_icmpYes X473 hx 126 (hb hby at_117) (own_ii_lt_t (by decide)) (by decide) (by decide) ?_
      refine g_iload X473 hx 128 (hb hby at_126) rfl rfl ?_
      refine g_iconst X473 hx 129 (hb hby at_128) (3 : Int32) rfl rfl ?_
      refine g_icmpYes X473 hx 138 (hb hby at_129) (own_ii_lt_t (by decide)) (by decide) (by decide) ?_
      refine g_iload_n X473 hx 139 (hb hby at_138) rfl rfl ?_
      refine g_iconst X473 hx 140 (hb hby at_139) (1 : Int32) rfl rfl ?_
      refine g_iand X473 hx 141 (hb hby at_140) rfl ?_
      by_cases c486 : (p2 &&& (1 : Int32)) = (0 : Int32)
      · refine g_ifYes X473 hx 148 (hb hby at_141) (own_i0_eq_t c486) (by decide) (by decide) ?_
        refine g_iconst X473 hx 149 (hb hby at_148) (0 : Int32) rfl rfl ?_
        refine g_istore X473 hx 151 (hb hby at_149) (l' := #[.val (.int p0), .val (.int p1), .val (.int p2), .val (.ref b245), .val (.ref b257), .val (.ref b276), .val (.ref b296), .val (.ref b319), .val (.int (1 : Int32)), .val (.int (1 : Int32)), .val (.ref b296), .val (.int (0 : Int32)), .unset]) rfl rfl ?_
        refine g_iload X473 hx 153 (hb hby at_151) rfl rfl ?_
        refine g_iload X473 hx 155 (hb hby at_153) rfl rfl ?_
        refine g_icmpNo X473 hx 158 (hb hby at_155) (own_ii_lt_f (by decide)) rfl ?_
        refine g_iload X473 hx 160 (hb hby at_158) rfl rfl ?_
        refine g_ifYes X473 hx 170 (hb hby at_160) (own_i0_eq_t (by decide)) (by decide) (by decide) ?_
        refine g_iload X473 hx 172 (hb hby at_170) rfl rfl ?_
        refine g_iload X473 hx 174 (hb hby at_172) rfl rfl ?_
        refine g_icmpYes X473 hx 182 (hb hby at_174) (own_ii_ge_t (by decide)) (by decide) (by decide) ?_
        refine g_iconst X473 hx 183 (hb hby at_182) (-1 : Int32) rfl rfl ?_
        refine g_istore X473 hx 185 (hb hby at_183) (l' := #[.val (.int p0), .val (.int p1), .val (.int p2), .val (.ref b245), .val (.ref b257), .val (.ref b276), .val (.ref b296), .val (.ref b319), .val (.int (1 : Int32)), .val (.int (1 : Int32)), .val (.ref b296), .val (.int (0 : Int32)), .val (.int (-1 : Int32))]) rfl rfl ?_
        refine g_aload_n X473 hx 186 (hb hby at_185) rfl rfl rfl ?_
        refine g_aload X473 hx 188 (hb hby at_186) rfl rfl rfl ?_
        have f488 : Fld Z T473.heap b296 "com/example/entitygate/entitygate/HtmlNode$Element" "open" "Z" (.int (0 : Int32)) := (((Fld.ext E319 f316_2).keep Kq341 (ninS ne331 nin0)).keep Kq473 (ninS (Ne.symm ne298) (ninS (Ne.symm ne306) (ninS (Ne.symm ne300) nin0))))
        have f489 : Exa Z T473.heap b245 "com/example/entitygate/entitygate/OpenElements" := (f474.keep Kq473)
        refine own_callV X473 hx hZ hown (hw _ (List.mem_of_getElem? (i := 48) rfl)) (hw _ (List.mem_of_getElem? (i := 49) rfl)) (own_nf hZ (hw _ (List.mem_of_getElem? (i := 51) rfl))) (hw _ (List.mem_of_getElem? (i := 51) rfl)) (hw _ (List.mem_of_getElem? (i := 50) rfl)) (by decide) (rm_ix1closed l Z a0 hw [] b245 b296 T473.heap n0 z485 f488) (hw _ (List.mem_of_getElem? (i := 52) rfl)) (hw _ (List.mem_of_getElem? (i := 2) rfl)) rfl 0 (by decide) (by decide) (by decide) (by decide) f489 [(.ref b296)] [] rfl pd_6 rfl 191 rfl (by rw [hml]; rfl) rfl (hb hby at_188) rfl fun T487 v487 L487 X487 hQ487 => ?_
        obtain ⟨rfl, Nq487, e487⟩ := hQ487
        have N487 := Fr.app N473 Nq487
        show own_Go p e below s _ _ _ (T487.setTop (mkF m 191 _ [(.int (-1 : Int32))]))
        refine g_iload X487 hx 193 (hb hby at_191) rfl rfl ?_
        refine g_icmpNo X487 hx 196 (hb hby at_193) (own_ii_ne_f (by decide)) rfl ?_
        refine g_iconst X487 hx 197 (hb hby at_196) (1 : Int32) rfl rfl ?_
        refine g_goto X487 hx 201 (hb hby at_197) (by decide) (by decide) ?_
        refine own_retN X487 hx hlk (t := .boolean) hret (by simp) (hb hby at_201) ?_ (by decide) (by decide)
        rw [e487]
        exact ⟨rfl, N487⟩
      · refine g_ifNo X473 hx 144 (hb hby at_141) (own_i0_eq_f c486) rfl ?_
        refine g_iconst X473 hx 145 (hb hby at_144) (1 : Int32) rfl rfl ?_
        refine g_goto X473 hx 149 (hb hby at_145) (by decide) (by decide) ?_
        refine g_istore X473 hx 151 (hb hby at_149) (l' := #[.val (.int p0), .val (.int p1), .val (.int p2), .val (.ref b245), .val (.ref b257), .val (.ref b276), .val (.ref b296), .val (.ref b319), .val (.int (1 : Int32)), .val (.int (1 : Int32)), .val (.ref b296), .val (.int (1 : Int32)), .unset]) rfl rfl ?_
        refine g_iload X473 hx 153 (hb hby at_151) rfl rfl ?_
        refine g_iload X473 hx 155 (hb hby at_153) rfl rfl ?_
        refine g_icmpNo X473 hx 158 (hb hby at_155) (own_ii_lt_f (by decide)) rfl ?_
        refine g_iload X473 hx 160 (hb hby at_158) rfl rfl ?_
        refine g_ifNo X473 hx 163 (hb hby at_160) (own_i0_eq_f (by decide)) rfl ?_
        refine g_aload X473 hx 165 (hb hby at_163) rfl rfl rfl ?_
        refine g_aload X473 hx 167 (hb hby at_165) rfl rfl rfl ?_
        have f491 : Exa Z T473.heap b257 "com/example/entitygate/entitygate/OpenElements" := (((Exa.ext E319 f324).keep Kq341).keep Kq473)
        have f492 : Exa Z T473.heap b296 "com/example/entitygate/entitygate/HtmlNode$Element" := (((Exa.ext E319 f330).keep Kq341).keep Kq473)
        have f493 : Fld Z T473.heap b257 "com/example/entitygate/entitygate/OpenElements" "elements" "[Lcom/example/entitygate/entitygate/HtmlNode$Element;" (.ref ae_268) := (((Fld.ext E319 ((Fld.ext E296 ((Fld.ext E276 f268_0).keep Kq293 (ninS ne282 nin0))).keep Kq316 (ninS ne302 nin0))).keep Kq341 (ninS ne325 nin0)).keep Kq473 (ninS (Ne.symm ne259) (ninS ne282 (ninS (Ne.symm ne260) nin0))))
        have f494 : Fld Z T473.heap b257 "com/example/entitygate/entitygate/OpenElements" "size" "I" (.int (0 : Int32)) := (((Fld.ext E319 ((Fld.ext E296 ((Fld.ext E276 f268_1).keep Kq293 (ninS ne282 nin0))).keep Kq316 (ninS ne302 nin0))).keep Kq341 (ninS ne325 nin0)).keep Kq473 (ninS (Ne.symm ne259) (ninS ne282 (ninS (Ne.symm ne260) nin0))))
        have f495 : Fld Z T473.heap b257 "com/example/entitygate/entitygate/OpenElements" "landmarkCount" "I" (.int (0 : Int32)) := (((Fld.ext E319 ((Fld.ext E296 ((Fld.ext E276 f268_2).keep Kq293 (ninS ne282 nin0))).keep Kq316 (ninS ne302 nin0))).keep Kq341 (ninS ne325 nin0)).keep Kq473 (ninS (Ne.symm ne259) (ninS ne282 (ninS (Ne.symm ne260) nin0))))
        have f496 : Fld Z T473.heap b296 "com/example/entitygate/entitygate/HtmlNode$Element" "tag" "Lcom/example/entitygate/entitygate/HtmlTag;" .null := (((Fld.ext E319 f316_0).keep Kq341 (ninS ne331 nin0)).keep Kq473 (ninS (Ne.symm ne298) (ninS (Ne.symm ne306) (ninS (Ne.symm ne300) nin0))))
        have f497 : Fld Z T473.heap b296 "com/example/entitygate/entitygate/HtmlNode$Element" "namespace" "Lcom/example/entitygate/entitygate/HtmlNode$Namespace;" .null := (((Fld.ext E319 f316_1).keep Kq341 (ninS ne331 nin0)).keep Kq473 (ninS (Ne.symm ne298) (ninS (Ne.symm ne306) (ninS (Ne.symm ne300) nin0))))
        have f498 : Fld Z T473.heap b296 "com/example/entitygate/entitygate/HtmlNode$Element" "open" "Z" (.int (0 : Int32)) := (((Fld.ext E319 f316_2).keep Kq341 (ninS ne331 nin0)).keep Kq473 (ninS (Ne.symm ne298) (ninS (Ne.symm ne306) (ninS (Ne.symm ne300) nin0))))
        have f499 : Arv Z T473.heap ae_268 ke_268 (.object "com/example/entitygate/entitygate/HtmlNode$Element") (64 : Int32) [.null, .null, .null, .null] .null := (((f326.ext E319).keep Kq341 (ninS ne327 nin0)).keep Kq473 (ninS (Ne.symm ne270) (ninS ne283 (ninS (Ne.symm ne272) nin0))))
        have f500 : Sta Z T473.heap "com/example/entitygate/entitygate/HtmlNode$Namespace" "HTML" "Lcom/example/entitygate/entitygate/HtmlNode$Namespace;" (.ref ht) := (own_Sta_keep Kq473 f483 (allS (own_plainE f474) (allS (own_plainE f475) (allS (own_plainA f482) all0))))
        refine own_callV X473 hx hZ hown (hw _ (List.mem_of_getElem? (i := 55) rfl)) (hw _ (List.mem_of_getElem? (i := 56) rfl)) (own_nf hZ (hw _ (List.mem_of_getElem? (i := 58) rfl))) (hw _ (List.mem_of_getElem? (i := 58) rfl)) (hw _ (List.mem_of_getElem? (i := 57) rfl)) (by decide) (rm_push0 l Z a0 hw [] b257 b296 ae_268 ke_268 ht T473.heap n0 z485 f491 f492 f493 f494 f495 f496 f497 f498 f499 o268_0 f500 ne302 ne273 (Ne.symm ne304) g_b257 g_b296 g_ae_268) (hw _ (List.mem_of_getElem? (i := 59) rfl)) (hw _ (List.mem_of_getElem? (i := 2) rfl)) rfl 0 (by decide) (by decide) (by decide) (by decide) f491 [(.ref b296)] [] rfl pd_7 rfl 170 rfl (by rw [hml]; rfl) rfl (hb hby at_167) rfl fun T490 v490 L490 X490 hQ490 => ?_
        obtain ⟨rfl, Nq490, Kq490, f490_0, f490_1, f490_2, f490_3, v490_0⟩ := hQ490
        have N490 := Fr.app N473 Nq490
        have K501 : Keep h0 T490.heap [] := K484.trans Kq490 (allS (Or.inr sz_b257) (allS (Or.inr sz_b296) (allS (Or.inr sq_ae_268) all0)))
        have z502 : n0 ≤ T490.heap.size := (Nat.le_trans z485 Kq490.1)
        show own_Go p e below s _ _ _ (T490.setTop (mkF m 170 _ []))
        refine g_iload X490 hx 172 (hb hby at_170) rfl rfl ?_
        refine g_iload X490 hx 174 (hb hby at_172) rfl rfl ?_
        refine g_icmpYes X490 hx 182 (hb hby at_174) (own_ii_ge_t (by decide)) (by decide) (by decide) ?_
        refine g_iconst X490 hx 183 (hb hby at_182) (-1 : Int32) rfl rfl ?_
        refine g_istore X490 hx 185 (hb hby at_183) (l' := #[.val (.int p0), .val (.int p1), .val (.int p2), .val (.ref b245), .val (.ref b257), .val (.ref b276), .val (.ref b296), .val (.ref b319), .val (.int (1 : Int32)), .val (.int (1 : Int32)), .val (.ref b296), .val (.int (1 : Int32)), .val (.int (-1 : Int32))]) rfl rfl ?_
        refine g_aload_n X490 hx 186 (hb hby at_185) rfl rfl rfl ?_
        refine g_aload X490 hx 188 (hb hby at_186) rfl rfl rfl ?_
        have f504 : Fld Z T490.heap b245 "com/example/entitygate/entitygate/OpenElements" "elements" "[Lcom/example/entitygate/entitygate/HtmlNode$Element;" (.ref ae_253) := (f473_0.keep Kq490 (ninS ne259 (ninS ne298 (ninS ne270 nin0))))
        have f505 : Fld Z T490.heap b245 "com/example/entitygate/entitygate/OpenElements" "size" "I" (.int (1 : Int32)) := (f473_1.keep Kq490 (ninS ne259 (ninS ne298 (ninS ne270 nin0))))
        have f506 : Arv Z T490.heap ae_253 ke_253 (.object "com/example/entitygate/entitygate/HtmlNode$Element") (64 : Int32) [(.ref b276), .null, .null, .null] .null := (v473_0.keep Kq490 (ninS ne260 (ninS ne300 (ninS ne272 nin0))))
        have f507 : Exa Z T490.heap b245 "com/example/entitygate/entitygate/OpenElements" := ((f474.keep Kq473).keep Kq490)
        refine own_callV X490 hx hZ hown (hw _ (List.mem_of_getElem? (i := 48) rfl)) (hw _ (List.mem_of_getElem? (i := 49) rfl)) (own_nf hZ (hw _ (List.mem_of_getElem? (i := 51) rfl))) (hw _ (List.mem_of_getElem? (i := 51) rfl)) (hw _ (List.mem_of_getElem? (i := 50) rfl)) (by decide) (rm_ix1open l Z a0 hw [] b245 ae_253 ke_253 b276 b296 T490.heap n0 z502 f490_3 f504 f505 f506 o253_0 ne306) (hw _ (List.mem_of_getElem? (i := 52) rfl)) (hw _ (List.mem_of_getElem? (i := 2) rfl)) rfl 0 (by decide) (by decide) (by decide) (by decide) f507 [(.ref b296)] [] rfl pd_6 rfl 191 rfl (by rw [hml]; rfl) rfl (hb hby at_188) rfl fun T503 v503 L503 X503 hQ503 => ?_
        obtain ⟨rfl, Nq503, e503⟩ := hQ503
        have N503 := Fr.app N490 Nq503
        show own_Go p e below s _ _ _ (T503.setTop (mkF m 191 _ [(.int (-1 : Int32))]))
        refine g_iload X503 hx 193 (hb hby at_191) rfl rfl ?_
        refine g_icmpNo X503 hx 196 (hb hby at_193) (own_ii_ne_f (by decide)) rfl ?_
        refine g_iconst X503 hx 197 (hb hby at_196) (1 : Int32) rfl rfl ?_
        refine g_goto X503 hx 201 (hb hby at_197) (by decide) (by decide) ?_
        refine own_retN X503 hx hlk (t := .boolean) hret (by simp) (hb hby at_201) ?_ (by decide) (by decide)
        rw [e503]
        exact ⟨rfl, N503⟩
    · show own_Go p e below s _ _ _ (T341.setTop (mkF m 102 _ []))
      refine g_iload X341 hx 104 (hb hby at_102) rfl rfl ?_
      refine g_iconst X341 hx 105 (hb hby at_104) (1 : Int32) rfl rfl ?_
      refine g_icmpNo X341 hx 108 (hb hby at_105) (own_ii_lt_f (by decide)) rfl ?_
      refine g_aload_n X341 hx 109 (hb hby at_108) rfl rfl rfl ?_
      refine g_aload X341 hx 111 (hb hby at_109) rfl rfl rfl ?_
      have f509 : Exa Z T341.heap b245 "com/example/entitygate/entitygate/OpenElements" := ((Exa.ext E319 f320).keep Kq341)
      have f510 : Exa Z T341.heap b276 "com/example/entitygate/entitygate/HtmlNode$Element" := ((Exa.ext E319 f328).keep Kq341)
      have f511 : Fld Z T341.heap b245 "com/example/entitygate/entitygate/OpenElements" "elements" "[Lcom/example/entitygate/entitygate/HtmlNode$Element;" (.ref ae_253) := ((Fld.ext E319 ((Fld.ext E296 ((Fld.ext E276 ((Fld.ext E257 f253_0).keep Kq268 (ninS ne259 nin0))).keep Kq293 (ninS ne278 nin0))).keep Kq316 (ninS ne298 nin0))).keep Kq341 (ninS ne321 nin0))
      have f512 : Fld Z T341.heap b245 "com/example/entitygate/entitygate/OpenElements" "size" "I" (.int (0 : Int32)) := ((Fld.ext E319 ((Fld.ext E296 ((Fld.ext E276 ((Fld.ext E257 f253_1).keep Kq268 (ninS ne259 nin0))).keep Kq293 (ninS ne278 nin0))).keep Kq316 (ninS ne298 nin0))).keep Kq341 (ninS ne321 nin0))
      have f513 : Fld Z T341.heap b245 "com/example/entitygate/entitygate/OpenElements" "landmarkCount" "I" (.int (0 : Int32)) := ((Fld.ext E319 ((Fld.ext E296 ((Fld.ext E276 ((Fld.ext E257 f253_2).keep Kq268 (ninS ne259 nin0))).keep Kq293 (ninS ne278 nin0))).keep Kq316 (ninS ne298 nin0))).keep Kq341 (ninS ne321 nin0))
      have f514 : Fld Z T341.heap b276 "com/example/entitygate/entitygate/HtmlNode$Element" "tag" "Lcom/example/entitygate/entitygate/HtmlTag;" .null := ((Fld.ext E319 ((Fld.ext E296 f293_0).keep Kq316 (ninS ne306 nin0))).keep Kq341 (ninS ne329 nin0))
      have f515 : Fld Z T341.heap b276 "com/example/entitygate/entitygate/HtmlNode$Element" "namespace" "Lcom/example/entitygate/entitygate/HtmlNode$Namespace;" .null := ((Fld.ext E319 ((Fld.ext E296 f293_1).keep Kq316 (ninS ne306 nin0))).keep Kq341 (ninS ne329 nin0))
      have f516 : Fld Z T341.heap b276 "com/example/entitygate/entitygate/HtmlNode$Element" "open" "Z" (.int (0 : Int32)) := ((Fld.ext E319 ((Fld.ext E296 f293_2).keep Kq316 (ninS ne306 nin0))).keep Kq341 (ninS ne329 nin0))
      have f517 : Arv Z T341.heap ae_253 ke_253 (.object "com/example/entitygate/entitygate/HtmlNode$Element") (64 : Int32) [.null, .null, .null, .null] .null := ((f322.ext E319).keep Kq341 (ninS ne323 nin0))
      have f518 : Sta Z T341.heap "com/example/entitygate/entitygate/HtmlNode$Namespace" "HTML" "Lcom/example/entitygate/entitygate/HtmlNode$Namespace;" (.ref ht) := (own_Sta_keep K342 S_ht all0)
      refine own_callV X341 hx hZ hown (hw _ (List.mem_of_getElem? (i := 55) rfl)) (hw _ (List.mem_of_getElem? (i := 56) rfl)) (own_nf hZ (hw _ (List.mem_of_getElem? (i := 58) rfl))) (hw _ (List.mem_of_getElem? (i := 58) rfl)) (hw _ (List.mem_of_getElem? (i := 57) rfl)) (by decide) (rm_push0 l Z a0 hw [] b245 b276 ae_253 ke_253 ht T341.heap n0 z343 f509 f510 f511 f512 f513 f514 f515 f516 f517 o253_0 f518 ne278 ne254 (Ne.symm ne280) g_b245 g_b276 g_ae_253) (hw _ (List.mem_of_getElem? (i := 59) rfl)) (hw _ (List.mem_of_getElem? (i := 2) rfl)) rfl 0 (by decide) (by decide) (by decide) (by decide) f509 [(.ref b276)] [] rfl pd_7 rfl 114 rfl (by rw [hml]; rfl) rfl (hb hby at_111) rfl fun T508 v508 L508 X508 hQ508 => ?_
      obtain ⟨rfl, Nq508, Kq508, f508_0, f508_1, f508_2, f508_3, v508_0⟩ := hQ508
      have N508 := Fr.app N341 Nq508
      have K519 : Keep h0 T508.heap [] := K342.trans Kq508 (allS (Or.inr sz_b245) (allS (Or.inr sz_b276) (allS (Or.inr sq_ae_253) all0)))
      have z520 : n0 ≤ T508.heap.size := (Nat.le_trans z343 Kq508.1)
      show own_Go p e below s _ _ _ (T508.setTop (mkF m 114 _ []))
      refine g_iload X508 hx 116 (hb hby at_114) rfl rfl ?_
      refine g_iconst X508 hx 117 (hb hby at_116) (2 : Int32) rfl rfl ?_
      refine g_icmpNo X508 hx 120 (hb hby at_117) (own_ii_lt_f (by decide)) rfl ?_
      refine g_aload_n X508 hx 121 (hb hby at_120) rfl rfl rfl ?_
      refine g_aload X508 hx 123 (hb hby at_121) rfl rfl rfl ?_
      have f522 : Exa Z T508.heap b245 "com/example/entitygate/entitygate/OpenElements" := (f509.keep Kq508)
      have f523 : Exa Z T508.heap b296 "com/example/entitygate/entitygate/HtmlNode$Element" := (((Exa.ext E319 f330).keep Kq341).keep Kq508)
      have f524 : Fld Z T508.heap b296 "com/example/entitygate/entitygate/HtmlNode$Element" "tag" "Lcom/example/entitygate/entitygate/HtmlTag;" .null := (((Fld.ext E319 f316_0).keep Kq341 (ninS ne331 nin0)).keep Kq508 (ninS (Ne.symm ne298) (ninS (Ne.symm ne306) (ninS (Ne.symm ne300) nin0))))
      have f525 : Fld Z T508.heap b296 "com/example/entitygate/entitygate/HtmlNode$Element" "namespace" "Lcom/example/entitygate/entitygate/HtmlNode$Namespace;" .null := (((Fld.ext E319 f316_1).keep Kq341 (ninS ne331 nin0)).keep Kq508 (ninS (Ne.symm ne298) (ninS (Ne.symm ne306) (ninS (Ne.symm ne300) nin0))))
      have f526 : Fld Z T508.heap b296 "com/example/entitygate/entitygate/HtmlNode$Element" "open" "Z" (.int (0 : Int32)) := (((Fld.ext E319 f316_2).keep Kq341 (ninS ne331 nin0)).keep Kq508 (ninS (Ne.symm ne298) (ninS (Ne.symm ne306) (ninS (Ne.symm ne300) nin0))))
      have f527 : Sta Z T508.heap "com/example/entitygate/entitygate/HtmlNode$Namespace" "HTML" "Lcom/example/entitygate/entitygate/HtmlNode$Namespace;" (.ref ht) := (own_Sta_keep Kq508 f518 (allS (own_plainE f509) (allS (own_plainE f510) (allS (own_plainA f517) all0))))
      refine own_callV X508 hx hZ hown (hw _ (List.mem_of_getElem? (i := 55) rfl)) (hw _ (List.mem_of_getElem? (i := 56) rfl)) (own_nf hZ (hw _ (List.mem_of_getElem? (i := 58) rfl))) (hw _ (List.mem_of_getElem? (i := 58) rfl)) (hw _ (List.mem_of_getElem? (i := 57) rfl)) (by decide) (rm_push1 l Z a0 hw [] b245 b296 ae_253 ke_253 ht b276 T508.heap n0 z520 f522 f523 f508_0 f508_1 f508_2 f524 f525 f526 v508_0 o253_0 f527 ne298 ne254 (Ne.symm ne300) g_b245 g_b296 g_ae_253) (hw _ (List.mem_of_getElem? (i := 59) rfl)) (hw _ (List.mem_of_getElem? (i := 2) rfl)) rfl 0 (by decide) (by decide) (by decide) (by decide) f522 [(.ref b296)] [] rfl pd_7 rfl 126 rfl (by rw [hml]; rfl) rfl (hb hby at_123) rfl fun T521 v521 L521 X521 hQ521 => ?_
      obtain ⟨rfl, Nq521, Kq521, f521_0, f521_1, f521_2, f521_3, v521_0⟩ := hQ521
      have N521 := Fr.app N508 Nq521
      have K528 : Keep h0 T521.heap [] := K519.trans Kq521 (allS (Or.inr sz_b245) (allS (Or.inr sz_b296) (allS (Or.inr sq_ae_253) all0)))
      have z529 : n0 ≤ T521.heap.size := (Nat.le_trans z520 Kq521.1)
      show own_Go p e below s _ _ _ (T521.setTop (mkF m 126 _ []))
      refine g_iload X521 hx 128 (hb hby at_126) rfl rfl ?_
      refine g_iconst X521 hx 129 (hb hby at_128) (3 : Int32) rfl rfl ?_
      refine g_icmpYes X521 hx 138 (hb hby at_129) (own_ii_lt_t (by decide)) (by decide) (by decide) ?_
      refine g_iload_n X521 hx 139 (hb hby at_138) rfl rfl ?_
      refine g_iconst X521 hx 140 (hb hby at_139) (1 : Int32) rfl rfl ?_
      refine g_iand X521 hx 141 (hb hby at_140) rfl ?_
      by_cases c530 : (p2 &&& (1 : Int32)) = (0 : Int32)
      · refine g_ifYes X521 hx 148 (hb hby at_141) (own_i0_eq_t c530) (by decide) (by decide) ?_
        refine g_iconst X521 hx 149 (hb hby at_148) (0 : Int32) rfl rfl ?_
        refine g_istore X521 hx 151 (hb hby at_149) (l' := #[.val (.int p0), .val (.int p1), .val (.int p2), .val (.ref b245), .val (.ref b257), .val (.ref b276), .val (.ref b296), .val (.ref b319), .val (.int (2 : Int32)), .val (.int (1 : Int32)), .val (.ref b296), .val (.int (0 : Int32)), .unset]) rfl rfl ?_
        refine g_iload X521 hx 153 (hb hby at_151) rfl rfl ?_
        refine g_iload X521 hx 155 (hb hby at_153) rfl rfl ?_
        refine g_icmpYes X521 hx 170 (hb hby at_155) (own_ii_lt_t (by decide)) (by decide) (by decide) ?_
        refine g_iload X521 hx 172 (hb hby at_170) rfl rfl ?_
        refine g_iload X521 hx 174 (hb hby at_172) rfl rfl ?_
        refine g_icmpNo X521 hx 177 (hb hby at_174) (own_ii_ge_f (by decide)) rfl ?_
        refine g_iload X521 hx 179 (hb hby at_177) rfl rfl ?_
        refine g_goto X521 hx 183 (hb hby at_179) (by decide) (by decide) ?_
        refine g_istore X521 hx 185 (hb hby at_183) (l' := #[.val (.int p0), .val (.int p1), .val (.int p2), .val (.ref b245), .val (.ref b257), .val (.ref b276), .val (.ref b296), .val (.ref b319), .val (.int (2 : Int32)), .val (.int (1 : Int32)), .val (.ref b296), .val (.int (0 : Int32)), .val (.int (1 : Int32))]) rfl rfl ?_
        refine g_aload_n X521 hx 186 (hb hby at_185) rfl rfl rfl ?_
        refine g_aload X521 hx 188 (hb hby at_186) rfl rfl rfl ?_
        have f532 : Exa Z T521.heap b245 "com/example/entitygate/entitygate/OpenElements" := (f522.keep Kq521)
        refine own_callV X521 hx hZ hown (hw _ (List.mem_of_getElem? (i := 48) rfl)) (hw _ (List.mem_of_getElem? (i := 49) rfl)) (own_nf hZ (hw _ (List.mem_of_getElem? (i := 51) rfl))) (hw _ (List.mem_of_getElem? (i := 51) rfl)) (hw _ (List.mem_of_getElem? (i := 50) rfl)) (by decide) (rm_ix21 l Z a0 hw [] b245 ae_253 ke_253 b276 b296 T521.heap n0 z529 f521_3 f521_0 f521_1 v521_0 o253_0) (hw _ (List.mem_of_getElem? (i := 52) rfl)) (hw _ (List.mem_of_getElem? (i := 2) rfl)) rfl 0 (by decide) (by decide) (by decide) (by decide) f532 [(.ref b296)] [] rfl pd_6 rfl 191 rfl (by rw [hml]; rfl) rfl (hb hby at_188) rfl fun T531 v531 L531 X531 hQ531 => ?_
        obtain ⟨rfl, Nq531, e531⟩ := hQ531
        have N531 := Fr.app N521 Nq531
        show own_Go p e below s _ _ _ (T531.setTop (mkF m 191 _ [(.int (1 : Int32))]))
        refine g_iload X531 hx 193 (hb hby at_191) rfl rfl ?_
        refine g_icmpNo X531 hx 196 (hb hby at_193) (own_ii_ne_f (by decide)) rfl ?_
        refine g_iconst X531 hx 197 (hb hby at_196) (1 : Int32) rfl rfl ?_
        refine g_goto X531 hx 201 (hb hby at_197) (by decide) (by decide) ?_
        refine own_retN X531 hx hlk (t := .boolean) hret (by simp) (hb hby at_201) ?_ (by decide) (by decide)
        rw [e531]
        exact ⟨rfl, N531⟩
      · refine g_ifNo X521 hx 144 (hb hby at_141) (own_i0_eq_f c530) rfl ?_
        refine g_iconst X521 hx 145 (hb hby at_144) (1 : Int32) rfl rfl ?_
        refine g_goto X521 hx 149 (hb hby at_145) (by decide) (by decide) ?_
        refine g_istore X521 hx 151 (hb hby at_149) (l' := #[.val (.int p0), .val (.int p1), .val (.int p2), .val (.ref b245), .val (.ref b257), .val (.ref b276), .val (.ref b296), .val (.ref b319), .val (.int (2 : Int32)), .val (.int (1 : Int32)), .val (.ref b296), .val (.int (1 : Int32)), .unset]) rfl rfl ?_
        refine g_iload X521 hx 153 (hb hby at_151) rfl rfl ?_
        refine g_iload X521 hx 155 (hb hby at_153) rfl rfl ?_
        refine g_icmpYes X521 hx 170 (hb hby at_155) (own_ii_lt_t (by decide)) (by decide) (by decide) ?_
        refine g_iload X521 hx 172 (hb hby at_170) rfl rfl ?_
        refine g_iload X521 hx 174 (hb hby at_172) rfl rfl ?_
        refine g_icmpNo X521 hx 177 (hb hby at_174) (own_ii_ge_f (by decide)) rfl ?_
        refine g_iload X521 hx 179 (hb hby at_177) rfl rfl ?_
        refine g_goto X521 hx 183 (hb hby at_179) (by decide) (by decide) ?_
        refine g_istore X521 hx 185 (hb hby at_183) (l' := #[.val (.int p0), .val (.int p1), .val (.int p2), .val (.ref b245), .val (.ref b257), .val (.ref b276), .val (.ref b296), .val (.ref b319), .val (.int (2 : Int32)), .val (.int (1 : Int32)), .val (.ref b296), .val (.int (1 : Int32)), .val (.int (1 : Int32))]) rfl rfl ?_
        refine g_aload_n X521 hx 186 (hb hby at_185) rfl rfl rfl ?_
        refine g_aload X521 hx 188 (hb hby at_186) rfl rfl rfl ?_
        have f534 : Exa Z T521.heap b245 "com/example/entitygate/entitygate/OpenElements" := (f522.keep Kq521)
        refine own_callV X521 hx hZ hown (hw _ (List.mem_of_getElem? (i := 48) rfl)) (hw _ (List.mem_of_getElem? (i := 49) rfl)) (own_nf hZ (hw _ (List.mem_of_getElem? (i := 51) rfl))) (hw _ (List.mem_of_getElem? (i := 51) rfl)) (hw _ (List.mem_of_getElem? (i := 50) rfl)) (by decide) (rm_ix21 l Z a0 hw [] b245 ae_253 ke_253 b276 b296 T521.heap n0 z529 f521_3 f521_0 f521_1 v521_0 o253_0) (hw _ (List.mem_of_getElem? (i := 52) rfl)) (hw _ (List.mem_of_getElem? (i := 2) rfl)) rfl 0 (by decide) (by decide) (by decide) (by decide) f534 [(.ref b296)] [] rfl pd_6 rfl 191 rfl (by rw [hml]; rfl) rfl (hb hby at_188) rfl fun T533 v533 L533 X533 hQ533 => ?_
        obtain ⟨rfl, Nq533, e533⟩ := hQ533
        have N533 := Fr.app N521 Nq533
        show own_Go p e below s _ _ _ (T533.setTop (mkF m 191 _ [(.int (1 : Int32))]))
        refine g_iload X533 hx 193 (hb hby at_191) rfl rfl ?_
        refine g_icmpNo X533 hx 196 (hb hby at_193) (own_ii_ne_f (by decide)) rfl ?_
        refine g_iconst X533 hx 197 (hb hby at_196) (1 : Int32) rfl rfl ?_
        refine g_goto X533 hx 201 (hb hby at_197) (by decide) (by decide) ?_
        refine own_retN X533 hx hlk (t := .boolean) hret (by simp) (hb hby at_201) ?_ (by decide) (by decide)
        rw [e533]
        exact ⟨rfl, N533⟩
    · show own_Go p e below s _ _ _ (T341.setTop (mkF m 102 _ []))
      refine g_iload X341 hx 104 (hb hby at_102) rfl rfl ?_
      refine g_iconst X341 hx 105 (hb hby at_104) (1 : Int32) rfl rfl ?_
      refine g_icmpNo X341 hx 108 (hb hby at_105) (own_ii_lt_f (by decide)) rfl ?_
      refine g_aload_n X341 hx 109 (hb hby at_108) rfl rfl rfl ?_
      refine g_aload X341 hx 111 (hb hby at_109) rfl rfl rfl ?_
      have f536 : Exa Z T341.heap b245 "com/example/entitygate/entitygate/OpenElements" := ((Exa.ext E319 f320).keep Kq341)
      have f537 : Exa Z T341.heap b276 "com/example/entitygate/entitygate/HtmlNode$Element" := ((Exa.ext E319 f328).keep Kq341)
      have f538 : Fld Z T341.heap b245 "com/example/entitygate/entitygate/OpenElements" "elements" "[Lcom/example/entitygate/entitygate/HtmlNode$Element;" (.ref ae_253) := ((Fld.ext E319 ((Fld.ext E296 ((Fld.ext E276 ((Fld.ext E257 f253_0).keep Kq268 (ninS ne259 nin0))).keep Kq293 (ninS ne278 nin0))).keep Kq316 (ninS ne298 nin0))).keep Kq341 (ninS ne321 nin0))
      have f539 : Fld Z T341.heap b245 "com/example/entitygate/entitygate/OpenElements" "size" "I" (.int (0 : Int32)) := ((Fld.ext E319 ((Fld.ext E296 ((Fld.ext E276 ((Fld.ext E257 f253_1).keep Kq268 (ninS ne259 nin0))).keep Kq293 (ninS ne278 nin0))).keep Kq316 (ninS ne298 nin0))).keep Kq341 (ninS ne321 nin0))
      have f540 : Fld Z T341.heap b245 "com/example/entitygate/entitygate/OpenElements" "landmarkCount" "I" (.int (0 : Int32)) := ((Fld.ext E319 ((Fld.ext E296 ((Fld.ext E276 ((Fld.ext E257 f253_2).keep Kq268 (ninS ne259 nin0))).keep Kq293 (ninS ne278 nin0))).keep Kq316 (ninS ne298 nin0))).keep Kq341 (ninS ne321 nin0))
      have f541 : Fld Z T341.heap b276 "com/example/entitygate/entitygate/HtmlNode$Element" "tag" "Lcom/example/entitygate/entitygate/HtmlTag;" .null := ((Fld.ext E319 ((Fld.ext E296 f293_0).keep Kq316 (ninS ne306 nin0))).keep Kq341 (ninS ne329 nin0))
      have f542 : Fld Z T341.heap b276 "com/example/entitygate/entitygate/HtmlNode$Element" "namespace" "Lcom/example/entitygate/entitygate/HtmlNode$Namespace;" .null := ((Fld.ext E319 ((Fld.ext E296 f293_1).keep Kq316 (ninS ne306 nin0))).keep Kq341 (ninS ne329 nin0))
      have f543 : Fld Z T341.heap b276 "com/example/entitygate/entitygate/HtmlNode$Element" "open" "Z" (.int (0 : Int32)) := ((Fld.ext E319 ((Fld.ext E296 f293_2).keep Kq316 (ninS ne306 nin0))).keep Kq341 (ninS ne329 nin0))
      have f544 : Arv Z T341.heap ae_253 ke_253 (.object "com/example/entitygate/entitygate/HtmlNode$Element") (64 : Int32) [.null, .null, .null, .null] .null := ((f322.ext E319).keep Kq341 (ninS ne323 nin0))
      have f545 : Sta Z T341.heap "com/example/entitygate/entitygate/HtmlNode$Namespace" "HTML" "Lcom/example/entitygate/entitygate/HtmlNode$Namespace;" (.ref ht) := (own_Sta_keep K342 S_ht all0)
      refine own_callV X341 hx hZ hown (hw _ (List.mem_of_getElem? (i := 55) rfl)) (hw _ (List.mem_of_getElem? (i := 56) rfl)) (own_nf hZ (hw _ (List.mem_of_getElem? (i := 58) rfl))) (hw _ (List.mem_of_getElem? (i := 58) rfl)) (hw _ (List.mem_of_getElem? (i := 57) rfl)) (by decide) (rm_push0 l Z a0 hw [] b245 b276 ae_253 ke_253 ht T341.heap n0 z343 f536 f537 f538 f539 f540 f541 f542 f543 f544 o253_0 f545 ne278 ne254 (Ne.symm ne280) g_b245 g_b276 g_ae_253) (hw _ (List.mem_of_getElem? (i := 59) rfl)) (hw _ (List.mem_of_getElem? (i := 2) rfl)) rfl 0 (by decide) (by decide) (by decide) (by decide) f536 [(.ref b276)] [] rfl pd_7 rfl 114 rfl (by rw [hml]; rfl) rfl (hb hby at_111) rfl fun T535 v535 L535 X535 hQ535 => ?_
      obtain ⟨rfl, Nq535, Kq535, f535_0, f535_1, f535_2, f535_3, v535_0⟩ := hQ535
      have N535 := Fr.app N341 Nq535
      have K546 : Keep h0 T535.heap [] := K342.trans Kq535 (allS (Or.inr sz_b245) (allS (Or.inr sz_b276) (allS (Or.inr sq_ae_253) all0)))
      have z547 : n0 ≤ T535.heap.size := (Nat.le_trans z343 Kq535.1)
      show own_Go p e below s _ _ _ (T535.setTop (mkF m 114 _ []))
      refine g_iload X535 hx 116 (hb hby at_114) rfl rfl ?_
      refine g_iconst X535 hx 117 (hb hby at_116) (2 : Int32) rfl rfl ?_
      refine g_icmpNo X535 hx 120 (hb hby at_117) (own_ii_lt_f (by decide)) rfl ?_
      refine g_aload_n X535 hx 121 (hb hby at_120) rfl rfl rfl ?_
      refine g_aload X535 hx 123 (hb hby at_121) rfl rfl rfl ?_
      have f549 : Exa Z T535.heap b245 "com/example/entitygate/entitygate/OpenElements" := (f536.keep Kq535)
      have f550 : Exa Z T535.heap b296 "com/example/entitygate/entitygate/HtmlNode$Element" := (((Exa.ext E319 f330).keep Kq341).keep Kq535)
      have f551 : Fld Z T535.heap b296 "com/example/entitygate/entitygate/HtmlNode$Element" "tag" "Lcom/example/entitygate/entitygate/HtmlTag;" .null := (((Fld.ext E319 f316_0).keep Kq341 (ninS ne331 nin0)).keep Kq535 (ninS (Ne.symm ne298) (ninS (Ne.symm ne306) (ninS (Ne.symm ne300) nin0))))
      have f552 : Fld Z T535.heap b296 "com/example/entitygate/entitygate/HtmlNode$Element" "namespace" "Lcom/example/entitygate/entitygate/HtmlNode$Namespace;" .null := (((Fld.ext E319 f316_1).keep Kq341 (ninS ne331 nin0)).keep Kq535 (ninS (Ne.symm ne298) (ninS (Ne.symm ne306) (ninS (Ne.symm ne300) nin0))))
      have f553 : Fld Z T535.heap b296 "com/example/entitygate/entitygate/HtmlNode$Element" "open" "Z" (.int (0 : Int32)) := (((Fld.ext E319 f316_2).keep Kq341 (ninS ne331 nin0)).keep Kq535 (ninS (Ne.symm ne298) (ninS (Ne.symm ne306) (ninS (Ne.symm ne300) nin0))))
      have f554 : Sta Z T535.heap "com/example/entitygate/entitygate/HtmlNode$Namespace" "HTML" "Lcom/example/entitygate/entitygate/HtmlNode$Namespace;" (.ref ht) := (own_Sta_keep Kq535 f545 (allS (own_plainE f536) (allS (own_plainE f537) (allS (own_plainA f544) all0))))
      refine own_callV X535 hx hZ hown (hw _ (List.mem_of_getElem? (i := 55) rfl)) (hw _ (List.mem_of_getElem? (i := 56) rfl)) (own_nf hZ (hw _ (List.mem_of_getElem? (i := 58) rfl))) (hw _ (List.mem_of_getElem? (i := 58) rfl)) (hw _ (List.mem_of_getElem? (i := 57) rfl)) (by decide) (rm_push1 l Z a0 hw [] b245 b296 ae_253 ke_253 ht b276 T535.heap n0 z547 f549 f550 f535_0 f535_1 f535_2 f551 f552 f553 v535_0 o253_0 f554 ne298 ne254 (Ne.symm ne300) g_b245 g_b296 g_ae_253) (hw _ (List.mem_of_getElem? (i := 59) rfl)) (hw _ (List.mem_of_getElem? (i := 2) rfl)) rfl 0 (by decide) (by decide) (by decide) (by decide) f549 [(.ref b296)] [] rfl pd_7 rfl 126 rfl (by rw [hml]; rfl) rfl (hb hby at_123) rfl fun T548 v548 L548 X548 hQ548 => ?_
      obtain ⟨rfl, Nq548, Kq548, f548_0, f548_1, f548_2, f548_3, v548_0⟩ := hQ548
      have N548 := Fr.app N535 Nq548
      have K555 : Keep h0 T548.heap [] := K546.trans Kq548 (allS (Or.inr sz_b245) (allS (Or.inr sz_b296) (allS (Or.inr sq_ae_253) all0)))
      have z556 : n0 ≤ T548.heap.size := (Nat.le_trans z547 Kq548.1)
      show own_Go p e below s _ _ _ (T548.setTop (mkF m 126 _ []))
      refine g_iload X548 hx 128 (hb hby at_126) rfl rfl ?_
      refine g_iconst X548 hx 129 (hb hby at_128) (3 : Int32) rfl rfl ?_
      refine g_icmpNo X548 hx 132 (hb hby at_129) (own_ii_lt_f (by decide)) rfl ?_
      refine g_aload_n X548 hx 133 (hb hby at_132) rfl rfl rfl ?_
      refine g_aload X548 hx 135 (hb hby at_133) rfl rfl rfl ?_
      have f558 : Exa Z T548.heap b245 "com/example/entitygate/entitygate/OpenElements" := (f549.keep Kq548)
      have f559 : Exa Z T548.heap b319 "com/example/entitygate/entitygate/HtmlNode$Element" := (((A319.keep Kq341).keep Kq535).keep Kq548)
      have f560 : Fld Z T548.heap b319 "com/example/entitygate/entitygate/HtmlNode$Element" "tag" "Lcom/example/entitygate/entitygate/HtmlTag;" .null := ((f341_0.keep Kq535 (ninS (Ne.symm ne321) (ninS (Ne.symm ne329) (ninS (Ne.symm ne323) nin0)))).keep Kq548 (ninS (Ne.symm ne321) (ninS (Ne.symm ne331) (ninS (Ne.symm ne323) nin0))))
      have f561 : Fld Z T548.heap b319 "com/example/entitygate/entitygate/HtmlNode$Element" "namespace" "Lcom/example/entitygate/entitygate/HtmlNode$Namespace;" .null := ((f341_1.keep Kq535 (ninS (Ne.symm ne321) (ninS (Ne.symm ne329) (ninS (Ne.symm ne323) nin0)))).keep Kq548 (ninS (Ne.symm ne321) (ninS (Ne.symm ne331) (ninS (Ne.symm ne323) nin0))))
      have f562 : Fld Z T548.heap b319 "com/example/entitygate/entitygate/HtmlNode$Element" "open" "Z" (.int (0 : Int32)) := ((f341_2.keep Kq535 (ninS (Ne.symm ne321) (ninS (Ne.symm ne329) (ninS (Ne.symm ne323) nin0)))).keep Kq548 (ninS (Ne.symm ne321) (ninS (Ne.symm ne331) (ninS (Ne.symm ne323) nin0))))
      have f563 : Sta Z T548.heap "com/example/entitygate/entitygate/HtmlNode$Namespace" "HTML" "Lcom/example/entitygate/entitygate/HtmlNode$Namespace;" (.ref ht) := (own_Sta_keep Kq548 f554 (allS (own_plainE f549) (allS (own_plainE f550) (allS (own_plainA v535_0) all0))))
      refine own_callV X548 hx hZ hown (hw _ (List.mem_of_getElem? (i := 55) rfl)) (hw _ (List.mem_of_getElem? (i := 56) rfl)) (own_nf hZ (hw _ (List.mem_of_getElem? (i := 58) rfl))) (hw _ (List.mem_of_getElem? (i := 58) rfl)) (hw _ (List.mem_of_getElem? (i := 57) rfl)) (by decide) (rm_push2 l Z a0 hw [] b245 b319 ae_253 ke_253 ht b276 b296 T548.heap n0 z556 f558 f559 f548_0 f548_1 f548_2 f560 f561 f562 v548_0 o253_0 f563 ne321 ne254 (Ne.symm ne323) g_b245 g_b319 g_ae_253) (hw _ (List.mem_of_getElem? (i := 59) rfl)) (hw _ (List.mem_of_getElem? (i := 2) rfl)) rfl 0 (by decide) (by decide) (by decide) (by decide) f558 [(.ref b319)] [] rfl pd_7 rfl 138 rfl (by rw [hml]; rfl) rfl (hb hby at_135) rfl fun T557 v557 L557 X557 hQ557 => ?_
      obtain ⟨rfl, Nq557, Kq557, f557_0, f557_1, f557_2, f557_3, v557_0⟩ := hQ557
      have N557 := Fr.app N548 Nq557
      have K564 : Keep h0 T557.heap [] := K555.trans Kq557 (allS (Or.inr sz_b245) (allS (Or.inr sz_b319) (allS (Or.inr sq_ae_253) all0)))
      have z565 : n0 ≤ T557.heap.size := (Nat.le_trans z556 Kq557.1)
      show own_Go p e below s _ _ _ (T557.setTop (mkF m 138 _ []))
      refine g_iload_n X557 hx 139 (hb hby at_138) rfl rfl ?_
      refine g_iconst X557 hx 140 (hb hby at_139) (1 : Int32) rfl rfl ?_
      refine g_iand X557 hx 141 (hb hby at_140) rfl ?_
      by_cases c566 : (p2 &&& (1 : Int32)) = (0 : Int32)
      · refine g_ifYes X557 hx 148 (hb hby at_141) (own_i0_eq_t c566) (by decide) (by decide) ?_
        refine g_iconst X557 hx 149 (hb hby at_148) (0 : Int32) rfl rfl ?_
        refine g_istore X557 hx 151 (hb hby at_149) (l' := #[.val (.int p0), .val (.int p1), .val (.int p2), .val (.ref b245), .val (.ref b257), .val (.ref b276), .val (.ref b296), .val (.ref b319), .val (.int (3 : Int32)), .val (.int (1 : Int32)), .val (.ref b296), .val (.int (0 : Int32)), .unset]) rfl rfl ?_
        refine g_iload X557 hx 153 (hb hby at_151) rfl rfl ?_
        refine g_iload X557 hx 155 (hb hby at_153) rfl rfl ?_
        refine g_icmpYes X557 hx 170 (hb hby at_155) (own_ii_lt_t (by decide)) (by decide) (by decide) ?_
        refine g_iload X557 hx 172 (hb hby at_170) rfl rfl ?_
        refine g_iload X557 hx 174 (hb hby at_172) rfl rfl ?_
        refine g_icmpNo X557 hx 177 (hb hby at_174) (own_ii_ge_f (by decide)) rfl ?_
        refine g_iload X557 hx 179 (hb hby at_177) rfl rfl ?_
        refine g_goto X557 hx 183 (hb hby at_179) (by decide) (by decide) ?_
        refine g_istore X557 hx 185 (hb hby at_183) (l' := #[.val (.int p0), .val (.int p1), .val (.int p2), .val (.ref b245), .val (.ref b257), .val (.ref b276), .val (.ref b296), .val (.ref b319), .val (.int (3 : Int32)), .val (.int (1 : Int32)), .val (.ref b296), .val (.int (0 : Int32)), .val (.int (1 : Int32))]) rfl rfl ?_
        refine g_aload_n X557 hx 186 (hb hby at_185) rfl rfl rfl ?_
        refine g_aload X557 hx 188 (hb hby at_186) rfl rfl rfl ?_
        have f568 : Fld Z T557.heap b296 "com/example/entitygate/entitygate/HtmlNode$Element" "open" "Z" (.int (1 : Int32)) := (f548_3.keep Kq557 (ninS (Ne.symm ne298) (ninS ne331 (ninS (Ne.symm ne300) nin0))))
        have f569 : Exa Z T557.heap b245 "com/example/entitygate/entitygate/OpenElements" := (f558.keep Kq557)
        refine own_callV X557 hx hZ hown (hw _ (List.mem_of_getElem? (i := 48) rfl)) (hw _ (List.mem_of_getElem? (i := 49) rfl)) (own_nf hZ (hw _ (List.mem_of_getElem? (i := 51) rfl))) (hw _ (List.mem_of_getElem? (i := 51) rfl)) (hw _ (List.mem_of_getElem? (i := 50) rfl)) (by decide) (rm_ix31 l Z a0 hw [] b245 ae_253 ke_253 b276 b296 b319 T557.heap n0 z565 f568 f557_0 f557_1 v557_0 o253_0 (Ne.symm ne331)) (hw _ (List.mem_of_getElem? (i := 52) rfl)) (hw _ (List.mem_of_getElem? (i := 2) rfl)) rfl 0 (by decide) (by decide) (by decide) (by decide) f569 [(.ref b296)] [] rfl pd_6 rfl 191 rfl (by rw [hml]; rfl) rfl (hb hby at_188) rfl fun T567 v567 L567 X567 hQ567 => ?_
        obtain ⟨rfl, Nq567, e567⟩ := hQ567
        have N567 := Fr.app N557 Nq567
        show own_Go p e below s _ _ _ (T567.setTop (mkF m 191 _ [(.int (1 : Int32))]))
        refine g_iload X567 hx 193 (hb hby at_191) rfl rfl ?_
        refine g_icmpNo X567 hx 196 (hb hby at_193) (own_ii_ne_f (by decide)) rfl ?_
        refine g_iconst X567 hx 197 (hb hby at_196) (1 : Int32) rfl rfl ?_
        refine g_goto X567 hx 201 (hb hby at_197) (by decide) (by decide) ?_
        refine own_retN X567 hx hlk (t := .boolean) hret (by simp) (hb hby at_201) ?_ (by decide) (by decide)
        rw [e567]
        exact ⟨rfl, N567⟩
      · refine g_ifNo X557 hx 144 (hb hby at_141) (own_i0_eq_f c566) rfl ?_
        refine g_iconst X557 hx 145 (hb hby at_144) (1 : Int32) rfl rfl ?_
        refine g_goto X557 hx 149 (hb hby at_145) (by decide) (by decide) ?_
        refine g_istore X557 hx 151 (hb hby at_149) (l' := #[.val (.int p0), .val (.int p1), .val (.int p2), .val (.ref b245), .val (.ref b257), .val (.ref b276), .val (.ref b296), .val (.ref b319), .val (.int (3 : Int32)), .val (.int (1 : Int32)), .val (.ref b296), .val (.int (1 : Int32)), .unset]) rfl rfl ?_
        refine g_iload X557 hx 153 (hb hby at_151) rfl rfl ?_
        refine g_iload X557 hx 155 (hb hby at_153) rfl rfl ?_
        refine g_icmpYes X557 hx 170 (hb hby at_155) (own_ii_lt_t (by decide)) (by decide) (by decide) ?_
        refine g_iload X557 hx 172 (hb hby at_170) rfl rfl ?_
        refine g_iload X557 hx 174 (hb hby at_172) rfl rfl ?_
        refine g_icmpNo X557 hx 177 (hb hby at_174) (own_ii_ge_f (by decide)) rfl ?_
        refine g_iload X557 hx 179 (hb hby at_177) rfl rfl ?_
        refine g_goto X557 hx 183 (hb hby at_179) (by decide) (by decide) ?_
        refine g_istore X557 hx 185 (hb hby at_183) (l' := #[.val (.int p0), .val (.int p1), .val (.int p2), .val (.ref b245), .val (.ref b257), .val (.ref b276), .val (.ref b296), .val (.ref b319), .val (.int (3 : Int32)), .val (.int (1 : Int32)), .val (.ref b296), .val (.int (1 : Int32)), .val (.int (1 : Int32))]) rfl rfl ?_
        refine g_aload_n X557 hx 186 (hb hby at_185) rfl rfl rfl ?_
        refine g_aload X557 hx 188 (hb hby at_186) rfl rfl rfl ?_
        have f571 : Fld Z T557.heap b296 "com/example/entitygate/entitygate/HtmlNode$Element" "open" "Z" (.int (1 : Int32)) := (f548_3.keep Kq557 (ninS (Ne.symm ne298) (ninS ne331 (ninS (Ne.symm ne300) nin0))))
        have f572 : Exa Z T557.heap b245 "com/example/entitygate/entitygate/OpenElements" := (f558.keep Kq557)
        refine own_callV X557 hx hZ hown (hw _ (List.mem_of_getElem? (i := 48) rfl)) (hw _ (List.mem_of_getElem? (i := 49) rfl)) (own_nf hZ (hw _ (List.mem_of_getElem? (i := 51) rfl))) (hw _ (List.mem_of_getElem? (i := 51) rfl)) (hw _ (List.mem_of_getElem? (i := 50) rfl)) (by decide) (rm_ix31 l Z a0 hw [] b245 ae_253 ke_253 b276 b296 b319 T557.heap n0 z565 f571 f557_0 f557_1 v557_0 o253_0 (Ne.symm ne331)) (hw _ (List.mem_of_getElem? (i := 52) rfl)) (hw _ (List.mem_of_getElem? (i := 2) rfl)) rfl 0 (by decide) (by decide) (by decide) (by decide) f572 [(.ref b296)] [] rfl pd_6 rfl 191 rfl (by rw [hml]; rfl) rfl (hb hby at_188) rfl fun T570 v570 L570 X570 hQ570 => ?_
        obtain ⟨rfl, Nq570, e570⟩ := hQ570
        have N570 := Fr.app N557 Nq570
        show own_Go p e below s _ _ _ (T570.setTop (mkF m 191 _ [(.int (1 : Int32))]))
        refine g_iload X570 hx 193 (hb hby at_191) rfl rfl ?_
        refine g_icmpNo X570 hx 196 (hb hby at_193) (own_ii_ne_f (by decide)) rfl ?_
        refine g_iconst X570 hx 197 (hb hby at_196) (1 : Int32) rfl rfl ?_
        refine g_goto X570 hx 201 (hb hby at_197) (by decide) (by decide) ?_
        refine own_retN X570 hx hlk (t := .boolean) hret (by simp) (hb hby at_201) ?_ (by decide) (by decide)
        rw [e570]
        exact ⟨rfl, N570⟩
  · show own_Go p e below s _ _ _ (T341.setTop (mkF m 77 _ []))
    refine g_iload X341 hx 79 (hb hby at_77) rfl rfl ?_
    refine g_ifYes X341 hx 87 (hb hby at_79) (own_i0_ne_t (by decide)) (by decide) (by decide) ?_
    refine g_iload X341 hx 89 (hb hby at_87) rfl rfl ?_
    refine g_iconst X341 hx 90 (hb hby at_89) (1 : Int32) rfl rfl ?_
    refine g_icmpYes X341 hx 98 (hb hby at_90) (own_ii_ne_t (by decide)) (by decide) (by decide) ?_
    refine g_aload X341 hx 100 (hb hby at_98) rfl rfl rfl ?_
    refine g_astore X341 hx 102 (hb hby at_100) rfl (l' := #[.val (.int p0), .val (.int p1), .val (.int p2), .val (.ref b245), .val (.ref b257), .val (.ref b276), .val (.ref b296), .val (.ref b319), .val (.int cn), .val (.int (2 : Int32)), .val (.ref b319), .unset, .unset]) rfl rfl ?_
    rcases own_four p0 q_cn with rfl | rfl | rfl | rfl
    · show own_Go p e below s _ _ _ (T341.setTop (mkF m 102 _ []))
      refine g_iload X341 hx 104 (hb hby at_102) rfl rfl ?_
      refine g_iconst X341 hx 105 (hb hby at_104) (1 : Int32) rfl rfl ?_
      refine g_icmpYes X341 hx 114 (hb hby at_105) (own_ii_lt_t (by decide)) (by decide) (by decide) ?_
      refine g_iload X341 hx 116 (hb hby at_114) rfl rfl ?_
      refine g_iconst X341 hx 117 (hb hby at_116) (2 : Int32) rfl rfl ?_
      refine g_icmpYes X341 hx 126 (hb hby at_117) (own_ii_lt_t (by decide)) (by decide) (by decide) ?_
      refine g_iload X341 hx 128 (hb hby at_126) rfl rfl ?_
      refine g_iconst X341 hx 129 (hb hby at_128) (3 : Int32) rfl rfl ?_
      refine g_icmpYes X341 hx 138 (hb hby at_129) (own_ii_lt_t (by decide)) (by decide) (by decide) ?_
      refine g_iload_n X341 hx 139 (hb hby at_138) rfl rfl ?_
      refine g_iconst X341 hx 140 (hb hby at_139) (1 : Int32) rfl rfl ?_
      refine g_iand X341 hx 141 (hb hby at_140) rfl ?_
      by_cases c573 : (p2 &&& (1 : Int32)) = (0 : Int32)
      · refine g_ifYes X341 hx 148 (hb hby at_141) (own_i0_eq_t c573) (by decide) (by decide) ?_
        refine g_iconst X341 hx 149 (hb hby at_148) (0 : Int32) rfl rfl ?_
        refine g_istore X341 hx 151 (hb hby at_149) (l' := #[.val (.int p0), .val (.int p1), .val (.int p2), .val (.ref b245), .val (.ref b257), .val (.ref b276), .val (.ref b296), .val (.ref b319), .val (.int (0 : Int32)), .val (.int (2 : Int32)), .val (.ref b319), .val (.int (0 : Int32)), .unset]) rfl rfl ?_
        refine g_iload X341 hx 153 (hb hby at_151) rfl rfl ?_
        refine g_iload X341 hx 155 (hb hby at_153) rfl rfl ?_
        refine g_icmpNo X341 hx 158 (hb hby at_155) (own_ii_lt_f (by decide)) rfl ?_
        refine g_iload X341 hx 160 (hb hby at_158) rfl rfl ?_
        refine g_ifYes X341 hx 170 (hb hby at_160) (own_i0_eq_t (by decide)) (by decide) (by decide) ?_
        refine g_iload X341 hx 172 (hb hby at_170) rfl rfl ?_
        refine g_iload X341 hx 174 (hb hby at_172) rfl rfl ?_
        refine g_icmpYes X341 hx 182 (hb hby at_174) (own_ii_ge_t (by decide)) (by decide) (by decide) ?_
        refine g_iconst X341 hx 183 (hb hby at_182) (-1 : Int32) rfl rfl ?_
        refine g_istore X341 hx 185 (hb hby at_183) (l' := #[.val (.int p0), .val (.int p1), .val (.int p2), .val (.ref b245), .val (.ref b257), .val (.ref b276), .val (.ref b296), .val (.ref b319), .val (.int (0 : Int32)), .val (.int (2 : Int32)), .val (.ref b319), .val (.int (0 : Int32)), .val (.int (-1 : Int32))]) rfl rfl ?_
        refine g_aload_n X341 hx 186 (hb hby at_185) rfl rfl rfl ?_
        refine g_aload X341 hx 188 (hb hby at_186) rfl rfl rfl ?_
        have f575 : Exa Z T341.heap b245 "com/example/entitygate/entitygate/OpenElements" := ((Exa.ext E319 f320).keep Kq341)
        refine own_callV X341 hx hZ hown (hw _ (List.mem_of_getElem? (i := 48) rfl)) (hw _ (List.mem_of_getElem? (i := 49) rfl)) (own_nf hZ (hw _ (List.mem_of_getElem? (i := 51) rfl))) (hw _ (List.mem_of_getElem? (i := 51) rfl)) (hw _ (List.mem_of_getElem? (i := 50) rfl)) (by decide) (rm_ix0closed l Z a0 hw [] b245 b319 T341.heap n0 z343 f341_2) (hw _ (List.mem_of_getElem? (i := 52) rfl)) (hw _ (List.mem_of_getElem? (i := 2) rfl)) rfl 0 (by decide) (by decide) (by decide) (by decide) f575 [(.ref b319)] [] rfl pd_6 rfl 191 rfl (by rw [hml]; rfl) rfl (hb hby at_188) rfl fun T574 v574 L574 X574 hQ574 => ?_
        obtain ⟨rfl, Nq574, e574⟩ := hQ574
        have N574 := Fr.app N341 Nq574
        show own_Go p e below s _ _ _ (T574.setTop (mkF m 191 _ [(.int (-1 : Int32))]))
        refine g_iload X574 hx 193 (hb hby at_191) rfl rfl ?_
        refine g_icmpNo X574 hx 196 (hb hby at_193) (own_ii_ne_f (by decide)) rfl ?_
        refine g_iconst X574 hx 197 (hb hby at_196) (1 : Int32) rfl rfl ?_
        refine g_goto X574 hx 201 (hb hby at_197) (by decide) (by decide) ?_
        refine own_retN X574 hx hlk (t := .boolean) hret (by simp) (hb hby at_201) ?_ (by decide) (by decide)
        rw [e574]
        exact ⟨rfl, N574⟩
      · refine g_ifNo X341 hx 144 (hb hby at_141) (own_i0_eq_f c573) rfl ?_
        refine g_iconst X341 hx 145 (hb hby at_144) (1 : Int32) rfl rfl ?_
        refine g_goto X341 hx 149 (hb hby at_145) (by decide) (by decide) ?_
        refine g_istore X341 hx 151 (hb hby at_149) (l' := #[.val (.int p0), .val (.int p1), .val (.int p2), .val (.ref b245), .val (.ref b257), .val (.ref b276), .val (.ref b296), .val (.ref b319), .val (.int (0 : Int32)), .val (.int (2 : Int32)), .val (.ref b319), .val (.int (1 : Int32)), .unset]) rfl rfl ?_
        refine g_iload X341 hx 153 (hb hby at_151) rfl rfl ?_
        refine g_iload X341 hx 155 (hb hby at_153) rfl rfl ?_
        refine g_icmpNo X341 hx 158 (hb hby at_155) (own_ii_lt_f (by decide)) rfl ?_
        refine g_iload X341 hx 160 (hb hby at_158) rfl rfl ?_
        refine g_ifNo X341 hx 163 (hb hby at_160) (own_i0_eq_f (by decide)) rfl ?_
        refine g_aload X341 hx 165 (hb hby at_163) rfl rfl rfl ?_
        refine g_aload X341 hx 167 (hb hby at_165) rfl rfl rfl ?_
        have f577 : Exa Z T341.heap b257 "com/example/entitygate/entitygate/OpenElements" := ((Exa.ext E319 f324).keep Kq341)
        have f578 : Exa Z T341.heap b319 "com/example/entitygate/entitygate/HtmlNode$Element" := (A319.keep Kq341)
        have f579 : Fld Z T341.heap b257 "com/example/entitygate/entitygate/OpenElements" "elements" "[Lcom/example/entitygate/entitygate/HtmlNode$Element;" (.ref ae_268) := ((Fld.ext E319 ((Fld.ext E296 ((Fld.ext E276 f268_0).keep Kq293 (ninS ne282 nin0))).keep Kq316 (ninS ne302 nin0))).keep Kq341 (ninS ne325 nin0))
        have f580 : Fld Z T341.heap b257 "com/example/entitygate/entitygate/OpenElements" "size" "I" (.int (0 : Int32)) := ((Fld.ext E319 ((Fld.ext E296 ((Fld.ext E276 f268_1).keep Kq293 (ninS ne282 nin0))).keep Kq316 (ninS ne302 nin0))).keep Kq341 (ninS ne325 nin0))
        have f581 : Fld Z T341.heap b257 "com/example/entitygate/entitygate/OpenElements" "landmarkCount" "I" (.int (0 : Int32)) := ((Fld.ext E319 ((Fld.ext E296 ((Fld.ext E276 f268_2).keep Kq293 (ninS ne282 nin0))).keep Kq316 (ninS ne302 nin0))).keep Kq341 (ninS ne325 nin0))
        have f582 : Arv Z T341.heap ae_268 ke_268 (.object "com/example/entitygate/entitygate/HtmlNode$Element") (64 : Int32) [.null, .null, .null, .null] .null := ((f326.ext E319).keep Kq341 (ninS ne327 nin0))
        have f583 : Sta Z T341.heap "com/example/entitygate/entitygate/HtmlNode$Namespace" "HTML" "Lcom/example/entitygate/entitygate/HtmlNode$Namespace;" (.ref ht) := (own_Sta_keep K342 S_ht all0)
        refine own_callV X341 hx hZ hown (hw _ (List.mem_of_getElem? (i := 55) rfl)) (hw _ (List.mem_of_getElem? (i := 56) rfl)) (own_nf hZ (hw _ (List.mem_of_getElem? (i := 58) rfl))) (hw _ (List.mem_of_getElem? (i := 58) rfl)) (hw _ (List.mem_of_getElem? (i := 57) rfl)) (by decide) (rm_push0 l Z a0 hw [] b257 b319 ae_268 ke_268 ht T341.heap n0 z343 f577 f578 f579 f580 f581 f341_0 f341_1 f341_2 f582 o268_0 f583 ne325 ne273 (Ne.symm ne327) g_b257 g_b319 g_ae_268) (hw _ (List.mem_of_getElem? (i := 59) rfl)) (hw _ (List.mem_of_getElem? (i := 2) rfl)) rfl 0 (by decide) (by decide) (by decide) (by decide) f577 [(.ref b319)] [] rfl pd_7 rfl 170 rfl (by rw [hml]; rfl) rfl (hb hby at_167) rfl fun T576 v576 L576 X576 hQ576 => ?_
        obtain ⟨rfl, Nq576, Kq576, f576_0, f576_1, f576_2, f576_3, v576_0⟩ := hQ576
        have N576 := Fr.app N341 Nq576
        have K584 : Keep h0 T576.heap [] := K342.trans Kq576 (allS (Or.inr sz_b257) (allS (Or.inr sz_b319) (allS (Or.inr sq_ae_268) all0)))
        have z585 : n0 ≤ T576.heap.size := (Nat.le_trans z343 Kq576.1)
        show own_Go p e below s _ _ _ (T576.setTop (mkF m 170 _ []))
        refine g_iload X576 hx 172 (hb hby at_170) rfl rfl ?_
        refine g_iload X576 hx 174 (hb hby at_172) rfl rfl ?_
        refine g_icmpYes X576 hx 182 (hb hby at_174) (own_ii_ge_t (by decide)) (by decide) (by decide) ?_
        refine g_iconst X576 hx 183 (hb hby at_182) (-1 : Int32) rfl rfl ?_
        refine g_istore X576 hx 185 (hb hby at_183) (l' := #[.val (.int p0), .val (.int p1), .val (.int p2), .val (.ref b245), .val (.ref b257), .val (.ref b276), .val (.ref b296), .val (.ref b319), .val (.int (0 : Int32)), .val (.int (2 : Int32)), .val (.ref b319), .val (.int (1 : Int32)), .val (.int (-1 : Int32))]) rfl rfl ?_
        refine g_aload_n X576 hx 186 (hb hby at_185) rfl rfl rfl ?_
        refine g_aload X576 hx 188 (hb hby at_186) rfl rfl rfl ?_
        have f587 : Fld Z T576.heap b245 "com/example/entitygate/entitygate/OpenElements" "elements" "[Lcom/example/entitygate/entitygate/HtmlNode$Element;" (.ref ae_253) := (((Fld.ext E319 ((Fld.ext E296 ((Fld.ext E276 ((Fld.ext E257 f253_0).keep Kq268 (ninS ne259 nin0))).keep Kq293 (ninS ne278 nin0))).keep Kq316 (ninS ne298 nin0))).keep Kq341 (ninS ne321 nin0)).keep Kq576 (ninS ne259 (ninS ne321 (ninS ne270 nin0))))
        have f588 : Fld Z T576.heap b245 "com/example/entitygate/entitygate/OpenElements" "size" "I" (.int (0 : Int32)) := (((Fld.ext E319 ((Fld.ext E296 ((Fld.ext E276 ((Fld.ext E257 f253_1).keep Kq268 (ninS ne259 nin0))).keep Kq293 (ninS ne278 nin0))).keep Kq316 (ninS ne298 nin0))).keep Kq341 (ninS ne321 nin0)).keep Kq576 (ninS ne259 (ninS ne321 (ninS ne270 nin0))))
        have f589 : Arv Z T576.heap ae_253 ke_253 (.object "com/example/entitygate/entitygate/HtmlNode$Element") (64 : Int32) [.null, .null, .null, .null] .null := (((f322.ext E319).keep Kq341 (ninS ne323 nin0)).keep Kq576 (ninS ne260 (ninS ne323 (ninS ne272 nin0))))
        have f590 : Exa Z T576.heap b245 "com/example/entitygate/entitygate/OpenElements" := (((Exa.ext E319 f320).keep Kq341).keep Kq576)
        refine own_callV X576 hx hZ hown (hw _ (List.mem_of_getElem? (i := 48) rfl)) (hw _ (List.mem_of_getElem? (i := 49) rfl)) (own_nf hZ (hw _ (List.mem_of_getElem? (i := 51) rfl))) (hw _ (List.mem_of_getElem? (i := 51) rfl)) (hw _ (List.mem_of_getElem? (i := 50) rfl)) (by decide) (rm_ix0open l Z a0 hw [] b245 ae_253 ke_253 b319 T576.heap n0 z585 f576_3 f587 f588 f589 o253_0) (hw _ (List.mem_of_getElem? (i := 52) rfl)) (hw _ (List.mem_of_getElem? (i := 2) rfl)) rfl 0 (by decide) (by decide) (by decide) (by decide) f590 [(.ref b319)] [] rfl pd_6 rfl 191 rfl (by rw [hml]; rfl) rfl (hb hby at_188) rfl fun T586 v586 L586 X586 hQ586 => ?_
        obtain ⟨rfl, Nq586, e586⟩ := hQ586
        have N586 := Fr.app N576 Nq586
        show own_Go p e below s _ _ _ (T586.setTop (mkF m 191 _ [(.int (-1 : Int32))]))
        refine g_iload X586 hx 193 (hb hby at_191) rfl rfl ?_
        refine g_icmpNo X586 hx 196 (hb hby at_193) (own_ii_ne_f (by decide)) rfl ?_
        refine g_iconst X586 hx 197 (hb hby at_196) (1 : Int32) rfl rfl ?_
        refine g_goto X586 hx 201 (hb hby at_197) (by decide) (by decide) ?_
        refine own_retN X586 hx hlk (t := .boolean) hret (by simp) (hb hby at_201) ?_ (by decide) (by decide)
        rw [e586]
        exact ⟨rfl, N586⟩
    · show own_Go p e below s _ _ _ (T341.setTop (mkF m 102 _ []))
      refine g_iload X341 hx 104 (hb hby at_102) rfl rfl ?_
      refine g_iconst X341 hx 105 (hb hby at_104) (1 : Int32) rfl rfl ?_
      refine g_icmpNo X341 hx 108 (hb hby at_105) (own_ii_lt_f (by decide)) rfl ?_
      refine g_aload_n X341 hx 109 (hb hby at_108) rfl rfl rfl ?_
      refine g_aload X341 hx 111 (hb hby at_109) rfl rfl rfl ?_
      have f592 : Exa Z T341.heap b245 "com/example/entitygate/entitygate/OpenElements" := ((Exa.ext E319 f320).keep Kq341)
      have f593 : Exa Z T341.heap b276 "com/example/entitygate/entitygate/HtmlNode$Element" := ((Exa.ext E319 f328).keep Kq341)
      have f594 : Fld Z T341.heap b245 "com/example/entitygate/entitygate/OpenElements" "elements" "[Lcom/example/entitygate/entitygate/HtmlNode$Element;" (.ref ae_253) := ((Fld.ext E319 ((Fld.ext E296 ((Fld.ext E276 ((Fld.ext E257 f253_0).keep Kq268 (ninS ne259 nin0))).keep Kq293 (ninS ne278 nin0))).keep Kq316 (ninS ne298 nin0))).keep Kq341 (ninS ne321 nin0))
      have f595 : Fld Z T341.heap b245 "com/example/entitygate/entitygate/OpenElements" "size" "I" (.int (0 : Int32)) := ((Fld.ext E319 ((Fld.ext E296 ((Fld.ext E276 ((Fld.ext E257 f253_1).keep Kq268 (ninS ne259 nin0))).keep Kq293 (ninS ne278 nin0))).keep Kq316 (ninS ne298 nin0))).keep Kq341 (ninS ne321 nin0))
      have f596 : Fld Z T341.heap b245 "com/example/entitygate/entitygate/OpenElements" "landmarkCount" "I" (.int (0 : Int32)) := ((Fld.ext E319 ((Fld.ext E296 ((Fld.ext E276 ((Fld.ext E257 f253_2).keep Kq268 (ninS ne259 nin0))).keep Kq293 (ninS ne278 nin0))).keep Kq316 (ninS ne298 nin0))).keep Kq341 (ninS ne321 nin0))
      have f597 : Fld Z T341.heap b276 "com/example/entitygate/entitygate/HtmlNode$Element" "tag" "Lcom/example/entitygate/entitygate/HtmlTag;" .null := ((Fld.ext E319 ((Fld.ext E296 f293_0).keep Kq316 (ninS ne306 nin0))).keep Kq341 (ninS ne329 nin0))
      have f598 : Fld Z T341.heap b276 "com/example/entitygate/entitygate/HtmlNode$Element" "namespace" "Lcom/example/entitygate/entitygate/HtmlNode$Namespace;" .null := ((Fld.ext E319 ((Fld.ext E296 f293_1).keep Kq316 (ninS ne306 nin0))).keep Kq341 (ninS ne329 nin0))
      have f599 : Fld Z T341.heap b276 "com/example/entitygate/entitygate/HtmlNode$Element" "open" "Z" (.int (0 : Int32)) := ((Fld.ext E319 ((Fld.ext E296 f293_2).keep Kq316 (ninS ne306 nin0))).keep Kq341 (ninS ne329 nin0))
      have f600 : Arv Z T341.heap ae_253 ke_253 (.object "com/example/entitygate/entitygate/HtmlNode$Element") (64 : Int32) [.null, .null, .null, .null] .null := ((f322.ext E319).keep Kq341 (ninS ne323 nin0))
      have f601 : Sta Z T341.heap "com/example/entitygate/entitygate/HtmlNode$Namespace" "HTML" "Lcom/example/entitygate/entitygate/HtmlNode$Namespace;" (.ref ht) := (own_Sta_keep K342 S_ht all0)
      refine own_callV X341 hx hZ hown (hw _ (List.mem_of_getElem? (i := 55) rfl)) (hw _ (List.mem_of_getElem? (i := 56) rfl)) (own_nf hZ (hw _ (List.mem_of_getElem? (i := 58) rfl))) (hw _ (List.mem_of_getElem? (i := 58) rfl)) (hw _ (List.mem_of_getElem? (i := 57) rfl)) (by decide) (rm_push0 l Z a0 hw [] b245 b276 ae_253 ke_253 ht T341.heap n0 z343 f592 f593 f594 f595 f596 f597 f598 f599 f600 o253_0 f601 ne278 ne254 (Ne.symm ne280) g_b245 g_b276 g_ae_253) (hw _ (List.mem_of_getElem? (i := 59) rfl)) (hw _ (List.mem_of_getElem? (i := 2) rfl)) rfl 0 (by decide) (by decide) (by decide) (by decide) f592 [(.ref b276)] [] rfl pd_7 rfl 114 rfl (by rw [hml]; rfl) rfl (hb hby at_111) rfl fun T591 v591 L591 X591 hQ591 => ?_
      obtain ⟨rfl, Nq591, Kq591, f591_0, f591_1, f591_2, f591_3, v591_0⟩ := hQ591
      have N591 := Fr.app N341 Nq591
      have K602 : Keep h0 T591.heap [] := K342.trans Kq591 (allS (Or.inr sz_b245) (allS (Or.inr sz_b276) (allS (Or.inr sq_ae_253) all0)))
      have z603 : n0 ≤ T591.heap.size := (Nat.le_trans z343 Kq591.1)
      show own_Go p e below s _ _ _ (T591.setTop (mkF m 114 _ []))
      refine g_iload X591 hx 116 (hb hby at_114) rfl rfl ?_
      refine g_iconst X591 hx 117 (hb hby at_116) (2 : Int32) rfl rfl ?_
      refine g_icmpYes X591 hx 126 (hb hby at_117) (own_ii_lt_t (by decide)) (by decide) (by decide) ?_
      refine g_iload X591 hx 128 (hb hby at_126) rfl rfl ?_
      refine g_iconst X591 hx 129 (hb hby at_128) (3 : Int32) rfl rfl ?_
      refine g_icmpYes X591 hx 138 (hb hby at_129) (own_ii_lt_t (by decide)) (by decide) (by decide) ?_
      refine g_iload_n X591 hx 139 (hb hby at_138) rfl rfl ?_
      refine g_iconst X591 hx 140 (hb hby at_139) (1 : Int32) rfl rfl ?_
      refine g_iand X591 hx 141 (hb hby at_140) rfl ?_
      by_cases c604 : (p2 &&& (1 : Int32)) = (0 : Int32)
      · refine g_ifYes X591 hx 148 (hb hby at_141) (own_i0_eq_t c604) (by decide) (by decide) ?_
        refine g_iconst X591 hx 149 (hb hby at_148) (0 : Int32) rfl rfl ?_
        refine g_istore X591 hx 151 (hb hby at_149) (l' := #[.val (.int p0), .val (.int p1), .val (.int p2), .val (.ref b245), .val (.ref b257), .val (.ref b276), .val (.ref b296), .val (.ref b319), .val (.int (1 : Int32)), .val (.int (2 : Int32)), .val (.ref b319), .val (.int (0 : Int32)), .unset]) rfl rfl ?_
        refine g_iload X591 hx 153 (hb hby at_151) rfl rfl ?_
        refine g_iload X591 hx 155 (hb hby at_153) rfl rfl ?_
        refine g_icmpNo X591 hx 158 (hb hby at_155) (own_ii_lt_f (by decide)) rfl ?_
        refine g_iload X591 hx 160 (hb hby at_158) rfl rfl ?_
        refine g_ifYes X591 hx 170 (hb hby at_160) (own_i0_eq_t (by decide)) (by decide) (by decide) ?_
        refine g_iload X591 hx 172 (hb hby at_170) rfl rfl ?_
        refine g_iload X591 hx 174 (hb hby at_172) rfl rfl ?_
        refine g_icmpYes X591 hx 182 (hb hby at_174) (own_ii_ge_t (by decide)) (by decide) (by decide) ?_
        refine g_iconst X591 hx 183 (hb hby at_182) (-1 : Int32) rfl rfl ?_
        refine g_istore X591 hx 185 (hb hby at_183) (l' := #[.val (.int p0), .val (.int p1), .val (.int p2), .val (.ref b245), .val (.ref b257), .val (.ref b276), .val (.ref b296), .val (.ref b319), .val (.int (1 : Int32)), .val (.int (2 : Int32)), .val (.ref b319), .val (.int (0 : Int32)), .val (.int (-1 : Int32))]) rfl rfl ?_
        refine g_aload_n X591 hx 186 (hb hby at_185) rfl rfl rfl ?_
        refine g_aload X591 hx 188 (hb hby at_186) rfl rfl rfl ?_
        have f606 : Fld Z T591.heap b319 "com/example/entitygate/entitygate/HtmlNode$Element" "open" "Z" (.int (0 : Int32)) := (f341_2.keep Kq591 (ninS (Ne.symm ne321) (ninS (Ne.symm ne329) (ninS (Ne.symm ne323) nin0))))
        have f607 : Exa Z T591.heap b245 "com/example/entitygate/entitygate/OpenElements" := (f592.keep Kq591)
        refine own_callV X591 hx hZ hown (hw _ (List.mem_of_getElem? (i := 48) rfl)) (hw _ (List.mem_of_getElem? (i := 49) rfl)) (own_nf hZ (hw _ (List.mem_of_getElem? (i := 51) rfl))) (hw _ (List.mem_of_getElem? (i := 51) rfl)) (hw _ (List.mem_of_getElem? (i := 50) rfl)) (by decide) (rm_ix1closed l Z a0 hw [] b245 b319 T591.heap n0 z603 f606) (hw _ (List.mem_of_getElem? (i := 52) rfl)) (hw _ (List.mem_of_getElem? (i := 2) rfl)) rfl 0 (by decide) (by decide) (by decide) (by decide) f607 [(.ref b319)] [] rfl pd_6 rfl 191 rfl (by rw [hml]; rfl) rfl (hb hby at_188) rfl fun T605 v605 L605 X605 hQ605 => ?_
        obtain ⟨rfl, Nq605, e605⟩ := hQ605
        have N605 := Fr.app N591 Nq605
        show own_Go p e below s _ _ _ (T605.setTop (mkF m 191 _ [(.int (-1 : Int32))]))
        refine g_iload X605 hx 193 (hb hby at_191) rfl rfl ?_
        refine g_icmpNo X605 hx 196 (hb hby at_193) (own_ii_ne_f (by decide)) rfl ?_
        refine g_iconst X605 hx 197 (hb hby at_196) (1 : Int32) rfl rfl ?_
        refine g_goto X605 hx 201 (hb hby at_197) (by decide) (by decide) ?_
        refine own_retN X605 hx hlk (t := .boolean) hret (by simp) (hb hby at_201) ?_ (by decide) (by decide)
        rw [e605]
        exact ⟨rfl, N605⟩
      · refine g_ifNo X591 hx 144 (hb hby at_141) (own_i0_eq_f c604) rfl ?_
        refine g_iconst X591 hx 145 (hb hby at_144) (1 : Int32) rfl rfl ?_
        refine g_goto X591 hx 149 (hb hby at_145) (by decide) (by decide) ?_
        refine g_istore X591 hx 151 (hb hby at_149) (l' := #[.val (.int p0), .val (.int p1), .val (.int p2), .val (.ref b245), .val (.ref b257), .val (.ref b276), .val (.ref b296), .val (.ref b319), .val (.int (1 : Int32)), .val (.int (2 : Int32)), .val (.ref b319), .val (.int (1 : Int32)), .unset]) rfl rfl ?_
        refine g_iload X591 hx 153 (hb hby at_151) rfl rfl ?_
        refine g_iload X591 hx 155 (hb hby at_153) rfl rfl ?_
        refine g_icmpNo X591 hx 158 (hb hby at_155) (own_ii_lt_f (by decide)) rfl ?_
        refine g_iload X591 hx 160 (hb hby at_158) rfl rfl ?_
        refine g_ifNo X591 hx 163 (hb hby at_160) (own_i0_eq_f (by decide)) rfl ?_
        refine g_aload X591 hx 165 (hb hby at_163) rfl rfl rfl ?_
        refine g_aload X591 hx 167 (hb hby at_165) rfl rfl rfl ?_
        have f609 : Exa Z T591.heap b257 "com/example/entitygate/entitygate/OpenElements" := (((Exa.ext E319 f324).keep Kq341).keep Kq591)
        have f610 : Exa Z T591.heap b319 "com/example/entitygate/entitygate/HtmlNode$Element" := ((A319.keep Kq341).keep Kq591)
        have f611 : Fld Z T591.heap b257 "com/example/entitygate/entitygate/OpenElements" "elements" "[Lcom/example/entitygate/entitygate/HtmlNode$Element;" (.ref ae_268) := (((Fld.ext E319 ((Fld.ext E296 ((Fld.ext E276 f268_0).keep Kq293 (ninS ne282 nin0))).keep Kq316 (ninS ne302 nin0))).keep Kq341 (ninS ne325 nin0)).keep Kq591 (ninS (Ne.symm ne259) (ninS ne282 (ninS (Ne.symm ne260) nin0))))
        have f612 : Fld Z T591.heap b257 "com/example/entitygate/entitygate/OpenElements" "size" "I" (.int (0 : Int32)) := (((Fld.ext E319 ((Fld.ext E296 ((Fld.ext E276 f268_1).keep Kq293 (ninS ne282 nin0))).keep Kq316 (ninS ne302 nin0))).keep Kq341 (ninS ne325 nin0)).keep Kq591 (ninS (Ne.symm ne259) (ninS ne282 (ninS (Ne.symm ne260) nin0))))
        have f613 : Fld Z T591.heap b257 "com/example/entitygate/entitygate/OpenElements" "landmarkCount" "I" (.int (0 : Int32)) := (((Fld.ext E319 ((Fld.ext E296 ((Fld.ext E276 f268_2).keep Kq293 (ninS ne282 nin0))).keep Kq316 (ninS ne302 nin0))).keep Kq341 (ninS ne325 nin0)).keep Kq591 (ninS (Ne.symm ne259) (ninS ne282 (ninS (Ne.symm ne260) nin0))))
        have f614 : Fld Z T591.heap b319 "com/example/entitygate/entitygate/HtmlNode$Element" "tag" "Lcom/example/entitygate/entitygate/HtmlTag;" .null := (f341_0.keep Kq591 (ninS (Ne.symm ne321) (ninS (Ne.symm ne329) (ninS (Ne.symm ne323) nin0))))
        have f615 : Fld Z T591.heap b319 "com/example/entitygate/entitygate/HtmlNode$Element" "namespace" "Lcom/example/entitygate/entitygate/HtmlNode$Namespace;" .null := (f341_1.keep Kq591 (ninS (Ne.symm ne321) (ninS (Ne.symm ne329) (ninS (Ne.symm ne323) nin0))))
        have f616 : Fld Z T591.heap b319 "com/example/entitygate/entitygate/HtmlNode$Element" "open" "Z" (.int (0 : Int32)) := (f341_2.keep Kq591 (ninS (Ne.symm ne321) (ninS (Ne.symm ne329) (ninS (Ne.symm ne323) nin0))))
        have f617 : Arv Z T591.heap ae_268 ke_268 (.object "com/example/entitygate/entitygate/HtmlNode$Element") (64 : Int32) [.null, .null, .null, .null] .null := (((f326.ext E319).keep Kq341 (ninS ne327 nin0)).keep Kq591 (ninS (Ne.symm ne270) (ninS ne283 (ninS (Ne.symm ne272) nin0))))
        have f618 : Sta Z T591.heap "com/example/entitygate/entitygate/HtmlNode$Namespace" "HTML" "Lcom/example/entitygate/entitygate/HtmlNode$Namespace;" (.ref ht) := (own_Sta_keep Kq591 f601 (allS (own_plainE f592) (allS (own_plainE f593) (allS (own_plainA f600) all0))))
        refine own_callV X591 hx hZ hown (hw _ (List.mem_of_getElem? (i := 55) rfl)) (hw _ (List.mem_of_getElem? (i := 56) rfl)) (own_nf hZ (hw _ (List.mem_of_getElem? (i := 58) rfl))) (hw _ (List.mem_of_getElem? (i := 58) rfl)) (hw _ (List.mem_of_getElem? (i := 57) rfl)) (by decide) (rm_push0 l Z a0 hw [] b257 b319 ae_268 ke_268 ht T591.heap n0 z603 f609 f610 f611 f612 f613 f614 f615 f616 f617 o268_0 f618 ne325 ne273 (Ne.symm ne327) g_b257 g_b319 g_ae_268) (hw _ (List.mem_of_getElem? (i := 59) rfl)) (hw _ (List.mem_of_getElem? (i := 2) rfl)) rfl 0 (by decide) (by decide) (by decide) (by decide) f609 [(.ref b319)] [] rfl pd_7 rfl 170 rfl (by rw [hml]; rfl) rfl (hb hby at_167) rfl fun T608 v608 L608 X608 hQ608 => ?_
        obtain ⟨rfl, Nq608, Kq608, f608_0, f608_1, f608_2, f608_3, v608_0⟩ := hQ608
        have N608 := Fr.app N591 Nq608
        have K619 : Keep h0 T608.heap [] := K602.trans Kq608 (allS (Or.inr sz_b257) (allS (Or.inr sz_b319) (allS (Or.inr sq_ae_268) all0)))
        have z620 : n0 ≤ T608.heap.size := (Nat.le_trans z603 Kq608.1)
        show own_Go p e below s _ _ _ (T608.setTop (mkF m 170 _ []))
        refine g_iload X608 hx 172 (hb hby at_170) rfl rfl ?_
        refine g_iload X608 hx 174 (hb hby at_172) rfl rfl ?_
        refine g_icmpYes X608 hx 182 (hb hby at_174) (own_ii_ge_t (by decide)) (by decide) (by decide) ?_
        refine g_iconst X608 hx 183 (hb hby at_182) (-1 : Int32) rfl rfl ?_
        refine g_istore X608 hx 185 (hb hby at_183) (l' := #[.val (.int p0), .val (.int p1), .val (.int p2), .val (.ref b245), .val (.ref b257), .val (.ref b276), .val (.ref b296), .val (.ref b319), .val (.int (1 : Int32)), .val (.int (2 : Int32)), .val (.ref b319), .val (.int (1 : Int32)), .val (.int (-1 : Int32))]) rfl rfl ?_
        refine g_aload_n X608 hx 186 (hb hby at_185) rfl rfl rfl ?_
        refine g_aload X608 hx 188 (hb hby at_186) rfl rfl rfl ?_
        have f622 : Fld Z T608.heap b245 "com/example/entitygate/entitygate/OpenElements" "elements" "[Lcom/example/entitygate/entitygate/HtmlNode$Element;" (.ref ae_253) := (f591_0.keep Kq608 (ninS ne259 (ninS ne321 (ninS ne270 nin0))))
        have f623 : Fld Z T608.heap b245 "com/example/entitygate/entitygate/OpenElements" "size" "I" (.int (1 : Int32)) := (f591_1.keep Kq608 (ninS ne259 (ninS ne321 (ninS ne270 nin0))))
        have f624 : Arv Z T608.heap ae_253 ke_253 (.object "com/example/entitygate/entitygate/HtmlNode$Element") (64 : Int32) [(.ref b276), .null, .null, .null] .null := (v591_0.keep Kq608 (ninS ne260 (ninS ne323 (ninS ne272 nin0))))
        have f625 : Exa Z T608.heap b245 "com/example/entitygate/entitygate/OpenElements" := ((f592.keep Kq591).keep Kq608)
        refine own_callV X608 hx hZ hown (hw _ (List.mem_of_getElem? (i := 48) rfl)) (hw _ (List.mem_of_getElem? (i := 49) rfl)) (own_nf hZ (hw _ (List.mem_of_getElem? (i := 51) rfl))) (hw _ (List.mem_of_getElem? (i := 51) rfl)) (hw _ (List.mem_of_getElem? (i := 50) rfl)) (by decide) (rm_ix1open l Z a0 hw [] b245 ae_253 ke_253 b276 b319 T608.heap n0 z620 f608_3 f622 f623 f624 o253_0 ne329) (hw _ (List.mem_of_getElem? (i := 52) rfl)) (hw _ (List.mem_of_getElem? (i := 2) rfl)) rfl 0 (by decide) (by decide) (by decide) (by decide) f625 [(.ref b319)] [] rfl pd_6 rfl 191 rfl (by rw [hml]; rfl) rfl (hb hby at_188) rfl fun T621 v621 L621 X621 hQ621 => ?_
        obtain ⟨rfl, Nq621, e621⟩ := hQ621
        have N621 := Fr.app N608 Nq621
        show own_Go p e below s _ _ _ (T621.setTop (mkF m 191 _ [(.int (-1 : Int32))]))
        refine g_iload X621 hx 193 (hb hby at_191) rfl rfl ?_
        refine g_icmpNo X621 hx 196 (hb hby at_193) (own_ii_ne_f (by decide)) rfl ?_
        refine g_iconst X621 hx 197 (hb hby at_196) (1 : Int32) rfl rfl ?_
        refine g_goto X621 hx 201 (hb hby at_197) (by decide) (by decide) ?_
        refine own_retN X621 hx hlk (t := .boolean) hret (by simp) (hb hby at_201) ?_ (by decide) (by decide)
        rw [e621]
        exact ⟨rfl, N621⟩
    · show own_Go p e below s _ _ _ (T341.setTop (mkF m 102 _ []))
      refine g_iload X341 hx 104 (hb hby at_102) rfl rfl ?_
      refine g_iconst X341 hx 105 (hb hby at_104) (1 : Int32) rfl rfl ?_
      refine g_icmpNo X341 hx 108 (hb hby at_105) (own_ii_lt_f (by decide)) rfl ?_
      refine g_aload_n X341 hx 109 (hb hby at_108) rfl rfl rfl ?_
      refine g_aload X341 hx 111 (hb hby at_109) rfl rfl rfl ?_
      have f627 : Exa Z T341.heap b245 "com/example/entitygate/entitygate/OpenElements" := ((Exa.ext E319 f320).keep Kq341)
      have f628 : Exa Z T341.heap b276 "com/example/entitygate/entitygate/HtmlNode$Element" := ((Exa.ext E319 f328).keep Kq341)
      have f629 : Fld Z T341.heap b245 "com/example/entitygate/entitygate/OpenElements" "elements" "[Lcom/example/entitygate/entitygate/HtmlNode$Element;" (.ref ae_253) := ((Fld.ext E319 ((Fld.ext E296 ((Fld.ext E276 ((Fld.ext E257 f253_0).keep Kq268 (ninS ne259 nin0))).keep Kq293 (ninS ne278 nin0))).keep Kq316 (ninS ne298 nin0))).keep Kq341 (ninS ne321 nin0))
      have f630 : Fld Z T341.heap b245 "com/example/entitygate/entitygate/OpenElements" "size" "I" (.int (0 : Int32)) := ((Fld.ext E319 ((Fld.ext E296 ((Fld.ext E276 ((Fld.ext E257 f253_1).keep Kq268 (ninS ne259 nin0))).keep Kq293 (ninS ne278 nin0))).keep Kq316 (ninS ne298 nin0))).keep Kq341 (ninS ne321 nin0))
      have f631 : Fld Z T341.heap b245 "com/example/entitygate/entitygate/OpenElements" "landmarkCount" "I" (.int (0 : Int32)) := ((Fld.ext E319 ((Fld.ext E296 ((Fld.ext E276 ((Fld.ext E257 f253_2).keep Kq268 (ninS ne259 nin0))).keep Kq293 (ninS ne278 nin0))).keep Kq316 (ninS ne298 nin0))).keep Kq341 (ninS ne321 nin0))
      have f632 : Fld Z T341.heap b276 "com/example/entitygate/entitygate/HtmlNode$Element" "tag" "Lcom/example/entitygate/entitygate/HtmlTag;" .null := ((Fld.ext E319 ((Fld.ext E296 f293_0).keep Kq316 (ninS ne306 nin0))).keep Kq341 (ninS ne329 nin0))
      have f633 : Fld Z T341.heap b276 "com/example/entitygate/entitygate/HtmlNode$Element" "namespace" "Lcom/example/entitygate/entitygate/HtmlNode$Namespace;" .null := ((Fld.ext E319 ((Fld.ext E296 f293_1).keep Kq316 (ninS ne306 nin0))).keep Kq341 (ninS ne329 nin0))
      have f634 : Fld Z T341.heap b276 "com/example/entitygate/entitygate/HtmlNode$Element" "open" "Z" (.int (0 : Int32)) := ((Fld.ext E319 ((Fld.ext E296 f293_2).keep Kq316 (ninS ne306 nin0))).keep Kq341 (ninS ne329 nin0))
      have f635 : Arv Z T341.heap ae_253 ke_253 (.object "com/example/entitygate/entitygate/HtmlNode$Element") (64 : Int32) [.null, .null, .null, .null] .null := ((f322.ext E319).keep Kq341 (ninS ne323 nin0))
      have f636 : Sta Z T341.heap "com/example/entitygate/entitygate/HtmlNode$Namespace" "HTML" "Lcom/example/entitygate/entitygate/HtmlNode$Namespace;" (.ref ht) := (own_Sta_keep K342 S_ht all0)
      refine own_callV X341 hx hZ hown (hw _ (List.mem_of_getElem? (i := 55) rfl)) (hw _ (List.mem_of_getElem? (i := 56) rfl)) (own_nf hZ (hw _ (List.mem_of_getElem? (i := 58) rfl))) (hw _ (List.mem_of_getElem? (i := 58) rfl)) (hw _ (List.mem_of_getElem? (i := 57) rfl)) (by decide) (rm_push0 l Z a0 hw [] b245 b276 ae_253 ke_253 ht T341.heap n0 z343 f627 f628 f629 f630 f631 f632 f633 f634 f635 o253_0 f636 ne278 ne254 (Ne.symm ne280) g_b245 g_b276 g_ae_253) (hw _ (List.mem_of_getElem? (i := 59) rfl)) (hw _ (List.mem_of_getElem? (i := 2) rfl)) rfl 0 (by decide) (by decide) (by decide) (by decide) f627 [(.ref b276)] [] rfl pd_7 rfl 114 rfl (by rw [hml]; rfl) rfl (hb hby at_111) rfl fun T626 v626 L626 X626 hQ626 => ?_
      obtain ⟨rfl, Nq626, Kq626, f626_0, f626_1, f626_2, f626_3, v626_0⟩ := hQ626
      have N626 := Fr.app N341 Nq626
      have K637 : Keep h0 T626.heap [] := K342.trans Kq626 (allS (Or.inr sz_b245) (allS (Or.inr sz_b276) (allS (Or.inr sq_ae_253) all0)))
      have z638 : n0 ≤ T626.heap.size := (Nat.le_trans z343 Kq626.1)
      show own_Go p e below s _ _ _ (T626.setTop (mkF m 114 _ []))
      refine g_iload X626 hx 116 (hb hby at_114) rfl rfl ?_
      refine g_iconst X626 hx 117 (hb hby at_116) (2 : Int32) rfl rfl ?_
      refine g_icmpNo X626 hx 120 (hb hby at_117) (own_ii_lt_f (by decide)) rfl ?_
      refine g_aload_n X626 hx 121 (hb hby at_120) rfl rfl rfl ?_
      refine g_aload X626 hx 123 (hb hby at_121) rfl rfl rfl ?_
      have f640 : Exa Z T626.heap b245 "com/example/entitygate/entitygate/OpenElements" := (f627.keep Kq626)
      have f641 : Exa Z T626.heap b296 "com/example/entitygate/entitygate/HtmlNode$Element" := (((Exa.ext E319 f330).keep Kq341).keep Kq626)
      have f642 : Fld Z T626.heap b296 "com/example/entitygate/entitygate/HtmlNode$Element" "tag" "Lcom/example/entitygate/entitygate/HtmlTag;" .null := (((Fld.ext E319 f316_0).keep Kq341 (ninS ne331 nin0)).keep Kq626 (ninS (Ne.symm ne298) (ninS (Ne.symm ne306) (ninS (Ne.symm ne300) nin0))))
      have f643 : Fld Z T626.heap b296 "com/example/entitygate/entitygate/HtmlNode$Element" "namespace" "Lcom/example/entitygate/entitygate/HtmlNode$Namespace;" .null := (((Fld.ext E319 f316_1).keep Kq341 (ninS ne331 nin0)).keep Kq626 (ninS (Ne.symm ne298) (ninS (Ne.symm ne306) (ninS (Ne.symm ne300) nin0))))
      have f644 : Fld Z T626.heap b296 "com/example/entitygate/entitygate/HtmlNode$Element" "open" "Z" (.int (0 : Int32)) := (((Fld.ext E319 f316_2).keep Kq341 (ninS ne331 nin0)).keep Kq626 (ninS (Ne.symm ne298) (ninS (Ne.symm ne306) (ninS (Ne.symm ne300) nin0))))
      have f645 : Sta Z T626.heap "com/example/entitygate/entitygate/HtmlNode$Namespace" "HTML" "Lcom/example/entitygate/entitygate/HtmlNode$Namespace;" (.ref ht) := (own_Sta_keep Kq626 f636 (allS (own_plainE f627) (allS (own_plainE f628) (allS (own_plainA f635) all0))))
      refine own_callV X626 hx hZ hown (hw _ (List.mem_of_getElem? (i := 55) rfl)) (hw _ (List.mem_of_getElem? (i := 56) rfl)) (own_nf hZ (hw _ (List.mem_of_getElem? (i := 58) rfl))) (hw _ (List.mem_of_getElem? (i := 58) rfl)) (hw _ (List.mem_of_getElem? (i := 57) rfl)) (by decide) (rm_push1 l Z a0 hw [] b245 b296 ae_253 ke_253 ht b276 T626.heap n0 z638 f640 f641 f626_0 f626_1 f626_2 f642 f643 f644 v626_0 o253_0 f645 ne298 ne254 (Ne.symm ne300) g_b245 g_b296 g_ae_253) (hw _ (List.mem_of_getElem? (i := 59) rfl)) (hw _ (List.mem_of_getElem? (i := 2) rfl)) rfl 0 (by decide) (by decide) (by decide) (by decide) f640 [(.ref b296)] [] rfl pd_7 rfl 126 rfl (by rw [hml]; rfl) rfl (hb hby at_123) rfl fun T639 v639 L639 X639 hQ639 => ?_
      obtain ⟨rfl, Nq639, Kq639, f639_0, f639_1, f639_2, f639_3, v639_0⟩ := hQ639
      have N639 := Fr.app N626 Nq639
      have K646 : Keep h0 T639.heap [] := K637.trans Kq639 (allS (Or.inr sz_b245) (allS (Or.inr sz_b296) (allS (Or.inr sq_ae_253) all0)))
      have z647 : n0 ≤ T639.heap.size := (Nat.le_trans z638 Kq639.1)
      show own_Go p e below s _ _ _ (T639.setTop (mkF m 126 _ []))
      refine g_iload X639 hx 128 (hb hby at_126) rfl rfl ?_
      refine g_iconst X639 hx 129 (hb hby at_128) (3 : Int32) rfl rfl ?_
      refine g_icmpYes X639 hx 138 (hb hby at_129) (own_ii_lt_t (by decide)) (by decide) (by decide) ?_
      refine g_iload_n X639 hx 139 (hb hby at_138) rfl rfl ?_
      refine g_iconst X639 hx 140 (hb hby at_139) (1 : Int32) rfl rfl ?_
      refine g_iand X639 hx 141 (hb hby at_140) rfl ?_
      by_cases c648 : (p2 &&& (1 : Int32)) = (0 : Int32)
      · refine g_ifYes X639 hx 148 (hb hby at_141) (own_i0_eq_t c648) (by decide) (by decide) ?_
        refine g_iconst X639 hx 149 (hb hby at_148) (0 : Int32) rfl rfl ?_
        refine g_istore X639 hx 151 (hb hby at_149) (l' := #[.val (.int p0), .val (.int p1), .val (.int p2), .val (.ref b245), .val (.ref b257), .val (.ref b276), .val (.ref b296), .val (.ref b319), .val (.int (2 : Int32)), .val (.int (2 : Int32)), .val (.ref b319), .val (.int (0 : Int32)), .unset]) rfl rfl ?_
        refine g_iload X639 hx 153 (hb hby at_151) rfl rfl ?_
        refine g_iload X639 hx 155 (hb hby at_153) rfl rfl ?_
        refine g_icmpNo X639 hx 158 (hb hby at_155) (own_ii_lt_f (by decide)) rfl ?_
        refine g_iload X639 hx 160 (hb hby at_158) rfl rfl ?_
        refine g_ifYes X639 hx 170 (hb hby at_160) (own_i0_eq_t (by decide)) (by decide) (by decide) ?_
        refine g_iload X639 hx 172 (hb hby at_170) rfl rfl ?_
        refine g_iload X639 hx 174 (hb hby at_172) rfl rfl ?_
        refine g_icmpYes X639 hx 182 (hb hby at_174) (own_ii_ge_t (by decide)) (by decide) (by decide) ?_
        refine g_iconst X639 hx 183 (hb hby at_182) (-1 : Int32) rfl rfl ?_
        refine g_istore X639 hx 185 (hb hby at_183) (l' := #[.val (.int p0), .val (.int p1), .val (.int p2), .val (.ref b245), .val (.ref b257), .val (.ref b276), .val (.ref b296), .val (.ref b319), .val (.int (2 : Int32)), .val (.int (2 : Int32)), .val (.ref b319), .val (.int (0 : Int32)), .val (.int (-1 : Int32))]) rfl rfl ?_
        refine g_aload_n X639 hx 186 (hb hby at_185) rfl rfl rfl ?_
        refine g_aload X639 hx 188 (hb hby at_186) rfl rfl rfl ?_
        have f650 : Fld Z T639.heap b319 "com/example/entitygate/entitygate/HtmlNode$Element" "open" "Z" (.int (0 : Int32)) := ((f341_2.keep Kq626 (ninS (Ne.symm ne321) (ninS (Ne.symm ne329) (ninS (Ne.symm ne323) nin0)))).keep Kq639 (ninS (Ne.symm ne321) (ninS (Ne.symm ne331) (ninS (Ne.symm ne323) nin0))))
        have f651 : Exa Z T639.heap b245 "com/example/entitygate/entitygate/OpenElements" := (f640.keep Kq639)
        refine own_callV X639 hx hZ hown (hw _ (List.mem_of_getElem? (i := 48) rfl)) (hw _ (List.mem_of_getElem? (i := 49) rfl)) (own_nf hZ (hw _ (List.mem_of_getElem? (i := 51) rfl))) (hw _ (List.mem_of_getElem? (i := 51) rfl)) (hw _ (List.mem_of_getElem? (i := 50) rfl)) (by decide) (rm_ix2closed l Z a0 hw [] b245 b319 T639.heap n0 z647 f650) (hw _ (List.mem_of_getElem? (i := 52) rfl)) (hw _ (List.mem_of_getElem? (i := 2) rfl)) rfl 0 (by decide) (by decide) (by decide) (by decide) f651 [(.ref b319)] [] rfl pd_6 rfl 191 rfl (by rw [hml]; rfl) rfl (hb hby at_188) rfl fun T649 v649 L649 X649 hQ649 => ?_
        obtain ⟨rfl, Nq649, e649⟩ := hQ649
        have N649 := Fr.app N639 Nq649
        show own_Go p e below s _ _ _ (T649.setTop (mkF m 191 _ [(.int (-1 : Int32))]))
        refine g_iload X649 hx 193 (hb hby at_191) rfl rfl ?_
        refine g_icmpNo X649 hx 196 (hb hby at_193) (own_ii_ne_f (by decide)) rfl ?_
        refine g_iconst X649 hx 197 (hb hby at_196) (1 : Int32) rfl rfl ?_
        refine g_goto X649 hx 201 (hb hby at_197) (by decide) (by decide) ?_
        refine own_retN X649 hx hlk (t := .boolean) hret (by simp) (hb hby at_201) ?_ (by decide) (by decide)
        rw [e649]
        exact ⟨rfl, N649⟩
      · refine g_ifNo X639 hx 144 (hb hby at_141) (own_i0_eq_f c648) rfl ?_
        refine g_iconst X639 hx 145 (hb hby at_144) (1 : Int32) rfl rfl ?_
        refine g_goto X639 hx 149 (hb hby at_145) (by decide) (by decide) ?_
        refine g_istore X639 hx 151 (hb hby at_149) (l' := #[.val (.int p0), .val (.int p1), .val (.int p2), .val (.ref b245), .val (.ref b257), .val (.ref b276), .val (.ref b296), .val (.ref b319), .val (.int (2 : Int32)), .val (.int (2 : Int32)), .val (.ref b319), .val (.int (1 : Int32)), .unset]) rfl rfl ?_
        refine g_iload X639 hx 153 (hb hby at_151) rfl rfl ?_
        refine g_iload X639 hx 155 (hb hby at_153) rfl rfl ?_
        refine g_icmpNo X639 hx 158 (hb hby at_155) (own_ii_lt_f (by decide)) rfl ?_
        refine g_iload X639 hx 160 (hb hby at_158) rfl rfl ?_
        refine g_ifNo X639 hx 163 (hb hby at_160) (own_i0_eq_f (by decide)) rfl ?_
        refine g_aload X639 hx 165 (hb hby at_163) rfl rfl rfl ?_
        refine g_aload X639 hx 167 (hb hby at_165) rfl rfl rfl ?_
        have f653 : Exa Z T639.heap b257 "com/example/entitygate/entitygate/OpenElements" := ((((Exa.ext E319 f324).keep Kq341).keep Kq626).keep Kq639)
        have f654 : Exa Z T639.heap b319 "com/example/entitygate/entitygate/HtmlNode$Element" := (((A319.keep Kq341).keep Kq626).keep Kq639)
        have f655 : Fld Z T639.heap b257 "com/example/entitygate/entitygate/OpenElements" "elements" "[Lcom/example/entitygate/entitygate/HtmlNode$Element;" (.ref ae_268) := ((((Fld.ext E319 ((Fld.ext E296 ((Fld.ext E276 f268_0).keep Kq293 (ninS ne282 nin0))).keep Kq316 (ninS ne302 nin0))).keep Kq341 (ninS ne325 nin0)).keep Kq626 (ninS (Ne.symm ne259) (ninS ne282 (ninS (Ne.symm ne260) nin0)))).keep Kq639 (ninS (Ne.symm ne259) (ninS ne302 (ninS (Ne.symm ne260) nin0))))
        have f656 : Fld Z T639.heap b257 "com/example/entitygate/entitygate/OpenElements" "size" "I" (.int (0 : Int32)) := ((((Fld.ext E319 ((Fld.ext E296 ((Fld.ext E276 f268_1).keep Kq293 (ninS ne282 nin0))).keep Kq316 (ninS ne302 nin0))).keep Kq341 (ninS ne325 nin0)).keep Kq626 (ninS (Ne.symm ne259) (ninS ne282 (ninS (Ne.symm ne260) nin0)))).keep Kq639 (ninS (Ne.symm ne259) (ninS ne302 (ninS (Ne.symm ne260) nin0))))
        have f657 : Fld Z T639.heap b257 "com/example/entitygate/entitygate/OpenElements" "landmarkCount" "I" (.int (0 : Int32)) := ((((Fld.ext E319 ((Fld.ext E296 ((Fld.ext E276 f268_2).keep Kq293 (ninS ne282 nin0))).keep Kq316 (ninS ne302 nin0))).keep Kq341 (ninS ne325 nin0)).keep Kq626 (ninS (Ne.symm ne259) (ninS ne282 (ninS (Ne.symm ne260) nin0)))).keep Kq639 (ninS (Ne.symm ne259) (ninS ne302 (ninS (Ne.symm ne260) nin0))))
        have f658 : Fld Z T639.heap b319 "com/example/entitygate/entitygate/HtmlNode$Element" "tag" "Lcom/example/entitygate/entitygate/HtmlTag;" .null := ((f341_0.keep Kq626 (ninS (Ne.symm ne321) (ninS (Ne.symm ne329) (ninS (Ne.symm ne323) nin0)))).keep Kq639 (ninS (Ne.symm ne321) (ninS (Ne.symm ne331) (ninS (Ne.symm ne323) nin0))))
        have f659 : Fld Z T639.heap b319 "com/example/entitygate/entitygate/HtmlNode$Element" "namespace" "Lcom/example/entitygate/entitygate/HtmlNode$Namespace;" .null := ((f341_1.keep Kq626 (ninS (Ne.symm ne321) (ninS (Ne.symm ne329) (ninS (Ne.symm ne323) nin0)))).keep Kq639 (ninS (Ne.symm ne321) (ninS (Ne.symm ne331) (ninS (Ne.symm ne323) nin0))))
        have f660 : Fld Z T639.heap b319 "com/example/entitygate/entitygate/HtmlNode$Element" "open" "Z" (.int (0 : Int32)) := ((f341_2.keep Kq626 (ninS (Ne.symm ne321) (ninS (Ne.symm ne329) (ninS (Ne.symm ne323) nin0)))).keep Kq639 (ninS (Ne.symm ne321) (ninS (Ne.symm ne331) (ninS (Ne.symm ne323) nin0))))
        have f661 : Arv Z T639.heap ae_268 ke_268 (.object "com/example/entitygate/entitygate/HtmlNode$Element") (64 : Int32) [.null, .null, .null, .null] .null := ((((f326.ext E319).keep Kq341 (ninS ne327 nin0)).keep Kq626 (ninS (Ne.symm ne270) (ninS ne283 (ninS (Ne.symm ne272) nin0)))).keep Kq639 (ninS (Ne.symm ne270) (ninS ne304 (ninS (Ne.symm ne272) nin0))))
        have f662 : Sta Z T639.heap "com/example/entitygate/entitygate/HtmlNode$Namespace" "HTML" "Lcom/example/entitygate/entitygate/HtmlNode$Namespace;" (.ref ht) := (own_Sta_keep Kq639 f645 (allS (own_plainE f640) (allS (own_plainE f641) (allS (own_plainA v626_0) all0))))
        refine own_callV X639 hx hZ hown (hw _ (List.mem_of_getElem? (i := 55) rfl)) (hw _ (List.mem_of_getElem? (i := 56) rfl)) (own_nf hZ (hw _ (List.mem_of_getElem? (i := 58) rfl))) (hw _ (List.mem_of_getElem? (i := 58) rfl)) (hw _ (List.mem_of_getElem? (i := 57) rfl)) (by decide) (rm_push0 l Z a0 hw [] b257 b319 ae_268 ke_268 ht T639.heap n0 z647 f653 f654 f655 f656 f657 f658 f659 f660 f661 o268_0 f662 ne325 ne273 (Ne.symm ne327) g_b257 g_b319 g_ae_268) (hw _ (List.mem_of_getElem? (i := 59) rfl)) (hw _ (List.mem_of_getElem? (i := 2) rfl)) rfl 0 (by decide) (by decide) (by decide) (by decide) f653 [(.ref b319)] [] rfl pd_7 rfl 170 rfl (by rw [hml]; rfl) rfl (hb hby at_167) rfl fun T652 v652 L652 X652 hQ652 => ?_
        obtain ⟨rfl, Nq652, Kq652, f652_0, f652_1, f652_2, f652_3, v652_0⟩ := hQ652
        have N652 := Fr.app N639 Nq652
        have K663 : Keep h0 T652.heap [] := K646.trans Kq652 (allS (Or.inr sz_b257) (allS (Or.inr sz_b319) (allS (Or.inr sq_ae_268) all0)))
        have z664 : n0 ≤ T652.heap.size := (Nat.le_trans z647 Kq652.1)
        show own_Go p e below s _ _ _ (T652.setTop (mkF m 170 _ []))
        refine g_iload X652 hx 172 (hb hby at_170) rfl rfl ?_
        refine g_iload X652 hx 174 (hb hby at_172) rfl rfl ?_
        refine g_icmpYes X652 hx 182 (hb hby at_174) (own_ii_ge_t (by decide)) (by decide) (by decide) ?_
        refine g_iconst X652 hx 183 (hb hby at_182) (-1 : Int32) rfl rfl ?_
        refine g_istore X652 hx 185 (hb hby at_183) (l' := #[.val (.int p0), .val (.int p1), .val (.int p2), .val (.ref b245), .val (.ref b257), .val (.ref b276), .val (.ref b296), .val (.ref b319), .val (.int (2 : Int32)), .val (.int (2 : Int32)), .val (.ref b319), .val (.int (1 : Int32)), .val (.int (-1 : Int32))]) rfl rfl ?_
        refine g_aload_n X652 hx 186 (hb hby at_185) rfl rfl rfl ?_
        refine g_aload X652 hx 188 (hb hby at_186) rfl rfl rfl ?_
        have f666 : Fld Z T652.heap b245 "com/example/entitygate/entitygate/OpenElements" "elements" "[Lcom/example/entitygate/entitygate/HtmlNode$Element;" (.ref ae_253) := (f639_0.keep Kq652 (ninS ne259 (ninS ne321 (ninS ne270 nin0))))
        have f667 : Fld Z T652.heap b245 "com/example/entitygate/entitygate/OpenElements" "size" "I" (.int (2 : Int32)) := (f639_1.keep Kq652 (ninS ne259 (ninS ne321 (ninS ne270 nin0))))
        have f668 : Arv Z T652.heap ae_253 ke_253 (.object "com/example/entitygate/entitygate/HtmlNode$Element") (64 : Int32) [(.ref b276), (.ref b296), .null, .null] .null := (v639_0.keep Kq652 (ninS ne260 (ninS ne323 (ninS ne272 nin0))))
        have f669 : Exa Z T652.heap b245 "com/example/entitygate/entitygate/OpenElements" := ((f640.keep Kq639).keep Kq652)
        refine own_callV X652 hx hZ hown (hw _ (List.mem_of_getElem? (i := 48) rfl)) (hw _ (List.mem_of_getElem? (i := 49) rfl)) (own_nf hZ (hw _ (List.mem_of_getElem? (i := 51) rfl))) (hw _ (List.mem_of_getElem? (i := 51) rfl)) (hw _ (List.mem_of_getElem? (i := 50) rfl)) (by decide) (rm_ix2open l Z a0 hw [] b245 ae_253 ke_253 b276 b296 b319 T652.heap n0 z664 f652_3 f666 f667 f668 o253_0 ne329 ne331) (hw _ (List.mem_of_getElem? (i := 52) rfl)) (hw _ (List.mem_of_getElem? (i := 2) rfl)) rfl 0 (by decide) (by decide) (by decide) (by decide) f669 [(.ref b319)] [] rfl pd_6 rfl 191 rfl (by rw [hml]; rfl) rfl (hb hby at_188) rfl fun T665 v665 L665 X665 hQ665 => ?_
        obtain ⟨rfl, Nq665, e665⟩ := hQ665
        have N665 := Fr.app N652 Nq665
        show own_Go p e below s _ _ _ (T665.setTop (mkF m 191 _ [(.int (-1 : Int32))]))
        refine g_iload X665 hx 193 (hb hby at_191) rfl rfl ?_
        refine g_icmpNo X665 hx 196 (hb hby at_193) (own_ii_ne_f (by decide)) rfl ?_
        refine g_iconst X665 hx 197 (hb hby at_196) (1 : Int32) rfl rfl ?_
        refine g_goto X665 hx 201 (hb hby at_197) (by decide) (by decide) ?_
        refine own_retN X665 hx hlk (t := .boolean) hret (by simp) (hb hby at_201) ?_ (by decide) (by decide)
        rw [e665]
        exact ⟨rfl, N665⟩
    · show own_Go p e below s _ _ _ (T341.setTop (mkF m 102 _ []))
      refine g_iload X341 hx 104 (hb hby at_102) rfl rfl ?_
      refine g_iconst X341 hx 105 (hb hby at_104) (1 : Int32) rfl rfl ?_
      refine g_icmpNo X341 hx 108 (hb hby at_105) (own_ii_lt_f (by decide)) rfl ?_
      refine g_aload_n X341 hx 109 (hb hby at_108) rfl rfl rfl ?_
      refine g_aload X341 hx 111 (hb hby at_109) rfl rfl rfl ?_
      have f671 : Exa Z T341.heap b245 "com/example/entitygate/entitygate/OpenElements" := ((Exa.ext E319 f320).keep Kq341)
      have f672 : Exa Z T341.heap b276 "com/example/entitygate/entitygate/HtmlNode$Element" := ((Exa.ext E319 f328).keep Kq341)
      have f673 : Fld Z T341.heap b245 "com/example/entitygate/entitygate/OpenElements" "elements" "[Lcom/example/entitygate/entitygate/HtmlNode$Element;" (.ref ae_253) := ((Fld.ext E319 ((Fld.ext E296 ((Fld.ext E276 ((Fld.ext E257 f253_0).keep Kq268 (ninS ne259 nin0))).keep Kq293 (ninS ne278 nin0))).keep Kq316 (ninS ne298 nin0))).keep Kq341 (ninS ne321 nin0))
      have f674 : Fld Z T341.heap b245 "com/example/entitygate/entitygate/OpenElements" "size" "I" (.int (0 : Int32)) := ((Fld.ext E319 ((Fld.ext E296 ((Fld.ext E276 ((Fld.ext E257 f253_1).keep Kq268 (ninS ne259 nin0))).keep Kq293 (ninS ne278 nin0))).keep Kq316 (ninS ne298 nin0))).keep Kq341 (ninS ne321 nin0))
      have f675 : Fld Z T341.heap b245 "com/example/entitygate/entitygate/OpenElements" "landmarkCount" "I" (.int (0 : Int32)) := ((Fld.ext E319 ((Fld.ext E296 ((Fld.ext E276 ((Fld.ext E257 f253_2).keep Kq268 (ninS ne259 nin0))).keep Kq293 (ninS ne278 nin0))).keep Kq316 (ninS ne298 nin0))).keep Kq341 (ninS ne321 nin0))
      have f676 : Fld Z T341.heap b276 "com/example/entitygate/entitygate/HtmlNode$Element" "tag" "Lcom/example/entitygate/entitygate/HtmlTag;" .null := ((Fld.ext E319 ((Fld.ext E296 f293_0).keep Kq316 (ninS ne306 nin0))).keep Kq341 (ninS ne329 nin0))
      have f677 : Fld Z T341.heap b276 "com/example/entitygate/entitygate/HtmlNode$Element" "namespace" "Lcom/example/entitygate/entitygate/HtmlNode$Namespace;" .null := ((Fld.ext E319 ((Fld.ext E296 f293_1).keep Kq316 (ninS ne306 nin0))).keep Kq341 (ninS ne329 nin0))
      have f678 : Fld Z T341.heap b276 "com/example/entitygate/entitygate/HtmlNode$Element" "open" "Z" (.int (0 : Int32)) := ((Fld.ext E319 ((Fld.ext E296 f293_2).keep Kq316 (ninS ne306 nin0))).keep Kq341 (ninS ne329 nin0))
      have f679 : Arv Z T341.heap ae_253 ke_253 (.object "com/example/entitygate/entitygate/HtmlNode$Element") (64 : Int32) [.null, .null, .null, .null] .null := ((f322.ext E319).keep Kq341 (ninS ne323 nin0))
      have f680 : Sta Z T341.heap "com/example/entitygate/entitygate/HtmlNode$Namespace" "HTML" "Lcom/example/entitygate/entitygate/HtmlNode$Namespace;" (.ref ht) := (own_Sta_keep K342 S_ht all0)
      refine own_callV X341 hx hZ hown (hw _ (List.mem_of_getElem? (i := 55) rfl)) (hw _ (List.mem_of_getElem? (i := 56) rfl)) (own_nf hZ (hw _ (List.mem_of_getElem? (i := 58) rfl))) (hw _ (List.mem_of_getElem? (i := 58) rfl)) (hw _ (List.mem_of_getElem? (i := 57) rfl)) (by decide) (rm_push0 l Z a0 hw [] b245 b276 ae_253 ke_253 ht T341.heap n0 z343 f671 f672 f673 f674 f675 f676 f677 f678 f679 o253_0 f680 ne278 ne254 (Ne.symm ne280) g_b245 g_b276 g_ae_253) (hw _ (List.mem_of_getElem? (i := 59) rfl)) (hw _ (List.mem_of_getElem? (i := 2) rfl)) rfl 0 (by decide) (by decide) (by decide) (by decide) f671 [(.ref b276)] [] rfl pd_7 rfl 114 rfl (by rw [hml]; rfl) rfl (hb hby at_111) rfl fun T670 v670 L670 X670 hQ670 => ?_
      obtain ⟨rfl, Nq670, Kq670, f670_0, f670_1, f670_2, f670_3, v670_0⟩ := hQ670
      have N670 := Fr.app N341 Nq670
      have K681 : Keep h0 T670.heap [] := K342.trans Kq670 (allS (Or.inr sz_b245) (allS (Or.inr sz_b276) (allS (Or.inr sq_ae_253) all0)))
      have z682 : n0 ≤ T670.heap.size := (Nat.le_trans z343 Kq670.1)
      show own_Go p e below s _ _ _ (T670.setTop (mkF m 114 _ []))
      refine g_iload X670 hx 116 (hb hby at_114) rfl rfl ?_
      refine g_iconst X670 hx 117 (hb hby at_116) (2 : Int32) rfl rfl ?_
      refine g_icmpNo X670 hx 120 (hb hby at_117) (own_ii_lt_f (by decide)) rfl ?_
      refine g_aload_n X670 hx 121 (hb hby at_120) rfl rfl rfl ?_
      refine g_aload X670 hx 123 (hb hby at_121) rfl rfl rfl ?_
      have f684 : Exa Z T670.heap b245 "com/example/entitygate/entitygate/OpenElements" := (f671.keep Kq670)
      have f685 : Exa Z T670.heap b296 "com/example/entitygate/entitygate/HtmlNode$Element" := (((Exa.ext E319 f330).keep Kq341).keep Kq670)
      have f686 : Fld Z T670.heap b296 "com/example/entitygate/entitygate/HtmlNode$Element" "tag" "Lcom/example/entitygate/entitygate/HtmlTag;" .null := (((Fld.ext E319 f316_0).keep Kq341 (ninS ne331 nin0)).keep Kq670 (ninS (Ne.symm ne298) (ninS (Ne.symm ne306) (ninS (Ne.symm ne300) nin0))))
      have f687 : Fld Z T670.heap b296 "com/example/entitygate/entitygate/HtmlNode$Element" "namespace" "Lcom/example/entitygate/entitygate/HtmlNode$Namespace;" .null := (((Fld.ext E319 f316_1).keep Kq341 (ninS ne331 nin0)).keep Kq670 (ninS (Ne.symm ne298) (ninS (Ne.symm ne306) (ninS (Ne.symm ne300) nin0))))
      have f688 : Fld Z T670.heap b296 "com/example/entitygate/entitygate/HtmlNode$Element" "open" "Z" (.int (0 : Int32)) := (((Fld.ext E319 f316_2).keep Kq341 (ninS ne331 nin0)).keep Kq670 (ninS (Ne.symm ne298) (ninS (Ne.symm ne306) (ninS (Ne.symm ne300) nin0))))
      have f689 : Sta Z T670.heap "com/example/entitygate/entitygate/HtmlNode$Namespace" "HTML" "Lcom/example/entitygate/entitygate/HtmlNode$Namespace;" (.ref ht) := (own_Sta_keep Kq670 f680 (allS (own_plainE f671) (allS (own_plainE f672) (allS (own_plainA f679) all0))))
      refine own_callV X670 hx hZ hown (hw _ (List.mem_of_getElem? (i := 55) rfl)) (hw _ (List.mem_of_getElem? (i := 56) rfl)) (own_nf hZ (hw _ (List.mem_of_getElem? (i := 58) rfl))) (hw _ (List.mem_of_getElem? (i := 58) rfl)) (hw _ (List.mem_of_getElem? (i := 57) rfl)) (by decide) (rm_push1 l Z a0 hw [] b245 b296 ae_253 ke_253 ht b276 T670.heap n0 z682 f684 f685 f670_0 f670_1 f670_2 f686 f687 f688 v670_0 o253_0 f689 ne298 ne254 (Ne.symm ne300) g_b245 g_b296 g_ae_253) (hw _ (List.mem_of_getElem? (i := 59) rfl)) (hw _ (List.mem_of_getElem? (i := 2) rfl)) rfl 0 (by decide) (by decide) (by decide) (by decide) f684 [(.ref b296)] [] rfl pd_7 rfl 126 rfl (by rw [hml]; rfl) rfl (hb hby at_123) rfl fun T683 v683 L683 X683 hQ683 => ?_
      obtain ⟨rfl, Nq683, Kq683, f683_0, f683_1, f683_2, f683_3, v683_0⟩ := hQ683
      have N683 := Fr.app N670 Nq683
      have K690 : Keep h0 T683.heap [] := K681.trans Kq683 (allS (Or.inr sz_b245) (allS (Or.inr sz_b296) (allS (Or.inr sq_ae_253) all0)))
      have z691 : n0 ≤ T683.heap.size := (Nat.le_trans z682 Kq683.1)
      show own_Go p e below s _ _ _ (T683.setTop (mkF m 126 _ []))
      refine g_iload X683 hx 128 (hb hby at_126) rfl rfl ?_
      refine g_iconst X683 hx 129 (hb hby at_128) (3 : Int32) rfl rfl ?_
      refine g_icmpNo X683 hx 132 (hb hby at_129) (own_ii_lt_f (by decide)) rfl ?_
      refine g_aload_n X683 hx 133 (hb hby at_132) rfl rfl rfl ?_
      refine g_aload X683 hx 135 (hb hby at_133) rfl rfl rfl ?_
      have f693 : Exa Z T683.heap b245 "com/example/entitygate/entitygate/OpenElements" := (f684.keep Kq683)
      have f694 : Exa Z T683.heap b319 "com/example/entitygate/entitygate/HtmlNode$Element" := (((A319.keep Kq341).keep Kq670).keep Kq683)
      have f695 : Fld Z T683.heap b319 "com/example/entitygate/entitygate/HtmlNode$Element" "tag" "Lcom/example/entitygate/entitygate/HtmlTag;" .null := ((f341_0.keep Kq670 (ninS (Ne.symm ne321) (ninS (Ne.symm ne329) (ninS (Ne.symm ne323) nin0)))).keep Kq683 (ninS (Ne.symm ne321) (ninS (Ne.symm ne331) (ninS (Ne.symm ne323) nin0))))
      have f696 : Fld Z T683.heap b319 "com/example/entitygate/entitygate/HtmlNode$Element" "namespace" "Lcom/example/entitygate/entitygate/HtmlNode$Namespace;" .null := ((f341_1.keep Kq670 (ninS (Ne.symm ne321) (ninS (Ne.symm ne329) (ninS (Ne.symm ne323) nin0)))).keep Kq683 (ninS (Ne.symm ne321) (ninS (Ne.symm ne331) (ninS (Ne.symm ne323) nin0))))
      have f697 : Fld Z T683.heap b319 "com/example/entitygate/entitygate/HtmlNode$Element" "open" "Z" (.int (0 : Int32)) := ((f341_2.keep Kq670 (ninS (Ne.symm ne321) (ninS (Ne.symm ne329) (ninS (Ne.symm ne323) nin0)))).keep Kq683 (ninS (Ne.symm ne321) (ninS (Ne.symm ne331) (ninS (Ne.symm ne323) nin0))))
      have f698 : Sta Z T683.heap "com/example/entitygate/entitygate/HtmlNode$Namespace" "HTML" "Lcom/example/entitygate/entitygate/HtmlNode$Namespace;" (.ref ht) := (own_Sta_keep Kq683 f689 (allS (own_plainE f684) (allS (own_plainE f685) (allS (own_plainA v670_0) all0))))
      refine own_callV X683 hx hZ hown (hw _ (List.mem_of_getElem? (i := 55) rfl)) (hw _ (List.mem_of_getElem? (i := 56) rfl)) (own_nf hZ (hw _ (List.mem_of_getElem? (i := 58) rfl))) (hw _ (List.mem_of_getElem? (i := 58) rfl)) (hw _ (List.mem_of_getElem? (i := 57) rfl)) (by decide) (rm_push2 l Z a0 hw [] b245 b319 ae_253 ke_253 ht b276 b296 T683.heap n0 z691 f693 f694 f683_0 f683_1 f683_2 f695 f696 f697 v683_0 o253_0 f698 ne321 ne254 (Ne.symm ne323) g_b245 g_b319 g_ae_253) (hw _ (List.mem_of_getElem? (i := 59) rfl)) (hw _ (List.mem_of_getElem? (i := 2) rfl)) rfl 0 (by decide) (by decide) (by decide) (by decide) f693 [(.ref b319)] [] rfl pd_7 rfl 138 rfl (by rw [hml]; rfl) rfl (hb hby at_135) rfl fun T692 v692 L692 X692 hQ692 => ?_
      obtain ⟨rfl, Nq692, Kq692, f692_0, f692_1, f692_2, f692_3, v692_0⟩ := hQ692
      have N692 := Fr.app N683 Nq692
      have K699 : Keep h0 T692.heap [] := K690.trans Kq692 (allS (Or.inr sz_b245) (allS (Or.inr sz_b319) (allS (Or.inr sq_ae_253) all0)))
      have z700 : n0 ≤ T692.heap.size := (Nat.le_trans z691 Kq692.1)
      show own_Go p e below s _ _ _ (T692.setTop (mkF m 138 _ []))
      refine g_iload_n X692 hx 139 (hb hby at_138) rfl rfl ?_
      refine g_iconst X692 hx 140 (hb hby at_139) (1 : Int32) rfl rfl ?_
      refine g_iand X692 hx 141 (hb hby at_140) rfl ?_
      by_cases c701 : (p2 &&& (1 : Int32)) = (0 : Int32)
      · refine g_ifYes X692 hx 148 (hb hby at_141) (own_i0_eq_t c701) (by decide) (by decide) ?_
        refine g_iconst X692 hx 149 (hb hby at_148) (0 : Int32) rfl rfl ?_
        refine g_istore X692 hx 151 (hb hby at_149) (l' := #[.val (.int p0), .val (.int p1), .val (.int p2), .val (.ref b245), .val (.ref b257), .val (.ref b276), .val (.ref b296), .val (.ref b319), .val (.int (3 : Int32)), .val (.int (2 : Int32)), .val (.ref b319), .val (.int (0 : Int32)), .unset]) rfl rfl ?_
        refine g_iload X692 hx 153 (hb hby at_151) rfl rfl ?_
        refine g_iload X692 hx 155 (hb hby at_153) rfl rfl ?_
        refine g_icmpYes X692 hx 170 (hb hby at_155) (own_ii_lt_t (by decide)) (by decide) (by decide) ?_
        refine g_iload X692 hx 172 (hb hby at_170) rfl rfl ?_
        refine g_iload X692 hx 174 (hb hby at_172) rfl rfl ?_
        refine g_icmpNo X692 hx 177 (hb hby at_174) (own_ii_ge_f (by decide)) rfl ?_
        refine g_iload X692 hx 179 (hb hby at_177) rfl rfl ?_
        refine g_goto X692 hx 183 (hb hby at_179) (by decide) (by decide) ?_
        refine g_istore X692 hx 185 (hb hby at_183) (l' := #[.val (.int p0), .val (.int p1), .val (.int p2), .val (.ref b245), .val (.ref b257), .val (.ref b276), .val (.ref b296), .val (.ref b319), .val (.int (3 : Int32)), .val (.int (2 : Int32)), .val (.ref b319), .val (.int (0 : Int32)), .val (.int (2 : Int32))]) rfl rfl ?_
        refine g_aload_n X692 hx 186 (hb hby at_185) rfl rfl rfl ?_
        refine g_aload X692 hx 188 (hb hby at_186) rfl rfl rfl ?_
        have f703 : Exa Z T692.heap b245 "com/example/entitygate/entitygate/OpenElements" := (f693.keep Kq692)
        refine own_callV X692 hx hZ hown (hw _ (List.mem_of_getElem? (i := 48) rfl)) (hw _ (List.mem_of_getElem? (i := 49) rfl)) (own_nf hZ (hw _ (List.mem_of_getElem? (i := 51) rfl))) (hw _ (List.mem_of_getElem? (i := 51) rfl)) (hw _ (List.mem_of_getElem? (i := 50) rfl)) (by decide) (rm_ix32 l Z a0 hw [] b245 ae_253 ke_253 b276 b296 b319 T692.heap n0 z700 f692_3 f692_0 f692_1 v692_0 o253_0) (hw _ (List.mem_of_getElem? (i := 52) rfl)) (hw _ (List.mem_of_getElem? (i := 2) rfl)) rfl 0 (by decide) (by decide) (by decide) (by decide) f703 [(.ref b319)] [] rfl pd_6 rfl 191 rfl (by rw [hml]; rfl) rfl (hb hby at_188) rfl fun T702 v702 L702 X702 hQ702 => ?_
        obtain ⟨rfl, Nq702, e702⟩ := hQ702
        have N702 := Fr.app N692 Nq702
        show own_Go p e below s _ _ _ (T702.setTop (mkF m 191 _ [(.int (2 : Int32))]))
        refine g_iload X702 hx 193 (hb hby at_191) rfl rfl ?_
        refine g_icmpNo X702 hx 196 (hb hby at_193) (own_ii_ne_f (by decide)) rfl ?_
        refine g_iconst X702 hx 197 (hb hby at_196) (1 : Int32) rfl rfl ?_
        refine g_goto X702 hx 201 (hb hby at_197) (by decide) (by decide) ?_
        refine own_retN X702 hx hlk (t := .boolean) hret (by simp) (hb hby at_201) ?_ (by decide) (by decide)
        rw [e702]
        exact ⟨rfl, N702⟩
      · refine g_ifNo X692 hx 144 (hb hby at_141) (own_i0_eq_f c701) rfl ?_
        refine g_iconst X692 hx 145 (hb hby at_144) (1 : Int32) rfl rfl ?_
        refine g_goto X692 hx 149 (hb hby at_145) (by decide) (by decide) ?_
        refine g_istore X692 hx 151 (hb hby at_149) (l' := #[.val (.int p0), .val (.int p1), .val (.int p2), .val (.ref b245), .val (.ref b257), .val (.ref b276), .val (.ref b296), .val (.ref b319), .val (.int (3 : Int32)), .val (.int (2 : Int32)), .val (.ref b319), .val (.int (1 : Int32)), .unset]) rfl rfl ?_
        refine g_iload X692 hx 153 (hb hby at_151) rfl rfl ?_
        refine g_iload X692 hx 155 (hb hby at_153) rfl rfl ?_
        refine g_icmpYes X692 hx 170 (hb hby at_155) (own_ii_lt_t (by decide)) (by decide) (by decide) ?_
        refine g_iload X692 hx 172 (hb hby at_170) rfl rfl ?_
        refine g_iload X692 hx 174 (hb hby at_172) rfl rfl ?_
        refine g_icmpNo X692 hx 177 (hb hby at_174) (own_ii_ge_f (by decide)) rfl ?_
        refine g_iload X692 hx 179 (hb hby at_177) rfl rfl ?_
        refine g_goto X692 hx 183 (hb hby at_179) (by decide) (by decide) ?_
        refine g_istore X692 hx 185 (hb hby at_183) (l' := #[.val (.int p0), .val (.int p1), .val (.int p2), .val (.ref b245), .val (.ref b257), .val (.ref b276), .val (.ref b296), .val (.ref b319), .val (.int (3 : Int32)), .val (.int (2 : Int32)), .val (.ref b319), .val (.int (1 : Int32)), .val (.int (2 : Int32))]) rfl rfl ?_
        refine g_aload_n X692 hx 186 (hb hby at_185) rfl rfl rfl ?_
        refine g_aload X692 hx 188 (hb hby at_186) rfl rfl rfl ?_
        have f705 : Exa Z T692.heap b245 "com/example/entitygate/entitygate/OpenElements" := (f693.keep Kq692)
        refine own_callV X692 hx hZ hown (hw _ (List.mem_of_getElem? (i := 48) rfl)) (hw _ (List.mem_of_getElem? (i := 49) rfl)) (own_nf hZ (hw _ (List.mem_of_getElem? (i := 51) rfl))) (hw _ (List.mem_of_getElem? (i := 51) rfl)) (hw _ (List.mem_of_getElem? (i := 50) rfl)) (by decide) (rm_ix32 l Z a0 hw [] b245 ae_253 ke_253 b276 b296 b319 T692.heap n0 z700 f692_3 f692_0 f692_1 v692_0 o253_0) (hw _ (List.mem_of_getElem? (i := 52) rfl)) (hw _ (List.mem_of_getElem? (i := 2) rfl)) rfl 0 (by decide) (by decide) (by decide) (by decide) f705 [(.ref b319)] [] rfl pd_6 rfl 191 rfl (by rw [hml]; rfl) rfl (hb hby at_188) rfl fun T704 v704 L704 X704 hQ704 => ?_
        obtain ⟨rfl, Nq704, e704⟩ := hQ704
        have N704 := Fr.app N692 Nq704
        show own_Go p e below s _ _ _ (T704.setTop (mkF m 191 _ [(.int (2 : Int32))]))
        refine g_iload X704 hx 193 (hb hby at_191) rfl rfl ?_
        refine g_icmpNo X704 hx 196 (hb hby at_193) (own_ii_ne_f (by decide)) rfl ?_
        refine g_iconst X704 hx 197 (hb hby at_196) (1 : Int32) rfl rfl ?_
        refine g_goto X704 hx 201 (hb hby at_197) (by decide) (by decide) ?_
        refine own_retN X704 hx hlk (t := .boolean) hret (by simp) (hb hby at_201) ?_ (by decide) (by decide)
        rw [e704]
        exact ⟨rfl, N704⟩
set_option maxRecDepth 65536 in
set_option maxHeartbeats 40000000 in
theorem comes_1 {Post : Tables → Env → Array Value → State → Outcome → State → Prop} (hpost : ∀ tb e args s v u, (limb_1_1.after args s (.returned v) u = true ∧ limb_1_2.after args s (.returned v) u = true ∧ True) → FrameEnd s (.returned v) u (Jvm.fieldLocs frame_1_writes args s ++ Jvm.arrayLocs frame_1_arrays args s ++ Jvm.staticLocs frame_1_statics s) 32 512 → Post tb e args s (.returned v) u) :
    ArmFor flags0 classFile x code maxLocals ret World_1 tables_1 room_1 Calls_1 rest_1 Pre_1 Post := by
  intro l hfl _ _ p e ha hc hk s m args below hf hA hF happ hP
  obtain ⟨hcalls, hrest, hpre⟩ := hP
  obtain ⟨-, -, -, hnamed, -, -, -, hat⟩ := (Spec.applies_iff hf).mp happ
  obtain ⟨hg, hn⟩ := and_e (Cond.before_iff.mp (show (Jvm.Cond.and given_1 narrow_1).before args s = true from hpre))
  obtain ⟨gc, q0⟩ := and_e hg
  obtain ⟨ga0, q1⟩ := and_e q0
  obtain ⟨ga1, q2⟩ := and_e q1
  have ga2 := q2
  obtain ⟨w0, w1, w2, rfl⟩ : ∃ w0 w1 w2 : Value, args = #[w0, w1, w2] := by
    have hs : args.size = 3 := by simpa [Cond.value, given_1] using gc
    obtain ⟨L⟩ := args
    match L, hs with
    | [w0, w1, w2], _ => exact ⟨w0, w1, w2, rfl⟩
  have hw := fun d (hd : d ∈ tables_1) => atoms_spec (ws := Jvm.Cond.code x code maxLocals ret :: tables_1) hat d (List.mem_cons_of_mem _ hd)
  have hfit : Fit s := fun {y c} hc i hi => by
    obtain ⟨ha, rfl⟩ := Array.getElem?_eq_some_iff.mp hc
    have q := List.all_eq_true.mp ((Array.all_eq_true_iff_forall_mem.mp hF) _ (Array.getElem_mem ha)) i (List.mem_range.mpr hi)
    simpa [Array.getElem?_eq_getElem hi] using q
  obtain ⟨i0, ei0⟩ := is_v ga0
  obtain rfl : w0 = (.int i0) := Option.some.inj ei0
  obtain ⟨i1, ei1⟩ := is_v ga1
  obtain rfl : w1 = (.int i1) := Option.some.inj ei1
  obtain ⟨i2, ei2⟩ := is_v ga2
  obtain rfl : w2 = (.int i2) := Option.some.inj ei2
  have nn0 := hn
  obtain ⟨ht, v_ht⟩ := exa_v nn0
  obtain ⟨n, o, h1, h2, h3, _, L, rfl, ⟨rfl, N⟩, hq⟩ := rm_law l s _ hw tables_1 i0 i1 i2 ht s.heap s.heap.size (Nat.le_refl _) (Sta.start v_ht (Or.inr ⟨(hw _ (List.mem_of_getElem? (i := 84) rfl)), (hw _ (List.mem_of_getElem? (i := 85) rfl))⟩)) p e ha hc hk s m _ below hf ((Spec.applies_iff_loose hf).mp happ).1 ⟨rfl, State.Warmed39.refl s, rfl⟩ trivial
  refine ⟨n, _, h1, h2, h3, hpost _ _ _ _ _ _ ⟨Cond.after_iff.mpr rfl, Cond.after_iff.mpr (eq_i res_at (Term.int_eval (1)) rfl), trivial⟩ ⟨hq.1, hq.2.1, (hq.2.2.sift fun y hy => Or.inr (N y hy)).mono (by decide) (by decide)⟩⟩
theorem main_1_1 : Claimed_1_1 := comes_1 fun _ _ _ _ _ _ h hF => ⟨h.1, hF⟩
theorem main_1_2 : Claimed_1_2 := comes_1 fun _ _ _ _ _ _ h hF => ⟨h.2.1, hF⟩
end Jvm.Pilot.@@N@@
namespace Jvm.Pilot.@@N@@
open Jvm Jvm.ClassFile Sem Op Lib Jvm.Free Jvm.Stand Jvm.Pilot.@@N@@.Jvm.D
/-! MADE BY PROGRAM (witnessworld.py) out of the Statement's table words and the real class files: 18 classes; the members and pool entries that the words name. The judged class is class 1, her method 1. -/
namespace start1
open Jvm.ClassFile
def u (s : String) : CpInfo := .utf8 (stringToUtf16 s)
/-- a pool by its gaps: so many unusable entries, then the entry; so many at the end -/
def gap : Nat → List CpInfo → List CpInfo
  | 0, r => r
  | n + 1, r => .unusable :: gap n r
def poolList (es : List (Nat × CpInfo)) (last : Nat) : List CpInfo := es.foldr (fun e r => gap e.1 (e.2 :: r)) (gap last [])
def pool (es : List (Nat × CpInfo)) (last : Nat) : Array CpInfo := ⟨poolList es last⟩
def fileOf (pool : Array CpInfo) (this : Nat) (attrs : Array Attribute := #[]) (ms : Array MethodInfo := #[]) (fl : Nat := 33) (sup : Nat := 0) (ifs : Array Nat := #[]) (fds : Array FieldInfo := #[]) : ClassFile where
  minorVersion := 0
  majorVersion := 65
  constantPool := pool
  accessFlags := fl
  thisClass := this
  superClass := sup
  interfaces := ifs
  fields := fds
  methods := ms
  attributes := attrs
def plain (name : String) (sup : Option ClassId) : Class where
  name := name
  kind := .ordinary
  loader := none
  accessFlags := 33
  super := sup
  interfaces := #[]
  cf := none
  fields := #[]
  methods := #[]
  instanceTypes := #[]
  staticTypes := #[]
  resolved := #[]
  callSites := []
  init := .initialized
  statics := none
  mirror := none

def pool0 : Array CpInfo := pool [(5, u "<init>"), (0, u "()V"), (1, .class_ 10), (1, u "java/lang/Object")] 113

def k0c0 : Code := { maxStack := 0, maxLocals := 1, code := object_method_1_code, exceptionTable := #[], attributes := #[] }
def k0m0 : Method := { name := "<init>", desc := "()V", sig := { parameters := [], returnType := none }, accessFlags := 1, code := some k0c0 }
/-- java/lang/Object -/
def k0 : Class := { plain "java/lang/Object" none with
  accessFlags := 33
  interfaces := #[]
  cf := some (fileOf pool0 8 #[] #[{ accessFlags := 1, nameIndex := 5, descriptorIndex := 6, attributes := #[] }] 33 0 #[] #[])
  fields := #[]
  methods := #[k0m0]
  instanceTypes := #[]
  staticTypes := #[]
  resolved := Array.replicate 124 none
  statics := none }

def pool1 : Array CpInfo := pool [(2, .class_ 4), (1, u "java/lang/Object"), (0, u "<init>"), (0, u "()V"), (0, .class_ 8), (0, u "com/example/entitygate/entitygate/OpenElements"), (0, .methodref 7 10), (0, .nameAndType 5 11), (0, u "(Ljava/util/Set;)V"), (0, .class_ 13), (0, u "com/example/entitygate/entitygate/HtmlNode$Element"), (0, .methodref 12 15), (0, .nameAndType 5 16), (0, u "(Ljava/lang/String;Lcom/example/entitygate/entitygate/HtmlTag;Lcom/example/entitygate/entitygate/HtmlNode$Namespace;Lcom/example/entitygate/entitygate/Attributes;II)V"), (0, .integer 2147483647), (0, .methodref 7 19), (0, .nameAndType 20 21), (0, u "push"), (0, u "(Lcom/example/entitygate/entitygate/HtmlNode$Element;)V"), (0, .methodref 7 23), (0, .nameAndType 24 25), (0, u "indexOf"), (0, u "(Lcom/example/entitygate/entitygate/HtmlNode$Element;)I"), (0, .class_ 27), (0, u "com/example/entitygate/entitygate/OpenElementsIndexOfPinLaw"), (2, u "law"), (0, u "(III)Z")] 10

def k1m0 : Method := { name := "<init>", desc := "()V", sig := { parameters := [], returnType := none }, accessFlags := 1, code := none }
def k1c1 : Code := { maxStack := 8, maxLocals := 13, code := code, exceptionTable := #[], attributes := #[] }
def k1m1 : Method := { name := "law", desc := "(III)Z", sig := { parameters := [.int, .int, .int], returnType := some .boolean }, accessFlags := 9, code := some k1c1 }
/-- com/example/entitygate/entitygate/OpenElementsIndexOfPinLaw -/
def k1 : Class := { plain "com/example/entitygate/entitygate/OpenElementsIndexOfPinLaw" (some 0) with
  accessFlags := 49
  interfaces := #[]
  cf := some (fileOf pool1 26 #[] #[{ accessFlags := 1, nameIndex := 5, descriptorIndex := 6, attributes := #[] }, { accessFlags := 9, nameIndex := 30, descriptorIndex := 31, attributes := #[] }] 49 2 #[] #[])
  fields := #[]
  methods := #[k1m0, k1m1]
  instanceTypes := #[]
  staticTypes := #[]
  resolved := Array.replicate 42 none
  statics := none }

def pool2 : Array CpInfo := pool [(1, .methodref 2 3), (0, .class_ 4), (0, .nameAndType 5 6), (0, u "java/lang/Object"), (0, u "<init>"), (0, u "()V"), (0, .class_ 8), (0, u "com/example/entitygate/entitygate/HtmlNode$Element"), (0, .fieldref 10 11), (0, .class_ 12), (0, .nameAndType 13 14), (0, u "com/example/entitygate/entitygate/OpenElements"), (0, u "elements"), (0, u "[Lcom/example/entitygate/entitygate/HtmlNode$Element;"), (0, .fieldref 10 16), (0, .nameAndType 17 18), (0, u "landmarks"), (0, u "[I"), (0, .fieldref 10 20), (0, .nameAndType 21 22), (0, u "landmarkTags"), (0, u "Ljava/util/Set;"), (0, .fieldref 10 24), (0, .nameAndType 25 26), (0, u "size"), (0, u "I"), (0, .methodref 10 28), (0, .nameAndType 29 30), (0, u "insertAt"), (0, u "(ILcom/example/entitygate/entitygate/HtmlNode$Element;)V"), (0, .fieldref 7 32), (0, .nameAndType 33 34), (0, u "open"), (0, u "Z"), (0, .methodref 10 36), (0, .nameAndType 37 38), (0, u "isLandmark"), (0, u "(Lcom/example/entitygate/entitygate/HtmlNode$Element;)Z"), (0, .fieldref 10 40), (0, .nameAndType 41 26), (0, u "landmarkCount"), (16, u "Lcom/example/entitygate/entitygate/HtmlTag;"), (0, .methodref 7 60), (0, .nameAndType 61 62), (0, u "isHtml"), (0, u "()Z"), (0, .fieldref 7 64), (0, .nameAndType 65 58), (0, u "tag"), (12, u "indexOf"), (0, u "(Lcom/example/entitygate/entitygate/HtmlNode$Element;)I"), (4, .methodref 85 86), (0, .class_ 87), (0, .nameAndType 88 89), (0, u "java/lang/System"), (0, u "arraycopy"), (0, u "(Ljava/lang/Object;ILjava/lang/Object;II)V"), (21, .class_ 113), (1, u "com/example/entitygate/entitygate/OpenElements$Scope"), (23, u "SEARCH_DEPTH"), (4, u "(Ljava/util/Set;)V"), (5, u "push"), (0, u "(Lcom/example/entitygate/entitygate/HtmlNode$Element;)V")] 21

def k2c0 : Code := { maxStack := 2, maxLocals := 2, code := prog_30_method_1_code, exceptionTable := #[], attributes := #[] }
def k2m0 : Method := { name := "<init>", desc := "(Ljava/util/Set;)V", sig := { parameters := [(.object "java/util/Set")], returnType := none }, accessFlags := 0, code := some k2c0 }
def k2c1 : Code := { maxStack := 3, maxLocals := 2, code := prog_30_method_5_code, exceptionTable := #[], attributes := #[] }
def k2m1 : Method := { name := "push", desc := "(Lcom/example/entitygate/entitygate/HtmlNode$Element;)V", sig := { parameters := [(.object "com/example/entitygate/entitygate/HtmlNode$Element")], returnType := none }, accessFlags := 0, code := some k2c1 }
def k2c2 : Code := { maxStack := 2, maxLocals := 3, code := prog_30_method_10_code, exceptionTable := #[], attributes := #[] }
def k2m2 : Method := { name := "indexOf", desc := "(Lcom/example/entitygate/entitygate/HtmlNode$Element;)I", sig := { parameters := [(.object "com/example/entitygate/entitygate/HtmlNode$Element")], returnType := some .int }, accessFlags := 0, code := some k2c2 }
def k2c3 : Code := { maxStack := 6, maxLocals := 4, code := prog_30_method_15_code, exceptionTable := #[], attributes := #[] }
def k2m3 : Method := { name := "insertAt", desc := "(ILcom/example/entitygate/entitygate/HtmlNode$Element;)V", sig := { parameters := [.int, (.object "com/example/entitygate/entitygate/HtmlNode$Element")], returnType := none }, accessFlags := 0, code := some k2c3 }
def k2c4 : Code := { maxStack := 2, maxLocals := 2, code := prog_30_method_20_code, exceptionTable := #[], attributes := #[] }
def k2m4 : Method := { name := "isLandmark", desc := "(Lcom/example/entitygate/entitygate/HtmlNode$Element;)Z", sig := { parameters := [(.object "com/example/entitygate/entitygate/HtmlNode$Element")], returnType := some .boolean }, accessFlags := 2, code := some k2c4 }
/-- com/example/entitygate/entitygate/OpenElements -/
def k2 : Class := { plain "com/example/entitygate/entitygate/OpenElements" (some 0) with
  accessFlags := 32
  interfaces := #[]
  cf := some (fileOf pool2 10 #[.nestMembers #[111]] #[{ accessFlags := 0, nameIndex := 5, descriptorIndex := 142, attributes := #[] }, { accessFlags := 0, nameIndex := 148, descriptorIndex := 149, attributes := #[] }, { accessFlags := 0, nameIndex := 78, descriptorIndex := 79, attributes := #[] }, { accessFlags := 0, nameIndex := 29, descriptorIndex := 30, attributes := #[] }, { accessFlags := 2, nameIndex := 37, descriptorIndex := 38, attributes := #[] }] 32 2 #[] #[{ accessFlags := 24, nameIndex := 137, descriptorIndex := 26, attributes := #[] }, { accessFlags := 2, nameIndex := 13, descriptorIndex := 14, attributes := #[] }, { accessFlags := 2, nameIndex := 25, descriptorIndex := 26, attributes := #[] }, { accessFlags := 18, nameIndex := 21, descriptorIndex := 22, attributes := #[] }, { accessFlags := 2, nameIndex := 17, descriptorIndex := 18, attributes := #[] }, { accessFlags := 2, nameIndex := 41, descriptorIndex := 26, attributes := #[] }])
  fields := #[{ name := "SEARCH_DEPTH", type := .int, accessFlags := 24, slot := 0, constantValue := 0 }, { name := "elements", type := (.array (.object "com/example/entitygate/entitygate/HtmlNode$Element")), accessFlags := 2, slot := 0, constantValue := 0 }, { name := "size", type := .int, accessFlags := 2, slot := 1, constantValue := 0 }, { name := "landmarkTags", type := (.object "java/util/Set"), accessFlags := 18, slot := 2, constantValue := 0 }, { name := "landmarks", type := (.array .int), accessFlags := 2, slot := 3, constantValue := 0 }, { name := "landmarkCount", type := .int, accessFlags := 2, slot := 4, constantValue := 0 }]
  methods := #[k2m0, k2m1, k2m2, k2m3, k2m4]
  instanceTypes := #[(.array (.object "com/example/entitygate/entitygate/HtmlNode$Element")), .int, (.object "java/util/Set"), (.array .int), .int]
  staticTypes := #[.int]
  resolved := Array.replicate 171 none
  statics := none }

def pool3 : Array CpInfo := pool [(1, .methodref 2 3), (0, .class_ 4), (0, .nameAndType 5 6), (0, u "java/lang/Object"), (0, u "<init>"), (0, u "()V"), (1, .class_ 10), (1, u "com/example/entitygate/entitygate/HtmlNode"), (0, u "parent"), (0, u "Lcom/example/entitygate/entitygate/HtmlNode$Parent;"), (2, u "previous"), (0, u "Lcom/example/entitygate/entitygate/HtmlNode;"), (2, u "next"), (1, .class_ 23), (1, u "com/example/entitygate/entitygate/HtmlNode$Parent"), (11, .class_ 36), (0, u "com/example/entitygate/entitygate/HtmlNode$DocumentType"), (0, .class_ 38), (0, u "com/example/entitygate/entitygate/HtmlNode$Comment"), (0, .class_ 40), (0, u "com/example/entitygate/entitygate/HtmlNode$Text"), (0, .class_ 42), (0, u "com/example/entitygate/entitygate/HtmlNode$Element"), (0, .class_ 44), (0, u "com/example/entitygate/entitygate/HtmlNode$Document"), (0, .class_ 46), (0, u "com/example/entitygate/entitygate/HtmlNode$Namespace")] 8

def k3c0 : Code := { maxStack := 1, maxLocals := 1, code := prog_14_method_1_code, exceptionTable := #[], attributes := #[] }
def k3m0 : Method := { name := "<init>", desc := "()V", sig := { parameters := [], returnType := none }, accessFlags := 0, code := some k3c0 }
/-- com/example/entitygate/entitygate/HtmlNode -/
def k3 : Class := { plain "com/example/entitygate/entitygate/HtmlNode" (some 0) with
  accessFlags := 1056
  interfaces := #[]
  cf := some (fileOf pool3 8 #[.nestMembers #[35, 37, 39, 41, 43, 21, 45]] #[{ accessFlags := 0, nameIndex := 5, descriptorIndex := 6, attributes := #[] }] 1056 2 #[] #[{ accessFlags := 0, nameIndex := 11, descriptorIndex := 12, attributes := #[] }, { accessFlags := 0, nameIndex := 15, descriptorIndex := 16, attributes := #[] }, { accessFlags := 0, nameIndex := 19, descriptorIndex := 16, attributes := #[] }])
  fields := #[{ name := "parent", type := (.object "com/example/entitygate/entitygate/HtmlNode$Parent"), accessFlags := 0, slot := 0, constantValue := 0 }, { name := "previous", type := (.object "com/example/entitygate/entitygate/HtmlNode"), accessFlags := 0, slot := 1, constantValue := 0 }, { name := "next", type := (.object "com/example/entitygate/entitygate/HtmlNode"), accessFlags := 0, slot := 2, constantValue := 0 }]
  methods := #[k3m0]
  instanceTypes := #[(.object "com/example/entitygate/entitygate/HtmlNode$Parent"), (.object "com/example/entitygate/entitygate/HtmlNode"), (.object "com/example/entitygate/entitygate/HtmlNode")]
  staticTypes := #[]
  resolved := Array.replicate 55 none
  statics := none }

def pool4 : Array CpInfo := pool [(1, .methodref 2 3), (0, .class_ 4), (0, .nameAndType 5 6), (0, u "com/example/entitygate/entitygate/HtmlNode"), (0, u "<init>"), (0, u "()V"), (8, .class_ 17), (1, u "com/example/entitygate/entitygate/HtmlNode$Parent"), (0, u "last"), (0, u "Lcom/example/entitygate/entitygate/HtmlNode;"), (5, u "first")] 13

def k4c0 : Code := { maxStack := 1, maxLocals := 1, code := prog_20_method_1_code, exceptionTable := #[], attributes := #[] }
def k4m0 : Method := { name := "<init>", desc := "()V", sig := { parameters := [], returnType := none }, accessFlags := 0, code := some k4c0 }
/-- com/example/entitygate/entitygate/HtmlNode$Parent -/
def k4 : Class := { plain "com/example/entitygate/entitygate/HtmlNode$Parent" (some 3) with
  accessFlags := 1056
  interfaces := #[]
  cf := some (fileOf pool4 15 #[.nestHost 2] #[{ accessFlags := 0, nameIndex := 5, descriptorIndex := 6, attributes := #[] }] 1056 2 #[] #[{ accessFlags := 0, nameIndex := 25, descriptorIndex := 19, attributes := #[] }, { accessFlags := 0, nameIndex := 18, descriptorIndex := 19, attributes := #[] }])
  fields := #[{ name := "first", type := (.object "com/example/entitygate/entitygate/HtmlNode"), accessFlags := 0, slot := 3, constantValue := 0 }, { name := "last", type := (.object "com/example/entitygate/entitygate/HtmlNode"), accessFlags := 0, slot := 4, constantValue := 0 }]
  methods := #[k4m0]
  instanceTypes := #[(.object "com/example/entitygate/entitygate/HtmlNode$Parent"), (.object "com/example/entitygate/entitygate/HtmlNode"), (.object "com/example/entitygate/entitygate/HtmlNode"), (.object "com/example/entitygate/entitygate/HtmlNode"), (.object "com/example/entitygate/entitygate/HtmlNode")]
  staticTypes := #[]
  resolved := Array.replicate 39 none
  statics := none }

def pool5 : Array CpInfo := pool [(1, .methodref 2 3), (0, .class_ 4), (0, .nameAndType 5 6), (0, u "com/example/entitygate/entitygate/HtmlNode$Parent"), (0, u "<init>"), (0, u "()V"), (0, .fieldref 8 9), (0, .class_ 10), (0, .nameAndType 11 12), (0, u "com/example/entitygate/entitygate/HtmlNode$Element"), (0, u "name"), (0, u "Ljava/lang/String;"), (0, .fieldref 8 14), (0, .nameAndType 15 16), (0, u "tag"), (0, u "Lcom/example/entitygate/entitygate/HtmlTag;"), (0, .fieldref 8 18), (0, .nameAndType 19 20), (0, u "namespace"), (0, u "Lcom/example/entitygate/entitygate/HtmlNode$Namespace;"), (0, .fieldref 8 22), (0, .nameAndType 23 24), (0, u "attributes"), (0, u "Lcom/example/entitygate/entitygate/Attributes;"), (0, .fieldref 8 26), (0, .nameAndType 27 28), (0, u "start"), (0, u "I"), (0, .fieldref 8 30), (0, .nameAndType 31 28), (0, u "nonceAt"), (0, .fieldref 33 34), (0, .class_ 35), (0, .nameAndType 36 20), (0, u "com/example/entitygate/entitygate/HtmlNode$Namespace"), (0, u "HTML"), (54, u "()Z"), (15, u "open"), (0, u "Z"), (0, u "(Ljava/lang/String;Lcom/example/entitygate/entitygate/HtmlTag;Lcom/example/entitygate/entitygate/HtmlNode$Namespace;Lcom/example/entitygate/entitygate/Attributes;II)V"), (5, u "isHtml"), (3, .class_ 120), (0, u "com/example/entitygate/entitygate/HtmlNode")] 4

def k5c0 : Code := { maxStack := 2, maxLocals := 7, code := prog_18_method_1_code, exceptionTable := #[], attributes := #[] }
def k5m0 : Method := { name := "<init>", desc := "(Ljava/lang/String;Lcom/example/entitygate/entitygate/HtmlTag;Lcom/example/entitygate/entitygate/HtmlNode$Namespace;Lcom/example/entitygate/entitygate/Attributes;II)V", sig := { parameters := [(.object "java/lang/String"), (.object "com/example/entitygate/entitygate/HtmlTag"), (.object "com/example/entitygate/entitygate/HtmlNode$Namespace"), (.object "com/example/entitygate/entitygate/Attributes"), .int, .int], returnType := none }, accessFlags := 0, code := some k5c0 }
def k5c1 : Code := { maxStack := 2, maxLocals := 1, code := prog_18_method_3_code, exceptionTable := #[], attributes := #[] }
def k5m1 : Method := { name := "isHtml", desc := "()Z", sig := { parameters := [], returnType := some .boolean }, accessFlags := 0, code := some k5c1 }
/-- com/example/entitygate/entitygate/HtmlNode$Element -/
def k5 : Class := { plain "com/example/entitygate/entitygate/HtmlNode$Element" (some 4) with
  accessFlags := 32
  interfaces := #[]
  cf := some (fileOf pool5 8 #[.nestHost 119] #[{ accessFlags := 0, nameIndex := 5, descriptorIndex := 109, attributes := #[] }, { accessFlags := 0, nameIndex := 115, descriptorIndex := 91, attributes := #[] }] 32 2 #[] #[{ accessFlags := 16, nameIndex := 11, descriptorIndex := 12, attributes := #[] }, { accessFlags := 16, nameIndex := 15, descriptorIndex := 16, attributes := #[] }, { accessFlags := 16, nameIndex := 19, descriptorIndex := 20, attributes := #[] }, { accessFlags := 16, nameIndex := 23, descriptorIndex := 24, attributes := #[] }, { accessFlags := 16, nameIndex := 27, descriptorIndex := 28, attributes := #[] }, { accessFlags := 16, nameIndex := 31, descriptorIndex := 28, attributes := #[] }, { accessFlags := 0, nameIndex := 107, descriptorIndex := 108, attributes := #[] }])
  fields := #[{ name := "name", type := (.object "java/lang/String"), accessFlags := 16, slot := 5, constantValue := 0 }, { name := "tag", type := (.object "com/example/entitygate/entitygate/HtmlTag"), accessFlags := 16, slot := 6, constantValue := 0 }, { name := "namespace", type := (.object "com/example/entitygate/entitygate/HtmlNode$Namespace"), accessFlags := 16, slot := 7, constantValue := 0 }, { name := "attributes", type := (.object "com/example/entitygate/entitygate/Attributes"), accessFlags := 16, slot := 8, constantValue := 0 }, { name := "start", type := .int, accessFlags := 16, slot := 9, constantValue := 0 }, { name := "nonceAt", type := .int, accessFlags := 16, slot := 10, constantValue := 0 }, { name := "open", type := .boolean, accessFlags := 0, slot := 11, constantValue := 0 }]
  methods := #[k5m0, k5m1]
  instanceTypes := #[(.object "com/example/entitygate/entitygate/HtmlNode$Parent"), (.object "com/example/entitygate/entitygate/HtmlNode"), (.object "com/example/entitygate/entitygate/HtmlNode"), (.object "com/example/entitygate/entitygate/HtmlNode"), (.object "com/example/entitygate/entitygate/HtmlNode"), (.object "java/lang/String"), (.object "com/example/entitygate/entitygate/HtmlTag"), (.object "com/example/entitygate/entitygate/HtmlNode$Namespace"), (.object "com/example/entitygate/entitygate/Attributes"), .int, .int, .boolean]
  staticTypes := #[]
  resolved := Array.replicate 125 none
  statics := none }

def pool6 : Array CpInfo := pool [(2, .class_ 4), (1, u "java/lang/Object"), (0, u "<init>"), (0, u "()V"), (1, .class_ 10), (1, u "java/lang/System"), (0, u "allowSecurityManager"), (0, u "I"), (16, u "cons"), (0, u "Ljava/io/Console;"), (77, .class_ 110), (1, u "java/lang/System$CallersHolder"), (43, u "initialErrStream"), (0, u "Ljava/io/PrintStream;"), (19, u "security"), (0, u "Ljava/lang/SecurityManager;"), (31, .class_ 209), (0, u "java/lang/System$1"), (7, u "props"), (0, u "Ljava/util/Properties;"), (2, u "lineSeparator"), (0, u "Ljava/lang/String;"), (96, .class_ 321), (1, u "java/lang/System$LoggerFinder"), (5, .class_ 328), (0, u "java/lang/System$Logger"), (67, u "err"), (2, u "out"), (91, u "notSupportedJnuEncoding"), (15, u "in"), (17, u "initialIn"), (0, u "Ljava/io/InputStream;"), (35, u "bootLayer"), (0, u "Ljava/lang/ModuleLayer;"), (99, .class_ 664), (0, u "java/lang/System$2"), (9, u "NEVER"), (2, u "MAYBE"), (49, u "arraycopy"), (0, u "(Ljava/lang/Object;ILjava/lang/Object;II)V"), (72, .class_ 802), (0, u "java/lang/System$Logger$Level")] 31

def k6m0 : Method := { name := "<init>", desc := "()V", sig := { parameters := [], returnType := none }, accessFlags := 2, code := none }
def k6m1 : Method := { name := "arraycopy", desc := "(Ljava/lang/Object;ILjava/lang/Object;II)V", sig := { parameters := [(.object "java/lang/Object"), .int, (.object "java/lang/Object"), .int, .int], returnType := none }, accessFlags := 265, code := none }
/-- java/lang/System -/
def k6 : Class := { plain "java/lang/System" (some 0) with
  accessFlags := 49
  interfaces := #[]
  cf := some (fileOf pool6 8 #[.nestMembers #[319, 327, 801, 108, 663, 208]] #[{ accessFlags := 2, nameIndex := 5, descriptorIndex := 6, attributes := #[] }, { accessFlags := 265, nameIndex := 727, descriptorIndex := 728, attributes := #[] }] 49 2 #[] #[{ accessFlags := 25, nameIndex := 507, descriptorIndex := 526, attributes := #[] }, { accessFlags := 25, nameIndex := 399, descriptorIndex := 155, attributes := #[] }, { accessFlags := 25, nameIndex := 396, descriptorIndex := 155, attributes := #[] }, { accessFlags := 10, nameIndex := 525, descriptorIndex := 526, attributes := #[] }, { accessFlags := 26, nameIndex := 674, descriptorIndex := 12, attributes := #[] }, { accessFlags := 26, nameIndex := 677, descriptorIndex := 12, attributes := #[] }, { accessFlags := 10, nameIndex := 11, descriptorIndex := 12, attributes := #[] }, { accessFlags := 74, nameIndex := 175, descriptorIndex := 176, attributes := #[] }, { accessFlags := 10, nameIndex := 491, descriptorIndex := 222, attributes := #[] }, { accessFlags := 74, nameIndex := 29, descriptorIndex := 30, attributes := #[] }, { accessFlags := 74, nameIndex := 154, descriptorIndex := 155, attributes := #[] }, { accessFlags := 10, nameIndex := 217, descriptorIndex := 218, attributes := #[] }, { accessFlags := 10, nameIndex := 221, descriptorIndex := 222, attributes := #[] }, { accessFlags := 8, nameIndex := 562, descriptorIndex := 563, attributes := #[] }])
  fields := #[{ name := "in", type := (.object "java/io/InputStream"), accessFlags := 25, slot := 0, constantValue := 0 }, { name := "out", type := (.object "java/io/PrintStream"), accessFlags := 25, slot := 1, constantValue := 0 }, { name := "err", type := (.object "java/io/PrintStream"), accessFlags := 25, slot := 2, constantValue := 0 }, { name := "initialIn", type := (.object "java/io/InputStream"), accessFlags := 10, slot := 3, constantValue := 0 }, { name := "NEVER", type := .int, accessFlags := 26, slot := 4, constantValue := 0 }, { name := "MAYBE", type := .int, accessFlags := 26, slot := 5, constantValue := 0 }, { name := "allowSecurityManager", type := .int, accessFlags := 10, slot := 6, constantValue := 0 }, { name := "security", type := (.object "java/lang/SecurityManager"), accessFlags := 74, slot := 7, constantValue := 0 }, { name := "notSupportedJnuEncoding", type := (.object "java/lang/String"), accessFlags := 10, slot := 8, constantValue := 0 }, { name := "cons", type := (.object "java/io/Console"), accessFlags := 74, slot := 9, constantValue := 0 }, { name := "initialErrStream", type := (.object "java/io/PrintStream"), accessFlags := 74, slot := 10, constantValue := 0 }, { name := "props", type := (.object "java/util/Properties"), accessFlags := 10, slot := 11, constantValue := 0 }, { name := "lineSeparator", type := (.object "java/lang/String"), accessFlags := 10, slot := 12, constantValue := 0 }, { name := "bootLayer", type := (.object "java/lang/ModuleLayer"), accessFlags := 8, slot := 13, constantValue := 0 }]
  methods := #[k6m0, k6m1]
  instanceTypes := #[]
  staticTypes := #[(.object "java/io/InputStream"), (.object "java/io/PrintStream"), (.object "java/io/PrintStream"), (.object "java/io/InputStream"), .int, .int, .int, (.object "java/lang/SecurityManager"), (.object "java/lang/String"), (.object "java/io/Console"), (.object "java/io/PrintStream"), (.object "java/util/Properties"), (.object "java/lang/String"), (.object "java/lang/ModuleLayer")]
  resolved := Array.replicate 834 none
  statics := none }

def pool7 : Array CpInfo := pool [(1, .class_ 2), (0, u "java/lang/constant/Constable"), (0, .class_ 4), (0, u "java/lang/Object")] 6

/-- java/lang/constant/Constable -/
def k7 : Class := { plain "java/lang/constant/Constable" (some 0) with
  accessFlags := 1537
  interfaces := #[]
  cf := some (fileOf pool7 1 #[] #[] 1537 3 #[] #[])
  fields := #[]
  methods := #[]
  instanceTypes := #[]
  staticTypes := #[]
  resolved := Array.replicate 11 none
  statics := none }

def pool8 : Array CpInfo := pool [(1, .class_ 2), (0, u "java/lang/Comparable"), (0, .class_ 4), (0, u "java/lang/Object")] 7

/-- java/lang/Comparable -/
def k8 : Class := { plain "java/lang/Comparable" (some 0) with
  accessFlags := 1537
  interfaces := #[]
  cf := some (fileOf pool8 1 #[] #[] 1537 3 #[] #[])
  fields := #[]
  methods := #[]
  instanceTypes := #[]
  staticTypes := #[]
  resolved := Array.replicate 12 none
  statics := none }

def pool9 : Array CpInfo := pool [(1, .class_ 2), (0, u "java/io/Serializable"), (0, .class_ 4), (0, u "java/lang/Object")] 2

/-- java/io/Serializable -/
def k9 : Class := { plain "java/io/Serializable" (some 0) with
  accessFlags := 1537
  interfaces := #[]
  cf := some (fileOf pool9 1 #[] #[] 1537 3 #[] #[])
  fields := #[]
  methods := #[]
  instanceTypes := #[]
  staticTypes := #[]
  resolved := Array.replicate 7 none
  statics := none }

def pool10 : Array CpInfo := pool [(2, .class_ 4), (1, u "java/lang/Enum"), (0, u "name"), (0, u "Ljava/lang/String;"), (2, u "ordinal"), (0, u "I"), (1, .class_ 14), (1, u "java/lang/Object"), (4, u "hash"), (86, .class_ 108), (1, u "java/lang/Enum$EnumDesc"), (2, .class_ 112), (0, u "java/lang/constant/Constable"), (0, .class_ 114), (0, u "java/lang/Comparable"), (0, .class_ 116), (0, u "java/io/Serializable")] 87

/-- java/lang/Enum -/
def k10 : Class := { plain "java/lang/Enum" (some 0) with
  accessFlags := 1057
  interfaces := #[7, 8, 9]
  cf := some (fileOf pool10 2 #[.nestMembers #[106]] #[] 1057 12 #[111, 113, 115] #[{ accessFlags := 18, nameIndex := 5, descriptorIndex := 6, attributes := #[] }, { accessFlags := 18, nameIndex := 9, descriptorIndex := 10, attributes := #[] }, { accessFlags := 2, nameIndex := 19, descriptorIndex := 10, attributes := #[] }])
  fields := #[{ name := "name", type := (.object "java/lang/String"), accessFlags := 18, slot := 0, constantValue := 0 }, { name := "ordinal", type := .int, accessFlags := 18, slot := 1, constantValue := 0 }, { name := "hash", type := .int, accessFlags := 2, slot := 2, constantValue := 0 }]
  methods := #[]
  instanceTypes := #[(.object "java/lang/String"), .int, .int]
  staticTypes := #[]
  resolved := Array.replicate 204 none
  statics := none }

def pool11 : Array CpInfo := pool [(1, .class_ 2), (0, u "com/example/entitygate/entitygate/HtmlNode$Namespace"), (2, u "HTML"), (0, u "Lcom/example/entitygate/entitygate/HtmlNode$Namespace;"), (2, u "SVG"), (2, u "MATHML"), (2, u "$VALUES"), (0, u "[Lcom/example/entitygate/entitygate/HtmlNode$Namespace;"), (6, .class_ 25), (1, u "java/lang/Enum"), (26, .class_ 53), (0, u "com/example/entitygate/entitygate/HtmlNode")] 2

/-- com/example/entitygate/entitygate/HtmlNode$Namespace -/
def k11 : Class := { plain "com/example/entitygate/entitygate/HtmlNode$Namespace" (some 10) with
  accessFlags := 16432
  interfaces := #[]
  cf := some (fileOf pool11 1 #[.nestHost 52] #[] 16432 23 #[] #[{ accessFlags := 16409, nameIndex := 5, descriptorIndex := 6, attributes := #[] }, { accessFlags := 16409, nameIndex := 9, descriptorIndex := 6, attributes := #[] }, { accessFlags := 16409, nameIndex := 12, descriptorIndex := 6, attributes := #[] }, { accessFlags := 4122, nameIndex := 15, descriptorIndex := 16, attributes := #[] }])
  fields := #[{ name := "HTML", type := (.object "com/example/entitygate/entitygate/HtmlNode$Namespace"), accessFlags := 16409, slot := 0, constantValue := 0 }, { name := "SVG", type := (.object "com/example/entitygate/entitygate/HtmlNode$Namespace"), accessFlags := 16409, slot := 1, constantValue := 0 }, { name := "MATHML", type := (.object "com/example/entitygate/entitygate/HtmlNode$Namespace"), accessFlags := 16409, slot := 2, constantValue := 0 }, { name := "$VALUES", type := (.array (.object "com/example/entitygate/entitygate/HtmlNode$Namespace")), accessFlags := 4122, slot := 3, constantValue := 0 }]
  methods := #[]
  instanceTypes := #[(.object "java/lang/String"), .int, .int]
  staticTypes := #[(.object "com/example/entitygate/entitygate/HtmlNode$Namespace"), (.object "com/example/entitygate/entitygate/HtmlNode$Namespace"), (.object "com/example/entitygate/entitygate/HtmlNode$Namespace"), (.array (.object "com/example/entitygate/entitygate/HtmlNode$Namespace"))]
  resolved := Array.replicate 56 none
  statics := some 0 }

def pool12 : Array CpInfo := pool [(1, u "java/lang/Cloneable"), (0, .class_ 1), (0, u "java/lang/Object"), (0, .class_ 3)] 3

/-- java/lang/Cloneable -/
def k12 : Class := { plain "java/lang/Cloneable" (some 0) with
  accessFlags := 1537
  interfaces := #[]
  cf := some (fileOf pool12 2 #[] #[] 1537 4 #[] #[])
  fields := #[]
  methods := #[]
  instanceTypes := #[]
  staticTypes := #[]
  resolved := Array.replicate 8 none
  statics := none }

/-- the primitive byte -/
def k13 : Class := { plain "byte" none with kind := .primitive 'B', accessFlags := 0x411 }
/-- [B -/
def k14 : Class := { plain "[B" (some 0) with kind := .array 13 .byte, interfaces := #[12, 9], accessFlags := 1041 }

/-- the primitive int -/
def k15 : Class := { plain "int" none with kind := .primitive 'I', accessFlags := 0x411 }
/-- [I -/
def k16 : Class := { plain "[I" (some 0) with kind := .array 15 .int, interfaces := #[12, 9], accessFlags := 1041 }

/-- [Lcom/example/entitygate/entitygate/HtmlNode$Element; -/
def k17 : Class := { plain "[Lcom/example/entitygate/entitygate/HtmlNode$Element;" (some 0) with kind := .array 5 (.object "com/example/entitygate/entitygate/HtmlNode$Element"), interfaces := #[12, 9], accessFlags := 1041 }

def heap : Heap := #[{ cls := 11, slots := #[.ref 1, .null, .null, .null], vm := .statics 11 },
  { cls := 11, slots := #[.null, .int 0, .int 0], vm := .none }]
def classes : Array Class := #[k0, k1, k2, k3, k4, k5, k6, k7, k8, k9, k10, k11, k12, k13, k14, k15, k16, k17]
def interned : List (Array UInt16 × Addr) := []
def slotsUsed : Nat := 7
def theMethod : MethodId := ⟨1, 1⟩
def args0 : Array Value := #[.int 2, .int 1, .int 1]
def aboutOver (below : List Frame) : State where
  vm := { classes := classes, interned := interned.toArray }
  heap := heap
  slotsUsed := slotsUsed
  threads := #[{ frames := .invoking theMethod args0 :: below }]
def below0 : List Frame := [.native { method := ⟨0, 0⟩, args := #[] }]
def about1 : State := aboutOver below0
def p0 : Program := .bare "" "" ""
def e0 : Env := launch0.env 0 0 0
theorem w_frames : about1.frames = Frame.invoking theMethod args0 :: below0 := rfl
set_option maxRecDepth 65536 in
theorem w_args : argsFit about1.vm theMethod args0 = true := by decide +kernel
set_option maxRecDepth 65536 in
theorem w_heap : heapFits about1 = true := by decide +kernel
set_option maxRecDepth 65536 in
theorem w_runnable : about1.curStatus? = some .runnable := by decide +kernel
set_option maxRecDepth 65536 in
theorem w_alone : about1.alone = true := by decide +kernel
set_option maxRecDepth 65536 in
theorem w_named : about1.methodNamed? x = some theMethod := by decide +kernel
set_option maxRecDepth 65536 in
theorem w_hears : about1.hears theMethod below0 = true := by decide +kernel
set_option maxRecDepth 65536 in
theorem w_ripe : about1.ripe theMethod args0 below0 = true := by decide +kernel
theorem w_running : about1.status = .running := rfl
set_option maxRecDepth 65536 in
theorem w_room : about1.hasRoom e0.platform room_1 = true :=
  launch0.hasRoom_least _ room_1 (by decide +kernel) (by decide +kernel) (by decide +kernel) (by decide +kernel) (by decide +kernel) (by decide +kernel)
theorem allAtoms_all (ts : List Jvm.Cond) (a : Array Jvm.Value) (st : Jvm.State) : (allAtoms ts).before a st = ts.all (fun c => c.before a st) := by
  induction ts with
  | nil => rfl
  | cons c t ih =>
    show (Jvm.Cond.and c (allAtoms t)).before a st = _
    rw [Jvm.Cond.before_and, ih, List.all_cons]
def words1 : List Jvm.Cond := Jvm.Cond.code x code maxLocals ret :: tables_1
/-- a 'code' word, met by the world's own term for the bytes: nothing is compared byte by byte -/
theorem code_word {y : MethodName} {bytes : ByteArray} {mx : Nat} {rt : Option FieldType} {a : Array Value} {s : State} {m : MethodId} {meth : Method} {c : Code} (h1 : s.methodNamed? y = some m) (h2 : s.vm.method? m = some meth) (h3 : meth.code = some c) (h4 : c.code = bytes)
    (h5 : (c.maxLocals == mx && c.exceptionTable.isEmpty && decide (c.maxStack ≤ mostOperands) && decide (meth.sig.returnType = rt) && !meth.locks && decide (parseMethodDescriptor y.desc = some meth.sig)) = true) : (Jvm.Cond.code y bytes mx rt).before a s = true := by
  simp only [Bool.and_eq_true, beq_iff_eq, Bool.not_eq_true', decide_eq_true_eq] at h5
  obtain ⟨⟨⟨⟨⟨g1, g2⟩, g3⟩, g4⟩, g5⟩, g6⟩ := h5
  simp [Cond.before, Cond.holds, Cond.value, h1, h2, h3, h4, g1, g2, g3, g4, g5, g6]
def isCode : Jvm.Cond → Bool
  | .code _ _ _ _ => true
  | _ => false
theorem all_split {L : List Jvm.Cond} {P : Jvm.Cond → Bool} (h1 : L.all (fun c => isCode c || P c) = true) (h2 : ∀ c ∈ L.filter isCode, P c = true) : L.all P = true := by
  refine List.all_eq_true.mpr fun c hc => ?_
  have h := List.all_eq_true.mp h1 c hc
  rcases Bool.eq_false_or_eq_true (isCode c) with hi | hi
  · exact h2 c (List.mem_filter.mpr ⟨hc, hi⟩)
  · simpa [hi] using h
set_option maxRecDepth 65536 in
theorem w_c0 : (Jvm.Cond.code x code maxLocals ret).before args0 about1 = true := code_word (m := ⟨1, 1⟩) (meth := k1m1) (c := k1c1) (by decide +kernel) rfl rfl rfl (by decide +kernel)
set_option maxRecDepth 65536 in
theorem w_c1 : (Jvm.Cond.code ({ cls := "com/example/entitygate/entitygate/OpenElements", name := "<init>", desc := "(Ljava/util/Set;)V" } : Jvm.MethodName) prog_30_method_1_code (2 : Nat) (Option.none : Option Jvm.ClassFile.FieldType)).before args0 about1 = true := code_word (m := ⟨2, 0⟩) (meth := k2m0) (c := k2c0) (by decide +kernel) rfl rfl rfl (by decide +kernel)
set_option maxRecDepth 65536 in
theorem w_c2 : (Jvm.Cond.code ({ cls := "java/lang/Object", name := "<init>", desc := "()V" } : Jvm.MethodName) object_method_1_code (1 : Nat) (Option.none : Option Jvm.ClassFile.FieldType)).before args0 about1 = true := code_word (m := ⟨0, 0⟩) (meth := k0m0) (c := k0c0) (by decide +kernel) rfl rfl rfl (by decide +kernel)
set_option maxRecDepth 65536 in
theorem w_c3 : (Jvm.Cond.code ({ cls := "com/example/entitygate/entitygate/HtmlNode$Element", name := "<init>", desc := "(Ljava/lang/String;Lcom/example/entitygate/entitygate/HtmlTag;Lcom/example/entitygate/entitygate/HtmlNode$Namespace;Lcom/example/entitygate/entitygate/Attributes;II)V" } : Jvm.MethodName) prog_18_method_1_code (7 : Nat) (Option.none : Option Jvm.ClassFile.FieldType)).before args0 about1 = true := code_word (m := ⟨5, 0⟩) (meth := k5m0) (c := k5c0) (by decide +kernel) rfl rfl rfl (by decide +kernel)
set_option maxRecDepth 65536 in
theorem w_c4 : (Jvm.Cond.code ({ cls := "com/example/entitygate/entitygate/HtmlNode$Parent", name := "<init>", desc := "()V" } : Jvm.MethodName) prog_20_method_1_code (1 : Nat) (Option.none : Option Jvm.ClassFile.FieldType)).before args0 about1 = true := code_word (m := ⟨4, 0⟩) (meth := k4m0) (c := k4c0) (by decide +kernel) rfl rfl rfl (by decide +kernel)
set_option maxRecDepth 65536 in
theorem w_c5 : (Jvm.Cond.code ({ cls := "com/example/entitygate/entitygate/HtmlNode", name := "<init>", desc := "()V" } : Jvm.MethodName) prog_14_method_1_code (1 : Nat) (Option.none : Option Jvm.ClassFile.FieldType)).before args0 about1 = true := code_word (m := ⟨3, 0⟩) (meth := k3m0) (c := k3c0) (by decide +kernel) rfl rfl rfl (by decide +kernel)
set_option maxRecDepth 65536 in
theorem w_c6 : (Jvm.Cond.code ({ cls := "com/example/entitygate/entitygate/OpenElements", name := "indexOf", desc := "(Lcom/example/entitygate/entitygate/HtmlNode$Element;)I" } : Jvm.MethodName) prog_30_method_10_code (3 : Nat) (Option.some Jvm.ClassFile.FieldType.int)).before args0 about1 = true := code_word (m := ⟨2, 2⟩) (meth := k2m2) (c := k2c2) (by decide +kernel) rfl rfl rfl (by decide +kernel)
set_option maxRecDepth 65536 in
theorem w_c7 : (Jvm.Cond.code ({ cls := "com/example/entitygate/entitygate/OpenElements", name := "push", desc := "(Lcom/example/entitygate/entitygate/HtmlNode$Element;)V" } : Jvm.MethodName) prog_30_method_5_code (2 : Nat) (Option.none : Option Jvm.ClassFile.FieldType)).before args0 about1 = true := code_word (m := ⟨2, 1⟩) (meth := k2m1) (c := k2c1) (by decide +kernel) rfl rfl rfl (by decide +kernel)
set_option maxRecDepth 65536 in
theorem w_c8 : (Jvm.Cond.code ({ cls := "com/example/entitygate/entitygate/OpenElements", name := "insertAt", desc := "(ILcom/example/entitygate/entitygate/HtmlNode$Element;)V" } : Jvm.MethodName) prog_30_method_15_code (4 : Nat) (Option.none : Option Jvm.ClassFile.FieldType)).before args0 about1 = true := code_word (m := ⟨2, 3⟩) (meth := k2m3) (c := k2c3) (by decide +kernel) rfl rfl rfl (by decide +kernel)
set_option maxRecDepth 65536 in
theorem w_c9 : (Jvm.Cond.code ({ cls := "com/example/entitygate/entitygate/OpenElements", name := "isLandmark", desc := "(Lcom/example/entitygate/entitygate/HtmlNode$Element;)Z" } : Jvm.MethodName) prog_30_method_20_code (2 : Nat) (Option.some Jvm.ClassFile.FieldType.boolean)).before args0 about1 = true := code_word (m := ⟨2, 4⟩) (meth := k2m4) (c := k2c4) (by decide +kernel) rfl rfl rfl (by decide +kernel)
set_option maxRecDepth 65536 in
theorem w_c10 : (Jvm.Cond.code ({ cls := "com/example/entitygate/entitygate/HtmlNode$Element", name := "isHtml", desc := "()Z" } : Jvm.MethodName) prog_18_method_3_code (1 : Nat) (Option.some Jvm.ClassFile.FieldType.boolean)).before args0 about1 = true := code_word (m := ⟨5, 1⟩) (meth := k5m1) (c := k5c1) (by decide +kernel) rfl rfl rfl (by decide +kernel)
def codes1 : List Jvm.Cond := [Jvm.Cond.code x code maxLocals ret, Jvm.Cond.code ({ cls := "com/example/entitygate/entitygate/OpenElements", name := "<init>", desc := "(Ljava/util/Set;)V" } : Jvm.MethodName) prog_30_method_1_code (2 : Nat) (Option.none : Option Jvm.ClassFile.FieldType), Jvm.Cond.code ({ cls := "java/lang/Object", name := "<init>", desc := "()V" } : Jvm.MethodName) object_method_1_code (1 : Nat) (Option.none : Option Jvm.ClassFile.FieldType), Jvm.Cond.code ({ cls := "com/example/entitygate/entitygate/HtmlNode$Element", name := "<init>", desc := "(Ljava/lang/String;Lcom/example/entitygate/entitygate/HtmlTag;Lcom/example/entitygate/entitygate/HtmlNode$Namespace;Lcom/example/entitygate/entitygate/Attributes;II)V" } : Jvm.MethodName) prog_18_method_1_code (7 : Nat) (Option.none : Option Jvm.ClassFile.FieldType), Jvm.Cond.code ({ cls := "com/example/entitygate/entitygate/HtmlNode$Parent", name := "<init>", desc := "()V" } : Jvm.MethodName) prog_20_method_1_code (1 : Nat) (Option.none : Option Jvm.ClassFile.FieldType), Jvm.Cond.code ({ cls := "com/example/entitygate/entitygate/HtmlNode", name := "<init>", desc := "()V" } : Jvm.MethodName) prog_14_method_1_code (1 : Nat) (Option.none : Option Jvm.ClassFile.FieldType), Jvm.Cond.code ({ cls := "com/example/entitygate/entitygate/OpenElements", name := "indexOf", desc := "(Lcom/example/entitygate/entitygate/HtmlNode$Element;)I" } : Jvm.MethodName) prog_30_method_10_code (3 : Nat) (Option.some Jvm.ClassFile.FieldType.int), Jvm.Cond.code ({ cls := "com/example/entitygate/entitygate/OpenElements", name := "push", desc := "(Lcom/example/entitygate/entitygate/HtmlNode$Element;)V" } : Jvm.MethodName) prog_30_method_5_code (2 : Nat) (Option.none : Option Jvm.ClassFile.FieldType), Jvm.Cond.code ({ cls := "com/example/entitygate/entitygate/OpenElements", name := "insertAt", desc := "(ILcom/example/entitygate/entitygate/HtmlNode$Element;)V" } : Jvm.MethodName) prog_30_method_15_code (4 : Nat) (Option.none : Option Jvm.ClassFile.FieldType), Jvm.Cond.code ({ cls := "com/example/entitygate/entitygate/OpenElements", name := "isLandmark", desc := "(Lcom/example/entitygate/entitygate/HtmlNode$Element;)Z" } : Jvm.MethodName) prog_30_method_20_code (2 : Nat) (Option.some Jvm.ClassFile.FieldType.boolean), Jvm.Cond.code ({ cls := "com/example/entitygate/entitygate/HtmlNode$Element", name := "isHtml", desc := "()Z" } : Jvm.MethodName) prog_18_method_3_code (1 : Nat) (Option.some Jvm.ClassFile.FieldType.boolean)]
set_option maxRecDepth 65536 in
theorem codes_eq : words1.filter isCode = codes1 := rfl
theorem w_codes : ∀ c ∈ words1.filter isCode, c.before args0 about1 = true := by
  rw [codes_eq]
  intro c hc
  simp only [codes1, List.mem_cons, List.not_mem_nil, or_false] at hc
  rcases hc with rfl | rfl | rfl | rfl | rfl | rfl | rfl | rfl | rfl | rfl | rfl
  · exact w_c0
  · exact w_c1
  · exact w_c2
  · exact w_c3
  · exact w_c4
  · exact w_c5
  · exact w_c6
  · exact w_c7
  · exact w_c8
  · exact w_c9
  · exact w_c10
set_option maxRecDepth 65536 in
theorem w_t1 : (words1.take 24).all (fun c => isCode c || c.before args0 about1) = true := by decide +kernel
set_option maxRecDepth 65536 in
theorem w_t2 : ((words1.drop 24).take 24).all (fun c => isCode c || c.before args0 about1) = true := by decide +kernel
set_option maxRecDepth 65536 in
theorem w_t3 : (((words1.drop 24).drop 24).take 24).all (fun c => isCode c || c.before args0 about1) = true := by decide +kernel
set_option maxRecDepth 65536 in
theorem w_t4 : (((words1.drop 24).drop 24).drop 24).all (fun c => isCode c || c.before args0 about1) = true := by decide +kernel
theorem w_tables : (allAtoms (Jvm.Cond.code x code maxLocals ret :: tables_1)).before args0 about1 = true := by
  rw [allAtoms_all]
  show words1.all (fun c => c.before args0 about1) = true
  refine all_split ?_ w_codes
  rw [← List.take_append_drop 24 words1, List.all_append, w_t1, ← List.take_append_drop 24 (words1.drop 24), List.all_append, w_t2, ← List.take_append_drop 24 ((words1.drop 24).drop 24), List.all_append, w_t3, w_t4]
  rfl
set_option maxRecDepth 65536 in
theorem w_case : (Jvm.Cond.and given_1 narrow_1).before args0 about1 = true := by decide +kernel
theorem w_applies : (headSpec (Jvm.Cond.code x code maxLocals ret :: tables_1) room_1).applies x e0.platform about1 = true :=
  (Spec.applies_iff w_frames).mpr ⟨w_running, w_runnable, w_alone, w_named, w_hears, w_ripe, w_room, w_tables⟩
theorem atStart : AtStart classFile x code maxLocals ret World_1 tables_1 room_1 Calls_1 rest_1 Pre_1 launch0 p0 e0 about1 theMethod args0 below0 :=
  ⟨lists_1, trivial, launch0.admits_env _ _ _, launch0.least_env, fairChoices_fair.cas, fairChoices_fair.clock, w_frames, w_args, w_heap, w_applies, trivial, trivial, w_case⟩
end start1
theorem witness_1 : WitnessClaimed_1 := ⟨start1.p0, start1.e0, start1.about1, start1.theMethod, start1.args0, start1.below0, start1.atStart⟩
end Jvm.Pilot.@@N@@
