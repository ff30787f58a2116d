import JvmDerived
import JvmDerived.Pilot.@@N@@Statement
import JvmDerived.Pilot.@@N@@Code
set_option linter.unusedVariables false
set_option linter.unusedSimpArgs false
namespace Jvm.Pilot.@@N@@
open Jvm Jvm.ClassFile Sem Op Lib Jvm.Free Jvm.Stand Jvm.LawKit Jvm.RoadKit Bundle Jvm.Pilot.@@N@@.Jvm.D
section Own
variable {p : Program} {l : Launch} {e : Env} {R : Room} {s : State} {m : MethodId} {args : Array Value} {below : List Frame} {meth : Method} {c : Code} {T : State} {locs : List Loc} {cells slots : Nat}
/-- from S0 the run ends as Q says, within the frame of k cells and n slots -/
def own_Go (p : Program) (e : Env) (below : List Frame) (s : State) (Q : Option Value → Heap → List Loc → Prop) (k n : Nat) (S0 : State) : Prop :=
  ∃ U o, Steps p.tables e below S0 U ∧ U.status = .running ∧ Ended U below o ∧ ∃ v L, o = .returned v ∧ Q v U.heap L ∧ FrameEnd s o U L k n
variable {Q : Option Value → Heap → List Loc → Prop} {K N : Nat} {S0 S1 : State}
theorem own_step (h : ∀ t, Steps p.tables e below S1 t → Steps p.tables e below S0 t) (G : own_Go p e below s Q K N S1) : own_Go p e below s Q K N S0 := by
  obtain ⟨U, o, h1, r⟩ := G
  exact ⟨U, o, h _ h1, r⟩
theorem own_start {g g' : JFrame} (q : g = g') (G : own_Go p e below s Q K N (T.setTop g')) : own_Go p e below s Q K N (T.setTop g) := q ▸ G
theorem own_end (X : Stand p l e R s m args below meth c T locs cells slots) {v : Option Value} (hv : meth.sig.returnType = none → v = none) (hlk : meth.locks = false) (hq : Q v T.heap locs) (hk : cells ≤ K) (hn : slots ≤ N)
    (go : ∀ fs, (∀ (f : JFrame) (acts : List Action), f.method = m → f.locked = none → f.entered = [] → (doReturn e (T.setTop f) acts v).1 = T.setFrames fs) → Steps p.tables e below S0 (T.setFrames fs)) : own_Go p e below s Q K N S0 := by
  obtain ⟨fs, hr, hrun, hended, hW, hsame⟩ := X.leave (v := v) hv hlk
  exact ⟨_, _, go fs hr, hrun, hended, _, _, rfl, hq, ⟨_, rfl⟩, hW, hsame.mono hk hn⟩
theorem own_retN (X : Stand p l e R s m args below meth c T locs cells slots) (hx : p.tables.exec = Jvm.exec) (hlk : meth.locks = false) {pc : Nat} {Ls : Array Slot} {z : Int32} {t : FieldType} {rest : List Value} (hret : meth.sig.returnType = some t) (ht : t = .boolean ∨ t = .byte ∨ t = .char ∨ t = .short)
    (hd : decode c.code pc = .ok (.ireturn, 1)) (hq : Q (some (.int (nar t z))) T.heap locs) (hk : cells ≤ K) (hn : slots ≤ N) : own_Go p e below s Q K N (T.setTop (mkF m pc Ls (.int z :: rest))) :=
  own_end X (fun h => by rw [hret] at h; cases h) hlk hq hk hn fun fs hr => retN X hx hret ht hd hr
theorem own_retI (X : Stand p l e R s m args below meth c T locs cells slots) (hx : p.tables.exec = Jvm.exec) (hlk : meth.locks = false) {pc : Nat} {Ls : Array Slot} {z : Int32} {rest : List Value} (hret : meth.sig.returnType = some .int)
    (hd : decode c.code pc = .ok (.ireturn, 1)) (hq : Q (some (.int z)) T.heap locs) (hk : cells ≤ K) (hn : slots ≤ N) : own_Go p e below s Q K N (T.setTop (mkF m pc Ls (.int z :: rest))) :=
  own_end X (fun h => by rw [hret] at h; cases h) hlk hq hk hn fun fs hr => retOut X hx hret rfl (Or.inl ⟨rfl, Or.inl rfl, _, rfl⟩) hd hr
theorem own_retJ (X : Stand p l e R s m args below meth c T locs cells slots) (hx : p.tables.exec = Jvm.exec) (hlk : meth.locks = false) {pc : Nat} {Ls : Array Slot} {z : Int64} {rest : List Value} (hret : meth.sig.returnType = some .long)
    (hd : decode c.code pc = .ok (.lreturn, 1)) (hq : Q (some (.long z)) T.heap locs) (hk : cells ≤ K) (hn : slots ≤ N) : own_Go p e below s Q K N (T.setTop (mkF m pc Ls (.long z :: rest))) :=
  own_end X (fun h => by rw [hret] at h; cases h) hlk hq hk hn fun fs hr => retOut X hx hret rfl (Or.inr (Or.inl ⟨rfl, rfl, _, rfl⟩)) hd hr
theorem own_retA (X : Stand p l e R s m args below meth c T locs cells slots) (hx : p.tables.exec = Jvm.exec) (hlk : meth.locks = false) {pc : Nat} {Ls : Array Slot} {w : Value} {t : FieldType} {rest : List Value} (hret : meth.sig.returnType = some t) (ht : t.isReference = true) (hw : w.isRef = true)
    (hd : decode c.code pc = .ok (.areturn, 1)) (hq : Q (some w) T.heap locs) (hk : cells ≤ K) (hn : slots ≤ N) : own_Go p e below s Q K N (T.setTop (mkF m pc Ls (w :: rest))) :=
  own_end X (fun h => by rw [hret] at h; cases h) hlk hq hk hn fun fs hr => retOut X hx hret (by cases t <;> first | (cases ht; done) | (cases w <;> rfl)) (Or.inr (Or.inr (Or.inr (Or.inr ⟨rfl, ht, hw⟩)))) hd hr
theorem own_retV (X : Stand p l e R s m args below meth c T locs cells slots) (hx : p.tables.exec = Jvm.exec) (hlk : meth.locks = false) {pc : Nat} {Ls : Array Slot} (hret : meth.sig.returnType = none)
    (hd : decode c.code pc = .ok (.return_, 1)) (hq : Q none T.heap locs) (hk : cells ≤ K) (hn : slots ≤ N) : own_Go p e below s Q K N (T.setTop (mkF m pc Ls [])) :=
  own_end X (fun _ => rfl) hlk hq hk hn fun fs hr => X.returnOut hx hret hd hr
theorem own_Sta_keep {Z : State} {h h' : Heap} {ws : List Addr} {C n d : String} {w : Value} (Kp : Keep h h' ws) (F : Sta Z h C n d w) (q : ∀ a ∈ ws, ∀ cell : Cell, h[a]? = some cell → cell.vm.isStatics = false) : Sta Z h' C n d w := by
  obtain ⟨cf, i, k, f, st, cell, h1, h2, h3, h4, h5, h6, h7⟩ := F
  exact ⟨cf, i, k, f, st, cell, h1, h2, h3, h4, Kp.2.1 _ _ h5 (fun hm => by rw [q _ hm _ h5] at h6; cases h6), h6, h7⟩
theorem g_iload_n (X : Stand p l e R s m args below meth c T locs cells slots) (hx : p.tables.exec = Jvm.exec) {pc : Nat} (pc' : Nat) {Ls : Array Slot} {k : Fin 4} {v : Int32} {st : List Value} (hd : decode c.code pc = .ok (.iload_n k, 1)) (hl : Ls[k.val]? = some (.val (.int v))) (hp : pc + 1 = pc') (G : own_Go p e below s Q K N (T.setTop (mkF m pc' Ls (.int v :: st)))) : own_Go p e below s Q K N (T.setTop (mkF m pc Ls (st))) := by
  subst hp; exact own_step (fun _ k => XS.iloadN X.here hx rfl hd hl k) G
theorem g_iload (X : Stand p l e R s m args below meth c T locs cells slots) (hx : p.tables.exec = Jvm.exec) {pc : Nat} (pc' : Nat) {Ls : Array Slot} {k : Nat} {v : Int32} {st : List Value} (hd : decode c.code pc = .ok (.iload k, 2)) (hl : Ls[k]? = some (.val (.int v))) (hp : pc + 2 = pc') (G : own_Go p e below s Q K N (T.setTop (mkF m pc' Ls (.int v :: st)))) : own_Go p e below s Q K N (T.setTop (mkF m pc Ls (st))) := by
  subst hp; exact own_step (fun _ k => XS.iload X.here hx rfl hd hl k) G
theorem g_istore_n (X : Stand p l e R s m args below meth c T locs cells slots) (hx : p.tables.exec = Jvm.exec) {pc : Nat} (pc' : Nat) {Ls : Array Slot} {k : Fin 4} {v : Int32} {st : List Value} {l' : Array Slot} (hd : decode c.code pc = .ok (.istore_n k, 1)) (hl : storeLocals Ls k.val (.int v) = some l') (hp : pc + 1 = pc') (G : own_Go p e below s Q K N (T.setTop (mkF m pc' l' (st)))) : own_Go p e below s Q K N (T.setTop (mkF m pc Ls (.int v :: st))) := by
  subst hp; exact own_step (fun _ k => XS.istoreN X.here hx rfl hd rfl hl k) G
theorem g_istore (X : Stand p l e R s m args below meth c T locs cells slots) (hx : p.tables.exec = Jvm.exec) {pc : Nat} (pc' : Nat) {Ls : Array Slot} {k : Nat} {v : Int32} {st : List Value} {l' : Array Slot} (hd : decode c.code pc = .ok (.istore k, 2)) (hl : storeLocals Ls k (.int v) = some l') (hp : pc + 2 = pc') (G : own_Go p e below s Q K N (T.setTop (mkF m pc' l' (st)))) : own_Go p e below s Q K N (T.setTop (mkF m pc Ls (.int v :: st))) := by
  subst hp; exact own_step (fun _ k => XS.istore X.here hx rfl hd rfl hl k) G
theorem g_lload_n (X : Stand p l e R s m args below meth c T locs cells slots) (hx : p.tables.exec = Jvm.exec) {pc : Nat} (pc' : Nat) {Ls : Array Slot} {k : Fin 4} {v : Int64} {st : List Value} (hd : decode c.code pc = .ok (.lload_n k, 1)) (hl : Ls[k.val]? = some (.val (.long v))) (hp : pc + 1 = pc') (G : own_Go p e below s Q K N (T.setTop (mkF m pc' Ls (.long v :: st)))) : own_Go p e below s Q K N (T.setTop (mkF m pc Ls (st))) := by
  subst hp; exact own_step (fun _ k => XS.lloadN X.here hx rfl hd hl k) G
theorem g_lload (X : Stand p l e R s m args below meth c T locs cells slots) (hx : p.tables.exec = Jvm.exec) {pc : Nat} (pc' : Nat) {Ls : Array Slot} {k : Nat} {v : Int64} {st : List Value} (hd : decode c.code pc = .ok (.lload k, 2)) (hl : Ls[k]? = some (.val (.long v))) (hp : pc + 2 = pc') (G : own_Go p e below s Q K N (T.setTop (mkF m pc' Ls (.long v :: st)))) : own_Go p e below s Q K N (T.setTop (mkF m pc Ls (st))) := by
  subst hp; exact own_step (fun _ k => XS.lload X.here hx rfl hd hl k) G
theorem g_lstore_n (X : Stand p l e R s m args below meth c T locs cells slots) (hx : p.tables.exec = Jvm.exec) {pc : Nat} (pc' : Nat) {Ls : Array Slot} {k : Fin 4} {v : Int64} {st : List Value} {l' : Array Slot} (hd : decode c.code pc = .ok (.lstore_n k, 1)) (hl : storeLocals Ls k.val (.long v) = some l') (hp : pc + 1 = pc') (G : own_Go p e below s Q K N (T.setTop (mkF m pc' l' (st)))) : own_Go p e below s Q K N (T.setTop (mkF m pc Ls (.long v :: st))) := by
  subst hp; exact own_step (fun _ k => XS.lstoreN X.here hx rfl hd rfl hl k) G
theorem g_lstore (X : Stand p l e R s m args below meth c T locs cells slots) (hx : p.tables.exec = Jvm.exec) {pc : Nat} (pc' : Nat) {Ls : Array Slot} {k : Nat} {v : Int64} {st : List Value} {l' : Array Slot} (hd : decode c.code pc = .ok (.lstore k, 2)) (hl : storeLocals Ls k (.long v) = some l') (hp : pc + 2 = pc') (G : own_Go p e below s Q K N (T.setTop (mkF m pc' l' (st)))) : own_Go p e below s Q K N (T.setTop (mkF m pc Ls (.long v :: st))) := by
  subst hp; exact own_step (fun _ k => XS.lstore X.here hx rfl hd rfl hl k) G
theorem g_aload_n (X : Stand p l e R s m args below meth c T locs cells slots) (hx : p.tables.exec = Jvm.exec) {pc : Nat} (pc' : Nat) {Ls : Array Slot} {k : Fin 4} {v : Value} {st : List Value} (hd : decode c.code pc = .ok (.aload_n k, 1)) (hl : Ls[k.val]? = some (.val v)) (hv : v.isRef = true) (hp : pc + 1 = pc') (G : own_Go p e below s Q K N (T.setTop (mkF m pc' Ls (v :: st)))) : own_Go p e below s Q K N (T.setTop (mkF m pc Ls (st))) := by
  subst hp; exact own_step (fun _ k => XS.aloadN X.here hx rfl hd hl hv k) G
theorem g_aload (X : Stand p l e R s m args below meth c T locs cells slots) (hx : p.tables.exec = Jvm.exec) {pc : Nat} (pc' : Nat) {Ls : Array Slot} {k : Nat} {v : Value} {st : List Value} (hd : decode c.code pc = .ok (.aload k, 2)) (hl : Ls[k]? = some (.val v)) (hv : v.isRef = true) (hp : pc + 2 = pc') (G : own_Go p e below s Q K N (T.setTop (mkF m pc' Ls (v :: st)))) : own_Go p e below s Q K N (T.setTop (mkF m pc Ls (st))) := by
  subst hp; exact own_step (fun _ k => XS.aload X.here hx rfl hd hl hv k) G
theorem g_astore_n (X : Stand p l e R s m args below meth c T locs cells slots) (hx : p.tables.exec = Jvm.exec) {pc : Nat} (pc' : Nat) {Ls : Array Slot} {k : Fin 4} {v : Value} {st : List Value} {l' : Array Slot} (hd : decode c.code pc = .ok (.astore_n k, 1)) (hv : v.isRef = true) (hl : storeLocals Ls k.val v = some l') (hp : pc + 1 = pc') (G : own_Go p e below s Q K N (T.setTop (mkF m pc' l' (st)))) : own_Go p e below s Q K N (T.setTop (mkF m pc Ls (v :: st))) := by
  subst hp; exact own_step (fun _ k => XS.astoreN X.here hx rfl hd rfl hv hl k) G
theorem g_astore (X : Stand p l e R s m args below meth c T locs cells slots) (hx : p.tables.exec = Jvm.exec) {pc : Nat} (pc' : Nat) {Ls : Array Slot} {k : Nat} {v : Value} {st : List Value} {l' : Array Slot} (hd : decode c.code pc = .ok (.astore k, 2)) (hv : v.isRef = true) (hl : storeLocals Ls k v = some l') (hp : pc + 2 = pc') (G : own_Go p e below s Q K N (T.setTop (mkF m pc' l' (st)))) : own_Go p e below s Q K N (T.setTop (mkF m pc Ls (v :: st))) := by
  subst hp; exact own_step (fun _ k => XS.astore X.here hx rfl hd rfl hv hl k) G
theorem g_iconst (X : Stand p l e R s m args below meth c T locs cells slots) (hx : p.tables.exec = Jvm.exec) {pc : Nat} (pc' : Nat) {Ls : Array Slot} {i : Int} {st : List Value} (hd : decode c.code pc = .ok (.iconst i, 1)) (z : Int32) (hz : Int32.ofInt i = z) (hp : pc + 1 = pc') (G : own_Go p e below s Q K N (T.setTop (mkF m pc' Ls (.int z :: st)))) : own_Go p e below s Q K N (T.setTop (mkF m pc Ls st)) := by
  subst hp hz; exact own_step (fun _ k => XS.iconst X.here hx rfl hd k) G
theorem g_bipush (X : Stand p l e R s m args below meth c T locs cells slots) (hx : p.tables.exec = Jvm.exec) {pc : Nat} (pc' : Nat) {Ls : Array Slot} {i : Int} {st : List Value} (hd : decode c.code pc = .ok (.bipush i, 2)) (z : Int32) (hz : (Int8.ofInt i).toInt32 = z) (hp : pc + 2 = pc') (G : own_Go p e below s Q K N (T.setTop (mkF m pc' Ls (.int z :: st)))) : own_Go p e below s Q K N (T.setTop (mkF m pc Ls st)) := by
  subst hp hz; exact own_step (fun _ k => XS.bipush X.here hx rfl hd k) G
theorem g_sipush (X : Stand p l e R s m args below meth c T locs cells slots) (hx : p.tables.exec = Jvm.exec) {pc : Nat} (pc' : Nat) {Ls : Array Slot} {i : Int} {st : List Value} (hd : decode c.code pc = .ok (.sipush i, 3)) (z : Int32) (hz : (Int16.ofInt i).toInt32 = z) (hp : pc + 3 = pc') (G : own_Go p e below s Q K N (T.setTop (mkF m pc' Ls (.int z :: st)))) : own_Go p e below s Q K N (T.setTop (mkF m pc Ls st)) := by
  subst hp hz; exact own_step (fun _ k => XS.sipush X.here hx rfl hd k) G
theorem g_lconst (X : Stand p l e R s m args below meth c T locs cells slots) (hx : p.tables.exec = Jvm.exec) {pc : Nat} (pc' : Nat) {Ls : Array Slot} {i : Fin 2} {st : List Value} (hd : decode c.code pc = .ok (.lconst i, 1)) (z : Int64) (hz : Int64.ofNat i.val = z) (hp : pc + 1 = pc') (G : own_Go p e below s Q K N (T.setTop (mkF m pc' Ls (.long z :: st)))) : own_Go p e below s Q K N (T.setTop (mkF m pc Ls st)) := by
  subst hp hz; exact own_step (fun _ k => XS.lconst X.here hx rfl hd k) G
theorem g_aconst_null (X : Stand p l e R s m args below meth c T locs cells slots) (hx : p.tables.exec = Jvm.exec) {pc : Nat} (pc' : Nat) {Ls : Array Slot} {st : List Value} (hd : decode c.code pc = .ok (.aconst_null, 1))  (hp : pc + 1 = pc') (G : own_Go p e below s Q K N (T.setTop (mkF m pc' Ls (.null :: st)))) : own_Go p e below s Q K N (T.setTop (mkF m pc Ls (st))) := by
  subst hp; exact own_step (fun _ k => XS.aconstNull X.here hx rfl hd k) G
theorem g_iadd (X : Stand p l e R s m args below meth c T locs cells slots) (hx : p.tables.exec = Jvm.exec) {pc : Nat} (pc' : Nat) {Ls : Array Slot} {x y : Int32} {st : List Value} (hd : decode c.code pc = .ok (.iadd, 1))  (hp : pc + 1 = pc') (G : own_Go p e below s Q K N (T.setTop (mkF m pc' Ls (.int (x + y) :: st)))) : own_Go p e below s Q K N (T.setTop (mkF m pc Ls (.int y :: .int x :: st))) := by
  subst hp; exact own_step (fun _ k => XS.iadd X.here hx rfl hd rfl k) G
theorem g_ladd (X : Stand p l e R s m args below meth c T locs cells slots) (hx : p.tables.exec = Jvm.exec) {pc : Nat} (pc' : Nat) {Ls : Array Slot} {x y : Int64} {st : List Value} (hd : decode c.code pc = .ok (.ladd, 1))  (hp : pc + 1 = pc') (G : own_Go p e below s Q K N (T.setTop (mkF m pc' Ls (.long (x + y) :: st)))) : own_Go p e below s Q K N (T.setTop (mkF m pc Ls (.long y :: .long x :: st))) := by
  subst hp; exact own_step (fun _ k => XS.ladd X.here hx rfl hd rfl k) G
theorem g_isub (X : Stand p l e R s m args below meth c T locs cells slots) (hx : p.tables.exec = Jvm.exec) {pc : Nat} (pc' : Nat) {Ls : Array Slot} {x y : Int32} {st : List Value} (hd : decode c.code pc = .ok (.isub, 1))  (hp : pc + 1 = pc') (G : own_Go p e below s Q K N (T.setTop (mkF m pc' Ls (.int (x - y) :: st)))) : own_Go p e below s Q K N (T.setTop (mkF m pc Ls (.int y :: .int x :: st))) := by
  subst hp; exact own_step (fun _ k => XS.isub X.here hx rfl hd rfl k) G
theorem g_lsub (X : Stand p l e R s m args below meth c T locs cells slots) (hx : p.tables.exec = Jvm.exec) {pc : Nat} (pc' : Nat) {Ls : Array Slot} {x y : Int64} {st : List Value} (hd : decode c.code pc = .ok (.lsub, 1))  (hp : pc + 1 = pc') (G : own_Go p e below s Q K N (T.setTop (mkF m pc' Ls (.long (x - y) :: st)))) : own_Go p e below s Q K N (T.setTop (mkF m pc Ls (.long y :: .long x :: st))) := by
  subst hp; exact own_step (fun _ k => XS.lsub X.here hx rfl hd rfl k) G
theorem g_imul (X : Stand p l e R s m args below meth c T locs cells slots) (hx : p.tables.exec = Jvm.exec) {pc : Nat} (pc' : Nat) {Ls : Array Slot} {x y : Int32} {st : List Value} (hd : decode c.code pc = .ok (.imul, 1))  (hp : pc + 1 = pc') (G : own_Go p e below s Q K N (T.setTop (mkF m pc' Ls (.int (x * y) :: st)))) : own_Go p e below s Q K N (T.setTop (mkF m pc Ls (.int y :: .int x :: st))) := by
  subst hp; exact own_step (fun _ k => XS.imul X.here hx rfl hd rfl k) G
theorem g_lmul (X : Stand p l e R s m args below meth c T locs cells slots) (hx : p.tables.exec = Jvm.exec) {pc : Nat} (pc' : Nat) {Ls : Array Slot} {x y : Int64} {st : List Value} (hd : decode c.code pc = .ok (.lmul, 1))  (hp : pc + 1 = pc') (G : own_Go p e below s Q K N (T.setTop (mkF m pc' Ls (.long (x * y) :: st)))) : own_Go p e below s Q K N (T.setTop (mkF m pc Ls (.long y :: .long x :: st))) := by
  subst hp; exact own_step (fun _ k => XS.lmul X.here hx rfl hd rfl k) G
theorem g_iand (X : Stand p l e R s m args below meth c T locs cells slots) (hx : p.tables.exec = Jvm.exec) {pc : Nat} (pc' : Nat) {Ls : Array Slot} {x y : Int32} {st : List Value} (hd : decode c.code pc = .ok (.iand, 1))  (hp : pc + 1 = pc') (G : own_Go p e below s Q K N (T.setTop (mkF m pc' Ls (.int (x &&& y) :: st)))) : own_Go p e below s Q K N (T.setTop (mkF m pc Ls (.int y :: .int x :: st))) := by
  subst hp; exact own_step (fun _ k => XS.iand X.here hx rfl hd rfl k) G
theorem g_land (X : Stand p l e R s m args below meth c T locs cells slots) (hx : p.tables.exec = Jvm.exec) {pc : Nat} (pc' : Nat) {Ls : Array Slot} {x y : Int64} {st : List Value} (hd : decode c.code pc = .ok (.land, 1))  (hp : pc + 1 = pc') (G : own_Go p e below s Q K N (T.setTop (mkF m pc' Ls (.long (x &&& y) :: st)))) : own_Go p e below s Q K N (T.setTop (mkF m pc Ls (.long y :: .long x :: st))) := by
  subst hp; exact own_step (fun _ k => XS.land X.here hx rfl hd rfl k) G
theorem g_ior (X : Stand p l e R s m args below meth c T locs cells slots) (hx : p.tables.exec = Jvm.exec) {pc : Nat} (pc' : Nat) {Ls : Array Slot} {x y : Int32} {st : List Value} (hd : decode c.code pc = .ok (.ior, 1))  (hp : pc + 1 = pc') (G : own_Go p e below s Q K N (T.setTop (mkF m pc' Ls (.int (x ||| y) :: st)))) : own_Go p e below s Q K N (T.setTop (mkF m pc Ls (.int y :: .int x :: st))) := by
  subst hp; exact own_step (fun _ k => XS.ior X.here hx rfl hd rfl k) G
theorem g_lor (X : Stand p l e R s m args below meth c T locs cells slots) (hx : p.tables.exec = Jvm.exec) {pc : Nat} (pc' : Nat) {Ls : Array Slot} {x y : Int64} {st : List Value} (hd : decode c.code pc = .ok (.lor, 1))  (hp : pc + 1 = pc') (G : own_Go p e below s Q K N (T.setTop (mkF m pc' Ls (.long (x ||| y) :: st)))) : own_Go p e below s Q K N (T.setTop (mkF m pc Ls (.long y :: .long x :: st))) := by
  subst hp; exact own_step (fun _ k => XS.lor X.here hx rfl hd rfl k) G
theorem g_ixor (X : Stand p l e R s m args below meth c T locs cells slots) (hx : p.tables.exec = Jvm.exec) {pc : Nat} (pc' : Nat) {Ls : Array Slot} {x y : Int32} {st : List Value} (hd : decode c.code pc = .ok (.ixor, 1))  (hp : pc + 1 = pc') (G : own_Go p e below s Q K N (T.setTop (mkF m pc' Ls (.int (x ^^^ y) :: st)))) : own_Go p e below s Q K N (T.setTop (mkF m pc Ls (.int y :: .int x :: st))) := by
  subst hp; exact own_step (fun _ k => XS.ixor X.here hx rfl hd rfl k) G
theorem g_lxor (X : Stand p l e R s m args below meth c T locs cells slots) (hx : p.tables.exec = Jvm.exec) {pc : Nat} (pc' : Nat) {Ls : Array Slot} {x y : Int64} {st : List Value} (hd : decode c.code pc = .ok (.lxor, 1))  (hp : pc + 1 = pc') (G : own_Go p e below s Q K N (T.setTop (mkF m pc' Ls (.long (x ^^^ y) :: st)))) : own_Go p e below s Q K N (T.setTop (mkF m pc Ls (.long y :: .long x :: st))) := by
  subst hp; exact own_step (fun _ k => XS.lxor X.here hx rfl hd rfl k) G
theorem g_ineg (X : Stand p l e R s m args below meth c T locs cells slots) (hx : p.tables.exec = Jvm.exec) {pc : Nat} (pc' : Nat) {Ls : Array Slot} {x : Int32} {st : List Value} (hd : decode c.code pc = .ok (.ineg, 1))  (hp : pc + 1 = pc') (G : own_Go p e below s Q K N (T.setTop (mkF m pc' Ls (.int (-x) :: st)))) : own_Go p e below s Q K N (T.setTop (mkF m pc Ls (.int x :: st))) := by
  subst hp; exact own_step (fun _ k => XS.ineg X.here hx rfl hd rfl k) G
theorem g_lneg (X : Stand p l e R s m args below meth c T locs cells slots) (hx : p.tables.exec = Jvm.exec) {pc : Nat} (pc' : Nat) {Ls : Array Slot} {x : Int64} {st : List Value} (hd : decode c.code pc = .ok (.lneg, 1))  (hp : pc + 1 = pc') (G : own_Go p e below s Q K N (T.setTop (mkF m pc' Ls (.long (-x) :: st)))) : own_Go p e below s Q K N (T.setTop (mkF m pc Ls (.long x :: st))) := by
  subst hp; exact own_step (fun _ k => XS.lneg X.here hx rfl hd rfl k) G
theorem g_i2l (X : Stand p l e R s m args below meth c T locs cells slots) (hx : p.tables.exec = Jvm.exec) {pc : Nat} (pc' : Nat) {Ls : Array Slot} {x : Int32} {st : List Value} (hd : decode c.code pc = .ok (.i2l, 1))  (hp : pc + 1 = pc') (G : own_Go p e below s Q K N (T.setTop (mkF m pc' Ls (.long (x.toInt64) :: st)))) : own_Go p e below s Q K N (T.setTop (mkF m pc Ls (.int x :: st))) := by
  subst hp; exact own_step (fun _ k => XS.i2l X.here hx rfl hd rfl k) G
theorem g_l2i (X : Stand p l e R s m args below meth c T locs cells slots) (hx : p.tables.exec = Jvm.exec) {pc : Nat} (pc' : Nat) {Ls : Array Slot} {x : Int64} {st : List Value} (hd : decode c.code pc = .ok (.l2i, 1))  (hp : pc + 1 = pc') (G : own_Go p e below s Q K N (T.setTop (mkF m pc' Ls (.int (x.toInt32) :: st)))) : own_Go p e below s Q K N (T.setTop (mkF m pc Ls (.long x :: st))) := by
  subst hp; exact own_step (fun _ k => XS.l2i X.here hx rfl hd rfl k) G
theorem g_i2b (X : Stand p l e R s m args below meth c T locs cells slots) (hx : p.tables.exec = Jvm.exec) {pc : Nat} (pc' : Nat) {Ls : Array Slot} {x : Int32} {st : List Value} (hd : decode c.code pc = .ok (.i2b, 1))  (hp : pc + 1 = pc') (G : own_Go p e below s Q K N (T.setTop (mkF m pc' Ls (.int (x.toInt8.toInt32) :: st)))) : own_Go p e below s Q K N (T.setTop (mkF m pc Ls (.int x :: st))) := by
  subst hp; exact own_step (fun _ k => XS.i2b X.here hx rfl hd rfl k) G
theorem g_i2s (X : Stand p l e R s m args below meth c T locs cells slots) (hx : p.tables.exec = Jvm.exec) {pc : Nat} (pc' : Nat) {Ls : Array Slot} {x : Int32} {st : List Value} (hd : decode c.code pc = .ok (.i2s, 1))  (hp : pc + 1 = pc') (G : own_Go p e below s Q K N (T.setTop (mkF m pc' Ls (.int (x.toInt16.toInt32) :: st)))) : own_Go p e below s Q K N (T.setTop (mkF m pc Ls (.int x :: st))) := by
  subst hp; exact own_step (fun _ k => XS.i2s X.here hx rfl hd rfl k) G
theorem g_i2c (X : Stand p l e R s m args below meth c T locs cells slots) (hx : p.tables.exec = Jvm.exec) {pc : Nat} (pc' : Nat) {Ls : Array Slot} {x : Int32} {st : List Value} (hd : decode c.code pc = .ok (.i2c, 1))  (hp : pc + 1 = pc') (G : own_Go p e below s Q K N (T.setTop (mkF m pc' Ls (.int (x.toUInt32.toUInt16.toUInt32.toInt32) :: st)))) : own_Go p e below s Q K N (T.setTop (mkF m pc Ls (.int x :: st))) := by
  subst hp; exact own_step (fun _ k => XS.i2c X.here hx rfl hd rfl k) G
theorem g_ishl (X : Stand p l e R s m args below meth c T locs cells slots) (hx : p.tables.exec = Jvm.exec) {pc : Nat} (pc' : Nat) {Ls : Array Slot} {x : Int32} {y : Int32} {st : List Value} (hd : decode c.code pc = .ok (.ishl, 1))  (hp : pc + 1 = pc') (G : own_Go p e below s Q K N (T.setTop (mkF m pc' Ls (.int (x <<< (y &&& 31)) :: st)))) : own_Go p e below s Q K N (T.setTop (mkF m pc Ls (.int y :: .int x :: st))) := by
  subst hp; exact own_step (fun _ k => XS.ishl X.here hx rfl hd rfl k) G
theorem g_ishr (X : Stand p l e R s m args below meth c T locs cells slots) (hx : p.tables.exec = Jvm.exec) {pc : Nat} (pc' : Nat) {Ls : Array Slot} {x : Int32} {y : Int32} {st : List Value} (hd : decode c.code pc = .ok (.ishr, 1))  (hp : pc + 1 = pc') (G : own_Go p e below s Q K N (T.setTop (mkF m pc' Ls (.int (x >>> (y &&& 31)) :: st)))) : own_Go p e below s Q K N (T.setTop (mkF m pc Ls (.int y :: .int x :: st))) := by
  subst hp; exact own_step (fun _ k => XS.ishr X.here hx rfl hd rfl k) G
theorem g_iushr (X : Stand p l e R s m args below meth c T locs cells slots) (hx : p.tables.exec = Jvm.exec) {pc : Nat} (pc' : Nat) {Ls : Array Slot} {x : Int32} {y : Int32} {st : List Value} (hd : decode c.code pc = .ok (.iushr, 1))  (hp : pc + 1 = pc') (G : own_Go p e below s Q K N (T.setTop (mkF m pc' Ls (.int ((x.toUInt32 >>> (y &&& 31).toUInt32).toInt32) :: st)))) : own_Go p e below s Q K N (T.setTop (mkF m pc Ls (.int y :: .int x :: st))) := by
  subst hp; exact own_step (fun _ k => XS.iushr X.here hx rfl hd rfl k) G
theorem g_lshl (X : Stand p l e R s m args below meth c T locs cells slots) (hx : p.tables.exec = Jvm.exec) {pc : Nat} (pc' : Nat) {Ls : Array Slot} {x : Int64} {y : Int32} {st : List Value} (hd : decode c.code pc = .ok (.lshl, 1))  (hp : pc + 1 = pc') (G : own_Go p e below s Q K N (T.setTop (mkF m pc' Ls (.long (x <<< (y &&& 0x3f).toInt64) :: st)))) : own_Go p e below s Q K N (T.setTop (mkF m pc Ls (.int y :: .long x :: st))) := by
  subst hp; exact own_step (fun _ k => XS.lshl X.here hx rfl hd rfl k) G
theorem g_lshr (X : Stand p l e R s m args below meth c T locs cells slots) (hx : p.tables.exec = Jvm.exec) {pc : Nat} (pc' : Nat) {Ls : Array Slot} {x : Int64} {y : Int32} {st : List Value} (hd : decode c.code pc = .ok (.lshr, 1))  (hp : pc + 1 = pc') (G : own_Go p e below s Q K N (T.setTop (mkF m pc' Ls (.long (x >>> (y &&& 0x3f).toInt64) :: st)))) : own_Go p e below s Q K N (T.setTop (mkF m pc Ls (.int y :: .long x :: st))) := by
  subst hp; exact own_step (fun _ k => XS.lshr X.here hx rfl hd rfl k) G
theorem g_lushr (X : Stand p l e R s m args below meth c T locs cells slots) (hx : p.tables.exec = Jvm.exec) {pc : Nat} (pc' : Nat) {Ls : Array Slot} {x : Int64} {y : Int32} {st : List Value} (hd : decode c.code pc = .ok (.lushr, 1))  (hp : pc + 1 = pc') (G : own_Go p e below s Q K N (T.setTop (mkF m pc' Ls (.long ((x.toUInt64 >>> (y &&& 0x3f).toInt64.toUInt64).toInt64) :: st)))) : own_Go p e below s Q K N (T.setTop (mkF m pc Ls (.int y :: .long x :: st))) := by
  subst hp; exact own_step (fun _ k => XS.lushr X.here hx rfl hd rfl k) G
theorem g_lcmp (X : Stand p l e R s m args below meth c T locs cells slots) (hx : p.tables.exec = Jvm.exec) {pc : Nat} (pc' : Nat) {Ls : Array Slot} {x y : Int64} {st : List Value} (hd : decode c.code pc = .ok (.lcmp, 1))  (hp : pc + 1 = pc') (G : own_Go p e below s Q K N (T.setTop (mkF m pc' Ls (.int (lcmpW x y) :: st)))) : own_Go p e below s Q K N (T.setTop (mkF m pc Ls (.long y :: .long x :: st))) := by
  subst hp; exact own_step (fun _ k => XS.lcmp X.here hx rfl hd rfl k) G
theorem g_idiv (X : Stand p l e R s m args below meth c T locs cells slots) (hx : p.tables.exec = Jvm.exec) {pc : Nat} (pc' : Nat) {Ls : Array Slot} {x y : Int32} {st : List Value} (hd : decode c.code pc = .ok (.idiv, 1)) (hp : pc + 1 = pc') (hy : y ≠ 0) (G : own_Go p e below s Q K N (T.setTop (mkF m pc' Ls (.int (x / y) :: st)))) : own_Go p e below s Q K N (T.setTop (mkF m pc Ls (.int y :: .int x :: st))) := by
  subst hp; exact own_step (fun _ k => XS.idiv X.here hx rfl hd rfl hy k) G
theorem g_ldiv (X : Stand p l e R s m args below meth c T locs cells slots) (hx : p.tables.exec = Jvm.exec) {pc : Nat} (pc' : Nat) {Ls : Array Slot} {x y : Int64} {st : List Value} (hd : decode c.code pc = .ok (.ldiv, 1)) (hp : pc + 1 = pc') (hy : y ≠ 0) (G : own_Go p e below s Q K N (T.setTop (mkF m pc' Ls (.long (x / y) :: st)))) : own_Go p e below s Q K N (T.setTop (mkF m pc Ls (.long y :: .long x :: st))) := by
  subst hp; exact own_step (fun _ k => XS.ldiv X.here hx rfl hd rfl hy k) G
theorem g_irem (X : Stand p l e R s m args below meth c T locs cells slots) (hx : p.tables.exec = Jvm.exec) {pc : Nat} (pc' : Nat) {Ls : Array Slot} {x y : Int32} {st : List Value} (hd : decode c.code pc = .ok (.irem, 1)) (hp : pc + 1 = pc') (hy : y ≠ 0) (G : own_Go p e below s Q K N (T.setTop (mkF m pc' Ls (.int (x % y) :: st)))) : own_Go p e below s Q K N (T.setTop (mkF m pc Ls (.int y :: .int x :: st))) := by
  subst hp; exact own_step (fun _ k => iremM X hx rfl hd rfl hy k) G
theorem g_lrem (X : Stand p l e R s m args below meth c T locs cells slots) (hx : p.tables.exec = Jvm.exec) {pc : Nat} (pc' : Nat) {Ls : Array Slot} {x y : Int64} {st : List Value} (hd : decode c.code pc = .ok (.lrem, 1)) (hp : pc + 1 = pc') (hy : y ≠ 0) (G : own_Go p e below s Q K N (T.setTop (mkF m pc' Ls (.long (x % y) :: st)))) : own_Go p e below s Q K N (T.setTop (mkF m pc Ls (.long y :: .long x :: st))) := by
  subst hp; rw [← lrem_mod] at G; exact own_step (fun _ k => XS.lrem X.here hx rfl hd rfl hy k) G
theorem g_iinc (X : Stand p l e R s m args below meth c T locs cells slots) (hx : p.tables.exec = Jvm.exec) {pc : Nat} (pc' : Nat) {Ls : Array Slot} {k : Nat} {cst : Int} {x z : Int32} {l' : Array Slot} {st : List Value} (hd : decode c.code pc = .ok (.iinc k cst, 3)) (hl : Ls[k]? = some (.val (.int x))) (hz : x + Int32.ofInt cst = z) (hl' : storeLocals Ls k (.int z) = some l') (hp : pc + 3 = pc') (G : own_Go p e below s Q K N (T.setTop (mkF m pc' l' st))) : own_Go p e below s Q K N (T.setTop (mkF m pc Ls st)) := by
  subst hp hz; exact own_step (fun _ k => XS.iinc X.here hx rfl hd hl hl' k) G
theorem g_dup (X : Stand p l e R s m args below meth c T locs cells slots) (hx : p.tables.exec = Jvm.exec) {pc : Nat} (pc' : Nat) {Ls : Array Slot} {x : Value} {st : List Value} (hd : decode c.code pc = .ok (.dup, 1)) (hc : x.category = 1) (hp : pc + 1 = pc') (G : own_Go p e below s Q K N (T.setTop (mkF m pc' Ls (x :: x :: st)))) : own_Go p e below s Q K N (T.setTop (mkF m pc Ls (x :: st))) := by
  subst hp; exact own_step (fun _ k => XS.dup X.here hx rfl hd rfl hc k) G
theorem g_pop (X : Stand p l e R s m args below meth c T locs cells slots) (hx : p.tables.exec = Jvm.exec) {pc : Nat} (pc' : Nat) {Ls : Array Slot} {x : Value} {st : List Value} (hd : decode c.code pc = .ok (.pop, 1)) (hc : x.category = 1) (hp : pc + 1 = pc') (G : own_Go p e below s Q K N (T.setTop (mkF m pc' Ls (st)))) : own_Go p e below s Q K N (T.setTop (mkF m pc Ls (x :: st))) := by
  subst hp; exact own_step (fun _ k => XS.pop X.here hx rfl hd rfl hc k) G
theorem g_dup_x1 (X : Stand p l e R s m args below meth c T locs cells slots) (hx : p.tables.exec = Jvm.exec) {pc : Nat} (pc' : Nat) {Ls : Array Slot} {x y : Value} {st : List Value} (hd : decode c.code pc = .ok (.dup_x1, 1)) (hc : x.category = 1) (hc' : y.category = 1) (hp : pc + 1 = pc') (G : own_Go p e below s Q K N (T.setTop (mkF m pc' Ls (x :: y :: x :: st)))) : own_Go p e below s Q K N (T.setTop (mkF m pc Ls (x :: y :: st))) := by
  subst hp; exact own_step (fun _ k => XS.dupX1 X.here hx rfl hd rfl hc hc' k) G
theorem g_dup2 (X : Stand p l e R s m args below meth c T locs cells slots) (hx : p.tables.exec = Jvm.exec) {pc : Nat} (pc' : Nat) {Ls : Array Slot} {x y : Value} {st : List Value} (hd : decode c.code pc = .ok (.dup2, 1)) (hc : x.category = 1) (hc' : y.category = 1) (hp : pc + 1 = pc') (G : own_Go p e below s Q K N (T.setTop (mkF m pc' Ls (x :: y :: x :: y :: st)))) : own_Go p e below s Q K N (T.setTop (mkF m pc Ls (x :: y :: st))) := by
  subst hp; exact own_step (fun _ k => XT.dup2 X.here hx rfl hd rfl hc hc' k) G
theorem g_dup2L (X : Stand p l e R s m args below meth c T locs cells slots) (hx : p.tables.exec = Jvm.exec) {pc : Nat} (pc' : Nat) {Ls : Array Slot} {x : Int64} {st : List Value} (hd : decode c.code pc = .ok (.dup2, 1))  (hp : pc + 1 = pc') (G : own_Go p e below s Q K N (T.setTop (mkF m pc' Ls (.long x :: .long x :: st)))) : own_Go p e below s Q K N (T.setTop (mkF m pc Ls (.long x :: st))) := by
  subst hp; exact own_step (fun _ k => XT.dup2L X.here hx rfl hd rfl k) G
theorem g_goto (X : Stand p l e R s m args below meth c T locs cells slots) (hx : p.tables.exec = Jvm.exec) {pc : Nat} (pc' : Nat) {Ls : Array Slot} {o : Int} {st : List Value} (hd : decode c.code pc = .ok (.goto o, 3)) (ho : 0 ≤ (pc : Int) + o) (hp : ((pc : Int) + o).toNat = pc') (G : own_Go p e below s Q K N (T.setTop (mkF m pc' Ls st))) : own_Go p e below s Q K N (T.setTop (mkF m pc Ls st)) :=
  own_step (fun _ k => XS.goto X.here hx rfl rfl hd ho hp k) G
theorem g_ifYes (X : Stand p l e R s m args below meth c T locs cells slots) (hx : p.tables.exec = Jvm.exec) {pc : Nat} (pc' : Nat) {Ls : Array Slot} {cd : ClassFile.Cond} {x : Int32} {o : Int} {st : List Value} (hd : decode c.code pc = .ok (.ifCond cd o, 3)) (hc : ifCond.holds cd x = true) (ho : 0 ≤ (pc : Int) + o) (hp : ((pc : Int) + o).toNat = pc') (G : own_Go p e below s Q K N (T.setTop (mkF m pc' Ls st))) : own_Go p e below s Q K N (T.setTop (mkF m pc Ls (.int x :: st))) :=
  own_step (fun _ k => XS.ifYes X.here hx rfl rfl hd rfl hc ho hp k) G
theorem g_ifNo (X : Stand p l e R s m args below meth c T locs cells slots) (hx : p.tables.exec = Jvm.exec) {pc : Nat} (pc' : Nat) {Ls : Array Slot} {cd : ClassFile.Cond} {x : Int32} {o : Int} {st : List Value} (hd : decode c.code pc = .ok (.ifCond cd o, 3)) (hc : ifCond.holds cd x = false) (hp : pc + 3 = pc') (G : own_Go p e below s Q K N (T.setTop (mkF m pc' Ls st))) : own_Go p e below s Q K N (T.setTop (mkF m pc Ls (.int x :: st))) := by
  subst hp; exact own_step (fun _ k => XS.ifNo X.here hx rfl hd rfl hc k) G
theorem g_icmpYes (X : Stand p l e R s m args below meth c T locs cells slots) (hx : p.tables.exec = Jvm.exec) {pc : Nat} (pc' : Nat) {Ls : Array Slot} {cd : ClassFile.Cond} {x y : Int32} {o : Int} {st : List Value} (hd : decode c.code pc = .ok (.if_icmp cd o, 3)) (hc : if_icmp.holds cd x y = true) (ho : 0 ≤ (pc : Int) + o) (hp : ((pc : Int) + o).toNat = pc') (G : own_Go p e below s Q K N (T.setTop (mkF m pc' Ls st))) : own_Go p e below s Q K N (T.setTop (mkF m pc Ls (.int y :: .int x :: st))) :=
  own_step (fun _ k => XS.icmpYes X.here hx rfl rfl hd rfl hc ho hp k) G
theorem g_icmpNo (X : Stand p l e R s m args below meth c T locs cells slots) (hx : p.tables.exec = Jvm.exec) {pc : Nat} (pc' : Nat) {Ls : Array Slot} {cd : ClassFile.Cond} {x y : Int32} {o : Int} {st : List Value} (hd : decode c.code pc = .ok (.if_icmp cd o, 3)) (hc : if_icmp.holds cd x y = false) (hp : pc + 3 = pc') (G : own_Go p e below s Q K N (T.setTop (mkF m pc' Ls st))) : own_Go p e below s Q K N (T.setTop (mkF m pc Ls (.int y :: .int x :: st))) := by
  subst hp; exact own_step (fun _ k => XS.icmpNo X.here hx rfl hd rfl hc k) G
theorem g_ifnullYes (X : Stand p l e R s m args below meth c T locs cells slots) (hx : p.tables.exec = Jvm.exec) {pc : Nat} (pc' : Nat) {Ls : Array Slot} {o : Int} {st : List Value} (hd : decode c.code pc = .ok (.ifnull o, 3)) (ho : 0 ≤ (pc : Int) + o) (hp : ((pc : Int) + o).toNat = pc') (G : own_Go p e below s Q K N (T.setTop (mkF m pc' Ls st))) : own_Go p e below s Q K N (T.setTop (mkF m pc Ls (.null :: st))) :=
  own_step (fun _ k => XS.ifnullYes X.here hx rfl rfl hd rfl ho hp k) G
theorem g_ifnullNo (X : Stand p l e R s m args below meth c T locs cells slots) (hx : p.tables.exec = Jvm.exec) {pc : Nat} (pc' : Nat) {Ls : Array Slot} {b : Addr} {o : Int} {st : List Value} (hd : decode c.code pc = .ok (.ifnull o, 3)) (hp : pc + 3 = pc') (G : own_Go p e below s Q K N (T.setTop (mkF m pc' Ls st))) : own_Go p e below s Q K N (T.setTop (mkF m pc Ls (.ref b :: st))) := by
  subst hp; exact own_step (fun _ k => XS.ifnullNo X.here hx rfl hd rfl k) G
theorem g_ifnonnullYes (X : Stand p l e R s m args below meth c T locs cells slots) (hx : p.tables.exec = Jvm.exec) {pc : Nat} (pc' : Nat) {Ls : Array Slot} {b : Addr} {o : Int} {st : List Value} (hd : decode c.code pc = .ok (.ifnonnull o, 3)) (ho : 0 ≤ (pc : Int) + o) (hp : ((pc : Int) + o).toNat = pc') (G : own_Go p e below s Q K N (T.setTop (mkF m pc' Ls st))) : own_Go p e below s Q K N (T.setTop (mkF m pc Ls (.ref b :: st))) :=
  own_step (fun _ k => XS.ifnonnullYes X.here hx rfl rfl hd rfl ho hp k) G
theorem g_ifnonnullNo (X : Stand p l e R s m args below meth c T locs cells slots) (hx : p.tables.exec = Jvm.exec) {pc : Nat} (pc' : Nat) {Ls : Array Slot} {o : Int} {st : List Value} (hd : decode c.code pc = .ok (.ifnonnull o, 3)) (hp : pc + 3 = pc') (G : own_Go p e below s Q K N (T.setTop (mkF m pc' Ls st))) : own_Go p e below s Q K N (T.setTop (mkF m pc Ls (.null :: st))) := by
  subst hp; exact own_step (fun _ k => XS.ifnonnullNo X.here hx rfl hd rfl k) G
theorem g_acmp (X : Stand p l e R s m args below meth c T locs cells slots) (hx : p.tables.exec = Jvm.exec) {pc : Nat} {Ls : Array Slot} {cd : ACond} {x y : Value} {o : Int} {st : List Value} {same : Bool} (pc' : Nat) (hd : decode c.code pc = .ok (.if_acmp cd o, 3)) (h1 : x.isRef = true) (h2 : y.isRef = true) (hq : decide (x = y) = same) (ho : 0 ≤ (pc : Int) + o) (hp : pc' = if acV cd same = true then ((pc : Int) + o).toNat else pc + 3) (G : own_Go p e below s Q K N (T.setTop (mkF m pc' Ls st))) : own_Go p e below s Q K N (T.setTop (mkF m pc Ls (y :: x :: st))) :=
  own_step (fun _ k => Jvm.RoadKit.acmp X hx rfl h1 h2 rfl hd rfl hq ho hp k) G
theorem g_ldc (X : Stand p l e R s m args below meth c T locs cells slots) (hx : p.tables.exec = Jvm.exec) {own : String} (hown : s.vm.findClass own = some m.cls) {pc : Nat} (pc' : Nat) {Ls : Array Slot} {i : Nat} {z : Int32} {st : List Value} (hw : (Jvm.Cond.constant own i z).before args s = true) (hd : decode c.code pc = .ok (.ldc i, 2)) (hp : pc + 2 = pc') (G : own_Go p e below s Q K N (T.setTop (mkF m pc' Ls (.int z :: st)))) : own_Go p e below s Q K N (T.setTop (mkF m pc Ls st)) := by
  subst hp; exact own_step (fun _ k => X.ldcInt hx hown hw (g := mkF m pc Ls st) rfl hd _ k) G
theorem g_ldc_w (X : Stand p l e R s m args below meth c T locs cells slots) (hx : p.tables.exec = Jvm.exec) {own : String} (hown : s.vm.findClass own = some m.cls) {pc : Nat} (pc' : Nat) {Ls : Array Slot} {i : Nat} {z : Int32} {st : List Value} (hw : (Jvm.Cond.constant own i z).before args s = true) (hd : decode c.code pc = .ok (.ldc_w i, 3)) (hp : pc + 3 = pc') (G : own_Go p e below s Q K N (T.setTop (mkF m pc' Ls (.int z :: st)))) : own_Go p e below s Q K N (T.setTop (mkF m pc Ls st)) := by
  subst hp; exact own_step (fun _ k => X.ldcwInt hx hown hw (g := mkF m pc Ls st) rfl hd _ k) G
theorem g_ldc2_w (X : Stand p l e R s m args below meth c T locs cells slots) (hx : p.tables.exec = Jvm.exec) {own : String} (hown : s.vm.findClass own = some m.cls) {pc : Nat} (pc' : Nat) {Ls : Array Slot} {i : Nat} {z : Int64} {st : List Value} (hw : (Jvm.Cond.constantLong own i z).before args s = true) (hd : decode c.code pc = .ok (.ldc2_w i, 3)) (hp : pc + 3 = pc') (G : own_Go p e below s Q K N (T.setTop (mkF m pc' Ls (.long z :: st)))) : own_Go p e below s Q K N (T.setTop (mkF m pc Ls st)) := by
  subst hp; exact own_step (fun _ k => X.ldc2Long hx hown hw (g := mkF m pc Ls st) rfl hd _ k) G
theorem g_tswIn (X : Stand p l e R s m args below meth c T locs cells slots) (hx : p.tables.exec = Jvm.exec) {pc : Nat} (pc' : Nat) {Ls : Array Slot} {dflt low high : Int} {offs : Array Int} {len : Nat} {o : Int} {i : Int32} {st : List Value} (hd : decode c.code pc = .ok (.tableswitch dflt low high offs, len)) (hin : ¬ (i.toInt < low ∨ i.toInt > high)) (hoff : offs[(i.toInt - low).toNat]? = some o) (ho : 0 ≤ (pc : Int) + o) (hp : ((pc : Int) + o).toNat = pc') (G : own_Go p e below s Q K N (T.setTop (mkF m pc' Ls st))) : own_Go p e below s Q K N (T.setTop (mkF m pc Ls (.int i :: st))) :=
  own_step (fun _ k => XS.tswIn X.here hx rfl rfl hd rfl hin hoff ho hp k) G
theorem g_tswOut (X : Stand p l e R s m args below meth c T locs cells slots) (hx : p.tables.exec = Jvm.exec) {pc : Nat} (pc' : Nat) {Ls : Array Slot} {dflt low high : Int} {offs : Array Int} {len : Nat} {i : Int32} {st : List Value} (hd : decode c.code pc = .ok (.tableswitch dflt low high offs, len)) (hout : i.toInt < low ∨ i.toInt > high) (ho : 0 ≤ (pc : Int) + dflt) (hp : ((pc : Int) + dflt).toNat = pc') (G : own_Go p e below s Q K N (T.setTop (mkF m pc' Ls st))) : own_Go p e below s Q K N (T.setTop (mkF m pc Ls (.int i :: st))) :=
  own_step (fun _ k => XS.tswOut X.here hx rfl rfl hd rfl hout ho hp k) G
theorem own_ii_eq_t {x y : Int32} (h : x = y) : if_icmp.holds .eq x y = true := XT.ii_eq_t h
theorem own_i0_eq_t {x : Int32} (h : x = 0) : ifCond.holds .eq x = true := XT.i0_eq_t h
theorem own_ll_eq_t {x y : Int64} (h : x = y) : ifCond.holds .eq (lcmpW x y) = true := XT.ll_eq_t h
theorem own_ii_eq_f {x y : Int32} (h : ¬ (x = y)) : if_icmp.holds .eq x y = false := XT.ii_eq_f h
theorem own_i0_eq_f {x : Int32} (h : ¬ (x = 0)) : ifCond.holds .eq x = false := XT.i0_eq_f h
theorem own_ll_eq_f {x y : Int64} (h : ¬ (x = y)) : ifCond.holds .eq (lcmpW x y) = false := XT.ll_eq_f h
theorem own_ii_ne_t {x y : Int32} (h : ¬ (x = y)) : if_icmp.holds .ne x y = true := XT.ii_ne_t h
theorem own_i0_ne_t {x : Int32} (h : ¬ (x = 0)) : ifCond.holds .ne x = true := XT.i0_ne_t h
theorem own_ll_ne_t {x y : Int64} (h : ¬ (x = y)) : ifCond.holds .ne (lcmpW x y) = true := XT.ll_ne_t h
theorem own_ii_ne_f {x y : Int32} (h : x = y) : if_icmp.holds .ne x y = false := XT.ii_ne_f h
theorem own_i0_ne_f {x : Int32} (h : x = 0) : ifCond.holds .ne x = false := XT.i0_ne_f h
theorem own_ll_ne_f {x y : Int64} (h : x = y) : ifCond.holds .ne (lcmpW x y) = false := XT.ll_ne_f h
theorem own_ii_lt_t {x y : Int32} (h : x < y) : if_icmp.holds .lt x y = true := XT.ii_lt_t h
theorem own_i0_lt_t {x : Int32} (h : x < 0) : ifCond.holds .lt x = true := XT.i0_lt_t h
theorem own_ll_lt_t {x y : Int64} (h : x < y) : ifCond.holds .lt (lcmpW x y) = true := XT.ll_lt_t h
theorem own_ii_lt_f {x y : Int32} (h : ¬ (x < y)) : if_icmp.holds .lt x y = false := XT.ii_lt_f h
theorem own_i0_lt_f {x : Int32} (h : ¬ (x < 0)) : ifCond.holds .lt x = false := XT.i0_lt_f h
theorem own_ll_lt_f {x y : Int64} (h : ¬ (x < y)) : ifCond.holds .lt (lcmpW x y) = false := XT.ll_lt_f h
theorem own_ii_ge_t {x y : Int32} (h : ¬ (x < y)) : if_icmp.holds .ge x y = true := XT.ii_ge_t h
theorem own_i0_ge_t {x : Int32} (h : ¬ (x < 0)) : ifCond.holds .ge x = true := XT.i0_ge_t h
theorem own_ll_ge_t {x y : Int64} (h : ¬ (x < y)) : ifCond.holds .ge (lcmpW x y) = true := XT.ll_ge_t h
theorem own_ii_ge_f {x y : Int32} (h : x < y) : if_icmp.holds .ge x y = false := XT.ii_ge_f h
theorem own_i0_ge_f {x : Int32} (h : x < 0) : ifCond.holds .ge x = false := XT.i0_ge_f h
theorem own_ll_ge_f {x y : Int64} (h : x < y) : ifCond.holds .ge (lcmpW x y) = false := XT.ll_ge_f h
theorem own_ii_gt_t {x y : Int32} (h : y < x) : if_icmp.holds .gt x y = true := XT.ii_gt_t h
theorem own_i0_gt_t {x : Int32} (h : 0 < x) : ifCond.holds .gt x = true := XT.i0_gt_t h
theorem own_ll_gt_t {x y : Int64} (h : y < x) : ifCond.holds .gt (lcmpW x y) = true := XT.ll_gt_t h
theorem own_ii_gt_f {x y : Int32} (h : ¬ (y < x)) : if_icmp.holds .gt x y = false := XT.ii_gt_f h
theorem own_i0_gt_f {x : Int32} (h : ¬ (0 < x)) : ifCond.holds .gt x = false := XT.i0_gt_f h
theorem own_ll_gt_f {x y : Int64} (h : ¬ (y < x)) : ifCond.holds .gt (lcmpW x y) = false := XT.ll_gt_f h
theorem own_ii_le_t {x y : Int32} (h : ¬ (y < x)) : if_icmp.holds .le x y = true := XT.ii_le_t h
theorem own_i0_le_t {x : Int32} (h : ¬ (0 < x)) : ifCond.holds .le x = true := XT.i0_le_t h
theorem own_ll_le_t {x y : Int64} (h : ¬ (y < x)) : ifCond.holds .le (lcmpW x y) = true := XT.ll_le_t h
theorem own_ii_le_f {x y : Int32} (h : y < x) : if_icmp.holds .le x y = false := XT.ii_le_f h
theorem own_i0_le_f {x : Int32} (h : 0 < x) : ifCond.holds .le x = false := XT.i0_le_f h
theorem own_ll_le_f {x y : Int64} (h : y < x) : ifCond.holds .le (lcmpW x y) = false := XT.ll_le_f h
theorem own_getF (X : Stand p l e R s m args below meth c T locs cells slots) (hx : p.tables.exec = Jvm.exec) {Z : State} {a0 : Array Value} {h : Heap} (hZ : Z.Warmed39 s.vm) {own : String} (hown : s.vm.findClass own = some m.cls) {R0 O n d host : String} {index : Nat} (w : (Jvm.Cond.fieldLink own index R0 n d).before a0 Z = true ∨ (Jvm.Cond.fieldLinkNest own index R0 n d host).before a0 Z = true) (via : Via Z R0 O n d) (eT : T.heap = h) {a : Addr} {v : Value} (F : Fld Z h a O n d v) {pc : Nat} (pc' : Nat) {Ls : Array Slot} {rest : List Value} (hd : decode c.code pc = .ok (.getfield index, 3)) (hp : pc + 3 = pc') (k : ∀ T', Stand p l e R s m args below meth c T' locs cells slots → T'.heap = h → own_Go p e below s Q K N (T'.setTop (mkF m pc' Ls (v :: rest)))) : own_Go p e below s Q K N (T.setTop (mkF m pc Ls (.ref a :: rest))) := by
  subst hp
  obtain ⟨T', X', e', st⟩ := getF X hx hZ hown w via eT F (g := mkF m pc Ls (.ref a :: rest)) rfl rfl hd
  exact own_step st (k T' X' e')
theorem own_getS (X : Stand p l e R s m args below meth c T locs cells slots) (hx : p.tables.exec = Jvm.exec) {Z : State} {a0 : Array Value} {h : Heap} (hZ : Z.Warmed39 s.vm) {own : String} (hown : s.vm.findClass own = some m.cls) {R0 O n d host : String} {index : Nat} (w : (Jvm.Cond.fieldLink own index R0 n d).before a0 Z = true ∨ (Jvm.Cond.fieldLinkNest own index R0 n d host).before a0 Z = true) (via : Via Z R0 O n d) (eT : T.heap = h) {v : Value} (F : Sta Z h O n d v) {pc : Nat} (pc' : Nat) {Ls : Array Slot} {rest : List Value} (hd : decode c.code pc = .ok (.getstatic index, 3)) (hp : pc + 3 = pc') (k : ∀ T', Stand p l e R s m args below meth c T' locs cells slots → T'.heap = h → own_Go p e below s Q K N (T'.setTop (mkF m pc' Ls (v :: rest)))) : own_Go p e below s Q K N (T.setTop (mkF m pc Ls rest)) := by
  subst hp
  obtain ⟨T', X', e', st⟩ := getS2 X hx hZ hown w via eT F (g := mkF m pc Ls rest) rfl hd
  exact own_step st (k T' X' e')
theorem own_putF (X : Stand p l e R s m args below meth c T locs cells slots) (hx : p.tables.exec = Jvm.exec) {Z : State} {a0 : Array Value} {h : Heap} (hZ : Z.Warmed39 s.vm) {own : String} (hown : s.vm.findClass own = some m.cls) {R0 O n d host : String} {index : Nat} (w : (Jvm.Cond.fieldLink own index R0 n d).before a0 Z = true ∨ (Jvm.Cond.fieldLinkNest own index R0 n d host).before a0 Z = true) (via : Via Z R0 O n d) (eT : T.heap = h) {a : Addr} {v old : Value} (F : Fld Z h a O n d old) {C : String} {kk : Nat} {ty : FieldType} (E : Exa Z h a C) (L : (Jvm.Cond.lays C O n d).before a0 Z = true ∨ ((Jvm.Cond.laysFinal C O n d).before a0 Z = true ∧ own = O ∧ meth.name = "<init>")) (wi : (Jvm.Cond.instantiable C kk).before a0 Z = true) (hty : parseFieldDescriptor d = some ty) (hn : narrow ty v = v) (hf : fits ty v = true) {pc : Nat} (pc' : Nat) {Ls : Array Slot} {rest : List Value} (hd : decode c.code pc = .ok (.putfield index, 3)) (hp : pc + 3 = pc') (k : ∀ T' h', Stand p l e R s m args below meth c T' (locs ++ [⟨a, Jvm.RoadKit.slotOf Z O n d⟩]) cells slots → T'.heap = h' → Wr h h' a (Jvm.RoadKit.slotOf Z O n d) v → own_Go p e below s Q K N (T'.setTop (mkF m pc' Ls rest))) : own_Go p e below s Q K N (T.setTop (mkF m pc Ls (v :: .ref a :: rest))) := by
  subst hp
  obtain ⟨T', h', X', e', W', st⟩ := putF X hx hZ hown w via eT F E L wi hty hn hf (g := mkF m pc Ls (v :: .ref a :: rest)) rfl rfl hd
  exact own_step st (k T' h' X' e' W')
theorem own_putFN (X : Stand p l e R s m args below meth c T locs cells slots) (hx : p.tables.exec = Jvm.exec) {Z : State} {a0 : Array Value} {h : Heap} (hZ : Z.Warmed39 s.vm) {own : String} (hown : s.vm.findClass own = some m.cls) {R0 O n d : String} {index : Nat} (w : (Jvm.Cond.fieldLink own index R0 n d).before a0 Z = true) (via : Via Z R0 O n d) (eT : T.heap = h) {a : Addr} {v old : Value} (v' : Value) (F : Fld Z h a O n d old) {C : String} {kk : Nat} {ty : FieldType} (E : Exa Z h a C) (L : (Jvm.Cond.lays C O n d).before a0 Z = true ∨ ((Jvm.Cond.laysFinal C O n d).before a0 Z = true ∧ own = O ∧ meth.name = "<init>")) (wi : (Jvm.Cond.instantiable C kk).before a0 Z = true) (hty : parseFieldDescriptor d = some ty) (hn : narrow ty v = v') (hf : fits ty v' = true) {pc : Nat} (pc' : Nat) {Ls : Array Slot} {rest : List Value} (hd : decode c.code pc = .ok (.putfield index, 3)) (hp : pc + 3 = pc') (k : ∀ T' h', Stand p l e R s m args below meth c T' (locs ++ [⟨a, Jvm.RoadKit.slotOf Z O n d⟩]) cells slots → T'.heap = h' → Wr h h' a (Jvm.RoadKit.slotOf Z O n d) v' → own_Go p e below s Q K N (T'.setTop (mkF m pc' Ls rest))) : own_Go p e below s Q K N (T.setTop (mkF m pc Ls (v :: .ref a :: rest))) := by
  subst hp
  obtain ⟨T', h', X', e', W', st⟩ := putFN X hx hZ hown w via eT F E L wi hty hn hf (g := mkF m pc Ls (v :: .ref a :: rest)) rfl rfl hd
  exact own_step st (k T' h' X' e' W')
theorem own_newO (X : Stand p l e R s m args below meth c T locs cells slots) (hx : p.tables.exec = Jvm.exec) {Z : State} {a0 : Array Value} {h : Heap} (hZ : Z.Warmed39 s.vm) {own : String} (hown : s.vm.findClass own = some m.cls) {C : String} {index n : Nat} (w : (Jvm.Cond.classLink own index C).before a0 Z = true) (wi : (Jvm.Cond.instantiable C n).before a0 Z = true) (wz : (Jvm.Cond.initialized C).before a0 Z = true) (eT : T.heap = h) {pc : Nat} (pc' : Nat) {Ls : Array Slot} {rest : List Value} (hd : decode c.code pc = .ok (.new index, 3)) (hp : pc + 3 = pc') (hc : cells + 1 ≤ R.cells) (hl : slots + n ≤ R.slots)
    (k : ∀ T' h' b, Stand p l e R s m args below meth c T' locs (cells + 1) (slots + n) → T'.heap = h' → b = h.size → Ext h h' → Exa Z h' b C → (∀ {O nm d : String} {ty : FieldType}, Laid Z a0 C O nm d → parseFieldDescriptor d = some ty → Fld Z h' b O nm d (defaultValue ty)) → own_Go p e below s Q K N (T'.setTop (mkF m pc' Ls (.ref b :: rest)))) : own_Go p e below s Q K N (T.setTop (mkF m pc Ls rest)) := by
  subst hp
  obtain ⟨T', h', X', e', E', A', D', -, st⟩ := newO X hx hZ hown w wi wz eT (g := mkF m pc Ls rest) rfl hd hc hl
  exact own_step st (k T' h' _ X' e' rfl E' A' D')
theorem own_newP (X : Stand p l e R s m args below meth c T locs cells slots) (hx : p.tables.exec = Jvm.exec) {Z : State} {a0 : Array Value} {h : Heap} (hZ : Z.Warmed39 s.vm) {aty : ArrayType} (w : (Jvm.Cond.arrayClass (newarray.typeOf aty)).before a0 Z = true) (eT : T.heap = h) {n : Int32} {pc : Nat} (pc' : Nat) {Ls : Array Slot} {rest : List Value} (hd : decode c.code pc = .ok (.newarray aty, 2)) (hp : pc + 2 = pc') (hn : ¬ n < 0) (cap : Nat) (hcap : n.toNatClampNeg ≤ cap) (hb : cap * 8 ≤ 536870912) (hc : cells + 1 ≤ R.cells) (hl : slots + cap ≤ R.slots)
    (k : ∀ T' h' cA b, Stand p l e R s m args below meth c T' locs (cells + 1) (slots + cap) → T'.heap = h' → b = h.size → Ext h h' → Arr Z h' b (newA cA (newarray.typeOf aty) n) (newarray.typeOf aty) → own_Go p e below s Q K N (T'.setTop (mkF m pc' Ls (.ref b :: rest)))) : own_Go p e below s Q K N (T.setTop (mkF m pc Ls (.int n :: rest))) := by
  subst hp
  obtain ⟨T', h', cA, X', e', E', A', st⟩ := newP X hx hZ w eT (g := mkF m pc Ls (.int n :: rest)) rfl hd rfl hn hcap hb hc hl
  exact own_step st (k T' h' cA _ X' e' rfl E' A')
theorem own_newR (X : Stand p l e R s m args below meth c T locs cells slots) (hx : p.tables.exec = Jvm.exec) {Z : State} {a0 : Array Value} {h : Heap} (hZ : Z.Warmed39 s.vm) {own : String} (hown : s.vm.findClass own = some m.cls) {C : String} {index : Nat} (w1 : (Jvm.Cond.classLink own index C).before a0 Z = true) (w2 : (Jvm.Cond.arrayOver (.object C)).before a0 Z = true) (eT : T.heap = h) {n : Int32} {pc : Nat} (pc' : Nat) {Ls : Array Slot} {rest : List Value} (hd : decode c.code pc = .ok (.anewarray index, 3)) (hp : pc + 3 = pc') (hn : ¬ n < 0) (cap : Nat) (hcap : n.toNatClampNeg ≤ cap) (hb : cap * 8 ≤ 536870912) (hc : cells + 1 ≤ R.cells) (hl : slots + cap ≤ R.slots)
    (k : ∀ T' h' cA b, Stand p l e R s m args below meth c T' locs (cells + 1) (slots + cap) → T'.heap = h' → b = h.size → Ext h h' → Arr Z h' b (newA cA (.object C) n) (.object C) → Ovr Z cA C → own_Go p e below s Q K N (T'.setTop (mkF m pc' Ls (.ref b :: rest)))) : own_Go p e below s Q K N (T.setTop (mkF m pc Ls (.int n :: rest))) := by
  subst hp
  obtain ⟨T', h', cA, X', e', E', A', O', st⟩ := newR X hx hZ hown w1 w2 eT (g := mkF m pc Ls (.int n :: rest)) rfl hd rfl hn hcap hb hc hl
  exact own_step st (k T' h' cA _ X' e' rfl E' A' O')
theorem own_stI (X : Stand p l e R s m args below meth c T locs cells slots) (hx : p.tables.exec = Jvm.exec) {Z : State} {a0 : Array Value} {h : Heap} (hZ : Z.Warmed39 s.vm) (eT : T.heap = h) {a : Addr} {cl : Cell} (A : Arr Z h a cl .int) {j : Int32} {x : Int32} (hj : ¬ (j < 0 ∨ cl.slots.size ≤ j.toNatClampNeg)) {pc : Nat} (pc' : Nat) {Ls : Array Slot} {rest : List Value} (hd : decode c.code pc = .ok (.iastore, 1)) (hp : pc + 1 = pc') (k : ∀ T' h', Stand p l e R s m args below meth c T' (locs ++ [⟨a, j.toNatClampNeg⟩]) cells slots → T'.heap = h' → Wr h h' a j.toNatClampNeg (.int x) → own_Go p e below s Q K N (T'.setTop (mkF m pc' Ls rest))) : own_Go p e below s Q K N (T.setTop (mkF m pc Ls (.int x :: .int j :: .ref a :: rest))) := by
  subst hp
  obtain ⟨T', h', X', e', W', st⟩ := stI X hx hZ eT A hj (g := mkF m pc Ls (.int x :: .int j :: .ref a :: rest)) rfl rfl hd
  exact own_step st (k T' h' X' e' W')
theorem own_stC (X : Stand p l e R s m args below meth c T locs cells slots) (hx : p.tables.exec = Jvm.exec) {Z : State} {a0 : Array Value} {h : Heap} (hZ : Z.Warmed39 s.vm) (eT : T.heap = h) {a : Addr} {cl : Cell} (A : Arr Z h a cl .char) {j : Int32} {x : Int32} (hj : ¬ (j < 0 ∨ cl.slots.size ≤ j.toNatClampNeg)) {pc : Nat} (pc' : Nat) {Ls : Array Slot} {rest : List Value} (hd : decode c.code pc = .ok (.castore, 1)) (hp : pc + 1 = pc') (k : ∀ T' h', Stand p l e R s m args below meth c T' (locs ++ [⟨a, j.toNatClampNeg⟩]) cells slots → T'.heap = h' → Wr h h' a j.toNatClampNeg (.int (nar .char x)) → own_Go p e below s Q K N (T'.setTop (mkF m pc' Ls rest))) : own_Go p e below s Q K N (T.setTop (mkF m pc Ls (.int x :: .int j :: .ref a :: rest))) := by
  subst hp
  obtain ⟨T', h', X', e', W', st⟩ := stC X hx hZ eT A hj (g := mkF m pc Ls (.int x :: .int j :: .ref a :: rest)) rfl rfl hd
  exact own_step st (k T' h' X' e' W')
theorem own_stZ (X : Stand p l e R s m args below meth c T locs cells slots) (hx : p.tables.exec = Jvm.exec) {Z : State} {a0 : Array Value} {h : Heap} (hZ : Z.Warmed39 s.vm) (eT : T.heap = h) {a : Addr} {cl : Cell} (A : Arr Z h a cl .boolean) {j : Int32} {x : Int32} (hj : ¬ (j < 0 ∨ cl.slots.size ≤ j.toNatClampNeg)) {pc : Nat} (pc' : Nat) {Ls : Array Slot} {rest : List Value} (hd : decode c.code pc = .ok (.bastore, 1)) (hp : pc + 1 = pc') (k : ∀ T' h', Stand p l e R s m args below meth c T' (locs ++ [⟨a, j.toNatClampNeg⟩]) cells slots → T'.heap = h' → Wr h h' a j.toNatClampNeg (.int (nar .boolean x)) → own_Go p e below s Q K N (T'.setTop (mkF m pc' Ls rest))) : own_Go p e below s Q K N (T.setTop (mkF m pc Ls (.int x :: .int j :: .ref a :: rest))) := by
  subst hp
  obtain ⟨T', h', X', e', W', st⟩ := stZ X hx hZ eT A hj (g := mkF m pc Ls (.int x :: .int j :: .ref a :: rest)) rfl rfl hd
  exact own_step st (k T' h' X' e' W')
theorem own_stB (X : Stand p l e R s m args below meth c T locs cells slots) (hx : p.tables.exec = Jvm.exec) {Z : State} {a0 : Array Value} {h : Heap} (hZ : Z.Warmed39 s.vm) (eT : T.heap = h) {a : Addr} {cl : Cell} (A : Arr Z h a cl .byte) {j : Int32} {x : Int32} (hj : ¬ (j < 0 ∨ cl.slots.size ≤ j.toNatClampNeg)) {pc : Nat} (pc' : Nat) {Ls : Array Slot} {rest : List Value} (hd : decode c.code pc = .ok (.bastore, 1)) (hp : pc + 1 = pc') (k : ∀ T' h', Stand p l e R s m args below meth c T' (locs ++ [⟨a, j.toNatClampNeg⟩]) cells slots → T'.heap = h' → Wr h h' a j.toNatClampNeg (.int (nar .byte x)) → own_Go p e below s Q K N (T'.setTop (mkF m pc' Ls rest))) : own_Go p e below s Q K N (T.setTop (mkF m pc Ls (.int x :: .int j :: .ref a :: rest))) := by
  subst hp
  obtain ⟨T', h', X', e', W', st⟩ := stB X hx hZ eT A hj (g := mkF m pc Ls (.int x :: .int j :: .ref a :: rest)) rfl rfl hd
  exact own_step st (k T' h' X' e' W')
theorem own_stS (X : Stand p l e R s m args below meth c T locs cells slots) (hx : p.tables.exec = Jvm.exec) {Z : State} {a0 : Array Value} {h : Heap} (hZ : Z.Warmed39 s.vm) (eT : T.heap = h) {a : Addr} {cl : Cell} (A : Arr Z h a cl .short) {j : Int32} {x : Int32} (hj : ¬ (j < 0 ∨ cl.slots.size ≤ j.toNatClampNeg)) {pc : Nat} (pc' : Nat) {Ls : Array Slot} {rest : List Value} (hd : decode c.code pc = .ok (.sastore, 1)) (hp : pc + 1 = pc') (k : ∀ T' h', Stand p l e R s m args below meth c T' (locs ++ [⟨a, j.toNatClampNeg⟩]) cells slots → T'.heap = h' → Wr h h' a j.toNatClampNeg (.int (nar .short x)) → own_Go p e below s Q K N (T'.setTop (mkF m pc' Ls rest))) : own_Go p e below s Q K N (T.setTop (mkF m pc Ls (.int x :: .int j :: .ref a :: rest))) := by
  subst hp
  obtain ⟨T', h', X', e', W', st⟩ := stS X hx hZ eT A hj (g := mkF m pc Ls (.int x :: .int j :: .ref a :: rest)) rfl rfl hd
  exact own_step st (k T' h' X' e' W')
theorem own_stJ (X : Stand p l e R s m args below meth c T locs cells slots) (hx : p.tables.exec = Jvm.exec) {Z : State} {a0 : Array Value} {h : Heap} (hZ : Z.Warmed39 s.vm) (eT : T.heap = h) {a : Addr} {cl : Cell} (A : Arr Z h a cl .long) {j : Int32} {x : Int64} (hj : ¬ (j < 0 ∨ cl.slots.size ≤ j.toNatClampNeg)) {pc : Nat} (pc' : Nat) {Ls : Array Slot} {rest : List Value} (hd : decode c.code pc = .ok (.lastore, 1)) (hp : pc + 1 = pc') (k : ∀ T' h', Stand p l e R s m args below meth c T' (locs ++ [⟨a, j.toNatClampNeg⟩]) cells slots → T'.heap = h' → Wr h h' a j.toNatClampNeg (.long x) → own_Go p e below s Q K N (T'.setTop (mkF m pc' Ls rest))) : own_Go p e below s Q K N (T.setTop (mkF m pc Ls (.long x :: .int j :: .ref a :: rest))) := by
  subst hp
  obtain ⟨T', h', X', e', W', st⟩ := stJ X hx hZ eT A hj (g := mkF m pc Ls (.long x :: .int j :: .ref a :: rest)) rfl rfl hd
  exact own_step st (k T' h' X' e' W')
theorem own_stR (X : Stand p l e R s m args below meth c T locs cells slots) (hx : p.tables.exec = Jvm.exec) {Z : State} {a0 : Array Value} {h : Heap} (hZ : Z.Warmed39 s.vm) (eT : T.heap = h) {a : Addr} {cl : Cell} {ty : FieldType} (A : Arr Z h a cl ty) {j : Int32} {v : Value} (hj : ¬ (j < 0 ∨ cl.slots.size ≤ j.toNatClampNeg)) (hty : ty.isReference = true) (F : Sto Z h a v) {pc : Nat} (pc' : Nat) {Ls : Array Slot} {rest : List Value} (hd : decode c.code pc = .ok (.aastore, 1)) (hp : pc + 1 = pc') (k : ∀ T' h', Stand p l e R s m args below meth c T' (locs ++ [⟨a, j.toNatClampNeg⟩]) cells slots → T'.heap = h' → Wr h h' a j.toNatClampNeg v → own_Go p e below s Q K N (T'.setTop (mkF m pc' Ls rest))) : own_Go p e below s Q K N (T.setTop (mkF m pc Ls (v :: .int j :: .ref a :: rest))) := by
  subst hp
  obtain ⟨T', h', X', e', W', st⟩ := stR X hx hZ eT A hj hty F (g := mkF m pc Ls (v :: .int j :: .ref a :: rest)) rfl rfl hd
  exact own_step st (k T' h' X' e' W')
theorem own_iaload (X : Stand p l e R s m args below meth c T locs cells slots) (hx : p.tables.exec = Jvm.exec) {Z : State} {a0 : Array Value} {h : Heap} (hZ : Z.Warmed39 s.vm) (eT : T.heap = h) {a : Addr} {cl : Cell} (A : Arr Z h a cl .int) {j : Int32} {v : Value} (hj : ¬ (j < 0 ∨ cl.slots.size ≤ j.toNatClampNeg)) (hv : cl.slots[j.toNatClampNeg]? = some v) {pc : Nat} (pc' : Nat) {Ls : Array Slot} {rest : List Value} (hd : decode c.code pc = .ok (.iaload, 1)) (hp : pc + 1 = pc') (G : own_Go p e below s Q K N (T.setTop (mkF m pc' Ls (v :: rest)))) : own_Go p e below s Q K N (T.setTop (mkF m pc Ls (.int j :: .ref a :: rest))) := by
  subst hp eT
  exact own_step (X.iaload hx (j := j) (v := v) A.1 (State.isArrayOf_alike hZ.alike A.2.1) A.2.2 hj hv (g := mkF m pc Ls (.int j :: .ref a :: rest)) rfl rfl hd) G
theorem own_caload (X : Stand p l e R s m args below meth c T locs cells slots) (hx : p.tables.exec = Jvm.exec) {Z : State} {a0 : Array Value} {h : Heap} (hZ : Z.Warmed39 s.vm) (eT : T.heap = h) {a : Addr} {cl : Cell} (A : Arr Z h a cl .char) {j : Int32} {v : Value} (hj : ¬ (j < 0 ∨ cl.slots.size ≤ j.toNatClampNeg)) (hv : cl.slots[j.toNatClampNeg]? = some v) {pc : Nat} (pc' : Nat) {Ls : Array Slot} {rest : List Value} (hd : decode c.code pc = .ok (.caload, 1)) (hp : pc + 1 = pc') (G : own_Go p e below s Q K N (T.setTop (mkF m pc' Ls (v :: rest)))) : own_Go p e below s Q K N (T.setTop (mkF m pc Ls (.int j :: .ref a :: rest))) := by
  subst hp eT
  exact own_step (X.caload hx (j := j) (v := v) A.1 (State.isArrayOf_alike hZ.alike A.2.1) A.2.2 hj hv (g := mkF m pc Ls (.int j :: .ref a :: rest)) rfl rfl hd) G
theorem own_laload (X : Stand p l e R s m args below meth c T locs cells slots) (hx : p.tables.exec = Jvm.exec) {Z : State} {a0 : Array Value} {h : Heap} (hZ : Z.Warmed39 s.vm) (eT : T.heap = h) {a : Addr} {cl : Cell} (A : Arr Z h a cl .long) {j : Int32} {v : Value} (hj : ¬ (j < 0 ∨ cl.slots.size ≤ j.toNatClampNeg)) (hv : cl.slots[j.toNatClampNeg]? = some v) {pc : Nat} (pc' : Nat) {Ls : Array Slot} {rest : List Value} (hd : decode c.code pc = .ok (.laload, 1)) (hp : pc + 1 = pc') (G : own_Go p e below s Q K N (T.setTop (mkF m pc' Ls (v :: rest)))) : own_Go p e below s Q K N (T.setTop (mkF m pc Ls (.int j :: .ref a :: rest))) := by
  subst hp eT
  exact own_step (X.laload hx (j := j) (v := v) A.1 (State.isArrayOf_alike hZ.alike A.2.1) A.2.2 hj hv (g := mkF m pc Ls (.int j :: .ref a :: rest)) rfl rfl hd) G
theorem own_baloadB (X : Stand p l e R s m args below meth c T locs cells slots) (hx : p.tables.exec = Jvm.exec) {Z : State} {a0 : Array Value} {h : Heap} (hZ : Z.Warmed39 s.vm) (eT : T.heap = h) {a : Addr} {cl : Cell} (A : Arr Z h a cl .byte) {j : Int32} {v : Value} (hj : ¬ (j < 0 ∨ cl.slots.size ≤ j.toNatClampNeg)) (hv : cl.slots[j.toNatClampNeg]? = some v) {pc : Nat} (pc' : Nat) {Ls : Array Slot} {rest : List Value} (hd : decode c.code pc = .ok (.baload, 1)) (hp : pc + 1 = pc') (G : own_Go p e below s Q K N (T.setTop (mkF m pc' Ls (v :: rest)))) : own_Go p e below s Q K N (T.setTop (mkF m pc Ls (.int j :: .ref a :: rest))) := by
  subst hp eT
  exact own_step (X.baloadBytes hx (j := j) (v := v) A.1 (State.isArrayOf_alike hZ.alike A.2.1) A.2.2 hj hv (g := mkF m pc Ls (.int j :: .ref a :: rest)) rfl rfl hd) G
theorem own_baloadZ (X : Stand p l e R s m args below meth c T locs cells slots) (hx : p.tables.exec = Jvm.exec) {Z : State} {a0 : Array Value} {h : Heap} (hZ : Z.Warmed39 s.vm) (eT : T.heap = h) {a : Addr} {cl : Cell} (A : Arr Z h a cl .boolean) {j : Int32} {v : Value} (hj : ¬ (j < 0 ∨ cl.slots.size ≤ j.toNatClampNeg)) (hv : cl.slots[j.toNatClampNeg]? = some v) {pc : Nat} (pc' : Nat) {Ls : Array Slot} {rest : List Value} (hd : decode c.code pc = .ok (.baload, 1)) (hp : pc + 1 = pc') (G : own_Go p e below s Q K N (T.setTop (mkF m pc' Ls (v :: rest)))) : own_Go p e below s Q K N (T.setTop (mkF m pc Ls (.int j :: .ref a :: rest))) := by
  subst hp eT
  exact own_step (X.baloadBooleans hx (j := j) (v := v) A.1 (State.isArrayOf_alike hZ.alike A.2.1) A.2.2 hj hv (g := mkF m pc Ls (.int j :: .ref a :: rest)) rfl rfl hd) G
theorem own_aaload (X : Stand p l e R s m args below meth c T locs cells slots) (hx : p.tables.exec = Jvm.exec) {Z : State} {a0 : Array Value} {h : Heap} (hZ : Z.Warmed39 s.vm) (eT : T.heap = h) {a : Addr} {cl : Cell} {ty : FieldType} (hty : ty.isReference = true) (A : Arr Z h a cl ty) {j : Int32} {v : Value} (hj : ¬ (j < 0 ∨ cl.slots.size ≤ j.toNatClampNeg)) (hv : cl.slots[j.toNatClampNeg]? = some v) {pc : Nat} (pc' : Nat) {Ls : Array Slot} {rest : List Value} (hd : decode c.code pc = .ok (.aaload, 1)) (hp : pc + 1 = pc') (G : own_Go p e below s Q K N (T.setTop (mkF m pc' Ls (v :: rest)))) : own_Go p e below s Q K N (T.setTop (mkF m pc Ls (.int j :: .ref a :: rest))) := by
  subst hp eT
  exact own_step (X.aaload hx (j := j) (v := v) A.1 (State.isArrayOf_alike hZ.alike A.2.1) hty A.2.2 hj hv (g := mkF m pc Ls (.int j :: .ref a :: rest)) rfl rfl hd) G
theorem own_arraylength (X : Stand p l e R s m args below meth c T locs cells slots) (hx : p.tables.exec = Jvm.exec) {Z : State} {a0 : Array Value} {h : Heap} (hZ : Z.Warmed39 s.vm) (eT : T.heap = h) {a : Addr} {cl : Cell} {ty : FieldType} (A : Arr Z h a cl ty) {z : Int32} (hz : cl.slots.size = z.toNatClampNeg) (h0 : ¬ z < 0) {pc : Nat} (pc' : Nat) {Ls : Array Slot} {rest : List Value} (hd : decode c.code pc = .ok (.arraylength, 1)) (hp : pc + 1 = pc') (G : own_Go p e below s Q K N (T.setTop (mkF m pc' Ls (.int z :: rest)))) : own_Go p e below s Q K N (T.setTop (mkF m pc Ls (.ref a :: rest))) := by
  subst hp eT
  refine own_step (X.arraylength hx A.1 (State.isArrayOf_alike hZ.alike A.2.1) (g := mkF m pc Ls (.ref a :: rest)) rfl rfl hd) ?_
  rw [len_of hz h0]
  exact G
theorem own_initO (X : Stand p l e R s m args below meth c T locs cells slots) (hx : p.tables.exec = Jvm.exec) {Z : State} {a0 : Array Value} {h : Heap} (hZ : Z.Warmed39 s.vm) {own : String} (hown : s.vm.findClass own = some m.cls) {idx : Nat} (w1 : (Jvm.Cond.methodLink own idx Lib.objectInit).before a0 Z = true) (w2 : (Jvm.Cond.instanceMethod Lib.objectInit).before a0 Z = true) (w3 : (Jvm.Cond.code Lib.objectInit ⟨#[0xb1]⟩ 1 none).before a0 Z = true) (eT : T.heap = h) {a : Addr} {pc : Nat} (pc' : Nat) {Ls : Array Slot} {rest : List Value} (hsize : Ls.size = c.maxLocals) (hd : decode c.code pc = .ok (.invokespecial idx, 3)) (hp : pc + 3 = pc') (hf : 1 ≤ R.frames) (W : Nat) (hW : (rest.map fun v => v.category).sum = W) (hl : W + 12 ≤ R.locals) (k : ∀ T', Stand p l e R s m args below meth c T' locs cells slots → T'.heap = h → own_Go p e below s Q K N (T'.setTop (mkF m pc' Ls rest))) : own_Go p e below s Q K N (T.setTop (mkF m pc Ls (.ref a :: rest))) := by
  subst hp
  obtain ⟨T', X', e', st⟩ := initO X hx hZ hown w1 w2 w3 eT (g := mkF m pc Ls (.ref a :: rest)) rfl hsize rfl hd hf (W := W) (by show 2 * 0 + _ ≤ _; omega) hl
  exact own_step st (k T' X' e')
theorem own_callS (X : Stand p l e R s m args below meth c T locs cells slots) (hx : p.tables.exec = Jvm.exec) {Z : State} {a0 : Array Value} {h : Heap} (hZ : Z.Warmed39 s.vm) {own : String} (hown : s.vm.findClass own = some m.cls) {index : Nat} {y : MethodName} {bytes : ByteArray} {maxL : Nat} {ret : Option FieldType} {rm : Room} {as' : Array Value} {Q' : Option Value → Heap → List Loc → Prop} (w1 : (Jvm.Cond.methodLink own index y).before a0 Z = true) (w2 : (Jvm.Cond.static y).before a0 Z = true) (hy : y.cls ≠ "java/lang/invoke/MethodHandle" ∧ y.cls ≠ "java/lang/invoke/VarHandle") (hM : MetFree l y (head1 [Jvm.Cond.code y bytes maxL ret] rm) (fun a U => a = as' ∧ Z.Warmed39 U.vm ∧ U.heap = h) (fun _ _ _ _ _ => True) (fun _ U o U' => ∃ v L, o = .returned v ∧ Q' v U'.heap L ∧ FrameEnd U o U' L rm.cells rm.slots)) (wc : (Jvm.Cond.code y bytes maxL ret).before a0 Z = true) (wz : (Jvm.Cond.initialized y.cls).before a0 Z = true) (eT : T.heap = h) (W : Nat) (hf : rm.frames + 1 ≤ R.frames) (hl : W + (maxL + 11) + rm.locals ≤ R.locals) (hc : cells + rm.cells ≤ R.cells) (hs : slots + rm.slots ≤ R.slots) (argsL rest : List Value) (has : argsL.toArray = as') {ps : List FieldType} {rr : Option FieldType} (hpd : parseMethodDescriptor y.desc = some ⟨ps, rr⟩) (hlen : argsL.length = ps.length) {pc : Nat} (pc' : Nat) {Ls : Array Slot} {stk : List Value} (hstk : stk = argsL.reverse ++ rest) (hsize : Ls.size = c.maxLocals) (hW : (rest.map fun v => v.category).sum = W) (hd : decode c.code pc = .ok (.invokestatic index, 3)) (hp : pc + 3 = pc') (k : ∀ T' v L, Stand p l e R s m args below meth c T' (locs ++ L) (cells + rm.cells) (slots + rm.slots) → Q' v T'.heap L → own_Go p e below s Q K N (T'.setTop (mkF m pc' Ls (v.toList ++ rest)))) : own_Go p e below s Q K N (T.setTop (mkF m pc Ls stk)) := by
  subst hp hstk
  obtain ⟨v', _, ⟨T', L', k', n'⟩, -, X', ⟨Lc', hQ', l', y', z'⟩, st'⟩ := Jvm.LawKit.callS X hx (y := y) hown (mvT hZ w1) (mvT hZ w2) (mvT hZ wz) (mvT hZ wc) hy (backOf (W := W) hM hZ wc wz hf hl) (g := mkF m pc Ls (argsL.reverse ++ rest)) rfl hsize (argsL := argsL) (rest := rest) (lenOf hpd hlen) rfl (by show 2 * 0 + _ ≤ _; omega) hd (fun _ _ => ⟨has, eT, hc, hs⟩)
  dsimp only [Pt.U, Pt.locs, Pt.cells, Pt.slots] at X' l' y' z' st' hQ'
  subst l' y' z'
  exact own_step (fun t kk => st' _ kk) (k T' v' _ X' hQ')
theorem own_callI (X : Stand p l e R s m args below meth c T locs cells slots) (hx : p.tables.exec = Jvm.exec) {Z : State} {a0 : Array Value} {h : Heap} (hZ : Z.Warmed39 s.vm) {own : String} (hown : s.vm.findClass own = some m.cls) {index : Nat} {y : MethodName} {bytes : ByteArray} {maxL : Nat} {rm : Room} {as' : Array Value} {Q' : Option Value → Heap → List Loc → Prop} (hy1 : y.name = "<init>") (w1 : (Jvm.Cond.methodLink own index y).before a0 Z = true) (w2 : (Jvm.Cond.instanceMethod y).before a0 Z = true) (hy : y.cls ≠ "java/lang/invoke/MethodHandle" ∧ y.cls ≠ "java/lang/invoke/VarHandle") (hM : MetFree l y (head1 [Jvm.Cond.code y bytes maxL none] rm) (fun a U => a = as' ∧ Z.Warmed39 U.vm ∧ U.heap = h) (fun _ _ _ _ _ => True) (fun _ U o U' => ∃ v L, o = .returned v ∧ Q' v U'.heap L ∧ FrameEnd U o U' L rm.cells rm.slots)) (wc : (Jvm.Cond.code y bytes maxL none).before a0 Z = true) (wz : (Jvm.Cond.initialized y.cls).before a0 Z = true) (eT : T.heap = h) (W : Nat) (hf : rm.frames + 1 ≤ R.frames) (hl : W + (maxL + 11) + rm.locals ≤ R.locals) (hc : cells + rm.cells ≤ R.cells) (hs : slots + rm.slots ≤ R.slots) (a : Addr) (argsL rest : List Value) (has : (.ref a :: argsL).toArray = as') {ps : List FieldType} {rr : Option FieldType} (hpd : parseMethodDescriptor y.desc = some ⟨ps, rr⟩) (hlen : argsL.length = ps.length) {pc : Nat} (pc' : Nat) {Ls : Array Slot} {stk : List Value} (hstk : stk = argsL.reverse ++ .ref a :: rest) (hsize : Ls.size = c.maxLocals) (hW : (rest.map fun v => v.category).sum = W) (hd : decode c.code pc = .ok (.invokespecial index, 3)) (hp : pc + 3 = pc') (k : ∀ T' v L, Stand p l e R s m args below meth c T' (locs ++ L) (cells + rm.cells) (slots + rm.slots) → Q' v T'.heap L → own_Go p e below s Q K N (T'.setTop (mkF m pc' Ls (v.toList ++ rest)))) : own_Go p e below s Q K N (T.setTop (mkF m pc Ls stk)) := by
  subst hp hstk
  obtain ⟨v', _, ⟨T', L', k', n'⟩, -, X', ⟨Lc', hQ', l', y', z'⟩, st'⟩ := X.specialBack hx (y := y) hy1 hown (mvT hZ w1) (mvT hZ w2) (mvT hZ wc) hy (backOf (W := W) hM hZ wc wz hf hl) (g := mkF m pc Ls (argsL.reverse ++ .ref a :: rest)) rfl hsize (Steps.refl _) (a := a) (argsL := argsL) (rest := rest) (lenOf hpd hlen) rfl (by show 2 * 0 + _ ≤ _; omega) hd (fun _ _ => ⟨has, eT, hc, hs⟩)
  dsimp only [Pt.U, Pt.locs, Pt.cells, Pt.slots] at X' l' y' z' st' hQ'
  subst l' y' z'
  exact own_step (fun t kk => st'.trans kk) (k T' v' _ X' hQ')
theorem own_callV (X : Stand p l e R s m args below meth c T locs cells slots) (hx : p.tables.exec = Jvm.exec) {Z : State} {a0 : Array Value} {h : Heap} (hZ : Z.Warmed39 s.vm) {own : String} (hown : s.vm.findClass own = some m.cls) {C : String} {index : Nat} {y z : MethodName} {bytes : ByteArray} {maxL : Nat} {ret : Option FieldType} {rm : Room} {as' : Array Value} {Q' : Option Value → Heap → List Loc → Prop} (w1 : (Jvm.Cond.methodLink own index y).before a0 Z = true) (w2 : (Jvm.Cond.declares y).before a0 Z = true) (hnf : NotFace s y) (w3 : (Jvm.Cond.selects C y z).before a0 Z = true) (w4 : (Jvm.Cond.instanceMethod z).before a0 Z = true) (hy : y.cls ≠ "java/lang/invoke/MethodHandle" ∧ y.cls ≠ "java/lang/invoke/VarHandle") (hM : MetFree l z (head1 [Jvm.Cond.code z bytes maxL ret] rm) (fun a U => a = as' ∧ Z.Warmed39 U.vm ∧ U.heap = h) (fun _ _ _ _ _ => True) (fun _ U o U' => ∃ v L, o = .returned v ∧ Q' v U'.heap L ∧ FrameEnd U o U' L rm.cells rm.slots)) (wc : (Jvm.Cond.code z bytes maxL ret).before a0 Z = true) (wz : (Jvm.Cond.initialized z.cls).before a0 Z = true) (eT : T.heap = h) (W : Nat) (hf : rm.frames + 1 ≤ R.frames) (hl : W + (maxL + 11) + rm.locals ≤ R.locals) (hc : cells + rm.cells ≤ R.cells) (hs : slots + rm.slots ≤ R.slots) {a : Addr} (E : Exa Z h a C) (argsL rest : List Value) (has : (.ref a :: argsL).toArray = as') {ps : List FieldType} {rr : Option FieldType} (hpd : parseMethodDescriptor y.desc = some ⟨ps, rr⟩) (hlen : argsL.length = ps.length) {pc : Nat} (pc' : Nat) {Ls : Array Slot} {stk : List Value} (hstk : stk = argsL.reverse ++ .ref a :: rest) (hsize : Ls.size = c.maxLocals) (hW : (rest.map fun v => v.category).sum = W) (hd : decode c.code pc = .ok (.invokevirtual index, 3)) (hp : pc + 3 = pc') (k : ∀ T' v L, Stand p l e R s m args below meth c T' (locs ++ L) (cells + rm.cells) (slots + rm.slots) → Q' v T'.heap L → own_Go p e below s Q K N (T'.setTop (mkF m pc' Ls (v.toList ++ rest)))) : own_Go p e below s Q K N (T.setTop (mkF m pc Ls stk)) := by
  subst hp hstk
  obtain ⟨cq, kq, qa, qb, qc⟩ := isOf hZ eT E
  obtain ⟨v', _, ⟨T', L', k', n'⟩, -, X', ⟨Lc', hQ', l', y', z'⟩, st'⟩ := X.virtualBack hx (y := y) (z := z) hown (mvT hZ w1) (mvT hZ w2) hnf (mvT hZ w3) (mvT hZ w4) hy (backOf (W := W) hM hZ wc wz hf hl) qa qc (g := mkF m pc Ls (argsL.reverse ++ .ref a :: rest)) rfl hsize (Steps.refl _) (argsL := argsL) (rest := rest) (lenOf hpd hlen) rfl (by show 2 * 0 + _ ≤ _; omega) hd (fun _ _ => ⟨has, eT, hc, hs⟩)
  dsimp only [Pt.U, Pt.locs, Pt.cells, Pt.slots] at X' l' y' z' st' hQ'
  subst l' y' z'
  exact own_step (fun t kk => st'.trans kk) (k T' v' _ X' hQ')
theorem own_callU (X : Stand p l e R s m args below meth c T locs cells slots) (hx : p.tables.exec = Jvm.exec) {Z : State} {a0 : Array Value} {h : Heap} (hZ : Z.Warmed39 s.vm) {own : String} (hown : s.vm.findClass own = some m.cls) {C owner : String} {index : Nat} {y z : MethodName} {bytes : ByteArray} {maxL : Nat} {ret : Option FieldType} {rm : Room} {as' : Array Value} {Q' : Option Value → Heap → List Loc → Prop} (w1 : (Jvm.Cond.methodLink own index y).before a0 Z = true) (w5 : (Jvm.Cond.sameMethod y.cls owner y.name y.desc).before a0 Z = true) (w2 : (Jvm.Cond.declares ⟨owner, y.name, y.desc⟩).before a0 Z = true) (ho : owner ≠ "java/lang/invoke/MethodHandle" ∧ owner ≠ "java/lang/invoke/VarHandle") (w3 : (Jvm.Cond.selects C y z).before a0 Z = true) (w4 : (Jvm.Cond.instanceMethod z).before a0 Z = true) (hM : MetFree l z (head1 [Jvm.Cond.code z bytes maxL ret] rm) (fun a U => a = as' ∧ Z.Warmed39 U.vm ∧ U.heap = h) (fun _ _ _ _ _ => True) (fun _ U o U' => ∃ v L, o = .returned v ∧ Q' v U'.heap L ∧ FrameEnd U o U' L rm.cells rm.slots)) (wc : (Jvm.Cond.code z bytes maxL ret).before a0 Z = true) (wz : (Jvm.Cond.initialized z.cls).before a0 Z = true) (eT : T.heap = h) (W : Nat) (hf : rm.frames + 1 ≤ R.frames) (hl : W + (maxL + 11) + rm.locals ≤ R.locals) (hc : cells + rm.cells ≤ R.cells) (hs : slots + rm.slots ≤ R.slots) {a : Addr} (E : Exa Z h a C) (argsL rest : List Value) (has : (.ref a :: argsL).toArray = as') {ps : List FieldType} {rr : Option FieldType} (hpd : parseMethodDescriptor y.desc = some ⟨ps, rr⟩) (hlen : argsL.length = ps.length) {pc : Nat} (pc' : Nat) {Ls : Array Slot} {stk : List Value} (hstk : stk = argsL.reverse ++ .ref a :: rest) (hsize : Ls.size = c.maxLocals) (hW : (rest.map fun v => v.category).sum = W) (hd : decode c.code pc = .ok (.invokevirtual index, 3)) (hp : pc + 3 = pc') (k : ∀ T' v L, Stand p l e R s m args below meth c T' (locs ++ L) (cells + rm.cells) (slots + rm.slots) → Q' v T'.heap L → own_Go p e below s Q K N (T'.setTop (mkF m pc' Ls (v.toList ++ rest)))) : own_Go p e below s Q K N (T.setTop (mkF m pc Ls stk)) := by
  subst hp hstk
  obtain ⟨cq, kq, qa, qb, qc⟩ := isOf hZ eT E
  obtain ⟨v', _, ⟨T', L', k', n'⟩, -, X', ⟨Lc', hQ', l', y', z'⟩, st'⟩ := X.virtualBackUp hx (owner := owner) (x := y) (y := z) hown (mvT hZ w1) (mvT hZ w5) (mvT hZ w2) ho (mvT hZ w3) (mvT hZ w4) (backOf (W := W) hM hZ wc wz hf hl) qa qc (g := mkF m pc Ls (argsL.reverse ++ .ref a :: rest)) rfl hsize (Steps.refl _) (argsL := argsL) (rest := rest) (lenOf hpd hlen) rfl (by show 2 * 0 + _ ≤ _; omega) hd (fun _ _ => ⟨has, eT, hc, hs⟩)
  dsimp only [Pt.U, Pt.locs, Pt.cells, Pt.slots] at X' l' y' z' st' hQ'
  subst l' y' z'
  exact own_step (fun t kk => st'.trans kk) (k T' v' _ X' hQ')
theorem own_nf {C : String} {y : MethodName} {Z : State} {a0 : Array Value} (hZ : Z.Warmed39 s.vm) (w : (Jvm.Cond.selects C y y).before a0 Z = true) : NotFace s y := notFace_of_selects (args := #[]) (mvT hZ w)
theorem own_selfsel {K : String} {y y' : MethodName} (w : (Jvm.Cond.selects K y' y').before args s = true) (hK : y'.cls = y.cls) (hp : s.PrivateAt y) (hi : (Jvm.Cond.instanceMethod y).before args s = true) (hy : y.cls ≠ "java/lang/invoke/MethodHandle" ∧ y.cls ≠ "java/lang/invoke/VarHandle") : (Jvm.Cond.selects y.cls y y).before args s = true := by
  obtain ⟨c2, r2, m2, -, -, q3, -, kP, hkP, hkPi⟩ := Cond.selects_spec w
  exact selects_self_of_private (by rw [← hK]; exact findClass_of_methodNamed q3) hkP hkPi hp hi hy
theorem own_callP (X : Stand p l e R s m args below meth c T locs cells slots) (hx : p.tables.exec = Jvm.exec) {Z : State} {a0 : Array Value} {h : Heap} (hZ : Z.Warmed39 s.vm) {own : String} (hown : s.vm.findClass own = some m.cls) {C K' : String} {index : Nat} {y y' : MethodName} {bytes : ByteArray} {maxL : Nat} {ret : Option FieldType} {rm : Room} {as' : Array Value} {Q' : Option Value → Heap → List Loc → Prop} (w1 : (Jvm.Cond.methodLink own index y).before a0 Z = true) (w2 : (Jvm.Cond.instanceMethod y).before a0 Z = true) (w3 : (Jvm.Cond.selects K' y' y').before a0 Z = true) (hK : y'.cls = y.cls) (w4 : (Jvm.Cond.privateMethod y).before a0 Z = true) (hy : y.cls ≠ "java/lang/invoke/MethodHandle" ∧ y.cls ≠ "java/lang/invoke/VarHandle") (hM : MetFree l y (head1 [Jvm.Cond.code y bytes maxL ret] rm) (fun a U => a = as' ∧ Z.Warmed39 U.vm ∧ U.heap = h) (fun _ _ _ _ _ => True) (fun _ U o U' => ∃ v L, o = .returned v ∧ Q' v U'.heap L ∧ FrameEnd U o U' L rm.cells rm.slots)) (wc : (Jvm.Cond.code y bytes maxL ret).before a0 Z = true) (wz : (Jvm.Cond.initialized y.cls).before a0 Z = true) (eT : T.heap = h) (W : Nat) (hf : rm.frames + 1 ≤ R.frames) (hl : W + (maxL + 11) + rm.locals ≤ R.locals) (hc : cells + rm.cells ≤ R.cells) (hs : slots + rm.slots ≤ R.slots) {a : Addr} (E : Exa Z h a C) (argsL rest : List Value) (has : (.ref a :: argsL).toArray = as') {ps : List FieldType} {rr : Option FieldType} (hpd : parseMethodDescriptor y.desc = some ⟨ps, rr⟩) (hlen : argsL.length = ps.length) {pc : Nat} (pc' : Nat) {Ls : Array Slot} {stk : List Value} (hstk : stk = argsL.reverse ++ .ref a :: rest) (hsize : Ls.size = c.maxLocals) (hW : (rest.map fun v => v.category).sum = W) (hd : decode c.code pc = .ok (.invokevirtual index, 3)) (hp : pc + 3 = pc') (k : ∀ T' v L, Stand p l e R s m args below meth c T' (locs ++ L) (cells + rm.cells) (slots + rm.slots) → Q' v T'.heap L → own_Go p e below s Q K N (T'.setTop (mkF m pc' Ls (v.toList ++ rest)))) : own_Go p e below s Q K N (T.setTop (mkF m pc Ls stk)) := by
  subst hp hstk
  obtain ⟨cq, qa, qb⟩ := E.cell
  have hpr := Cond.privateMethod_at (mvP hZ w4 (args := args))
  obtain ⟨v', _, ⟨T', L', k', n'⟩, -, X', ⟨Lc', hQ', l', y', z'⟩, st'⟩ := X.privateBack hx (y := y) hown (mvT hZ w1) (mvT hZ w2) (own_selfsel (mvT hZ w3) hK hpr (mvT hZ w2) hy) hpr (mvT hZ wc) hy (backOf (W := W) hM hZ wc wz hf hl) (g := mkF m pc Ls (argsL.reverse ++ .ref a :: rest)) rfl hsize (Steps.refl _) (a := a) (by rw [eT]; exact qa) qb (argsL := argsL) (rest := rest) (lenOf hpd hlen) rfl (by show 2 * 0 + _ ≤ _; omega) hd (fun _ _ => ⟨has, eT, hc, hs⟩)
  dsimp only [Pt.U, Pt.locs, Pt.cells, Pt.slots] at X' l' y' z' st' hQ'
  subst l' y' z'
  exact own_step (fun t kk => st'.trans kk) (k T' v' _ X' hQ')
theorem own_cpA (X : Stand p l e R s m args below meth c T locs cells slots) (hx : p.tables.exec = Jvm.exec) {Z : State} {a0 : Array Value} {h : Heap} (hZ : Z.Warmed39 s.vm) {own : String} (hown : s.vm.findClass own = some m.cls) {index : Nat} (w1 : (Jvm.Cond.methodLink own index Jvm.Stand.acN).before a0 Z = true) (w2 : (Jvm.Cond.native Jvm.Stand.acN).before a0 Z = true) (w3 : (Jvm.Cond.static Jvm.Stand.acN).before a0 Z = true) (w4 : (Jvm.Cond.initialized "java/lang/System").before a0 Z = true) (eT : T.heap = h)
    {a b : Addr} {k k' : ClassId} {ty ty' : FieldType} {z z' sp dp nn : Int32} {vs vd : List Value} {dv dd : Value} (us : List Value) (A : Arv Z h a k ty z vs dv) (B : Arv Z h b k' ty' z' vd dd) (hty : (ty = ty' ∧ refKind ty = false) ∨ (refKind ty = true ∧ refKind ty' = true ∧ StoL Z h b us))
    (h1 : ¬ sp < 0) (h2 : ¬ dp < 0) (h3 : ¬ nn < 0) (h4 : sp.toNatClampNeg + nn.toNatClampNeg ≤ z.toNatClampNeg) (h5 : dp.toNatClampNeg + nn.toNatClampNeg ≤ z'.toNatClampNeg) (hus : us = (List.range nn.toNatClampNeg).map fun i => vs.getD (sp.toNatClampNeg + i) dv) (hl : dp.toNatClampNeg + nn.toNatClampNeg ≤ vd.length) {n0 : Nat} (Nf : Fr n0 locs) (ge : n0 ≤ b)
    {pc : Nat} (pc' : Nat) {Ls : Array Slot} {rest : List Value} (hsize : Ls.size = c.maxLocals) (hd : decode c.code pc = .ok (.invokestatic index, 3)) (hp : pc + 3 = pc') (hf : 1 ≤ R.frames) (W : Nat) (hW : (rest.map fun v => v.category).sum = W) (hlo : W + (nativeFrameWords "java/lang/System" "arraycopy" 5 + 11) ≤ R.locals)
    (kk : ∀ T' h' L, Stand p l e R s m args below meth c T' L cells slots → T'.heap = h' → Fr n0 L → Keep h h' [b] → Arv Z h' b k' ty' z' (vd.take dp.toNatClampNeg ++ us ++ vd.drop (dp.toNatClampNeg + nn.toNatClampNeg)) dd → own_Go p e below s Q K N (T'.setTop (mkF m pc' Ls rest))) : own_Go p e below s Q K N (T.setTop (mkF m pc Ls (.int nn :: .int dp :: .ref b :: .int sp :: .ref a :: rest))) := by
  subst hp
  obtain ⟨T', h', L', X', e', N', K', B', st⟩ := cpA X hx hZ hown w1 w2 w3 w4 eT A B hty h1 h2 h3 h4 h5 hus hl Nf ge (g := mkF m pc Ls (.int nn :: .int dp :: .ref b :: .int sp :: .ref a :: rest)) rfl hsize rfl hd hf (W := W) (by show 2 * 0 + _ ≤ _; omega) hlo
  exact own_step st (kk T' h' L' X' e' N' K' B')
theorem own_plainE {Z : State} {h : Heap} {a : Addr} {C : String} (E : Exa Z h a C) : ∀ cell : Cell, h[a]? = some cell → cell.vm.isStatics = false := fun cell hc => by
  obtain ⟨c', k', h1, -, -, h2, -⟩ := E
  cases h1.symm.trans hc; exact h2
theorem own_plainA {Z : State} {h : Heap} {a : Addr} {k : ClassId} {ty : FieldType} {z : Int32} {vs : List Value} {dv : Value} (V : Arv Z h a k ty z vs dv) : ∀ cell : Cell, h[a]? = some cell → cell.vm.isStatics = false := fun cell hc => by
  obtain ⟨c', A, -⟩ := V
  cases A.1.symm.trans hc; exact A.plain
theorem own_castY (X : Stand p l e R s m args below meth c T locs cells slots) (hx : p.tables.exec = Jvm.exec) {Z : State} {a0 : Array Value} {h : Heap} (hZ : Z.Warmed39 s.vm) {own : String} (hown : s.vm.findClass own = some m.cls) {K' : String} {index : Nat} (w : (Jvm.Cond.classLink own index K').before a0 Z = true) (eT : T.heap = h) {a : Addr} (F : Ins Z h a K' true) {pc : Nat} (pc' : Nat) {Ls : Array Slot} {rest : List Value} (hd : decode c.code pc = .ok (.checkcast index, 3)) (hp : pc + 3 = pc') (k : ∀ T', Stand p l e R s m args below meth c T' locs cells slots → T'.heap = h → own_Go p e below s Q K N (T'.setTop (mkF m pc' Ls (.ref a :: rest)))) : own_Go p e below s Q K N (T.setTop (mkF m pc Ls (.ref a :: rest))) := by
  subst hp
  obtain ⟨T', X', e', st⟩ := castY X hx hZ hown w eT F (g := mkF m pc Ls (.ref a :: rest)) rfl rfl hd
  exact own_step st (k T' X' e')
theorem own_instY (X : Stand p l e R s m args below meth c T locs cells slots) (hx : p.tables.exec = Jvm.exec) {Z : State} {a0 : Array Value} {h : Heap} (hZ : Z.Warmed39 s.vm) {own : String} (hown : s.vm.findClass own = some m.cls) {K' : String} {index : Nat} (w : (Jvm.Cond.classLink own index K').before a0 Z = true) (eT : T.heap = h) {a : Addr} (F : Ins Z h a K' true) {pc : Nat} (pc' : Nat) {Ls : Array Slot} {rest : List Value} (hd : decode c.code pc = .ok (.instanceof index, 3)) (hp : pc + 3 = pc') (k : ∀ T', Stand p l e R s m args below meth c T' locs cells slots → T'.heap = h → own_Go p e below s Q K N (T'.setTop (mkF m pc' Ls (.int 1 :: rest)))) : own_Go p e below s Q K N (T.setTop (mkF m pc Ls (.ref a :: rest))) := by
  subst hp
  obtain ⟨T', X', e', st⟩ := instY X hx hZ hown w eT F (g := mkF m pc Ls (.ref a :: rest)) rfl rfl hd
  exact own_step st (k T' X' e')
theorem own_instNo (X : Stand p l e R s m args below meth c T locs cells slots) (hx : p.tables.exec = Jvm.exec) {Z : State} {a0 : Array Value} {h : Heap} (hZ : Z.Warmed39 s.vm) {own : String} (hown : s.vm.findClass own = some m.cls) {K' : String} {index : Nat} (w : (Jvm.Cond.classLink own index K').before a0 Z = true) (eT : T.heap = h) {a : Addr} {C : String} (E : Exa Z h a C) (F : ∃ c t, Z.vm.findClass C = some c ∧ Z.vm.findClass K' = some t ∧ Z.vm.assignable c t = false) {pc : Nat} (pc' : Nat) {Ls : Array Slot} {rest : List Value} (hd : decode c.code pc = .ok (.instanceof index, 3)) (hp : pc + 3 = pc') (k : ∀ T', Stand p l e R s m args below meth c T' locs cells slots → T'.heap = h → own_Go p e below s Q K N (T'.setTop (mkF m pc' Ls (.int 0 :: rest)))) : own_Go p e below s Q K N (T.setTop (mkF m pc Ls (.ref a :: rest))) := by
  subst hp
  obtain ⟨T', X', e', st⟩ := instNo X hx hZ hown w eT E F (g := mkF m pc Ls (.ref a :: rest)) rfl rfl hd
  exact own_step st (k T' X' e')
theorem own_instNull (X : Stand p l e R s m args below meth c T locs cells slots) (hx : p.tables.exec = Jvm.exec) {index : Nat} {pc : Nat} (pc' : Nat) {Ls : Array Slot} {rest : List Value} (hd : decode c.code pc = .ok (.instanceof index, 3)) (hp : pc + 3 = pc') (G : own_Go p e below s Q K N (T.setTop (mkF m pc' Ls (.int 0 :: rest)))) : own_Go p e below s Q K N (T.setTop (mkF m pc Ls (.null :: rest))) := by
  subst hp
  exact own_step (X.instanceofNull hx (g := mkF m pc Ls (.null :: rest)) rfl rfl hd) G
theorem own_irr (x : Int32) : ¬ x < x := by rw [Int32.lt_iff_toInt_lt]; omega
theorem own_fldV {Z : State} {h : Heap} {a : Addr} {C n d : String} {v w : Value} (F : Fld Z h a C n d v) (q : v = w) : Fld Z h a C n d w := q ▸ F
theorem own_arvL {Z : State} {h : Heap} {a : Addr} {k : ClassId} {ty : FieldType} {z : Int32} {vs ws : List Value} {dv : Value} (F : Arv Z h a k ty z vs dv) (q : ws = vs) : Arv Z h a k ty z ws dv := q ▸ F
end Own
theorem own_rb {z w : Int32} (h : z = w) (hz : nar .boolean z = z := by decide) : (some (Value.int (nar .boolean z)) : Option Value) = some (.int w) := by rw [hz, h]
theorem own_fld_int {Z : State} {args : Array Value} {t : Term} {a : Addr} {C n : String} {z : Int32} (ht : t.eval args Z none [] Z = some (.ref a)) (h : (Jvm.Cond.eq (.field t C n "I") (.int z)).value args Z none Z [] = some true) : Fld Z Z.heap a C n "I" (.int z) := by
  obtain ⟨x, y, h1, h2, k1, k2⟩ := cmp_v (Or.inl h)
  have hy : y = .int z := (Option.some.inj h2).symm
  subst hy
  obtain ⟨w, rfl⟩ := k2
  have hw : w = z := by
    have q := h
    simp only [Cond.value, h1, h2] at q
    simpa using q
  subst hw
  rw [fld_at ht] at h1
  exact Fld.start h1
def own_he (m c : Int32) : Int32 := if (c &&& m) = 0 then 0 else 1
theorem own_32 (p : Int32) {k : Int32} (q : k = (p &&& (31 : Int32))) : k = 0 ∨ k = 1 ∨ k = 2 ∨ k = 3 ∨ k = 4 ∨ k = 5 ∨ k = 6 ∨ k = 7 ∨ k = 8 ∨ k = 9 ∨ k = 10 ∨ k = 11 ∨ k = 12 ∨ k = 13 ∨ k = 14 ∨ k = 15 ∨ k = 16 ∨ k = 17 ∨ k = 18 ∨ k = 19 ∨ k = 20 ∨ k = 21 ∨ k = 22 ∨ k = 23 ∨ k = 24 ∨ k = 25 ∨ k = 26 ∨ k = 27 ∨ k = 28 ∨ k = 29 ∨ k = 30 ∨ k = 31 := by
  have a := c_mask p 31 5 (by decide) (by decide)
  rw [← q] at a
  have e : k = Int32.ofNat k.toInt.toNat := by
    apply Int32.toInt_inj.mp
    rw [Int32.toInt_ofNat_of_lt (by omega)]
    omega
  have h : ∀ n : Fin 32, Int32.ofNat n.val = 0 ∨ Int32.ofNat n.val = 1 ∨ Int32.ofNat n.val = 2 ∨ Int32.ofNat n.val = 3 ∨ Int32.ofNat n.val = 4 ∨ Int32.ofNat n.val = 5 ∨ Int32.ofNat n.val = 6 ∨ Int32.ofNat n.val = 7 ∨ Int32.ofNat n.val = 8 ∨ Int32.ofNat n.val = 9 ∨ Int32.ofNat n.val = 10 ∨ Int32.ofNat n.val = 11 ∨ Int32.ofNat n.val = 12 ∨ Int32.ofNat n.val = 13 ∨ Int32.ofNat n.val = 14 ∨ Int32.ofNat n.val = 15 ∨ Int32.ofNat n.val = 16 ∨ Int32.ofNat n.val = 17 ∨ Int32.ofNat n.val = 18 ∨ Int32.ofNat n.val = 19 ∨ Int32.ofNat n.val = 20 ∨ Int32.ofNat n.val = 21 ∨ Int32.ofNat n.val = 22 ∨ Int32.ofNat n.val = 23 ∨ Int32.ofNat n.val = 24 ∨ Int32.ofNat n.val = 25 ∨ Int32.ofNat n.val = 26 ∨ Int32.ofNat n.val = 27 ∨ Int32.ofNat n.val = 28 ∨ Int32.ofNat n.val = 29 ∨ Int32.ofNat n.val = 30 ∨ Int32.ofNat n.val = 31 := by decide +kernel
  rw [e]
  exact h ⟨k.toInt.toNat, by omega⟩
theorem d_method_2_0 : decode method_2_code 0 = .ok (.iload_n 0, 1) := by decide +kernel
theorem d_method_2_1 : decode method_2_code 1 = .ok (.tableswitch 263 0 30 #[139, 143, 147, 151, 155, 159, 163, 167, 171, 175, 179, 183, 187, 191, 195, 199, 203, 207, 211, 215, 219, 223, 227, 231, 235, 239, 243, 247, 251, 255, 259], 139) := by decide +kernel
theorem d_method_2_140 : decode method_2_code 140 = .ok (.getstatic 7, 3) := by decide +kernel
theorem d_method_2_143 : decode method_2_code 143 = .ok (.areturn, 1) := by decide +kernel
theorem ef_0 (m : MethodId) (x0 : Int32) : entryFrame m #[(.int x0)] 1 = mkF m 0 #[.val (.int x0)] [] := by first | (simp [entryFrame, mkF, argsToLocals, Value.category]; done) | rfl
theorem pn_0 : plainName "com/example/entitygate/entitygate/HtmlTagHasImpliedEndPinLaw" = true := by first | (simp [plainName, overriddenIn]; done) | decide +kernel
def Q_tag0 (Z : State) (a : Addr) (h0 : Heap) (n0 : Nat) (v : Option Value) (h : Heap) (L : List Loc) : Prop := v = some (.ref a) ∧ Fr n0 L ∧ h = h0
set_option maxRecDepth 65536 in
set_option maxHeartbeats 40000000 in
theorem rm_tag0 (l : Launch) (Z : State) (a0 : Array Value) (hw : ∀ d ∈ tables_1, d.before a0 Z = true) (ws : List Jvm.Cond) (a : Addr) (h0 : Heap) (n0 : Nat) (Z0 : n0 ≤ h0.size) (S_DD : Sta Z h0 "com/example/entitygate/entitygate/HtmlTag" "DD" "Lcom/example/entitygate/entitygate/HtmlTag;" (.ref a)) :
    MetFree l (⟨"com/example/entitygate/entitygate/HtmlTagHasImpliedEndPinLaw", "tag", "(I)Lcom/example/entitygate/entitygate/HtmlTag;"⟩ : MethodName) (head1 (Jvm.Cond.code (⟨"com/example/entitygate/entitygate/HtmlTagHasImpliedEndPinLaw", "tag", "(I)Lcom/example/entitygate/entitygate/HtmlTag;"⟩ : MethodName) method_2_code 1 (some (.object "com/example/entitygate/entitygate/HtmlTag")) :: ws) ({ frames := 0, cells := 0, slots := 0, locals := 0 } : Room)) (fun aA U => aA = #[(.int (0 : Int32))] ∧ Z.Warmed39 U.vm ∧ U.heap = h0) (fun _ _ _ _ _ => True) (fun _ U oO U' => ∃ vV LL, oO = .returned vV ∧ Q_tag0 Z a h0 n0 vV U'.heap LL ∧ FrameEnd U oO U' LL ({ frames := 0, cells := 0, slots := 0, locals := 0 } : Room).cells ({ frames := 0, cells := 0, slots := 0, locals := 0 } : Room).slots) := by
  refine MetFree.of_bodySF (plainFor_of_name pn_0) hisR ?_
  intro p e s m args below meth c s₁ Bd hml0 hP hK
  obtain ⟨rfl, hZ, hh⟩ := hP
  have hx := Bd.exec
  have hby := Bd.bytes
  have hml : c.maxLocals = 1 := hml0
  have hown : s.vm.findClass "com/example/entitygate/entitygate/HtmlTagHasImpliedEndPinLaw" = some m.cls := findClass_of_methodNamed Bd.named
  have hnm := (name_of_methodNamed Bd.named Bd.method).1
  have X0 : Stand p l e ({ frames := 0, cells := 0, slots := 0, locals := 0 } : Room) s m #[(.int (0 : Int32))] below meth c s₁ [] 0 0 := Stand.of_body Bd
  have e0 : s₁.heap = h0 := by rw [← hh, Bd.state]; rfl
  have N0 := Fr.nil n0
  have hret := Bd.returns
  have hlk : meth.locks = false := Bd.notSynchronized
  refine own_start (ef_0 m (0 : Int32)) ?_
  show own_Go p e below s (Q_tag0 Z a h0 n0) ({ frames := 0, cells := 0, slots := 0, locals := 0 } : Room).cells ({ frames := 0, cells := 0, slots := 0, locals := 0 } : Room).slots (s₁.setTop (mkF m 0 #[.val (.int (0 : Int32))] []))
  refine g_iload_n X0 hx 1 (hb hby d_method_2_0) rfl rfl ?_
  refine g_tswIn X0 hx 140 (hb hby d_method_2_1) (by decide) (o := 139) rfl (by decide) (by decide) ?_
  refine own_getS X0 hx hZ hown (host := "") (Or.inl (hw _ (List.mem_of_getElem? (i := 4) rfl))) Via.refl e0 S_DD 143 (hb hby d_method_2_140) rfl fun T1 X1 e1 => ?_
  refine own_retA X1 hx hlk hret rfl rfl (hb hby d_method_2_143) ?_ (by decide) (by decide)
  rw [e1]
  exact ⟨rfl, N0, rfl⟩
theorem d_method_2_144 : decode method_2_code 144 = .ok (.getstatic 13, 3) := by decide +kernel
theorem d_method_2_147 : decode method_2_code 147 = .ok (.areturn, 1) := by decide +kernel
def Q_tag1 (Z : State) (a : Addr) (h0 : Heap) (n0 : Nat) (v : Option Value) (h : Heap) (L : List Loc) : Prop := v = some (.ref a) ∧ Fr n0 L ∧ h = h0
set_option maxRecDepth 65536 in
set_option maxHeartbeats 40000000 in
theorem rm_tag1 (l : Launch) (Z : State) (a0 : Array Value) (hw : ∀ d ∈ tables_1, d.before a0 Z = true) (ws : List Jvm.Cond) (a : Addr) (h0 : Heap) (n0 : Nat) (Z0 : n0 ≤ h0.size) (S_DT : Sta Z h0 "com/example/entitygate/entitygate/HtmlTag" "DT" "Lcom/example/entitygate/entitygate/HtmlTag;" (.ref a)) :
    MetFree l (⟨"com/example/entitygate/entitygate/HtmlTagHasImpliedEndPinLaw", "tag", "(I)Lcom/example/entitygate/entitygate/HtmlTag;"⟩ : MethodName) (head1 (Jvm.Cond.code (⟨"com/example/entitygate/entitygate/HtmlTagHasImpliedEndPinLaw", "tag", "(I)Lcom/example/entitygate/entitygate/HtmlTag;"⟩ : MethodName) method_2_code 1 (some (.object "com/example/entitygate/entitygate/HtmlTag")) :: ws) ({ frames := 0, cells := 0, slots := 0, locals := 0 } : Room)) (fun aA U => aA = #[(.int (1 : Int32))] ∧ Z.Warmed39 U.vm ∧ U.heap = h0) (fun _ _ _ _ _ => True) (fun _ U oO U' => ∃ vV LL, oO = .returned vV ∧ Q_tag1 Z a h0 n0 vV U'.heap LL ∧ FrameEnd U oO U' LL ({ frames := 0, cells := 0, slots := 0, locals := 0 } : Room).cells ({ frames := 0, cells := 0, slots := 0, locals := 0 } : Room).slots) := by
  refine MetFree.of_bodySF (plainFor_of_name pn_0) hisR ?_
  intro p e s m args below meth c s₁ Bd hml0 hP hK
  obtain ⟨rfl, hZ, hh⟩ := hP
  have hx := Bd.exec
  have hby := Bd.bytes
  have hml : c.maxLocals = 1 := hml0
  have hown : s.vm.findClass "com/example/entitygate/entitygate/HtmlTagHasImpliedEndPinLaw" = some m.cls := findClass_of_methodNamed Bd.named
  have hnm := (name_of_methodNamed Bd.named Bd.method).1
  have X0 : Stand p l e ({ frames := 0, cells := 0, slots := 0, locals := 0 } : Room) s m #[(.int (1 : Int32))] below meth c s₁ [] 0 0 := Stand.of_body Bd
  have e0 : s₁.heap = h0 := by rw [← hh, Bd.state]; rfl
  have N0 := Fr.nil n0
  have hret := Bd.returns
  have hlk : meth.locks = false := Bd.notSynchronized
  refine own_start (ef_0 m (1 : Int32)) ?_
  show own_Go p e below s (Q_tag1 Z a h0 n0) ({ frames := 0, cells := 0, slots := 0, locals := 0 } : Room).cells ({ frames := 0, cells := 0, slots := 0, locals := 0 } : Room).slots (s₁.setTop (mkF m 0 #[.val (.int (1 : Int32))] []))
  refine g_iload_n X0 hx 1 (hb hby d_method_2_0) rfl rfl ?_
  refine g_tswIn X0 hx 144 (hb hby d_method_2_1) (by decide) (o := 143) rfl (by decide) (by decide) ?_
  refine own_getS X0 hx hZ hown (host := "") (Or.inl (hw _ (List.mem_of_getElem? (i := 34) rfl))) Via.refl e0 S_DT 147 (hb hby d_method_2_144) rfl fun T2 X2 e2 => ?_
  refine own_retA X2 hx hlk hret rfl rfl (hb hby d_method_2_147) ?_ (by decide) (by decide)
  rw [e2]
  exact ⟨rfl, N0, rfl⟩
theorem d_method_2_148 : decode method_2_code 148 = .ok (.getstatic 16, 3) := by decide +kernel
theorem d_method_2_151 : decode method_2_code 151 = .ok (.areturn, 1) := by decide +kernel
def Q_tag2 (Z : State) (a : Addr) (h0 : Heap) (n0 : Nat) (v : Option Value) (h : Heap) (L : List Loc) : Prop := v = some (.ref a) ∧ Fr n0 L ∧ h = h0
set_option maxRecDepth 65536 in
set_option maxHeartbeats 40000000 in
theorem rm_tag2 (l : Launch) (Z : State) (a0 : Array Value) (hw : ∀ d ∈ tables_1, d.before a0 Z = true) (ws : List Jvm.Cond) (a : Addr) (h0 : Heap) (n0 : Nat) (Z0 : n0 ≤ h0.size) (S_LI : Sta Z h0 "com/example/entitygate/entitygate/HtmlTag" "LI" "Lcom/example/entitygate/entitygate/HtmlTag;" (.ref a)) :
    MetFree l (⟨"com/example/entitygate/entitygate/HtmlTagHasImpliedEndPinLaw", "tag", "(I)Lcom/example/entitygate/entitygate/HtmlTag;"⟩ : MethodName) (head1 (Jvm.Cond.code (⟨"com/example/entitygate/entitygate/HtmlTagHasImpliedEndPinLaw", "tag", "(I)Lcom/example/entitygate/entitygate/HtmlTag;"⟩ : MethodName) method_2_code 1 (some (.object "com/example/entitygate/entitygate/HtmlTag")) :: ws) ({ frames := 0, cells := 0, slots := 0, locals := 0 } : Room)) (fun aA U => aA = #[(.int (2 : Int32))] ∧ Z.Warmed39 U.vm ∧ U.heap = h0) (fun _ _ _ _ _ => True) (fun _ U oO U' => ∃ vV LL, oO = .returned vV ∧ Q_tag2 Z a h0 n0 vV U'.heap LL ∧ FrameEnd U oO U' LL ({ frames := 0, cells := 0, slots := 0, locals := 0 } : Room).cells ({ frames := 0, cells := 0, slots := 0, locals := 0 } : Room).slots) := by
  refine MetFree.of_bodySF (plainFor_of_name pn_0) hisR ?_
  intro p e s m args below meth c s₁ Bd hml0 hP hK
  obtain ⟨rfl, hZ, hh⟩ := hP
  have hx := Bd.exec
  have hby := Bd.bytes
  have hml : c.maxLocals = 1 := hml0
  have hown : s.vm.findClass "com/example/entitygate/entitygate/HtmlTagHasImpliedEndPinLaw" = some m.cls := findClass_of_methodNamed Bd.named
  have hnm := (name_of_methodNamed Bd.named Bd.method).1
  have X0 : Stand p l e ({ frames := 0, cells := 0, slots := 0, locals := 0 } : Room) s m #[(.int (2 : Int32))] below meth c s₁ [] 0 0 := Stand.of_body Bd
  have e0 : s₁.heap = h0 := by rw [← hh, Bd.state]; rfl
  have N0 := Fr.nil n0
  have hret := Bd.returns
  have hlk : meth.locks = false := Bd.notSynchronized
  refine own_start (ef_0 m (2 : Int32)) ?_
  show own_Go p e below s (Q_tag2 Z a h0 n0) ({ frames := 0, cells := 0, slots := 0, locals := 0 } : Room).cells ({ frames := 0, cells := 0, slots := 0, locals := 0 } : Room).slots (s₁.setTop (mkF m 0 #[.val (.int (2 : Int32))] []))
  refine g_iload_n X0 hx 1 (hb hby d_method_2_0) rfl rfl ?_
  refine g_tswIn X0 hx 148 (hb hby d_method_2_1) (by decide) (o := 147) rfl (by decide) (by decide) ?_
  refine own_getS X0 hx hZ hown (host := "") (Or.inl (hw _ (List.mem_of_getElem? (i := 38) rfl))) Via.refl e0 S_LI 151 (hb hby d_method_2_148) rfl fun T3 X3 e3 => ?_
  refine own_retA X3 hx hlk hret rfl rfl (hb hby d_method_2_151) ?_ (by decide) (by decide)
  rw [e3]
  exact ⟨rfl, N0, rfl⟩
theorem d_method_2_152 : decode method_2_code 152 = .ok (.getstatic 19, 3) := by decide +kernel
theorem d_method_2_155 : decode method_2_code 155 = .ok (.areturn, 1) := by decide +kernel
def Q_tag3 (Z : State) (a : Addr) (h0 : Heap) (n0 : Nat) (v : Option Value) (h : Heap) (L : List Loc) : Prop := v = some (.ref a) ∧ Fr n0 L ∧ h = h0
set_option maxRecDepth 65536 in
set_option maxHeartbeats 40000000 in
theorem rm_tag3 (l : Launch) (Z : State) (a0 : Array Value) (hw : ∀ d ∈ tables_1, d.before a0 Z = true) (ws : List Jvm.Cond) (a : Addr) (h0 : Heap) (n0 : Nat) (Z0 : n0 ≤ h0.size) (S_OPTGROUP : Sta Z h0 "com/example/entitygate/entitygate/HtmlTag" "OPTGROUP" "Lcom/example/entitygate/entitygate/HtmlTag;" (.ref a)) :
    MetFree l (⟨"com/example/entitygate/entitygate/HtmlTagHasImpliedEndPinLaw", "tag", "(I)Lcom/example/entitygate/entitygate/HtmlTag;"⟩ : MethodName) (head1 (Jvm.Cond.code (⟨"com/example/entitygate/entitygate/HtmlTagHasImpliedEndPinLaw", "tag", "(I)Lcom/example/entitygate/entitygate/HtmlTag;"⟩ : MethodName) method_2_code 1 (some (.object "com/example/entitygate/entitygate/HtmlTag")) :: ws) ({ frames := 0, cells := 0, slots := 0, locals := 0 } : Room)) (fun aA U => aA = #[(.int (3 : Int32))] ∧ Z.Warmed39 U.vm ∧ U.heap = h0) (fun _ _ _ _ _ => True) (fun _ U oO U' => ∃ vV LL, oO = .returned vV ∧ Q_tag3 Z a h0 n0 vV U'.heap LL ∧ FrameEnd U oO U' LL ({ frames := 0, cells := 0, slots := 0, locals := 0 } : Room).cells ({ frames := 0, cells := 0, slots := 0, locals := 0 } : Room).slots) := by
  refine MetFree.of_bodySF (plainFor_of_name pn_0) hisR ?_
  intro p e s m args below meth c s₁ Bd hml0 hP hK
  obtain ⟨rfl, hZ, hh⟩ := hP
  have hx := Bd.exec
  have hby := Bd.bytes
  have hml : c.maxLocals = 1 := hml0
  have hown : s.vm.findClass "com/example/entitygate/entitygate/HtmlTagHasImpliedEndPinLaw" = some m.cls := findClass_of_methodNamed Bd.named
  have hnm := (name_of_methodNamed Bd.named Bd.method).1
  have X0 : Stand p l e ({ frames := 0, cells := 0, slots := 0, locals := 0 } : Room) s m #[(.int (3 : Int32))] below meth c s₁ [] 0 0 := Stand.of_body Bd
  have e0 : s₁.heap = h0 := by rw [← hh, Bd.state]; rfl
  have N0 := Fr.nil n0
  have hret := Bd.returns
  have hlk : meth.locks = false := Bd.notSynchronized
  refine own_start (ef_0 m (3 : Int32)) ?_
  show own_Go p e below s (Q_tag3 Z a h0 n0) ({ frames := 0, cells := 0, slots := 0, locals := 0 } : Room).cells ({ frames := 0, cells := 0, slots := 0, locals := 0 } : Room).slots (s₁.setTop (mkF m 0 #[.val (.int (3 : Int32))] []))
  refine g_iload_n X0 hx 1 (hb hby d_method_2_0) rfl rfl ?_
  refine g_tswIn X0 hx 152 (hb hby d_method_2_1) (by decide) (o := 151) rfl (by decide) (by decide) ?_
  refine own_getS X0 hx hZ hown (host := "") (Or.inl (hw _ (List.mem_of_getElem? (i := 26) rfl))) Via.refl e0 S_OPTGROUP 155 (hb hby d_method_2_152) rfl fun T4 X4 e4 => ?_
  refine own_retA X4 hx hlk hret rfl rfl (hb hby d_method_2_155) ?_ (by decide) (by decide)
  rw [e4]
  exact ⟨rfl, N0, rfl⟩
theorem d_method_2_156 : decode method_2_code 156 = .ok (.getstatic 22, 3) := by decide +kernel
theorem d_method_2_159 : decode method_2_code 159 = .ok (.areturn, 1) := by decide +kernel
def Q_tag4 (Z : State) (a : Addr) (h0 : Heap) (n0 : Nat) (v : Option Value) (h : Heap) (L : List Loc) : Prop := v = some (.ref a) ∧ Fr n0 L ∧ h = h0
set_option maxRecDepth 65536 in
set_option maxHeartbeats 40000000 in
theorem rm_tag4 (l : Launch) (Z : State) (a0 : Array Value) (hw : ∀ d ∈ tables_1, d.before a0 Z = true) (ws : List Jvm.Cond) (a : Addr) (h0 : Heap) (n0 : Nat) (Z0 : n0 ≤ h0.size) (S_OPTION : Sta Z h0 "com/example/entitygate/entitygate/HtmlTag" "OPTION" "Lcom/example/entitygate/entitygate/HtmlTag;" (.ref a)) :
    MetFree l (⟨"com/example/entitygate/entitygate/HtmlTagHasImpliedEndPinLaw", "tag", "(I)Lcom/example/entitygate/entitygate/HtmlTag;"⟩ : MethodName) (head1 (Jvm.Cond.code (⟨"com/example/entitygate/entitygate/HtmlTagHasImpliedEndPinLaw", "tag", "(I)Lcom/example/entitygate/entitygate/HtmlTag;"⟩ : MethodName) method_2_code 1 (some (.object "com/example/entitygate/entitygate/HtmlTag")) :: ws) ({ frames := 0, cells := 0, slots := 0, locals := 0 } : Room)) (fun aA U => aA = #[(.int (4 : Int32))] ∧ Z.Warmed39 U.vm ∧ U.heap = h0) (fun _ _ _ _ _ => True) (fun _ U oO U' => ∃ vV LL, oO = .returned vV ∧ Q_tag4 Z a h0 n0 vV U'.heap LL ∧ FrameEnd U oO U' LL ({ frames := 0, cells := 0, slots := 0, locals := 0 } : Room).cells ({ frames := 0, cells := 0, slots := 0, locals := 0 } : Room).slots) := by
  refine MetFree.of_bodySF (plainFor_of_name pn_0) hisR ?_
  intro p e s m args below meth c s₁ Bd hml0 hP hK
  obtain ⟨rfl, hZ, hh⟩ := hP
  have hx := Bd.exec
  have hby := Bd.bytes
  have hml : c.maxLocals = 1 := hml0
  have hown : s.vm.findClass "com/example/entitygate/entitygate/HtmlTagHasImpliedEndPinLaw" = some m.cls := findClass_of_methodNamed Bd.named
  have hnm := (name_of_methodNamed Bd.named Bd.method).1
  have X0 : Stand p l e ({ frames := 0, cells := 0, slots := 0, locals := 0 } : Room) s m #[(.int (4 : Int32))] below meth c s₁ [] 0 0 := Stand.of_body Bd
  have e0 : s₁.heap = h0 := by rw [← hh, Bd.state]; rfl
  have N0 := Fr.nil n0
  have hret := Bd.returns
  have hlk : meth.locks = false := Bd.notSynchronized
  refine own_start (ef_0 m (4 : Int32)) ?_
  show own_Go p e below s (Q_tag4 Z a h0 n0) ({ frames := 0, cells := 0, slots := 0, locals := 0 } : Room).cells ({ frames := 0, cells := 0, slots := 0, locals := 0 } : Room).slots (s₁.setTop (mkF m 0 #[.val (.int (4 : Int32))] []))
  refine g_iload_n X0 hx 1 (hb hby d_method_2_0) rfl rfl ?_
  refine g_tswIn X0 hx 156 (hb hby d_method_2_1) (by decide) (o := 155) rfl (by decide) (by decide) ?_
  refine own_getS X0 hx hZ hown (host := "") (Or.inl (hw _ (List.mem_of_getElem? (i := 58) rfl))) Via.refl e0 S_OPTION 159 (hb hby d_method_2_156) rfl fun T5 X5 e5 => ?_
  refine own_retA X5 hx hlk hret rfl rfl (hb hby d_method_2_159) ?_ (by decide) (by decide)
  rw [e5]
  exact ⟨rfl, N0, rfl⟩
theorem d_method_2_160 : decode method_2_code 160 = .ok (.getstatic 25, 3) := by decide +kernel
theorem d_method_2_163 : decode method_2_code 163 = .ok (.areturn, 1) := by decide +kernel
def Q_tag5 (Z : State) (a : Addr) (h0 : Heap) (n0 : Nat) (v : Option Value) (h : Heap) (L : List Loc) : Prop := v = some (.ref a) ∧ Fr n0 L ∧ h = h0
set_option maxRecDepth 65536 in
set_option maxHeartbeats 40000000 in
theorem rm_tag5 (l : Launch) (Z : State) (a0 : Array Value) (hw : ∀ d ∈ tables_1, d.before a0 Z = true) (ws : List Jvm.Cond) (a : Addr) (h0 : Heap) (n0 : Nat) (Z0 : n0 ≤ h0.size) (S_P : Sta Z h0 "com/example/entitygate/entitygate/HtmlTag" "P" "Lcom/example/entitygate/entitygate/HtmlTag;" (.ref a)) :
    MetFree l (⟨"com/example/entitygate/entitygate/HtmlTagHasImpliedEndPinLaw", "tag", "(I)Lcom/example/entitygate/entitygate/HtmlTag;"⟩ : MethodName) (head1 (Jvm.Cond.code (⟨"com/example/entitygate/entitygate/HtmlTagHasImpliedEndPinLaw", "tag", "(I)Lcom/example/entitygate/entitygate/HtmlTag;"⟩ : MethodName) method_2_code 1 (some (.object "com/example/entitygate/entitygate/HtmlTag")) :: ws) ({ frames := 0, cells := 0, slots := 0, locals := 0 } : Room)) (fun aA U => aA = #[(.int (5 : Int32))] ∧ Z.Warmed39 U.vm ∧ U.heap = h0) (fun _ _ _ _ _ => True) (fun _ U oO U' => ∃ vV LL, oO = .returned vV ∧ Q_tag5 Z a h0 n0 vV U'.heap LL ∧ FrameEnd U oO U' LL ({ frames := 0, cells := 0, slots := 0, locals := 0 } : Room).cells ({ frames := 0, cells := 0, slots := 0, locals := 0 } : Room).slots) := by
  refine MetFree.of_bodySF (plainFor_of_name pn_0) hisR ?_
  intro p e s m args below meth c s₁ Bd hml0 hP hK
  obtain ⟨rfl, hZ, hh⟩ := hP
  have hx := Bd.exec
  have hby := Bd.bytes
  have hml : c.maxLocals = 1 := hml0
  have hown : s.vm.findClass "com/example/entitygate/entitygate/HtmlTagHasImpliedEndPinLaw" = some m.cls := findClass_of_methodNamed Bd.named
  have hnm := (name_of_methodNamed Bd.named Bd.method).1
  have X0 : Stand p l e ({ frames := 0, cells := 0, slots := 0, locals := 0 } : Room) s m #[(.int (5 : Int32))] below meth c s₁ [] 0 0 := Stand.of_body Bd
  have e0 : s₁.heap = h0 := by rw [← hh, Bd.state]; rfl
  have N0 := Fr.nil n0
  have hret := Bd.returns
  have hlk : meth.locks = false := Bd.notSynchronized
  refine own_start (ef_0 m (5 : Int32)) ?_
  show own_Go p e below s (Q_tag5 Z a h0 n0) ({ frames := 0, cells := 0, slots := 0, locals := 0 } : Room).cells ({ frames := 0, cells := 0, slots := 0, locals := 0 } : Room).slots (s₁.setTop (mkF m 0 #[.val (.int (5 : Int32))] []))
  refine g_iload_n X0 hx 1 (hb hby d_method_2_0) rfl rfl ?_
  refine g_tswIn X0 hx 160 (hb hby d_method_2_1) (by decide) (o := 159) rfl (by decide) (by decide) ?_
  refine own_getS X0 hx hZ hown (host := "") (Or.inl (hw _ (List.mem_of_getElem? (i := 32) rfl))) Via.refl e0 S_P 163 (hb hby d_method_2_160) rfl fun T6 X6 e6 => ?_
  refine own_retA X6 hx hlk hret rfl rfl (hb hby d_method_2_163) ?_ (by decide) (by decide)
  rw [e6]
  exact ⟨rfl, N0, rfl⟩
theorem d_method_2_164 : decode method_2_code 164 = .ok (.getstatic 28, 3) := by decide +kernel
theorem d_method_2_167 : decode method_2_code 167 = .ok (.areturn, 1) := by decide +kernel
def Q_tag6 (Z : State) (a : Addr) (h0 : Heap) (n0 : Nat) (v : Option Value) (h : Heap) (L : List Loc) : Prop := v = some (.ref a) ∧ Fr n0 L ∧ h = h0
set_option maxRecDepth 65536 in
set_option maxHeartbeats 40000000 in
theorem rm_tag6 (l : Launch) (Z : State) (a0 : Array Value) (hw : ∀ d ∈ tables_1, d.before a0 Z = true) (ws : List Jvm.Cond) (a : Addr) (h0 : Heap) (n0 : Nat) (Z0 : n0 ≤ h0.size) (S_RB : Sta Z h0 "com/example/entitygate/entitygate/HtmlTag" "RB" "Lcom/example/entitygate/entitygate/HtmlTag;" (.ref a)) :
    MetFree l (⟨"com/example/entitygate/entitygate/HtmlTagHasImpliedEndPinLaw", "tag", "(I)Lcom/example/entitygate/entitygate/HtmlTag;"⟩ : MethodName) (head1 (Jvm.Cond.code (⟨"com/example/entitygate/entitygate/HtmlTagHasImpliedEndPinLaw", "tag", "(I)Lcom/example/entitygate/entitygate/HtmlTag;"⟩ : MethodName) method_2_code 1 (some (.object "com/example/entitygate/entitygate/HtmlTag")) :: ws) ({ frames := 0, cells := 0, slots := 0, locals := 0 } : Room)) (fun aA U => aA = #[(.int (6 : Int32))] ∧ Z.Warmed39 U.vm ∧ U.heap = h0) (fun _ _ _ _ _ => True) (fun _ U oO U' => ∃ vV LL, oO = .returned vV ∧ Q_tag6 Z a h0 n0 vV U'.heap LL ∧ FrameEnd U oO U' LL ({ frames := 0, cells := 0, slots := 0, locals := 0 } : Room).cells ({ frames := 0, cells := 0, slots := 0, locals := 0 } : Room).slots) := by
  refine MetFree.of_bodySF (plainFor_of_name pn_0) hisR ?_
  intro p e s m args below meth c s₁ Bd hml0 hP hK
  obtain ⟨rfl, hZ, hh⟩ := hP
  have hx := Bd.exec
  have hby := Bd.bytes
  have hml : c.maxLocals = 1 := hml0
  have hown : s.vm.findClass "com/example/entitygate/entitygate/HtmlTagHasImpliedEndPinLaw" = some m.cls := findClass_of_methodNamed Bd.named
  have hnm := (name_of_methodNamed Bd.named Bd.method).1
  have X0 : Stand p l e ({ frames := 0, cells := 0, slots := 0, locals := 0 } : Room) s m #[(.int (6 : Int32))] below meth c s₁ [] 0 0 := Stand.of_body Bd
  have e0 : s₁.heap = h0 := by rw [← hh, Bd.state]; rfl
  have N0 := Fr.nil n0
  have hret := Bd.returns
  have hlk : meth.locks = false := Bd.notSynchronized
  refine own_start (ef_0 m (6 : Int32)) ?_
  show own_Go p e below s (Q_tag6 Z a h0 n0) ({ frames := 0, cells := 0, slots := 0, locals := 0 } : Room).cells ({ frames := 0, cells := 0, slots := 0, locals := 0 } : Room).slots (s₁.setTop (mkF m 0 #[.val (.int (6 : Int32))] []))
  refine g_iload_n X0 hx 1 (hb hby d_method_2_0) rfl rfl ?_
  refine g_tswIn X0 hx 164 (hb hby d_method_2_1) (by decide) (o := 163) rfl (by decide) (by decide) ?_
  refine own_getS X0 hx hZ hown (host := "") (Or.inl (hw _ (List.mem_of_getElem? (i := 22) rfl))) Via.refl e0 S_RB 167 (hb hby d_method_2_164) rfl fun T7 X7 e7 => ?_
  refine own_retA X7 hx hlk hret rfl rfl (hb hby d_method_2_167) ?_ (by decide) (by decide)
  rw [e7]
  exact ⟨rfl, N0, rfl⟩
theorem d_method_2_168 : decode method_2_code 168 = .ok (.getstatic 31, 3) := by decide +kernel
theorem d_method_2_171 : decode method_2_code 171 = .ok (.areturn, 1) := by decide +kernel
def Q_tag7 (Z : State) (a : Addr) (h0 : Heap) (n0 : Nat) (v : Option Value) (h : Heap) (L : List Loc) : Prop := v = some (.ref a) ∧ Fr n0 L ∧ h = h0
set_option maxRecDepth 65536 in
set_option maxHeartbeats 40000000 in
theorem rm_tag7 (l : Launch) (Z : State) (a0 : Array Value) (hw : ∀ d ∈ tables_1, d.before a0 Z = true) (ws : List Jvm.Cond) (a : Addr) (h0 : Heap) (n0 : Nat) (Z0 : n0 ≤ h0.size) (S_RP : Sta Z h0 "com/example/entitygate/entitygate/HtmlTag" "RP" "Lcom/example/entitygate/entitygate/HtmlTag;" (.ref a)) :
    MetFree l (⟨"com/example/entitygate/entitygate/HtmlTagHasImpliedEndPinLaw", "tag", "(I)Lcom/example/entitygate/entitygate/HtmlTag;"⟩ : MethodName) (head1 (Jvm.Cond.code (⟨"com/example/entitygate/entitygate/HtmlTagHasImpliedEndPinLaw", "tag", "(I)Lcom/example/entitygate/entitygate/HtmlTag;"⟩ : MethodName) method_2_code 1 (some (.object "com/example/entitygate/entitygate/HtmlTag")) :: ws) ({ frames := 0, cells := 0, slots := 0, locals := 0 } : Room)) (fun aA U => aA = #[(.int (7 : Int32))] ∧ Z.Warmed39 U.vm ∧ U.heap = h0) (fun _ _ _ _ _ => True) (fun _ U oO U' => ∃ vV LL, oO = .returned vV ∧ Q_tag7 Z a h0 n0 vV U'.heap LL ∧ FrameEnd U oO U' LL ({ frames := 0, cells := 0, slots := 0, locals := 0 } : Room).cells ({ frames := 0, cells := 0, slots := 0, locals := 0 } : Room).slots) := by
  refine MetFree.of_bodySF (plainFor_of_name pn_0) hisR ?_
  intro p e s m args below meth c s₁ Bd hml0 hP hK
  obtain ⟨rfl, hZ, hh⟩ := hP
  have hx := Bd.exec
  have hby := Bd.bytes
  have hml : c.maxLocals = 1 := hml0
  have hown : s.vm.findClass "com/example/entitygate/entitygate/HtmlTagHasImpliedEndPinLaw" = some m.cls := findClass_of_methodNamed Bd.named
  have hnm := (name_of_methodNamed Bd.named Bd.method).1
  have X0 : Stand p l e ({ frames := 0, cells := 0, slots := 0, locals := 0 } : Room) s m #[(.int (7 : Int32))] below meth c s₁ [] 0 0 := Stand.of_body Bd
  have e0 : s₁.heap = h0 := by rw [← hh, Bd.state]; rfl
  have N0 := Fr.nil n0
  have hret := Bd.returns
  have hlk : meth.locks = false := Bd.notSynchronized
  refine own_start (ef_0 m (7 : Int32)) ?_
  show own_Go p e below s (Q_tag7 Z a h0 n0) ({ frames := 0, cells := 0, slots := 0, locals := 0 } : Room).cells ({ frames := 0, cells := 0, slots := 0, locals := 0 } : Room).slots (s₁.setTop (mkF m 0 #[.val (.int (7 : Int32))] []))
  refine g_iload_n X0 hx 1 (hb hby d_method_2_0) rfl rfl ?_
  refine g_tswIn X0 hx 168 (hb hby d_method_2_1) (by decide) (o := 167) rfl (by decide) (by decide) ?_
  refine own_getS X0 hx hZ hown (host := "") (Or.inl (hw _ (List.mem_of_getElem? (i := 44) rfl))) Via.refl e0 S_RP 171 (hb hby d_method_2_168) rfl fun T8 X8 e8 => ?_
  refine own_retA X8 hx hlk hret rfl rfl (hb hby d_method_2_171) ?_ (by decide) (by decide)
  rw [e8]
  exact ⟨rfl, N0, rfl⟩
theorem d_method_2_172 : decode method_2_code 172 = .ok (.getstatic 34, 3) := by decide +kernel
theorem d_method_2_175 : decode method_2_code 175 = .ok (.areturn, 1) := by decide +kernel
def Q_tag8 (Z : State) (a : Addr) (h0 : Heap) (n0 : Nat) (v : Option Value) (h : Heap) (L : List Loc) : Prop := v = some (.ref a) ∧ Fr n0 L ∧ h = h0
set_option maxRecDepth 65536 in
set_option maxHeartbeats 40000000 in
theorem rm_tag8 (l : Launch) (Z : State) (a0 : Array Value) (hw : ∀ d ∈ tables_1, d.before a0 Z = true) (ws : List Jvm.Cond) (a : Addr) (h0 : Heap) (n0 : Nat) (Z0 : n0 ≤ h0.size) (S_RT : Sta Z h0 "com/example/entitygate/entitygate/HtmlTag" "RT" "Lcom/example/entitygate/entitygate/HtmlTag;" (.ref a)) :
    MetFree l (⟨"com/example/entitygate/entitygate/HtmlTagHasImpliedEndPinLaw", "tag", "(I)Lcom/example/entitygate/entitygate/HtmlTag;"⟩ : MethodName) (head1 (Jvm.Cond.code (⟨"com/example/entitygate/entitygate/HtmlTagHasImpliedEndPinLaw", "tag", "(I)Lcom/example/entitygate/entitygate/HtmlTag;"⟩ : MethodName) method_2_code 1 (some (.object "com/example/entitygate/entitygate/HtmlTag")) :: ws) ({ frames := 0, cells := 0, slots := 0, locals := 0 } : Room)) (fun aA U => aA = #[(.int (8 : Int32))] ∧ Z.Warmed39 U.vm ∧ U.heap = h0) (fun _ _ _ _ _ => True) (fun _ U oO U' => ∃ vV LL, oO = .returned vV ∧ Q_tag8 Z a h0 n0 vV U'.heap LL ∧ FrameEnd U oO U' LL ({ frames := 0, cells := 0, slots := 0, locals := 0 } : Room).cells ({ frames := 0, cells := 0, slots := 0, locals := 0 } : Room).slots) := by
  refine MetFree.of_bodySF (plainFor_of_name pn_0) hisR ?_
  intro p e s m args below meth c s₁ Bd hml0 hP hK
  obtain ⟨rfl, hZ, hh⟩ := hP
  have hx := Bd.exec
  have hby := Bd.bytes
  have hml : c.maxLocals = 1 := hml0
  have hown : s.vm.findClass "com/example/entitygate/entitygate/HtmlTagHasImpliedEndPinLaw" = some m.cls := findClass_of_methodNamed Bd.named
  have hnm := (name_of_methodNamed Bd.named Bd.method).1
  have X0 : Stand p l e ({ frames := 0, cells := 0, slots := 0, locals := 0 } : Room) s m #[(.int (8 : Int32))] below meth c s₁ [] 0 0 := Stand.of_body Bd
  have e0 : s₁.heap = h0 := by rw [← hh, Bd.state]; rfl
  have N0 := Fr.nil n0
  have hret := Bd.returns
  have hlk : meth.locks = false := Bd.notSynchronized
  refine own_start (ef_0 m (8 : Int32)) ?_
  show own_Go p e below s (Q_tag8 Z a h0 n0) ({ frames := 0, cells := 0, slots := 0, locals := 0 } : Room).cells ({ frames := 0, cells := 0, slots := 0, locals := 0 } : Room).slots (s₁.setTop (mkF m 0 #[.val (.int (8 : Int32))] []))
  refine g_iload_n X0 hx 1 (hb hby d_method_2_0) rfl rfl ?_
  refine g_tswIn X0 hx 172 (hb hby d_method_2_1) (by decide) (o := 171) rfl (by decide) (by decide) ?_
  refine own_getS X0 hx hZ hown (host := "") (Or.inl (hw _ (List.mem_of_getElem? (i := 18) rfl))) Via.refl e0 S_RT 175 (hb hby d_method_2_172) rfl fun T9 X9 e9 => ?_
  refine own_retA X9 hx hlk hret rfl rfl (hb hby d_method_2_175) ?_ (by decide) (by decide)
  rw [e9]
  exact ⟨rfl, N0, rfl⟩
theorem d_method_2_176 : decode method_2_code 176 = .ok (.getstatic 37, 3) := by decide +kernel
theorem d_method_2_179 : decode method_2_code 179 = .ok (.areturn, 1) := by decide +kernel
def Q_tag9 (Z : State) (a : Addr) (h0 : Heap) (n0 : Nat) (v : Option Value) (h : Heap) (L : List Loc) : Prop := v = some (.ref a) ∧ Fr n0 L ∧ h = h0
set_option maxRecDepth 65536 in
set_option maxHeartbeats 40000000 in
theorem rm_tag9 (l : Launch) (Z : State) (a0 : Array Value) (hw : ∀ d ∈ tables_1, d.before a0 Z = true) (ws : List Jvm.Cond) (a : Addr) (h0 : Heap) (n0 : Nat) (Z0 : n0 ≤ h0.size) (S_RTC : Sta Z h0 "com/example/entitygate/entitygate/HtmlTag" "RTC" "Lcom/example/entitygate/entitygate/HtmlTag;" (.ref a)) :
    MetFree l (⟨"com/example/entitygate/entitygate/HtmlTagHasImpliedEndPinLaw", "tag", "(I)Lcom/example/entitygate/entitygate/HtmlTag;"⟩ : MethodName) (head1 (Jvm.Cond.code (⟨"com/example/entitygate/entitygate/HtmlTagHasImpliedEndPinLaw", "tag", "(I)Lcom/example/entitygate/entitygate/HtmlTag;"⟩ : MethodName) method_2_code 1 (some (.object "com/example/entitygate/entitygate/HtmlTag")) :: ws) ({ frames := 0, cells := 0, slots := 0, locals := 0 } : Room)) (fun aA U => aA = #[(.int (9 : Int32))] ∧ Z.Warmed39 U.vm ∧ U.heap = h0) (fun _ _ _ _ _ => True) (fun _ U oO U' => ∃ vV LL, oO = .returned vV ∧ Q_tag9 Z a h0 n0 vV U'.heap LL ∧ FrameEnd U oO U' LL ({ frames := 0, cells := 0, slots := 0, locals := 0 } : Room).cells ({ frames := 0, cells := 0, slots := 0, locals := 0 } : Room).slots) := by
  refine MetFree.of_bodySF (plainFor_of_name pn_0) hisR ?_
  intro p e s m args below meth c s₁ Bd hml0 hP hK
  obtain ⟨rfl, hZ, hh⟩ := hP
  have hx := Bd.exec
  have hby := Bd.bytes
  have hml : c.maxLocals = 1 := hml0
  have hown : s.vm.findClass "com/example/entitygate/entitygate/HtmlTagHasImpliedEndPinLaw" = some m.cls := findClass_of_methodNamed Bd.named
  have hnm := (name_of_methodNamed Bd.named Bd.method).1
  have X0 : Stand p l e ({ frames := 0, cells := 0, slots := 0, locals := 0 } : Room) s m #[(.int (9 : Int32))] below meth c s₁ [] 0 0 := Stand.of_body Bd
  have e0 : s₁.heap = h0 := by rw [← hh, Bd.state]; rfl
  have N0 := Fr.nil n0
  have hret := Bd.returns
  have hlk : meth.locks = false := Bd.notSynchronized
  refine own_start (ef_0 m (9 : Int32)) ?_
  show own_Go p e below s (Q_tag9 Z a h0 n0) ({ frames := 0, cells := 0, slots := 0, locals := 0 } : Room).cells ({ frames := 0, cells := 0, slots := 0, locals := 0 } : Room).slots (s₁.setTop (mkF m 0 #[.val (.int (9 : Int32))] []))
  refine g_iload_n X0 hx 1 (hb hby d_method_2_0) rfl rfl ?_
  refine g_tswIn X0 hx 176 (hb hby d_method_2_1) (by decide) (o := 175) rfl (by decide) (by decide) ?_
  refine own_getS X0 hx hZ hown (host := "") (Or.inl (hw _ (List.mem_of_getElem? (i := 54) rfl))) Via.refl e0 S_RTC 179 (hb hby d_method_2_176) rfl fun T10 X10 e10 => ?_
  refine own_retA X10 hx hlk hret rfl rfl (hb hby d_method_2_179) ?_ (by decide) (by decide)
  rw [e10]
  exact ⟨rfl, N0, rfl⟩
theorem d_method_2_180 : decode method_2_code 180 = .ok (.getstatic 40, 3) := by decide +kernel
theorem d_method_2_183 : decode method_2_code 183 = .ok (.areturn, 1) := by decide +kernel
def Q_tag10 (Z : State) (a : Addr) (h0 : Heap) (n0 : Nat) (v : Option Value) (h : Heap) (L : List Loc) : Prop := v = some (.ref a) ∧ Fr n0 L ∧ h = h0
set_option maxRecDepth 65536 in
set_option maxHeartbeats 40000000 in
theorem rm_tag10 (l : Launch) (Z : State) (a0 : Array Value) (hw : ∀ d ∈ tables_1, d.before a0 Z = true) (ws : List Jvm.Cond) (a : Addr) (h0 : Heap) (n0 : Nat) (Z0 : n0 ≤ h0.size) (S_CAPTION : Sta Z h0 "com/example/entitygate/entitygate/HtmlTag" "CAPTION" "Lcom/example/entitygate/entitygate/HtmlTag;" (.ref a)) :
    MetFree l (⟨"com/example/entitygate/entitygate/HtmlTagHasImpliedEndPinLaw", "tag", "(I)Lcom/example/entitygate/entitygate/HtmlTag;"⟩ : MethodName) (head1 (Jvm.Cond.code (⟨"com/example/entitygate/entitygate/HtmlTagHasImpliedEndPinLaw", "tag", "(I)Lcom/example/entitygate/entitygate/HtmlTag;"⟩ : MethodName) method_2_code 1 (some (.object "com/example/entitygate/entitygate/HtmlTag")) :: ws) ({ frames := 0, cells := 0, slots := 0, locals := 0 } : Room)) (fun aA U => aA = #[(.int (10 : Int32))] ∧ Z.Warmed39 U.vm ∧ U.heap = h0) (fun _ _ _ _ _ => True) (fun _ U oO U' => ∃ vV LL, oO = .returned vV ∧ Q_tag10 Z a h0 n0 vV U'.heap LL ∧ FrameEnd U oO U' LL ({ frames := 0, cells := 0, slots := 0, locals := 0 } : Room).cells ({ frames := 0, cells := 0, slots := 0, locals := 0 } : Room).slots) := by
  refine MetFree.of_bodySF (plainFor_of_name pn_0) hisR ?_
  intro p e s m args below meth c s₁ Bd hml0 hP hK
  obtain ⟨rfl, hZ, hh⟩ := hP
  have hx := Bd.exec
  have hby := Bd.bytes
  have hml : c.maxLocals = 1 := hml0
  have hown : s.vm.findClass "com/example/entitygate/entitygate/HtmlTagHasImpliedEndPinLaw" = some m.cls := findClass_of_methodNamed Bd.named
  have hnm := (name_of_methodNamed Bd.named Bd.method).1
  have X0 : Stand p l e ({ frames := 0, cells := 0, slots := 0, locals := 0 } : Room) s m #[(.int (10 : Int32))] below meth c s₁ [] 0 0 := Stand.of_body Bd
  have e0 : s₁.heap = h0 := by rw [← hh, Bd.state]; rfl
  have N0 := Fr.nil n0
  have hret := Bd.returns
  have hlk : meth.locks = false := Bd.notSynchronized
  refine own_start (ef_0 m (10 : Int32)) ?_
  show own_Go p e below s (Q_tag10 Z a h0 n0) ({ frames := 0, cells := 0, slots := 0, locals := 0 } : Room).cells ({ frames := 0, cells := 0, slots := 0, locals := 0 } : Room).slots (s₁.setTop (mkF m 0 #[.val (.int (10 : Int32))] []))
  refine g_iload_n X0 hx 1 (hb hby d_method_2_0) rfl rfl ?_
  refine g_tswIn X0 hx 180 (hb hby d_method_2_1) (by decide) (o := 179) rfl (by decide) (by decide) ?_
  refine own_getS X0 hx hZ hown (host := "") (Or.inl (hw _ (List.mem_of_getElem? (i := 46) rfl))) Via.refl e0 S_CAPTION 183 (hb hby d_method_2_180) rfl fun T11 X11 e11 => ?_
  refine own_retA X11 hx hlk hret rfl rfl (hb hby d_method_2_183) ?_ (by decide) (by decide)
  rw [e11]
  exact ⟨rfl, N0, rfl⟩
theorem d_method_2_184 : decode method_2_code 184 = .ok (.getstatic 43, 3) := by decide +kernel
theorem d_method_2_187 : decode method_2_code 187 = .ok (.areturn, 1) := by decide +kernel
def Q_tag11 (Z : State) (a : Addr) (h0 : Heap) (n0 : Nat) (v : Option Value) (h : Heap) (L : List Loc) : Prop := v = some (.ref a) ∧ Fr n0 L ∧ h = h0
set_option maxRecDepth 65536 in
set_option maxHeartbeats 40000000 in
theorem rm_tag11 (l : Launch) (Z : State) (a0 : Array Value) (hw : ∀ d ∈ tables_1, d.before a0 Z = true) (ws : List Jvm.Cond) (a : Addr) (h0 : Heap) (n0 : Nat) (Z0 : n0 ≤ h0.size) (S_COLGROUP : Sta Z h0 "com/example/entitygate/entitygate/HtmlTag" "COLGROUP" "Lcom/example/entitygate/entitygate/HtmlTag;" (.ref a)) :
    MetFree l (⟨"com/example/entitygate/entitygate/HtmlTagHasImpliedEndPinLaw", "tag", "(I)Lcom/example/entitygate/entitygate/HtmlTag;"⟩ : MethodName) (head1 (Jvm.Cond.code (⟨"com/example/entitygate/entitygate/HtmlTagHasImpliedEndPinLaw", "tag", "(I)Lcom/example/entitygate/entitygate/HtmlTag;"⟩ : MethodName) method_2_code 1 (some (.object "com/example/entitygate/entitygate/HtmlTag")) :: ws) ({ frames := 0, cells := 0, slots := 0, locals := 0 } : Room)) (fun aA U => aA = #[(.int (11 : Int32))] ∧ Z.Warmed39 U.vm ∧ U.heap = h0) (fun _ _ _ _ _ => True) (fun _ U oO U' => ∃ vV LL, oO = .returned vV ∧ Q_tag11 Z a h0 n0 vV U'.heap LL ∧ FrameEnd U oO U' LL ({ frames := 0, cells := 0, slots := 0, locals := 0 } : Room).cells ({ frames := 0, cells := 0, slots := 0, locals := 0 } : Room).slots) := by
  refine MetFree.of_bodySF (plainFor_of_name pn_0) hisR ?_
  intro p e s m args below meth c s₁ Bd hml0 hP hK
  obtain ⟨rfl, hZ, hh⟩ := hP
  have hx := Bd.exec
  have hby := Bd.bytes
  have hml : c.maxLocals = 1 := hml0
  have hown : s.vm.findClass "com/example/entitygate/entitygate/HtmlTagHasImpliedEndPinLaw" = some m.cls := findClass_of_methodNamed Bd.named
  have hnm := (name_of_methodNamed Bd.named Bd.method).1
  have X0 : Stand p l e ({ frames := 0, cells := 0, slots := 0, locals := 0 } : Room) s m #[(.int (11 : Int32))] below meth c s₁ [] 0 0 := Stand.of_body Bd
  have e0 : s₁.heap = h0 := by rw [← hh, Bd.state]; rfl
  have N0 := Fr.nil n0
  have hret := Bd.returns
  have hlk : meth.locks = false := Bd.notSynchronized
  refine own_start (ef_0 m (11 : Int32)) ?_
  show own_Go p e below s (Q_tag11 Z a h0 n0) ({ frames := 0, cells := 0, slots := 0, locals := 0 } : Room).cells ({ frames := 0, cells := 0, slots := 0, locals := 0 } : Room).slots (s₁.setTop (mkF m 0 #[.val (.int (11 : Int32))] []))
  refine g_iload_n X0 hx 1 (hb hby d_method_2_0) rfl rfl ?_
  refine g_tswIn X0 hx 184 (hb hby d_method_2_1) (by decide) (o := 183) rfl (by decide) (by decide) ?_
  refine own_getS X0 hx hZ hown (host := "") (Or.inl (hw _ (List.mem_of_getElem? (i := 50) rfl))) Via.refl e0 S_COLGROUP 187 (hb hby d_method_2_184) rfl fun T12 X12 e12 => ?_
  refine own_retA X12 hx hlk hret rfl rfl (hb hby d_method_2_187) ?_ (by decide) (by decide)
  rw [e12]
  exact ⟨rfl, N0, rfl⟩
theorem d_method_2_188 : decode method_2_code 188 = .ok (.getstatic 46, 3) := by decide +kernel
theorem d_method_2_191 : decode method_2_code 191 = .ok (.areturn, 1) := by decide +kernel
def Q_tag12 (Z : State) (a : Addr) (h0 : Heap) (n0 : Nat) (v : Option Value) (h : Heap) (L : List Loc) : Prop := v = some (.ref a) ∧ Fr n0 L ∧ h = h0
set_option maxRecDepth 65536 in
set_option maxHeartbeats 40000000 in
theorem rm_tag12 (l : Launch) (Z : State) (a0 : Array Value) (hw : ∀ d ∈ tables_1, d.before a0 Z = true) (ws : List Jvm.Cond) (a : Addr) (h0 : Heap) (n0 : Nat) (Z0 : n0 ≤ h0.size) (S_TBODY : Sta Z h0 "com/example/entitygate/entitygate/HtmlTag" "TBODY" "Lcom/example/entitygate/entitygate/HtmlTag;" (.ref a)) :
    MetFree l (⟨"com/example/entitygate/entitygate/HtmlTagHasImpliedEndPinLaw", "tag", "(I)Lcom/example/entitygate/entitygate/HtmlTag;"⟩ : MethodName) (head1 (Jvm.Cond.code (⟨"com/example/entitygate/entitygate/HtmlTagHasImpliedEndPinLaw", "tag", "(I)Lcom/example/entitygate/entitygate/HtmlTag;"⟩ : MethodName) method_2_code 1 (some (.object "com/example/entitygate/entitygate/HtmlTag")) :: ws) ({ frames := 0, cells := 0, slots := 0, locals := 0 } : Room)) (fun aA U => aA = #[(.int (12 : Int32))] ∧ Z.Warmed39 U.vm ∧ U.heap = h0) (fun _ _ _ _ _ => True) (fun _ U oO U' => ∃ vV LL, oO = .returned vV ∧ Q_tag12 Z a h0 n0 vV U'.heap LL ∧ FrameEnd U oO U' LL ({ frames := 0, cells := 0, slots := 0, locals := 0 } : Room).cells ({ frames := 0, cells := 0, slots := 0, locals := 0 } : Room).slots) := by
  refine MetFree.of_bodySF (plainFor_of_name pn_0) hisR ?_
  intro p e s m args below meth c s₁ Bd hml0 hP hK
  obtain ⟨rfl, hZ, hh⟩ := hP
  have hx := Bd.exec
  have hby := Bd.bytes
  have hml : c.maxLocals = 1 := hml0
  have hown : s.vm.findClass "com/example/entitygate/entitygate/HtmlTagHasImpliedEndPinLaw" = some m.cls := findClass_of_methodNamed Bd.named
  have hnm := (name_of_methodNamed Bd.named Bd.method).1
  have X0 : Stand p l e ({ frames := 0, cells := 0, slots := 0, locals := 0 } : Room) s m #[(.int (12 : Int32))] below meth c s₁ [] 0 0 := Stand.of_body Bd
  have e0 : s₁.heap = h0 := by rw [← hh, Bd.state]; rfl
  have N0 := Fr.nil n0
  have hret := Bd.returns
  have hlk : meth.locks = false := Bd.notSynchronized
  refine own_start (ef_0 m (12 : Int32)) ?_
  show own_Go p e below s (Q_tag12 Z a h0 n0) ({ frames := 0, cells := 0, slots := 0, locals := 0 } : Room).cells ({ frames := 0, cells := 0, slots := 0, locals := 0 } : Room).slots (s₁.setTop (mkF m 0 #[.val (.int (12 : Int32))] []))
  refine g_iload_n X0 hx 1 (hb hby d_method_2_0) rfl rfl ?_
  refine g_tswIn X0 hx 188 (hb hby d_method_2_1) (by decide) (o := 187) rfl (by decide) (by decide) ?_
  refine own_getS X0 hx hZ hown (host := "") (Or.inl (hw _ (List.mem_of_getElem? (i := 16) rfl))) Via.refl e0 S_TBODY 191 (hb hby d_method_2_188) rfl fun T13 X13 e13 => ?_
  refine own_retA X13 hx hlk hret rfl rfl (hb hby d_method_2_191) ?_ (by decide) (by decide)
  rw [e13]
  exact ⟨rfl, N0, rfl⟩
theorem d_method_2_192 : decode method_2_code 192 = .ok (.getstatic 49, 3) := by decide +kernel
theorem d_method_2_195 : decode method_2_code 195 = .ok (.areturn, 1) := by decide +kernel
def Q_tag13 (Z : State) (a : Addr) (h0 : Heap) (n0 : Nat) (v : Option Value) (h : Heap) (L : List Loc) : Prop := v = some (.ref a) ∧ Fr n0 L ∧ h = h0
set_option maxRecDepth 65536 in
set_option maxHeartbeats 40000000 in
theorem rm_tag13 (l : Launch) (Z : State) (a0 : Array Value) (hw : ∀ d ∈ tables_1, d.before a0 Z = true) (ws : List Jvm.Cond) (a : Addr) (h0 : Heap) (n0 : Nat) (Z0 : n0 ≤ h0.size) (S_TD : Sta Z h0 "com/example/entitygate/entitygate/HtmlTag" "TD" "Lcom/example/entitygate/entitygate/HtmlTag;" (.ref a)) :
    MetFree l (⟨"com/example/entitygate/entitygate/HtmlTagHasImpliedEndPinLaw", "tag", "(I)Lcom/example/entitygate/entitygate/HtmlTag;"⟩ : MethodName) (head1 (Jvm.Cond.code (⟨"com/example/entitygate/entitygate/HtmlTagHasImpliedEndPinLaw", "tag", "(I)Lcom/example/entitygate/entitygate/HtmlTag;"⟩ : MethodName) method_2_code 1 (some (.object "com/example/entitygate/entitygate/HtmlTag")) :: ws) ({ frames := 0, cells := 0, slots := 0, locals := 0 } : Room)) (fun aA U => aA = #[(.int (13 : Int32))] ∧ Z.Warmed39 U.vm ∧ U.heap = h0) (fun _ _ _ _ _ => True) (fun _ U oO U' => ∃ vV LL, oO = .returned vV ∧ Q_tag13 Z a h0 n0 vV U'.heap LL ∧ FrameEnd U oO U' LL ({ frames := 0, cells := 0, slots := 0, locals := 0 } : Room).cells ({ frames := 0, cells := 0, slots := 0, locals := 0 } : Room).slots) := by
  refine MetFree.of_bodySF (plainFor_of_name pn_0) hisR ?_
  intro p e s m args below meth c s₁ Bd hml0 hP hK
  obtain ⟨rfl, hZ, hh⟩ := hP
  have hx := Bd.exec
  have hby := Bd.bytes
  have hml : c.maxLocals = 1 := hml0
  have hown : s.vm.findClass "com/example/entitygate/entitygate/HtmlTagHasImpliedEndPinLaw" = some m.cls := findClass_of_methodNamed Bd.named
  have hnm := (name_of_methodNamed Bd.named Bd.method).1
  have X0 : Stand p l e ({ frames := 0, cells := 0, slots := 0, locals := 0 } : Room) s m #[(.int (13 : Int32))] below meth c s₁ [] 0 0 := Stand.of_body Bd
  have e0 : s₁.heap = h0 := by rw [← hh, Bd.state]; rfl
  have N0 := Fr.nil n0
  have hret := Bd.returns
  have hlk : meth.locks = false := Bd.notSynchronized
  refine own_start (ef_0 m (13 : Int32)) ?_
  show own_Go p e below s (Q_tag13 Z a h0 n0) ({ frames := 0, cells := 0, slots := 0, locals := 0 } : Room).cells ({ frames := 0, cells := 0, slots := 0, locals := 0 } : Room).slots (s₁.setTop (mkF m 0 #[.val (.int (13 : Int32))] []))
  refine g_iload_n X0 hx 1 (hb hby d_method_2_0) rfl rfl ?_
  refine g_tswIn X0 hx 192 (hb hby d_method_2_1) (by decide) (o := 191) rfl (by decide) (by decide) ?_
  refine own_getS X0 hx hZ hown (host := "") (Or.inl (hw _ (List.mem_of_getElem? (i := 20) rfl))) Via.refl e0 S_TD 195 (hb hby d_method_2_192) rfl fun T14 X14 e14 => ?_
  refine own_retA X14 hx hlk hret rfl rfl (hb hby d_method_2_195) ?_ (by decide) (by decide)
  rw [e14]
  exact ⟨rfl, N0, rfl⟩
theorem d_method_2_196 : decode method_2_code 196 = .ok (.getstatic 52, 3) := by decide +kernel
theorem d_method_2_199 : decode method_2_code 199 = .ok (.areturn, 1) := by decide +kernel
def Q_tag14 (Z : State) (a : Addr) (h0 : Heap) (n0 : Nat) (v : Option Value) (h : Heap) (L : List Loc) : Prop := v = some (.ref a) ∧ Fr n0 L ∧ h = h0
set_option maxRecDepth 65536 in
set_option maxHeartbeats 40000000 in
theorem rm_tag14 (l : Launch) (Z : State) (a0 : Array Value) (hw : ∀ d ∈ tables_1, d.before a0 Z = true) (ws : List Jvm.Cond) (a : Addr) (h0 : Heap) (n0 : Nat) (Z0 : n0 ≤ h0.size) (S_TFOOT : Sta Z h0 "com/example/entitygate/entitygate/HtmlTag" "TFOOT" "Lcom/example/entitygate/entitygate/HtmlTag;" (.ref a)) :
    MetFree l (⟨"com/example/entitygate/entitygate/HtmlTagHasImpliedEndPinLaw", "tag", "(I)Lcom/example/entitygate/entitygate/HtmlTag;"⟩ : MethodName) (head1 (Jvm.Cond.code (⟨"com/example/entitygate/entitygate/HtmlTagHasImpliedEndPinLaw", "tag", "(I)Lcom/example/entitygate/entitygate/HtmlTag;"⟩ : MethodName) method_2_code 1 (some (.object "com/example/entitygate/entitygate/HtmlTag")) :: ws) ({ frames := 0, cells := 0, slots := 0, locals := 0 } : Room)) (fun aA U => aA = #[(.int (14 : Int32))] ∧ Z.Warmed39 U.vm ∧ U.heap = h0) (fun _ _ _ _ _ => True) (fun _ U oO U' => ∃ vV LL, oO = .returned vV ∧ Q_tag14 Z a h0 n0 vV U'.heap LL ∧ FrameEnd U oO U' LL ({ frames := 0, cells := 0, slots := 0, locals := 0 } : Room).cells ({ frames := 0, cells := 0, slots := 0, locals := 0 } : Room).slots) := by
  refine MetFree.of_bodySF (plainFor_of_name pn_0) hisR ?_
  intro p e s m args below meth c s₁ Bd hml0 hP hK
  obtain ⟨rfl, hZ, hh⟩ := hP
  have hx := Bd.exec
  have hby := Bd.bytes
  have hml : c.maxLocals = 1 := hml0
  have hown : s.vm.findClass "com/example/entitygate/entitygate/HtmlTagHasImpliedEndPinLaw" = some m.cls := findClass_of_methodNamed Bd.named
  have hnm := (name_of_methodNamed Bd.named Bd.method).1
  have X0 : Stand p l e ({ frames := 0, cells := 0, slots := 0, locals := 0 } : Room) s m #[(.int (14 : Int32))] below meth c s₁ [] 0 0 := Stand.of_body Bd
  have e0 : s₁.heap = h0 := by rw [← hh, Bd.state]; rfl
  have N0 := Fr.nil n0
  have hret := Bd.returns
  have hlk : meth.locks = false := Bd.notSynchronized
  refine own_start (ef_0 m (14 : Int32)) ?_
  show own_Go p e below s (Q_tag14 Z a h0 n0) ({ frames := 0, cells := 0, slots := 0, locals := 0 } : Room).cells ({ frames := 0, cells := 0, slots := 0, locals := 0 } : Room).slots (s₁.setTop (mkF m 0 #[.val (.int (14 : Int32))] []))
  refine g_iload_n X0 hx 1 (hb hby d_method_2_0) rfl rfl ?_
  refine g_tswIn X0 hx 196 (hb hby d_method_2_1) (by decide) (o := 195) rfl (by decide) (by decide) ?_
  refine own_getS X0 hx hZ hown (host := "") (Or.inl (hw _ (List.mem_of_getElem? (i := 14) rfl))) Via.refl e0 S_TFOOT 199 (hb hby d_method_2_196) rfl fun T15 X15 e15 => ?_
  refine own_retA X15 hx hlk hret rfl rfl (hb hby d_method_2_199) ?_ (by decide) (by decide)
  rw [e15]
  exact ⟨rfl, N0, rfl⟩
theorem d_method_2_200 : decode method_2_code 200 = .ok (.getstatic 55, 3) := by decide +kernel
theorem d_method_2_203 : decode method_2_code 203 = .ok (.areturn, 1) := by decide +kernel
def Q_tag15 (Z : State) (a : Addr) (h0 : Heap) (n0 : Nat) (v : Option Value) (h : Heap) (L : List Loc) : Prop := v = some (.ref a) ∧ Fr n0 L ∧ h = h0
set_option maxRecDepth 65536 in
set_option maxHeartbeats 40000000 in
theorem rm_tag15 (l : Launch) (Z : State) (a0 : Array Value) (hw : ∀ d ∈ tables_1, d.before a0 Z = true) (ws : List Jvm.Cond) (a : Addr) (h0 : Heap) (n0 : Nat) (Z0 : n0 ≤ h0.size) (S_TH : Sta Z h0 "com/example/entitygate/entitygate/HtmlTag" "TH" "Lcom/example/entitygate/entitygate/HtmlTag;" (.ref a)) :
    MetFree l (⟨"com/example/entitygate/entitygate/HtmlTagHasImpliedEndPinLaw", "tag", "(I)Lcom/example/entitygate/entitygate/HtmlTag;"⟩ : MethodName) (head1 (Jvm.Cond.code (⟨"com/example/entitygate/entitygate/HtmlTagHasImpliedEndPinLaw", "tag", "(I)Lcom/example/entitygate/entitygate/HtmlTag;"⟩ : MethodName) method_2_code 1 (some (.object "com/example/entitygate/entitygate/HtmlTag")) :: ws) ({ frames := 0, cells := 0, slots := 0, locals := 0 } : Room)) (fun aA U => aA = #[(.int (15 : Int32))] ∧ Z.Warmed39 U.vm ∧ U.heap = h0) (fun _ _ _ _ _ => True) (fun _ U oO U' => ∃ vV LL, oO = .returned vV ∧ Q_tag15 Z a h0 n0 vV U'.heap LL ∧ FrameEnd U oO U' LL ({ frames := 0, cells := 0, slots := 0, locals := 0 } : Room).cells ({ frames := 0, cells := 0, slots := 0, locals := 0 } : Room).slots) := by
  refine MetFree.of_bodySF (plainFor_of_name pn_0) hisR ?_
  intro p e s m args below meth c s₁ Bd hml0 hP hK
  obtain ⟨rfl, hZ, hh⟩ := hP
  have hx := Bd.exec
  have hby := Bd.bytes
  have hml : c.maxLocals = 1 := hml0
  have hown : s.vm.findClass "com/example/entitygate/entitygate/HtmlTagHasImpliedEndPinLaw" = some m.cls := findClass_of_methodNamed Bd.named
  have hnm := (name_of_methodNamed Bd.named Bd.method).1
  have X0 : Stand p l e ({ frames := 0, cells := 0, slots := 0, locals := 0 } : Room) s m #[(.int (15 : Int32))] below meth c s₁ [] 0 0 := Stand.of_body Bd
  have e0 : s₁.heap = h0 := by rw [← hh, Bd.state]; rfl
  have N0 := Fr.nil n0
  have hret := Bd.returns
  have hlk : meth.locks = false := Bd.notSynchronized
  refine own_start (ef_0 m (15 : Int32)) ?_
  show own_Go p e below s (Q_tag15 Z a h0 n0) ({ frames := 0, cells := 0, slots := 0, locals := 0 } : Room).cells ({ frames := 0, cells := 0, slots := 0, locals := 0 } : Room).slots (s₁.setTop (mkF m 0 #[.val (.int (15 : Int32))] []))
  refine g_iload_n X0 hx 1 (hb hby d_method_2_0) rfl rfl ?_
  refine g_tswIn X0 hx 200 (hb hby d_method_2_1) (by decide) (o := 199) rfl (by decide) (by decide) ?_
  refine own_getS X0 hx hZ hown (host := "") (Or.inl (hw _ (List.mem_of_getElem? (i := 64) rfl))) Via.refl e0 S_TH 203 (hb hby d_method_2_200) rfl fun T16 X16 e16 => ?_
  refine own_retA X16 hx hlk hret rfl rfl (hb hby d_method_2_203) ?_ (by decide) (by decide)
  rw [e16]
  exact ⟨rfl, N0, rfl⟩
theorem d_method_2_204 : decode method_2_code 204 = .ok (.getstatic 58, 3) := by decide +kernel
theorem d_method_2_207 : decode method_2_code 207 = .ok (.areturn, 1) := by decide +kernel
def Q_tag16 (Z : State) (a : Addr) (h0 : Heap) (n0 : Nat) (v : Option Value) (h : Heap) (L : List Loc) : Prop := v = some (.ref a) ∧ Fr n0 L ∧ h = h0
set_option maxRecDepth 65536 in
set_option maxHeartbeats 40000000 in
theorem rm_tag16 (l : Launch) (Z : State) (a0 : Array Value) (hw : ∀ d ∈ tables_1, d.before a0 Z = true) (ws : List Jvm.Cond) (a : Addr) (h0 : Heap) (n0 : Nat) (Z0 : n0 ≤ h0.size) (S_THEAD : Sta Z h0 "com/example/entitygate/entitygate/HtmlTag" "THEAD" "Lcom/example/entitygate/entitygate/HtmlTag;" (.ref a)) :
    MetFree l (⟨"com/example/entitygate/entitygate/HtmlTagHasImpliedEndPinLaw", "tag", "(I)Lcom/example/entitygate/entitygate/HtmlTag;"⟩ : MethodName) (head1 (Jvm.Cond.code (⟨"com/example/entitygate/entitygate/HtmlTagHasImpliedEndPinLaw", "tag", "(I)Lcom/example/entitygate/entitygate/HtmlTag;"⟩ : MethodName) method_2_code 1 (some (.object "com/example/entitygate/entitygate/HtmlTag")) :: ws) ({ frames := 0, cells := 0, slots := 0, locals := 0 } : Room)) (fun aA U => aA = #[(.int (16 : Int32))] ∧ Z.Warmed39 U.vm ∧ U.heap = h0) (fun _ _ _ _ _ => True) (fun _ U oO U' => ∃ vV LL, oO = .returned vV ∧ Q_tag16 Z a h0 n0 vV U'.heap LL ∧ FrameEnd U oO U' LL ({ frames := 0, cells := 0, slots := 0, locals := 0 } : Room).cells ({ frames := 0, cells := 0, slots := 0, locals := 0 } : Room).slots) := by
  refine MetFree.of_bodySF (plainFor_of_name pn_0) hisR ?_
  intro p e s m args below meth c s₁ Bd hml0 hP hK
  obtain ⟨rfl, hZ, hh⟩ := hP
  have hx := Bd.exec
  have hby := Bd.bytes
  have hml : c.maxLocals = 1 := hml0
  have hown : s.vm.findClass "com/example/entitygate/entitygate/HtmlTagHasImpliedEndPinLaw" = some m.cls := findClass_of_methodNamed Bd.named
  have hnm := (name_of_methodNamed Bd.named Bd.method).1
  have X0 : Stand p l e ({ frames := 0, cells := 0, slots := 0, locals := 0 } : Room) s m #[(.int (16 : Int32))] below meth c s₁ [] 0 0 := Stand.of_body Bd
  have e0 : s₁.heap = h0 := by rw [← hh, Bd.state]; rfl
  have N0 := Fr.nil n0
  have hret := Bd.returns
  have hlk : meth.locks = false := Bd.notSynchronized
  refine own_start (ef_0 m (16 : Int32)) ?_
  show own_Go p e below s (Q_tag16 Z a h0 n0) ({ frames := 0, cells := 0, slots := 0, locals := 0 } : Room).cells ({ frames := 0, cells := 0, slots := 0, locals := 0 } : Room).slots (s₁.setTop (mkF m 0 #[.val (.int (16 : Int32))] []))
  refine g_iload_n X0 hx 1 (hb hby d_method_2_0) rfl rfl ?_
  refine g_tswIn X0 hx 204 (hb hby d_method_2_1) (by decide) (o := 203) rfl (by decide) (by decide) ?_
  refine own_getS X0 hx hZ hown (host := "") (Or.inl (hw _ (List.mem_of_getElem? (i := 52) rfl))) Via.refl e0 S_THEAD 207 (hb hby d_method_2_204) rfl fun T17 X17 e17 => ?_
  refine own_retA X17 hx hlk hret rfl rfl (hb hby d_method_2_207) ?_ (by decide) (by decide)
  rw [e17]
  exact ⟨rfl, N0, rfl⟩
theorem d_method_2_208 : decode method_2_code 208 = .ok (.getstatic 61, 3) := by decide +kernel
theorem d_method_2_211 : decode method_2_code 211 = .ok (.areturn, 1) := by decide +kernel
def Q_tag17 (Z : State) (a : Addr) (h0 : Heap) (n0 : Nat) (v : Option Value) (h : Heap) (L : List Loc) : Prop := v = some (.ref a) ∧ Fr n0 L ∧ h = h0
set_option maxRecDepth 65536 in
set_option maxHeartbeats 40000000 in
theorem rm_tag17 (l : Launch) (Z : State) (a0 : Array Value) (hw : ∀ d ∈ tables_1, d.before a0 Z = true) (ws : List Jvm.Cond) (a : Addr) (h0 : Heap) (n0 : Nat) (Z0 : n0 ≤ h0.size) (S_TR : Sta Z h0 "com/example/entitygate/entitygate/HtmlTag" "TR" "Lcom/example/entitygate/entitygate/HtmlTag;" (.ref a)) :
    MetFree l (⟨"com/example/entitygate/entitygate/HtmlTagHasImpliedEndPinLaw", "tag", "(I)Lcom/example/entitygate/entitygate/HtmlTag;"⟩ : MethodName) (head1 (Jvm.Cond.code (⟨"com/example/entitygate/entitygate/HtmlTagHasImpliedEndPinLaw", "tag", "(I)Lcom/example/entitygate/entitygate/HtmlTag;"⟩ : MethodName) method_2_code 1 (some (.object "com/example/entitygate/entitygate/HtmlTag")) :: ws) ({ frames := 0, cells := 0, slots := 0, locals := 0 } : Room)) (fun aA U => aA = #[(.int (17 : Int32))] ∧ Z.Warmed39 U.vm ∧ U.heap = h0) (fun _ _ _ _ _ => True) (fun _ U oO U' => ∃ vV LL, oO = .returned vV ∧ Q_tag17 Z a h0 n0 vV U'.heap LL ∧ FrameEnd U oO U' LL ({ frames := 0, cells := 0, slots := 0, locals := 0 } : Room).cells ({ frames := 0, cells := 0, slots := 0, locals := 0 } : Room).slots) := by
  refine MetFree.of_bodySF (plainFor_of_name pn_0) hisR ?_
  intro p e s m args below meth c s₁ Bd hml0 hP hK
  obtain ⟨rfl, hZ, hh⟩ := hP
  have hx := Bd.exec
  have hby := Bd.bytes
  have hml : c.maxLocals = 1 := hml0
  have hown : s.vm.findClass "com/example/entitygate/entitygate/HtmlTagHasImpliedEndPinLaw" = some m.cls := findClass_of_methodNamed Bd.named
  have hnm := (name_of_methodNamed Bd.named Bd.method).1
  have X0 : Stand p l e ({ frames := 0, cells := 0, slots := 0, locals := 0 } : Room) s m #[(.int (17 : Int32))] below meth c s₁ [] 0 0 := Stand.of_body Bd
  have e0 : s₁.heap = h0 := by rw [← hh, Bd.state]; rfl
  have N0 := Fr.nil n0
  have hret := Bd.returns
  have hlk : meth.locks = false := Bd.notSynchronized
  refine own_start (ef_0 m (17 : Int32)) ?_
  show own_Go p e below s (Q_tag17 Z a h0 n0) ({ frames := 0, cells := 0, slots := 0, locals := 0 } : Room).cells ({ frames := 0, cells := 0, slots := 0, locals := 0 } : Room).slots (s₁.setTop (mkF m 0 #[.val (.int (17 : Int32))] []))
  refine g_iload_n X0 hx 1 (hb hby d_method_2_0) rfl rfl ?_
  refine g_tswIn X0 hx 208 (hb hby d_method_2_1) (by decide) (o := 207) rfl (by decide) (by decide) ?_
  refine own_getS X0 hx hZ hown (host := "") (Or.inl (hw _ (List.mem_of_getElem? (i := 30) rfl))) Via.refl e0 S_TR 211 (hb hby d_method_2_208) rfl fun T18 X18 e18 => ?_
  refine own_retA X18 hx hlk hret rfl rfl (hb hby d_method_2_211) ?_ (by decide) (by decide)
  rw [e18]
  exact ⟨rfl, N0, rfl⟩
theorem d_method_2_212 : decode method_2_code 212 = .ok (.getstatic 64, 3) := by decide +kernel
theorem d_method_2_215 : decode method_2_code 215 = .ok (.areturn, 1) := by decide +kernel
def Q_tag18 (Z : State) (a : Addr) (h0 : Heap) (n0 : Nat) (v : Option Value) (h : Heap) (L : List Loc) : Prop := v = some (.ref a) ∧ Fr n0 L ∧ h = h0
set_option maxRecDepth 65536 in
set_option maxHeartbeats 40000000 in
theorem rm_tag18 (l : Launch) (Z : State) (a0 : Array Value) (hw : ∀ d ∈ tables_1, d.before a0 Z = true) (ws : List Jvm.Cond) (a : Addr) (h0 : Heap) (n0 : Nat) (Z0 : n0 ≤ h0.size) (S_A : Sta Z h0 "com/example/entitygate/entitygate/HtmlTag" "A" "Lcom/example/entitygate/entitygate/HtmlTag;" (.ref a)) :
    MetFree l (⟨"com/example/entitygate/entitygate/HtmlTagHasImpliedEndPinLaw", "tag", "(I)Lcom/example/entitygate/entitygate/HtmlTag;"⟩ : MethodName) (head1 (Jvm.Cond.code (⟨"com/example/entitygate/entitygate/HtmlTagHasImpliedEndPinLaw", "tag", "(I)Lcom/example/entitygate/entitygate/HtmlTag;"⟩ : MethodName) method_2_code 1 (some (.object "com/example/entitygate/entitygate/HtmlTag")) :: ws) ({ frames := 0, cells := 0, slots := 0, locals := 0 } : Room)) (fun aA U => aA = #[(.int (18 : Int32))] ∧ Z.Warmed39 U.vm ∧ U.heap = h0) (fun _ _ _ _ _ => True) (fun _ U oO U' => ∃ vV LL, oO = .returned vV ∧ Q_tag18 Z a h0 n0 vV U'.heap LL ∧ FrameEnd U oO U' LL ({ frames := 0, cells := 0, slots := 0, locals := 0 } : Room).cells ({ frames := 0, cells := 0, slots := 0, locals := 0 } : Room).slots) := by
  refine MetFree.of_bodySF (plainFor_of_name pn_0) hisR ?_
  intro p e s m args below meth c s₁ Bd hml0 hP hK
  obtain ⟨rfl, hZ, hh⟩ := hP
  have hx := Bd.exec
  have hby := Bd.bytes
  have hml : c.maxLocals = 1 := hml0
  have hown : s.vm.findClass "com/example/entitygate/entitygate/HtmlTagHasImpliedEndPinLaw" = some m.cls := findClass_of_methodNamed Bd.named
  have hnm := (name_of_methodNamed Bd.named Bd.method).1
  have X0 : Stand p l e ({ frames := 0, cells := 0, slots := 0, locals := 0 } : Room) s m #[(.int (18 : Int32))] below meth c s₁ [] 0 0 := Stand.of_body Bd
  have e0 : s₁.heap = h0 := by rw [← hh, Bd.state]; rfl
  have N0 := Fr.nil n0
  have hret := Bd.returns
  have hlk : meth.locks = false := Bd.notSynchronized
  refine own_start (ef_0 m (18 : Int32)) ?_
  show own_Go p e below s (Q_tag18 Z a h0 n0) ({ frames := 0, cells := 0, slots := 0, locals := 0 } : Room).cells ({ frames := 0, cells := 0, slots := 0, locals := 0 } : Room).slots (s₁.setTop (mkF m 0 #[.val (.int (18 : Int32))] []))
  refine g_iload_n X0 hx 1 (hb hby d_method_2_0) rfl rfl ?_
  refine g_tswIn X0 hx 212 (hb hby d_method_2_1) (by decide) (o := 211) rfl (by decide) (by decide) ?_
  refine own_getS X0 hx hZ hown (host := "") (Or.inl (hw _ (List.mem_of_getElem? (i := 42) rfl))) Via.refl e0 S_A 215 (hb hby d_method_2_212) rfl fun T19 X19 e19 => ?_
  refine own_retA X19 hx hlk hret rfl rfl (hb hby d_method_2_215) ?_ (by decide) (by decide)
  rw [e19]
  exact ⟨rfl, N0, rfl⟩
theorem d_method_2_216 : decode method_2_code 216 = .ok (.getstatic 67, 3) := by decide +kernel
theorem d_method_2_219 : decode method_2_code 219 = .ok (.areturn, 1) := by decide +kernel
def Q_tag19 (Z : State) (a : Addr) (h0 : Heap) (n0 : Nat) (v : Option Value) (h : Heap) (L : List Loc) : Prop := v = some (.ref a) ∧ Fr n0 L ∧ h = h0
set_option maxRecDepth 65536 in
set_option maxHeartbeats 40000000 in
theorem rm_tag19 (l : Launch) (Z : State) (a0 : Array Value) (hw : ∀ d ∈ tables_1, d.before a0 Z = true) (ws : List Jvm.Cond) (a : Addr) (h0 : Heap) (n0 : Nat) (Z0 : n0 ≤ h0.size) (S_ADDRESS : Sta Z h0 "com/example/entitygate/entitygate/HtmlTag" "ADDRESS" "Lcom/example/entitygate/entitygate/HtmlTag;" (.ref a)) :
    MetFree l (⟨"com/example/entitygate/entitygate/HtmlTagHasImpliedEndPinLaw", "tag", "(I)Lcom/example/entitygate/entitygate/HtmlTag;"⟩ : MethodName) (head1 (Jvm.Cond.code (⟨"com/example/entitygate/entitygate/HtmlTagHasImpliedEndPinLaw", "tag", "(I)Lcom/example/entitygate/entitygate/HtmlTag;"⟩ : MethodName) method_2_code 1 (some (.object "com/example/entitygate/entitygate/HtmlTag")) :: ws) ({ frames := 0, cells := 0, slots := 0, locals := 0 } : Room)) (fun aA U => aA = #[(.int (19 : Int32))] ∧ Z.Warmed39 U.vm ∧ U.heap = h0) (fun _ _ _ _ _ => True) (fun _ U oO U' => ∃ vV LL, oO = .returned vV ∧ Q_tag19 Z a h0 n0 vV U'.heap LL ∧ FrameEnd U oO U' LL ({ frames := 0, cells := 0, slots := 0, locals := 0 } : Room).cells ({ frames := 0, cells := 0, slots := 0, locals := 0 } : Room).slots) := by
  refine MetFree.of_bodySF (plainFor_of_name pn_0) hisR ?_
  intro p e s m args below meth c s₁ Bd hml0 hP hK
  obtain ⟨rfl, hZ, hh⟩ := hP
  have hx := Bd.exec
  have hby := Bd.bytes
  have hml : c.maxLocals = 1 := hml0
  have hown : s.vm.findClass "com/example/entitygate/entitygate/HtmlTagHasImpliedEndPinLaw" = some m.cls := findClass_of_methodNamed Bd.named
  have hnm := (name_of_methodNamed Bd.named Bd.method).1
  have X0 : Stand p l e ({ frames := 0, cells := 0, slots := 0, locals := 0 } : Room) s m #[(.int (19 : Int32))] below meth c s₁ [] 0 0 := Stand.of_body Bd
  have e0 : s₁.heap = h0 := by rw [← hh, Bd.state]; rfl
  have N0 := Fr.nil n0
  have hret := Bd.returns
  have hlk : meth.locks = false := Bd.notSynchronized
  refine own_start (ef_0 m (19 : Int32)) ?_
  show own_Go p e below s (Q_tag19 Z a h0 n0) ({ frames := 0, cells := 0, slots := 0, locals := 0 } : Room).cells ({ frames := 0, cells := 0, slots := 0, locals := 0 } : Room).slots (s₁.setTop (mkF m 0 #[.val (.int (19 : Int32))] []))
  refine g_iload_n X0 hx 1 (hb hby d_method_2_0) rfl rfl ?_
  refine g_tswIn X0 hx 216 (hb hby d_method_2_1) (by decide) (o := 215) rfl (by decide) (by decide) ?_
  refine own_getS X0 hx hZ hown (host := "") (Or.inl (hw _ (List.mem_of_getElem? (i := 70) rfl))) Via.refl e0 S_ADDRESS 219 (hb hby d_method_2_216) rfl fun T20 X20 e20 => ?_
  refine own_retA X20 hx hlk hret rfl rfl (hb hby d_method_2_219) ?_ (by decide) (by decide)
  rw [e20]
  exact ⟨rfl, N0, rfl⟩
theorem d_method_2_220 : decode method_2_code 220 = .ok (.getstatic 70, 3) := by decide +kernel
theorem d_method_2_223 : decode method_2_code 223 = .ok (.areturn, 1) := by decide +kernel
def Q_tag20 (Z : State) (a : Addr) (h0 : Heap) (n0 : Nat) (v : Option Value) (h : Heap) (L : List Loc) : Prop := v = some (.ref a) ∧ Fr n0 L ∧ h = h0
set_option maxRecDepth 65536 in
set_option maxHeartbeats 40000000 in
theorem rm_tag20 (l : Launch) (Z : State) (a0 : Array Value) (hw : ∀ d ∈ tables_1, d.before a0 Z = true) (ws : List Jvm.Cond) (a : Addr) (h0 : Heap) (n0 : Nat) (Z0 : n0 ≤ h0.size) (S_ANNOTATION_XML : Sta Z h0 "com/example/entitygate/entitygate/HtmlTag" "ANNOTATION_XML" "Lcom/example/entitygate/entitygate/HtmlTag;" (.ref a)) :
    MetFree l (⟨"com/example/entitygate/entitygate/HtmlTagHasImpliedEndPinLaw", "tag", "(I)Lcom/example/entitygate/entitygate/HtmlTag;"⟩ : MethodName) (head1 (Jvm.Cond.code (⟨"com/example/entitygate/entitygate/HtmlTagHasImpliedEndPinLaw", "tag", "(I)Lcom/example/entitygate/entitygate/HtmlTag;"⟩ : MethodName) method_2_code 1 (some (.object "com/example/entitygate/entitygate/HtmlTag")) :: ws) ({ frames := 0, cells := 0, slots := 0, locals := 0 } : Room)) (fun aA U => aA = #[(.int (20 : Int32))] ∧ Z.Warmed39 U.vm ∧ U.heap = h0) (fun _ _ _ _ _ => True) (fun _ U oO U' => ∃ vV LL, oO = .returned vV ∧ Q_tag20 Z a h0 n0 vV U'.heap LL ∧ FrameEnd U oO U' LL ({ frames := 0, cells := 0, slots := 0, locals := 0 } : Room).cells ({ frames := 0, cells := 0, slots := 0, locals := 0 } : Room).slots) := by
  refine MetFree.of_bodySF (plainFor_of_name pn_0) hisR ?_
  intro p e s m args below meth c s₁ Bd hml0 hP hK
  obtain ⟨rfl, hZ, hh⟩ := hP
  have hx := Bd.exec
  have hby := Bd.bytes
  have hml : c.maxLocals = 1 := hml0
  have hown : s.vm.findClass "com/example/entitygate/entitygate/HtmlTagHasImpliedEndPinLaw" = some m.cls := findClass_of_methodNamed Bd.named
  have hnm := (name_of_methodNamed Bd.named Bd.method).1
  have X0 : Stand p l e ({ frames := 0, cells := 0, slots := 0, locals := 0 } : Room) s m #[(.int (20 : Int32))] below meth c s₁ [] 0 0 := Stand.of_body Bd
  have e0 : s₁.heap = h0 := by rw [← hh, Bd.state]; rfl
  have N0 := Fr.nil n0
  have hret := Bd.returns
  have hlk : meth.locks = false := Bd.notSynchronized
  refine own_start (ef_0 m (20 : Int32)) ?_
  show own_Go p e below s (Q_tag20 Z a h0 n0) ({ frames := 0, cells := 0, slots := 0, locals := 0 } : Room).cells ({ frames := 0, cells := 0, slots := 0, locals := 0 } : Room).slots (s₁.setTop (mkF m 0 #[.val (.int (20 : Int32))] []))
  refine g_iload_n X0 hx 1 (hb hby d_method_2_0) rfl rfl ?_
  refine g_tswIn X0 hx 220 (hb hby d_method_2_1) (by decide) (o := 219) rfl (by decide) (by decide) ?_
  refine own_getS X0 hx hZ hown (host := "") (Or.inl (hw _ (List.mem_of_getElem? (i := 62) rfl))) Via.refl e0 S_ANNOTATION_XML 223 (hb hby d_method_2_220) rfl fun T21 X21 e21 => ?_
  refine own_retA X21 hx hlk hret rfl rfl (hb hby d_method_2_223) ?_ (by decide) (by decide)
  rw [e21]
  exact ⟨rfl, N0, rfl⟩
theorem d_method_2_224 : decode method_2_code 224 = .ok (.getstatic 73, 3) := by decide +kernel
theorem d_method_2_227 : decode method_2_code 227 = .ok (.areturn, 1) := by decide +kernel
def Q_tag21 (Z : State) (a : Addr) (h0 : Heap) (n0 : Nat) (v : Option Value) (h : Heap) (L : List Loc) : Prop := v = some (.ref a) ∧ Fr n0 L ∧ h = h0
set_option maxRecDepth 65536 in
set_option maxHeartbeats 40000000 in
theorem rm_tag21 (l : Launch) (Z : State) (a0 : Array Value) (hw : ∀ d ∈ tables_1, d.before a0 Z = true) (ws : List Jvm.Cond) (a : Addr) (h0 : Heap) (n0 : Nat) (Z0 : n0 ≤ h0.size) (S_APPLET : Sta Z h0 "com/example/entitygate/entitygate/HtmlTag" "APPLET" "Lcom/example/entitygate/entitygate/HtmlTag;" (.ref a)) :
    MetFree l (⟨"com/example/entitygate/entitygate/HtmlTagHasImpliedEndPinLaw", "tag", "(I)Lcom/example/entitygate/entitygate/HtmlTag;"⟩ : MethodName) (head1 (Jvm.Cond.code (⟨"com/example/entitygate/entitygate/HtmlTagHasImpliedEndPinLaw", "tag", "(I)Lcom/example/entitygate/entitygate/HtmlTag;"⟩ : MethodName) method_2_code 1 (some (.object "com/example/entitygate/entitygate/HtmlTag")) :: ws) ({ frames := 0, cells := 0, slots := 0, locals := 0 } : Room)) (fun aA U => aA = #[(.int (21 : Int32))] ∧ Z.Warmed39 U.vm ∧ U.heap = h0) (fun _ _ _ _ _ => True) (fun _ U oO U' => ∃ vV LL, oO = .returned vV ∧ Q_tag21 Z a h0 n0 vV U'.heap LL ∧ FrameEnd U oO U' LL ({ frames := 0, cells := 0, slots := 0, locals := 0 } : Room).cells ({ frames := 0, cells := 0, slots := 0, locals := 0 } : Room).slots) := by
  refine MetFree.of_bodySF (plainFor_of_name pn_0) hisR ?_
  intro p e s m args below meth c s₁ Bd hml0 hP hK
  obtain ⟨rfl, hZ, hh⟩ := hP
  have hx := Bd.exec
  have hby := Bd.bytes
  have hml : c.maxLocals = 1 := hml0
  have hown : s.vm.findClass "com/example/entitygate/entitygate/HtmlTagHasImpliedEndPinLaw" = some m.cls := findClass_of_methodNamed Bd.named
  have hnm := (name_of_methodNamed Bd.named Bd.method).1
  have X0 : Stand p l e ({ frames := 0, cells := 0, slots := 0, locals := 0 } : Room) s m #[(.int (21 : Int32))] below meth c s₁ [] 0 0 := Stand.of_body Bd
  have e0 : s₁.heap = h0 := by rw [← hh, Bd.state]; rfl
  have N0 := Fr.nil n0
  have hret := Bd.returns
  have hlk : meth.locks = false := Bd.notSynchronized
  refine own_start (ef_0 m (21 : Int32)) ?_
  show own_Go p e below s (Q_tag21 Z a h0 n0) ({ frames := 0, cells := 0, slots := 0, locals := 0 } : Room).cells ({ frames := 0, cells := 0, slots := 0, locals := 0 } : Room).slots (s₁.setTop (mkF m 0 #[.val (.int (21 : Int32))] []))
  refine g_iload_n X0 hx 1 (hb hby d_method_2_0) rfl rfl ?_
  refine g_tswIn X0 hx 224 (hb hby d_method_2_1) (by decide) (o := 223) rfl (by decide) (by decide) ?_
  refine own_getS X0 hx hZ hown (host := "") (Or.inl (hw _ (List.mem_of_getElem? (i := 56) rfl))) Via.refl e0 S_APPLET 227 (hb hby d_method_2_224) rfl fun T22 X22 e22 => ?_
  refine own_retA X22 hx hlk hret rfl rfl (hb hby d_method_2_227) ?_ (by decide) (by decide)
  rw [e22]
  exact ⟨rfl, N0, rfl⟩
theorem d_method_2_228 : decode method_2_code 228 = .ok (.getstatic 76, 3) := by decide +kernel
theorem d_method_2_231 : decode method_2_code 231 = .ok (.areturn, 1) := by decide +kernel
def Q_tag22 (Z : State) (a : Addr) (h0 : Heap) (n0 : Nat) (v : Option Value) (h : Heap) (L : List Loc) : Prop := v = some (.ref a) ∧ Fr n0 L ∧ h = h0
set_option maxRecDepth 65536 in
set_option maxHeartbeats 40000000 in
theorem rm_tag22 (l : Launch) (Z : State) (a0 : Array Value) (hw : ∀ d ∈ tables_1, d.before a0 Z = true) (ws : List Jvm.Cond) (a : Addr) (h0 : Heap) (n0 : Nat) (Z0 : n0 ≤ h0.size) (S_AREA : Sta Z h0 "com/example/entitygate/entitygate/HtmlTag" "AREA" "Lcom/example/entitygate/entitygate/HtmlTag;" (.ref a)) :
    MetFree l (⟨"com/example/entitygate/entitygate/HtmlTagHasImpliedEndPinLaw", "tag", "(I)Lcom/example/entitygate/entitygate/HtmlTag;"⟩ : MethodName) (head1 (Jvm.Cond.code (⟨"com/example/entitygate/entitygate/HtmlTagHasImpliedEndPinLaw", "tag", "(I)Lcom/example/entitygate/entitygate/HtmlTag;"⟩ : MethodName) method_2_code 1 (some (.object "com/example/entitygate/entitygate/HtmlTag")) :: ws) ({ frames := 0, cells := 0, slots := 0, locals := 0 } : Room)) (fun aA U => aA = #[(.int (22 : Int32))] ∧ Z.Warmed39 U.vm ∧ U.heap = h0) (fun _ _ _ _ _ => True) (fun _ U oO U' => ∃ vV LL, oO = .returned vV ∧ Q_tag22 Z a h0 n0 vV U'.heap LL ∧ FrameEnd U oO U' LL ({ frames := 0, cells := 0, slots := 0, locals := 0 } : Room).cells ({ frames := 0, cells := 0, slots := 0, locals := 0 } : Room).slots) := by
  refine MetFree.of_bodySF (plainFor_of_name pn_0) hisR ?_
  intro p e s m args below meth c s₁ Bd hml0 hP hK
  obtain ⟨rfl, hZ, hh⟩ := hP
  have hx := Bd.exec
  have hby := Bd.bytes
  have hml : c.maxLocals = 1 := hml0
  have hown : s.vm.findClass "com/example/entitygate/entitygate/HtmlTagHasImpliedEndPinLaw" = some m.cls := findClass_of_methodNamed Bd.named
  have hnm := (name_of_methodNamed Bd.named Bd.method).1
  have X0 : Stand p l e ({ frames := 0, cells := 0, slots := 0, locals := 0 } : Room) s m #[(.int (22 : Int32))] below meth c s₁ [] 0 0 := Stand.of_body Bd
  have e0 : s₁.heap = h0 := by rw [← hh, Bd.state]; rfl
  have N0 := Fr.nil n0
  have hret := Bd.returns
  have hlk : meth.locks = false := Bd.notSynchronized
  refine own_start (ef_0 m (22 : Int32)) ?_
  show own_Go p e below s (Q_tag22 Z a h0 n0) ({ frames := 0, cells := 0, slots := 0, locals := 0 } : Room).cells ({ frames := 0, cells := 0, slots := 0, locals := 0 } : Room).slots (s₁.setTop (mkF m 0 #[.val (.int (22 : Int32))] []))
  refine g_iload_n X0 hx 1 (hb hby d_method_2_0) rfl rfl ?_
  refine g_tswIn X0 hx 228 (hb hby d_method_2_1) (by decide) (o := 227) rfl (by decide) (by decide) ?_
  refine own_getS X0 hx hZ hown (host := "") (Or.inl (hw _ (List.mem_of_getElem? (i := 74) rfl))) Via.refl e0 S_AREA 231 (hb hby d_method_2_228) rfl fun T23 X23 e23 => ?_
  refine own_retA X23 hx hlk hret rfl rfl (hb hby d_method_2_231) ?_ (by decide) (by decide)
  rw [e23]
  exact ⟨rfl, N0, rfl⟩
theorem d_method_2_232 : decode method_2_code 232 = .ok (.getstatic 79, 3) := by decide +kernel
theorem d_method_2_235 : decode method_2_code 235 = .ok (.areturn, 1) := by decide +kernel
def Q_tag23 (Z : State) (a : Addr) (h0 : Heap) (n0 : Nat) (v : Option Value) (h : Heap) (L : List Loc) : Prop := v = some (.ref a) ∧ Fr n0 L ∧ h = h0
set_option maxRecDepth 65536 in
set_option maxHeartbeats 40000000 in
theorem rm_tag23 (l : Launch) (Z : State) (a0 : Array Value) (hw : ∀ d ∈ tables_1, d.before a0 Z = true) (ws : List Jvm.Cond) (a : Addr) (h0 : Heap) (n0 : Nat) (Z0 : n0 ≤ h0.size) (S_H1 : Sta Z h0 "com/example/entitygate/entitygate/HtmlTag" "H1" "Lcom/example/entitygate/entitygate/HtmlTag;" (.ref a)) :
    MetFree l (⟨"com/example/entitygate/entitygate/HtmlTagHasImpliedEndPinLaw", "tag", "(I)Lcom/example/entitygate/entitygate/HtmlTag;"⟩ : MethodName) (head1 (Jvm.Cond.code (⟨"com/example/entitygate/entitygate/HtmlTagHasImpliedEndPinLaw", "tag", "(I)Lcom/example/entitygate/entitygate/HtmlTag;"⟩ : MethodName) method_2_code 1 (some (.object "com/example/entitygate/entitygate/HtmlTag")) :: ws) ({ frames := 0, cells := 0, slots := 0, locals := 0 } : Room)) (fun aA U => aA = #[(.int (23 : Int32))] ∧ Z.Warmed39 U.vm ∧ U.heap = h0) (fun _ _ _ _ _ => True) (fun _ U oO U' => ∃ vV LL, oO = .returned vV ∧ Q_tag23 Z a h0 n0 vV U'.heap LL ∧ FrameEnd U oO U' LL ({ frames := 0, cells := 0, slots := 0, locals := 0 } : Room).cells ({ frames := 0, cells := 0, slots := 0, locals := 0 } : Room).slots) := by
  refine MetFree.of_bodySF (plainFor_of_name pn_0) hisR ?_
  intro p e s m args below meth c s₁ Bd hml0 hP hK
  obtain ⟨rfl, hZ, hh⟩ := hP
  have hx := Bd.exec
  have hby := Bd.bytes
  have hml : c.maxLocals = 1 := hml0
  have hown : s.vm.findClass "com/example/entitygate/entitygate/HtmlTagHasImpliedEndPinLaw" = some m.cls := findClass_of_methodNamed Bd.named
  have hnm := (name_of_methodNamed Bd.named Bd.method).1
  have X0 : Stand p l e ({ frames := 0, cells := 0, slots := 0, locals := 0 } : Room) s m #[(.int (23 : Int32))] below meth c s₁ [] 0 0 := Stand.of_body Bd
  have e0 : s₁.heap = h0 := by rw [← hh, Bd.state]; rfl
  have N0 := Fr.nil n0
  have hret := Bd.returns
  have hlk : meth.locks = false := Bd.notSynchronized
  refine own_start (ef_0 m (23 : Int32)) ?_
  show own_Go p e below s (Q_tag23 Z a h0 n0) ({ frames := 0, cells := 0, slots := 0, locals := 0 } : Room).cells ({ frames := 0, cells := 0, slots := 0, locals := 0 } : Room).slots (s₁.setTop (mkF m 0 #[.val (.int (23 : Int32))] []))
  refine g_iload_n X0 hx 1 (hb hby d_method_2_0) rfl rfl ?_
  refine g_tswIn X0 hx 232 (hb hby d_method_2_1) (by decide) (o := 231) rfl (by decide) (by decide) ?_
  refine own_getS X0 hx hZ hown (host := "") (Or.inl (hw _ (List.mem_of_getElem? (i := 24) rfl))) Via.refl e0 S_H1 235 (hb hby d_method_2_232) rfl fun T24 X24 e24 => ?_
  refine own_retA X24 hx hlk hret rfl rfl (hb hby d_method_2_235) ?_ (by decide) (by decide)
  rw [e24]
  exact ⟨rfl, N0, rfl⟩
theorem d_method_2_236 : decode method_2_code 236 = .ok (.getstatic 82, 3) := by decide +kernel
theorem d_method_2_239 : decode method_2_code 239 = .ok (.areturn, 1) := by decide +kernel
def Q_tag24 (Z : State) (a : Addr) (h0 : Heap) (n0 : Nat) (v : Option Value) (h : Heap) (L : List Loc) : Prop := v = some (.ref a) ∧ Fr n0 L ∧ h = h0
set_option maxRecDepth 65536 in
set_option maxHeartbeats 40000000 in
theorem rm_tag24 (l : Launch) (Z : State) (a0 : Array Value) (hw : ∀ d ∈ tables_1, d.before a0 Z = true) (ws : List Jvm.Cond) (a : Addr) (h0 : Heap) (n0 : Nat) (Z0 : n0 ≤ h0.size) (S_IFRAME : Sta Z h0 "com/example/entitygate/entitygate/HtmlTag" "IFRAME" "Lcom/example/entitygate/entitygate/HtmlTag;" (.ref a)) :
    MetFree l (⟨"com/example/entitygate/entitygate/HtmlTagHasImpliedEndPinLaw", "tag", "(I)Lcom/example/entitygate/entitygate/HtmlTag;"⟩ : MethodName) (head1 (Jvm.Cond.code (⟨"com/example/entitygate/entitygate/HtmlTagHasImpliedEndPinLaw", "tag", "(I)Lcom/example/entitygate/entitygate/HtmlTag;"⟩ : MethodName) method_2_code 1 (some (.object "com/example/entitygate/entitygate/HtmlTag")) :: ws) ({ frames := 0, cells := 0, slots := 0, locals := 0 } : Room)) (fun aA U => aA = #[(.int (24 : Int32))] ∧ Z.Warmed39 U.vm ∧ U.heap = h0) (fun _ _ _ _ _ => True) (fun _ U oO U' => ∃ vV LL, oO = .returned vV ∧ Q_tag24 Z a h0 n0 vV U'.heap LL ∧ FrameEnd U oO U' LL ({ frames := 0, cells := 0, slots := 0, locals := 0 } : Room).cells ({ frames := 0, cells := 0, slots := 0, locals := 0 } : Room).slots) := by
  refine MetFree.of_bodySF (plainFor_of_name pn_0) hisR ?_
  intro p e s m args below meth c s₁ Bd hml0 hP hK
  obtain ⟨rfl, hZ, hh⟩ := hP
  have hx := Bd.exec
  have hby := Bd.bytes
  have hml : c.maxLocals = 1 := hml0
  have hown : s.vm.findClass "com/example/entitygate/entitygate/HtmlTagHasImpliedEndPinLaw" = some m.cls := findClass_of_methodNamed Bd.named
  have hnm := (name_of_methodNamed Bd.named Bd.method).1
  have X0 : Stand p l e ({ frames := 0, cells := 0, slots := 0, locals := 0 } : Room) s m #[(.int (24 : Int32))] below meth c s₁ [] 0 0 := Stand.of_body Bd
  have e0 : s₁.heap = h0 := by rw [← hh, Bd.state]; rfl
  have N0 := Fr.nil n0
  have hret := Bd.returns
  have hlk : meth.locks = false := Bd.notSynchronized
  refine own_start (ef_0 m (24 : Int32)) ?_
  show own_Go p e below s (Q_tag24 Z a h0 n0) ({ frames := 0, cells := 0, slots := 0, locals := 0 } : Room).cells ({ frames := 0, cells := 0, slots := 0, locals := 0 } : Room).slots (s₁.setTop (mkF m 0 #[.val (.int (24 : Int32))] []))
  refine g_iload_n X0 hx 1 (hb hby d_method_2_0) rfl rfl ?_
  refine g_tswIn X0 hx 236 (hb hby d_method_2_1) (by decide) (o := 235) rfl (by decide) (by decide) ?_
  refine own_getS X0 hx hZ hown (host := "") (Or.inl (hw _ (List.mem_of_getElem? (i := 40) rfl))) Via.refl e0 S_IFRAME 239 (hb hby d_method_2_236) rfl fun T25 X25 e25 => ?_
  refine own_retA X25 hx hlk hret rfl rfl (hb hby d_method_2_239) ?_ (by decide) (by decide)
  rw [e25]
  exact ⟨rfl, N0, rfl⟩
theorem d_method_2_240 : decode method_2_code 240 = .ok (.getstatic 85, 3) := by decide +kernel
theorem d_method_2_243 : decode method_2_code 243 = .ok (.areturn, 1) := by decide +kernel
def Q_tag25 (Z : State) (a : Addr) (h0 : Heap) (n0 : Nat) (v : Option Value) (h : Heap) (L : List Loc) : Prop := v = some (.ref a) ∧ Fr n0 L ∧ h = h0
set_option maxRecDepth 65536 in
set_option maxHeartbeats 40000000 in
theorem rm_tag25 (l : Launch) (Z : State) (a0 : Array Value) (hw : ∀ d ∈ tables_1, d.before a0 Z = true) (ws : List Jvm.Cond) (a : Addr) (h0 : Heap) (n0 : Nat) (Z0 : n0 ≤ h0.size) (S_TABLE : Sta Z h0 "com/example/entitygate/entitygate/HtmlTag" "TABLE" "Lcom/example/entitygate/entitygate/HtmlTag;" (.ref a)) :
    MetFree l (⟨"com/example/entitygate/entitygate/HtmlTagHasImpliedEndPinLaw", "tag", "(I)Lcom/example/entitygate/entitygate/HtmlTag;"⟩ : MethodName) (head1 (Jvm.Cond.code (⟨"com/example/entitygate/entitygate/HtmlTagHasImpliedEndPinLaw", "tag", "(I)Lcom/example/entitygate/entitygate/HtmlTag;"⟩ : MethodName) method_2_code 1 (some (.object "com/example/entitygate/entitygate/HtmlTag")) :: ws) ({ frames := 0, cells := 0, slots := 0, locals := 0 } : Room)) (fun aA U => aA = #[(.int (25 : Int32))] ∧ Z.Warmed39 U.vm ∧ U.heap = h0) (fun _ _ _ _ _ => True) (fun _ U oO U' => ∃ vV LL, oO = .returned vV ∧ Q_tag25 Z a h0 n0 vV U'.heap LL ∧ FrameEnd U oO U' LL ({ frames := 0, cells := 0, slots := 0, locals := 0 } : Room).cells ({ frames := 0, cells := 0, slots := 0, locals := 0 } : Room).slots) := by
  refine MetFree.of_bodySF (plainFor_of_name pn_0) hisR ?_
  intro p e s m args below meth c s₁ Bd hml0 hP hK
  obtain ⟨rfl, hZ, hh⟩ := hP
  have hx := Bd.exec
  have hby := Bd.bytes
  have hml : c.maxLocals = 1 := hml0
  have hown : s.vm.findClass "com/example/entitygate/entitygate/HtmlTagHasImpliedEndPinLaw" = some m.cls := findClass_of_methodNamed Bd.named
  have hnm := (name_of_methodNamed Bd.named Bd.method).1
  have X0 : Stand p l e ({ frames := 0, cells := 0, slots := 0, locals := 0 } : Room) s m #[(.int (25 : Int32))] below meth c s₁ [] 0 0 := Stand.of_body Bd
  have e0 : s₁.heap = h0 := by rw [← hh, Bd.state]; rfl
  have N0 := Fr.nil n0
  have hret := Bd.returns
  have hlk : meth.locks = false := Bd.notSynchronized
  refine own_start (ef_0 m (25 : Int32)) ?_
  show own_Go p e below s (Q_tag25 Z a h0 n0) ({ frames := 0, cells := 0, slots := 0, locals := 0 } : Room).cells ({ frames := 0, cells := 0, slots := 0, locals := 0 } : Room).slots (s₁.setTop (mkF m 0 #[.val (.int (25 : Int32))] []))
  refine g_iload_n X0 hx 1 (hb hby d_method_2_0) rfl rfl ?_
  refine g_tswIn X0 hx 240 (hb hby d_method_2_1) (by decide) (o := 239) rfl (by decide) (by decide) ?_
  refine own_getS X0 hx hZ hown (host := "") (Or.inl (hw _ (List.mem_of_getElem? (i := 72) rfl))) Via.refl e0 S_TABLE 243 (hb hby d_method_2_240) rfl fun T26 X26 e26 => ?_
  refine own_retA X26 hx hlk hret rfl rfl (hb hby d_method_2_243) ?_ (by decide) (by decide)
  rw [e26]
  exact ⟨rfl, N0, rfl⟩
theorem d_method_2_244 : decode method_2_code 244 = .ok (.getstatic 88, 3) := by decide +kernel
theorem d_method_2_247 : decode method_2_code 247 = .ok (.areturn, 1) := by decide +kernel
def Q_tag26 (Z : State) (a : Addr) (h0 : Heap) (n0 : Nat) (v : Option Value) (h : Heap) (L : List Loc) : Prop := v = some (.ref a) ∧ Fr n0 L ∧ h = h0
set_option maxRecDepth 65536 in
set_option maxHeartbeats 40000000 in
theorem rm_tag26 (l : Launch) (Z : State) (a0 : Array Value) (hw : ∀ d ∈ tables_1, d.before a0 Z = true) (ws : List Jvm.Cond) (a : Addr) (h0 : Heap) (n0 : Nat) (Z0 : n0 ≤ h0.size) (S_TEMPLATE : Sta Z h0 "com/example/entitygate/entitygate/HtmlTag" "TEMPLATE" "Lcom/example/entitygate/entitygate/HtmlTag;" (.ref a)) :
    MetFree l (⟨"com/example/entitygate/entitygate/HtmlTagHasImpliedEndPinLaw", "tag", "(I)Lcom/example/entitygate/entitygate/HtmlTag;"⟩ : MethodName) (head1 (Jvm.Cond.code (⟨"com/example/entitygate/entitygate/HtmlTagHasImpliedEndPinLaw", "tag", "(I)Lcom/example/entitygate/entitygate/HtmlTag;"⟩ : MethodName) method_2_code 1 (some (.object "com/example/entitygate/entitygate/HtmlTag")) :: ws) ({ frames := 0, cells := 0, slots := 0, locals := 0 } : Room)) (fun aA U => aA = #[(.int (26 : Int32))] ∧ Z.Warmed39 U.vm ∧ U.heap = h0) (fun _ _ _ _ _ => True) (fun _ U oO U' => ∃ vV LL, oO = .returned vV ∧ Q_tag26 Z a h0 n0 vV U'.heap LL ∧ FrameEnd U oO U' LL ({ frames := 0, cells := 0, slots := 0, locals := 0 } : Room).cells ({ frames := 0, cells := 0, slots := 0, locals := 0 } : Room).slots) := by
  refine MetFree.of_bodySF (plainFor_of_name pn_0) hisR ?_
  intro p e s m args below meth c s₁ Bd hml0 hP hK
  obtain ⟨rfl, hZ, hh⟩ := hP
  have hx := Bd.exec
  have hby := Bd.bytes
  have hml : c.maxLocals = 1 := hml0
  have hown : s.vm.findClass "com/example/entitygate/entitygate/HtmlTagHasImpliedEndPinLaw" = some m.cls := findClass_of_methodNamed Bd.named
  have hnm := (name_of_methodNamed Bd.named Bd.method).1
  have X0 : Stand p l e ({ frames := 0, cells := 0, slots := 0, locals := 0 } : Room) s m #[(.int (26 : Int32))] below meth c s₁ [] 0 0 := Stand.of_body Bd
  have e0 : s₁.heap = h0 := by rw [← hh, Bd.state]; rfl
  have N0 := Fr.nil n0
  have hret := Bd.returns
  have hlk : meth.locks = false := Bd.notSynchronized
  refine own_start (ef_0 m (26 : Int32)) ?_
  show own_Go p e below s (Q_tag26 Z a h0 n0) ({ frames := 0, cells := 0, slots := 0, locals := 0 } : Room).cells ({ frames := 0, cells := 0, slots := 0, locals := 0 } : Room).slots (s₁.setTop (mkF m 0 #[.val (.int (26 : Int32))] []))
  refine g_iload_n X0 hx 1 (hb hby d_method_2_0) rfl rfl ?_
  refine g_tswIn X0 hx 244 (hb hby d_method_2_1) (by decide) (o := 243) rfl (by decide) (by decide) ?_
  refine own_getS X0 hx hZ hown (host := "") (Or.inl (hw _ (List.mem_of_getElem? (i := 66) rfl))) Via.refl e0 S_TEMPLATE 247 (hb hby d_method_2_244) rfl fun T27 X27 e27 => ?_
  refine own_retA X27 hx hlk hret rfl rfl (hb hby d_method_2_247) ?_ (by decide) (by decide)
  rw [e27]
  exact ⟨rfl, N0, rfl⟩
theorem d_method_2_248 : decode method_2_code 248 = .ok (.getstatic 91, 3) := by decide +kernel
theorem d_method_2_251 : decode method_2_code 251 = .ok (.areturn, 1) := by decide +kernel
def Q_tag27 (Z : State) (a : Addr) (h0 : Heap) (n0 : Nat) (v : Option Value) (h : Heap) (L : List Loc) : Prop := v = some (.ref a) ∧ Fr n0 L ∧ h = h0
set_option maxRecDepth 65536 in
set_option maxHeartbeats 40000000 in
theorem rm_tag27 (l : Launch) (Z : State) (a0 : Array Value) (hw : ∀ d ∈ tables_1, d.before a0 Z = true) (ws : List Jvm.Cond) (a : Addr) (h0 : Heap) (n0 : Nat) (Z0 : n0 ≤ h0.size) (S_HTML : Sta Z h0 "com/example/entitygate/entitygate/HtmlTag" "HTML" "Lcom/example/entitygate/entitygate/HtmlTag;" (.ref a)) :
    MetFree l (⟨"com/example/entitygate/entitygate/HtmlTagHasImpliedEndPinLaw", "tag", "(I)Lcom/example/entitygate/entitygate/HtmlTag;"⟩ : MethodName) (head1 (Jvm.Cond.code (⟨"com/example/entitygate/entitygate/HtmlTagHasImpliedEndPinLaw", "tag", "(I)Lcom/example/entitygate/entitygate/HtmlTag;"⟩ : MethodName) method_2_code 1 (some (.object "com/example/entitygate/entitygate/HtmlTag")) :: ws) ({ frames := 0, cells := 0, slots := 0, locals := 0 } : Room)) (fun aA U => aA = #[(.int (27 : Int32))] ∧ Z.Warmed39 U.vm ∧ U.heap = h0) (fun _ _ _ _ _ => True) (fun _ U oO U' => ∃ vV LL, oO = .returned vV ∧ Q_tag27 Z a h0 n0 vV U'.heap LL ∧ FrameEnd U oO U' LL ({ frames := 0, cells := 0, slots := 0, locals := 0 } : Room).cells ({ frames := 0, cells := 0, slots := 0, locals := 0 } : Room).slots) := by
  refine MetFree.of_bodySF (plainFor_of_name pn_0) hisR ?_
  intro p e s m args below meth c s₁ Bd hml0 hP hK
  obtain ⟨rfl, hZ, hh⟩ := hP
  have hx := Bd.exec
  have hby := Bd.bytes
  have hml : c.maxLocals = 1 := hml0
  have hown : s.vm.findClass "com/example/entitygate/entitygate/HtmlTagHasImpliedEndPinLaw" = some m.cls := findClass_of_methodNamed Bd.named
  have hnm := (name_of_methodNamed Bd.named Bd.method).1
  have X0 : Stand p l e ({ frames := 0, cells := 0, slots := 0, locals := 0 } : Room) s m #[(.int (27 : Int32))] below meth c s₁ [] 0 0 := Stand.of_body Bd
  have e0 : s₁.heap = h0 := by rw [← hh, Bd.state]; rfl
  have N0 := Fr.nil n0
  have hret := Bd.returns
  have hlk : meth.locks = false := Bd.notSynchronized
  refine own_start (ef_0 m (27 : Int32)) ?_
  show own_Go p e below s (Q_tag27 Z a h0 n0) ({ frames := 0, cells := 0, slots := 0, locals := 0 } : Room).cells ({ frames := 0, cells := 0, slots := 0, locals := 0 } : Room).slots (s₁.setTop (mkF m 0 #[.val (.int (27 : Int32))] []))
  refine g_iload_n X0 hx 1 (hb hby d_method_2_0) rfl rfl ?_
  refine g_tswIn X0 hx 248 (hb hby d_method_2_1) (by decide) (o := 247) rfl (by decide) (by decide) ?_
  refine own_getS X0 hx hZ hown (host := "") (Or.inl (hw _ (List.mem_of_getElem? (i := 60) rfl))) Via.refl e0 S_HTML 251 (hb hby d_method_2_248) rfl fun T28 X28 e28 => ?_
  refine own_retA X28 hx hlk hret rfl rfl (hb hby d_method_2_251) ?_ (by decide) (by decide)
  rw [e28]
  exact ⟨rfl, N0, rfl⟩
theorem d_method_2_252 : decode method_2_code 252 = .ok (.getstatic 94, 3) := by decide +kernel
theorem d_method_2_255 : decode method_2_code 255 = .ok (.areturn, 1) := by decide +kernel
def Q_tag28 (Z : State) (a : Addr) (h0 : Heap) (n0 : Nat) (v : Option Value) (h : Heap) (L : List Loc) : Prop := v = some (.ref a) ∧ Fr n0 L ∧ h = h0
set_option maxRecDepth 65536 in
set_option maxHeartbeats 40000000 in
theorem rm_tag28 (l : Launch) (Z : State) (a0 : Array Value) (hw : ∀ d ∈ tables_1, d.before a0 Z = true) (ws : List Jvm.Cond) (a : Addr) (h0 : Heap) (n0 : Nat) (Z0 : n0 ≤ h0.size) (S_BODY : Sta Z h0 "com/example/entitygate/entitygate/HtmlTag" "BODY" "Lcom/example/entitygate/entitygate/HtmlTag;" (.ref a)) :
    MetFree l (⟨"com/example/entitygate/entitygate/HtmlTagHasImpliedEndPinLaw", "tag", "(I)Lcom/example/entitygate/entitygate/HtmlTag;"⟩ : MethodName) (head1 (Jvm.Cond.code (⟨"com/example/entitygate/entitygate/HtmlTagHasImpliedEndPinLaw", "tag", "(I)Lcom/example/entitygate/entitygate/HtmlTag;"⟩ : MethodName) method_2_code 1 (some (.object "com/example/entitygate/entitygate/HtmlTag")) :: ws) ({ frames := 0, cells := 0, slots := 0, locals := 0 } : Room)) (fun aA U => aA = #[(.int (28 : Int32))] ∧ Z.Warmed39 U.vm ∧ U.heap = h0) (fun _ _ _ _ _ => True) (fun _ U oO U' => ∃ vV LL, oO = .returned vV ∧ Q_tag28 Z a h0 n0 vV U'.heap LL ∧ FrameEnd U oO U' LL ({ frames := 0, cells := 0, slots := 0, locals := 0 } : Room).cells ({ frames := 0, cells := 0, slots := 0, locals := 0 } : Room).slots) := by
  refine MetFree.of_bodySF (plainFor_of_name pn_0) hisR ?_
  intro p e s m args below meth c s₁ Bd hml0 hP hK
  obtain ⟨rfl, hZ, hh⟩ := hP
  have hx := Bd.exec
  have hby := Bd.bytes
  have hml : c.maxLocals = 1 := hml0
  have hown : s.vm.findClass "com/example/entitygate/entitygate/HtmlTagHasImpliedEndPinLaw" = some m.cls := findClass_of_methodNamed Bd.named
  have hnm := (name_of_methodNamed Bd.named Bd.method).1
  have X0 : Stand p l e ({ frames := 0, cells := 0, slots := 0, locals := 0 } : Room) s m #[(.int (28 : Int32))] below meth c s₁ [] 0 0 := Stand.of_body Bd
  have e0 : s₁.heap = h0 := by rw [← hh, Bd.state]; rfl
  have N0 := Fr.nil n0
  have hret := Bd.returns
  have hlk : meth.locks = false := Bd.notSynchronized
  refine own_start (ef_0 m (28 : Int32)) ?_
  show own_Go p e below s (Q_tag28 Z a h0 n0) ({ frames := 0, cells := 0, slots := 0, locals := 0 } : Room).cells ({ frames := 0, cells := 0, slots := 0, locals := 0 } : Room).slots (s₁.setTop (mkF m 0 #[.val (.int (28 : Int32))] []))
  refine g_iload_n X0 hx 1 (hb hby d_method_2_0) rfl rfl ?_
  refine g_tswIn X0 hx 252 (hb hby d_method_2_1) (by decide) (o := 251) rfl (by decide) (by decide) ?_
  refine own_getS X0 hx hZ hown (host := "") (Or.inl (hw _ (List.mem_of_getElem? (i := 68) rfl))) Via.refl e0 S_BODY 255 (hb hby d_method_2_252) rfl fun T29 X29 e29 => ?_
  refine own_retA X29 hx hlk hret rfl rfl (hb hby d_method_2_255) ?_ (by decide) (by decide)
  rw [e29]
  exact ⟨rfl, N0, rfl⟩
theorem d_method_2_256 : decode method_2_code 256 = .ok (.getstatic 97, 3) := by decide +kernel
theorem d_method_2_259 : decode method_2_code 259 = .ok (.areturn, 1) := by decide +kernel
def Q_tag29 (Z : State) (a : Addr) (h0 : Heap) (n0 : Nat) (v : Option Value) (h : Heap) (L : List Loc) : Prop := v = some (.ref a) ∧ Fr n0 L ∧ h = h0
set_option maxRecDepth 65536 in
set_option maxHeartbeats 40000000 in
theorem rm_tag29 (l : Launch) (Z : State) (a0 : Array Value) (hw : ∀ d ∈ tables_1, d.before a0 Z = true) (ws : List Jvm.Cond) (a : Addr) (h0 : Heap) (n0 : Nat) (Z0 : n0 ≤ h0.size) (S_SELECT : Sta Z h0 "com/example/entitygate/entitygate/HtmlTag" "SELECT" "Lcom/example/entitygate/entitygate/HtmlTag;" (.ref a)) :
    MetFree l (⟨"com/example/entitygate/entitygate/HtmlTagHasImpliedEndPinLaw", "tag", "(I)Lcom/example/entitygate/entitygate/HtmlTag;"⟩ : MethodName) (head1 (Jvm.Cond.code (⟨"com/example/entitygate/entitygate/HtmlTagHasImpliedEndPinLaw", "tag", "(I)Lcom/example/entitygate/entitygate/HtmlTag;"⟩ : MethodName) method_2_code 1 (some (.object "com/example/entitygate/entitygate/HtmlTag")) :: ws) ({ frames := 0, cells := 0, slots := 0, locals := 0 } : Room)) (fun aA U => aA = #[(.int (29 : Int32))] ∧ Z.Warmed39 U.vm ∧ U.heap = h0) (fun _ _ _ _ _ => True) (fun _ U oO U' => ∃ vV LL, oO = .returned vV ∧ Q_tag29 Z a h0 n0 vV U'.heap LL ∧ FrameEnd U oO U' LL ({ frames := 0, cells := 0, slots := 0, locals := 0 } : Room).cells ({ frames := 0, cells := 0, slots := 0, locals := 0 } : Room).slots) := by
  refine MetFree.of_bodySF (plainFor_of_name pn_0) hisR ?_
  intro p e s m args below meth c s₁ Bd hml0 hP hK
  obtain ⟨rfl, hZ, hh⟩ := hP
  have hx := Bd.exec
  have hby := Bd.bytes
  have hml : c.maxLocals = 1 := hml0
  have hown : s.vm.findClass "com/example/entitygate/entitygate/HtmlTagHasImpliedEndPinLaw" = some m.cls := findClass_of_methodNamed Bd.named
  have hnm := (name_of_methodNamed Bd.named Bd.method).1
  have X0 : Stand p l e ({ frames := 0, cells := 0, slots := 0, locals := 0 } : Room) s m #[(.int (29 : Int32))] below meth c s₁ [] 0 0 := Stand.of_body Bd
  have e0 : s₁.heap = h0 := by rw [← hh, Bd.state]; rfl
  have N0 := Fr.nil n0
  have hret := Bd.returns
  have hlk : meth.locks = false := Bd.notSynchronized
  refine own_start (ef_0 m (29 : Int32)) ?_
  show own_Go p e below s (Q_tag29 Z a h0 n0) ({ frames := 0, cells := 0, slots := 0, locals := 0 } : Room).cells ({ frames := 0, cells := 0, slots := 0, locals := 0 } : Room).slots (s₁.setTop (mkF m 0 #[.val (.int (29 : Int32))] []))
  refine g_iload_n X0 hx 1 (hb hby d_method_2_0) rfl rfl ?_
  refine g_tswIn X0 hx 256 (hb hby d_method_2_1) (by decide) (o := 255) rfl (by decide) (by decide) ?_
  refine own_getS X0 hx hZ hown (host := "") (Or.inl (hw _ (List.mem_of_getElem? (i := 48) rfl))) Via.refl e0 S_SELECT 259 (hb hby d_method_2_256) rfl fun T30 X30 e30 => ?_
  refine own_retA X30 hx hlk hret rfl rfl (hb hby d_method_2_259) ?_ (by decide) (by decide)
  rw [e30]
  exact ⟨rfl, N0, rfl⟩
theorem d_method_2_260 : decode method_2_code 260 = .ok (.getstatic 100, 3) := by decide +kernel
theorem d_method_2_263 : decode method_2_code 263 = .ok (.areturn, 1) := by decide +kernel
def Q_tag30 (Z : State) (a : Addr) (h0 : Heap) (n0 : Nat) (v : Option Value) (h : Heap) (L : List Loc) : Prop := v = some (.ref a) ∧ Fr n0 L ∧ h = h0
set_option maxRecDepth 65536 in
set_option maxHeartbeats 40000000 in
theorem rm_tag30 (l : Launch) (Z : State) (a0 : Array Value) (hw : ∀ d ∈ tables_1, d.before a0 Z = true) (ws : List Jvm.Cond) (a : Addr) (h0 : Heap) (n0 : Nat) (Z0 : n0 ≤ h0.size) (S_SPAN : Sta Z h0 "com/example/entitygate/entitygate/HtmlTag" "SPAN" "Lcom/example/entitygate/entitygate/HtmlTag;" (.ref a)) :
    MetFree l (⟨"com/example/entitygate/entitygate/HtmlTagHasImpliedEndPinLaw", "tag", "(I)Lcom/example/entitygate/entitygate/HtmlTag;"⟩ : MethodName) (head1 (Jvm.Cond.code (⟨"com/example/entitygate/entitygate/HtmlTagHasImpliedEndPinLaw", "tag", "(I)Lcom/example/entitygate/entitygate/HtmlTag;"⟩ : MethodName) method_2_code 1 (some (.object "com/example/entitygate/entitygate/HtmlTag")) :: ws) ({ frames := 0, cells := 0, slots := 0, locals := 0 } : Room)) (fun aA U => aA = #[(.int (30 : Int32))] ∧ Z.Warmed39 U.vm ∧ U.heap = h0) (fun _ _ _ _ _ => True) (fun _ U oO U' => ∃ vV LL, oO = .returned vV ∧ Q_tag30 Z a h0 n0 vV U'.heap LL ∧ FrameEnd U oO U' LL ({ frames := 0, cells := 0, slots := 0, locals := 0 } : Room).cells ({ frames := 0, cells := 0, slots := 0, locals := 0 } : Room).slots) := by
  refine MetFree.of_bodySF (plainFor_of_name pn_0) hisR ?_
  intro p e s m args below meth c s₁ Bd hml0 hP hK
  obtain ⟨rfl, hZ, hh⟩ := hP
  have hx := Bd.exec
  have hby := Bd.bytes
  have hml : c.maxLocals = 1 := hml0
  have hown : s.vm.findClass "com/example/entitygate/entitygate/HtmlTagHasImpliedEndPinLaw" = some m.cls := findClass_of_methodNamed Bd.named
  have hnm := (name_of_methodNamed Bd.named Bd.method).1
  have X0 : Stand p l e ({ frames := 0, cells := 0, slots := 0, locals := 0 } : Room) s m #[(.int (30 : Int32))] below meth c s₁ [] 0 0 := Stand.of_body Bd
  have e0 : s₁.heap = h0 := by rw [← hh, Bd.state]; rfl
  have N0 := Fr.nil n0
  have hret := Bd.returns
  have hlk : meth.locks = false := Bd.notSynchronized
  refine own_start (ef_0 m (30 : Int32)) ?_
  show own_Go p e below s (Q_tag30 Z a h0 n0) ({ frames := 0, cells := 0, slots := 0, locals := 0 } : Room).cells ({ frames := 0, cells := 0, slots := 0, locals := 0 } : Room).slots (s₁.setTop (mkF m 0 #[.val (.int (30 : Int32))] []))
  refine g_iload_n X0 hx 1 (hb hby d_method_2_0) rfl rfl ?_
  refine g_tswIn X0 hx 260 (hb hby d_method_2_1) (by decide) (o := 259) rfl (by decide) (by decide) ?_
  refine own_getS X0 hx hZ hown (host := "") (Or.inl (hw _ (List.mem_of_getElem? (i := 36) rfl))) Via.refl e0 S_SPAN 263 (hb hby d_method_2_260) rfl fun T31 X31 e31 => ?_
  refine own_retA X31 hx hlk hret rfl rfl (hb hby d_method_2_263) ?_ (by decide) (by decide)
  rw [e31]
  exact ⟨rfl, N0, rfl⟩
theorem d_method_2_264 : decode method_2_code 264 = .ok (.getstatic 103, 3) := by decide +kernel
theorem d_method_2_267 : decode method_2_code 267 = .ok (.areturn, 1) := by decide +kernel
def Q_tag31 (Z : State) (a : Addr) (h0 : Heap) (n0 : Nat) (v : Option Value) (h : Heap) (L : List Loc) : Prop := v = some (.ref a) ∧ Fr n0 L ∧ h = h0
set_option maxRecDepth 65536 in
set_option maxHeartbeats 40000000 in
theorem rm_tag31 (l : Launch) (Z : State) (a0 : Array Value) (hw : ∀ d ∈ tables_1, d.before a0 Z = true) (ws : List Jvm.Cond) (a : Addr) (h0 : Heap) (n0 : Nat) (Z0 : n0 ≤ h0.size) (S_BR : Sta Z h0 "com/example/entitygate/entitygate/HtmlTag" "BR" "Lcom/example/entitygate/entitygate/HtmlTag;" (.ref a)) :
    MetFree l (⟨"com/example/entitygate/entitygate/HtmlTagHasImpliedEndPinLaw", "tag", "(I)Lcom/example/entitygate/entitygate/HtmlTag;"⟩ : MethodName) (head1 (Jvm.Cond.code (⟨"com/example/entitygate/entitygate/HtmlTagHasImpliedEndPinLaw", "tag", "(I)Lcom/example/entitygate/entitygate/HtmlTag;"⟩ : MethodName) method_2_code 1 (some (.object "com/example/entitygate/entitygate/HtmlTag")) :: ws) ({ frames := 0, cells := 0, slots := 0, locals := 0 } : Room)) (fun aA U => aA = #[(.int (31 : Int32))] ∧ Z.Warmed39 U.vm ∧ U.heap = h0) (fun _ _ _ _ _ => True) (fun _ U oO U' => ∃ vV LL, oO = .returned vV ∧ Q_tag31 Z a h0 n0 vV U'.heap LL ∧ FrameEnd U oO U' LL ({ frames := 0, cells := 0, slots := 0, locals := 0 } : Room).cells ({ frames := 0, cells := 0, slots := 0, locals := 0 } : Room).slots) := by
  refine MetFree.of_bodySF (plainFor_of_name pn_0) hisR ?_
  intro p e s m args below meth c s₁ Bd hml0 hP hK
  obtain ⟨rfl, hZ, hh⟩ := hP
  have hx := Bd.exec
  have hby := Bd.bytes
  have hml : c.maxLocals = 1 := hml0
  have hown : s.vm.findClass "com/example/entitygate/entitygate/HtmlTagHasImpliedEndPinLaw" = some m.cls := findClass_of_methodNamed Bd.named
  have hnm := (name_of_methodNamed Bd.named Bd.method).1
  have X0 : Stand p l e ({ frames := 0, cells := 0, slots := 0, locals := 0 } : Room) s m #[(.int (31 : Int32))] below meth c s₁ [] 0 0 := Stand.of_body Bd
  have e0 : s₁.heap = h0 := by rw [← hh, Bd.state]; rfl
  have N0 := Fr.nil n0
  have hret := Bd.returns
  have hlk : meth.locks = false := Bd.notSynchronized
  refine own_start (ef_0 m (31 : Int32)) ?_
  show own_Go p e below s (Q_tag31 Z a h0 n0) ({ frames := 0, cells := 0, slots := 0, locals := 0 } : Room).cells ({ frames := 0, cells := 0, slots := 0, locals := 0 } : Room).slots (s₁.setTop (mkF m 0 #[.val (.int (31 : Int32))] []))
  refine g_iload_n X0 hx 1 (hb hby d_method_2_0) rfl rfl ?_
  refine g_tswOut X0 hx 264 (hb hby d_method_2_1) (by decide) (by decide) (by decide) ?_
  refine own_getS X0 hx hZ hown (host := "") (Or.inl (hw _ (List.mem_of_getElem? (i := 28) rfl))) Via.refl e0 S_BR 267 (hb hby d_method_2_264) rfl fun T32 X32 e32 => ?_
  refine own_retA X32 hx hlk hret rfl rfl (hb hby d_method_2_267) ?_ (by decide) (by decide)
  rw [e32]
  exact ⟨rfl, N0, rfl⟩
theorem d_prog_23_method_10_0 : decode prog_23_method_10_code 0 = .ok (.iload_n 1, 1) := by decide +kernel
theorem d_prog_23_method_10_1 : decode prog_23_method_10_code 1 = .ok (.ifCond .eq 8, 3) := by decide +kernel
theorem d_prog_23_method_10_9 : decode prog_23_method_10_code 9 = .ok (.bipush 32, 2) := by decide +kernel
theorem d_prog_23_method_10_11 : decode prog_23_method_10_code 11 = .ok (.istore_n 2, 1) := by decide +kernel
theorem d_prog_23_method_10_12 : decode prog_23_method_10_code 12 = .ok (.aload_n 0, 1) := by decide +kernel
theorem d_prog_23_method_10_13 : decode prog_23_method_10_code 13 = .ok (.getfield 393, 3) := by decide +kernel
theorem d_prog_23_method_10_16 : decode prog_23_method_10_code 16 = .ok (.iload_n 2, 1) := by decide +kernel
theorem d_prog_23_method_10_17 : decode prog_23_method_10_code 17 = .ok (.iand, 1) := by decide +kernel
theorem d_prog_23_method_10_18 : decode prog_23_method_10_code 18 = .ok (.ifCond .eq 7, 3) := by decide +kernel
theorem d_prog_23_method_10_25 : decode prog_23_method_10_code 25 = .ok (.iconst 0, 1) := by decide +kernel
theorem d_prog_23_method_10_26 : decode prog_23_method_10_code 26 = .ok (.ireturn, 1) := by decide +kernel
theorem d_prog_23_method_10_21 : decode prog_23_method_10_code 21 = .ok (.iconst 1, 1) := by decide +kernel
theorem d_prog_23_method_10_22 : decode prog_23_method_10_code 22 = .ok (.goto 4, 3) := by decide +kernel
theorem ef_1 (m : MethodId) (x0 : Addr) (x1 : Int32) : entryFrame m #[(.ref x0), (.int x1)] 3 = mkF m 0 #[.val (.ref x0), .val (.int x1), .unset] [] := by first | (simp [entryFrame, mkF, argsToLocals, Value.category]; done) | rfl
theorem pn_1 : plainName "com/example/entitygate/entitygate/HtmlTag" = true := by first | (simp [plainName, overriddenIn]; done) | decide +kernel
def Q_hi0 (Z : State) (a : Addr) (c0 : Int32) (h0 : Heap) (n0 : Nat) (v : Option Value) (h : Heap) (L : List Loc) : Prop := v = some (.int (own_he (32 : Int32) c0)) ∧ Fr n0 L ∧ h = h0
set_option maxRecDepth 65536 in
set_option maxHeartbeats 40000000 in
theorem rm_hi0 (l : Launch) (Z : State) (a0 : Array Value) (hw : ∀ d ∈ tables_1, d.before a0 Z = true) (ws : List Jvm.Cond) (a : Addr) (c0 : Int32) (h0 : Heap) (n0 : Nat) (Z0 : n0 ≤ h0.size) (F_a_categories : Fld Z h0 a "com/example/entitygate/entitygate/HtmlTag" "categories" "I" (.int c0)) :
    MetFree l (⟨"com/example/entitygate/entitygate/HtmlTag", "hasImpliedEnd", "(Z)Z"⟩ : MethodName) (head1 (Jvm.Cond.code (⟨"com/example/entitygate/entitygate/HtmlTag", "hasImpliedEnd", "(Z)Z"⟩ : MethodName) prog_23_method_10_code 3 (some .boolean) :: ws) ({ frames := 0, cells := 0, slots := 0, locals := 0 } : Room)) (fun aA U => aA = #[(.ref a), (.int (0 : Int32))] ∧ Z.Warmed39 U.vm ∧ U.heap = h0) (fun _ _ _ _ _ => True) (fun _ U oO U' => ∃ vV LL, oO = .returned vV ∧ Q_hi0 Z a c0 h0 n0 vV U'.heap LL ∧ FrameEnd U oO U' LL ({ frames := 0, cells := 0, slots := 0, locals := 0 } : Room).cells ({ frames := 0, cells := 0, slots := 0, locals := 0 } : Room).slots) := by
  refine MetFree.of_bodySF (plainFor_of_name pn_1) hisR ?_
  intro p e s m args below meth c s₁ Bd hml0 hP hK
  obtain ⟨rfl, hZ, hh⟩ := hP
  have hx := Bd.exec
  have hby := Bd.bytes
  have hml : c.maxLocals = 3 := hml0
  have hown : s.vm.findClass "com/example/entitygate/entitygate/HtmlTag" = some m.cls := findClass_of_methodNamed Bd.named
  have hnm := (name_of_methodNamed Bd.named Bd.method).1
  have X0 : Stand p l e ({ frames := 0, cells := 0, slots := 0, locals := 0 } : Room) s m #[(.ref a), (.int (0 : Int32))] below meth c s₁ [] 0 0 := Stand.of_body Bd
  have e0 : s₁.heap = h0 := by rw [← hh, Bd.state]; rfl
  have N0 := Fr.nil n0
  have hret := Bd.returns
  have hlk : meth.locks = false := Bd.notSynchronized
  refine own_start (ef_1 m a (0 : Int32)) ?_
  show own_Go p e below s (Q_hi0 Z a c0 h0 n0) ({ frames := 0, cells := 0, slots := 0, locals := 0 } : Room).cells ({ frames := 0, cells := 0, slots := 0, locals := 0 } : Room).slots (s₁.setTop (mkF m 0 #[.val (.ref a), .val (.int (0 : Int32)), .unset] []))
  refine g_iload_n X0 hx 1 (hb hby d_prog_23_method_10_0) rfl rfl ?_
  refine g_ifYes X0 hx 9 (hb hby d_prog_23_method_10_1) (own_i0_eq_t (by decide)) (by decide) (by decide) ?_
  refine g_bipush X0 hx 11 (hb hby d_prog_23_method_10_9) (32 : Int32) rfl rfl ?_
  refine g_istore_n X0 hx 12 (hb hby d_prog_23_method_10_11) (l' := #[.val (.ref a), .val (.int (0 : Int32)), .val (.int (32 : Int32))]) rfl rfl ?_
  refine g_aload_n X0 hx 13 (hb hby d_prog_23_method_10_12) rfl rfl rfl ?_
  refine own_getF X0 hx hZ hown (host := "") (Or.inl (hw _ (List.mem_of_getElem? (i := 12) rfl))) Via.refl e0 F_a_categories 16 (hb hby d_prog_23_method_10_13) rfl fun T33 X33 e33 => ?_
  refine g_iload_n X33 hx 17 (hb hby d_prog_23_method_10_16) rfl rfl ?_
  refine g_iand X33 hx 18 (hb hby d_prog_23_method_10_17) rfl ?_
  by_cases c34 : (c0 &&& (32 : Int32)) = (0 : Int32)
  · refine g_ifYes X33 hx 25 (hb hby d_prog_23_method_10_18) (own_i0_eq_t c34) (by decide) (by decide) ?_
    refine g_iconst X33 hx 26 (hb hby d_prog_23_method_10_25) (0 : Int32) rfl rfl ?_
    refine own_retN X33 hx hlk (t := .boolean) hret (by simp) (hb hby d_prog_23_method_10_26) ?_ (by decide) (by decide)
    rw [e33]
    exact ⟨(own_rb (by simp [own_he, c34])), N0, rfl⟩
  · refine g_ifNo X33 hx 21 (hb hby d_prog_23_method_10_18) (own_i0_eq_f c34) rfl ?_
    refine g_iconst X33 hx 22 (hb hby d_prog_23_method_10_21) (1 : Int32) rfl rfl ?_
    refine g_goto X33 hx 26 (hb hby d_prog_23_method_10_22) (by decide) (by decide) ?_
    refine own_retN X33 hx hlk (t := .boolean) hret (by simp) (hb hby d_prog_23_method_10_26) ?_ (by decide) (by decide)
    rw [e33]
    exact ⟨(own_rb (by simp [own_he, c34])), N0, rfl⟩
theorem d_prog_23_method_10_4 : decode prog_23_method_10_code 4 = .ok (.bipush 96, 2) := by decide +kernel
theorem d_prog_23_method_10_6 : decode prog_23_method_10_code 6 = .ok (.goto 5, 3) := by decide +kernel
def Q_hi1 (Z : State) (a : Addr) (c0 : Int32) (h0 : Heap) (n0 : Nat) (v : Option Value) (h : Heap) (L : List Loc) : Prop := v = some (.int (own_he (96 : Int32) c0)) ∧ Fr n0 L ∧ h = h0
set_option maxRecDepth 65536 in
set_option maxHeartbeats 40000000 in
theorem rm_hi1 (l : Launch) (Z : State) (a0 : Array Value) (hw : ∀ d ∈ tables_1, d.before a0 Z = true) (ws : List Jvm.Cond) (a : Addr) (c0 : Int32) (h0 : Heap) (n0 : Nat) (Z0 : n0 ≤ h0.size) (F_a_categories : Fld Z h0 a "com/example/entitygate/entitygate/HtmlTag" "categories" "I" (.int c0)) :
    MetFree l (⟨"com/example/entitygate/entitygate/HtmlTag", "hasImpliedEnd", "(Z)Z"⟩ : MethodName) (head1 (Jvm.Cond.code (⟨"com/example/entitygate/entitygate/HtmlTag", "hasImpliedEnd", "(Z)Z"⟩ : MethodName) prog_23_method_10_code 3 (some .boolean) :: ws) ({ frames := 0, cells := 0, slots := 0, locals := 0 } : Room)) (fun aA U => aA = #[(.ref a), (.int (1 : Int32))] ∧ Z.Warmed39 U.vm ∧ U.heap = h0) (fun _ _ _ _ _ => True) (fun _ U oO U' => ∃ vV LL, oO = .returned vV ∧ Q_hi1 Z a c0 h0 n0 vV U'.heap LL ∧ FrameEnd U oO U' LL ({ frames := 0, cells := 0, slots := 0, locals := 0 } : Room).cells ({ frames := 0, cells := 0, slots := 0, locals := 0 } : Room).slots) := by
  refine MetFree.of_bodySF (plainFor_of_name pn_1) hisR ?_
  intro p e s m args below meth c s₁ Bd hml0 hP hK
  obtain ⟨rfl, hZ, hh⟩ := hP
  have hx := Bd.exec
  have hby := Bd.bytes
  have hml : c.maxLocals = 3 := hml0
  have hown : s.vm.findClass "com/example/entitygate/entitygate/HtmlTag" = some m.cls := findClass_of_methodNamed Bd.named
  have hnm := (name_of_methodNamed Bd.named Bd.method).1
  have X0 : Stand p l e ({ frames := 0, cells := 0, slots := 0, locals := 0 } : Room) s m #[(.ref a), (.int (1 : Int32))] below meth c s₁ [] 0 0 := Stand.of_body Bd
  have e0 : s₁.heap = h0 := by rw [← hh, Bd.state]; rfl
  have N0 := Fr.nil n0
  have hret := Bd.returns
  have hlk : meth.locks = false := Bd.notSynchronized
  refine own_start (ef_1 m a (1 : Int32)) ?_
  show own_Go p e below s (Q_hi1 Z a c0 h0 n0) ({ frames := 0, cells := 0, slots := 0, locals := 0 } : Room).cells ({ frames := 0, cells := 0, slots := 0, locals := 0 } : Room).slots (s₁.setTop (mkF m 0 #[.val (.ref a), .val (.int (1 : Int32)), .unset] []))
  refine g_iload_n X0 hx 1 (hb hby d_prog_23_method_10_0) rfl rfl ?_
  refine g_ifNo X0 hx 4 (hb hby d_prog_23_method_10_1) (own_i0_eq_f (by decide)) rfl ?_
  refine g_bipush X0 hx 6 (hb hby d_prog_23_method_10_4) (96 : Int32) rfl rfl ?_
  refine g_goto X0 hx 11 (hb hby d_prog_23_method_10_6) (by decide) (by decide) ?_
  refine g_istore_n X0 hx 12 (hb hby d_prog_23_method_10_11) (l' := #[.val (.ref a), .val (.int (1 : Int32)), .val (.int (96 : Int32))]) rfl rfl ?_
  refine g_aload_n X0 hx 13 (hb hby d_prog_23_method_10_12) rfl rfl rfl ?_
  refine own_getF X0 hx hZ hown (host := "") (Or.inl (hw _ (List.mem_of_getElem? (i := 12) rfl))) Via.refl e0 F_a_categories 16 (hb hby d_prog_23_method_10_13) rfl fun T35 X35 e35 => ?_
  refine g_iload_n X35 hx 17 (hb hby d_prog_23_method_10_16) rfl rfl ?_
  refine g_iand X35 hx 18 (hb hby d_prog_23_method_10_17) rfl ?_
  by_cases c36 : (c0 &&& (96 : Int32)) = (0 : Int32)
  · refine g_ifYes X35 hx 25 (hb hby d_prog_23_method_10_18) (own_i0_eq_t c36) (by decide) (by decide) ?_
    refine g_iconst X35 hx 26 (hb hby d_prog_23_method_10_25) (0 : Int32) rfl rfl ?_
    refine own_retN X35 hx hlk (t := .boolean) hret (by simp) (hb hby d_prog_23_method_10_26) ?_ (by decide) (by decide)
    rw [e35]
    exact ⟨(own_rb (by simp [own_he, c36])), N0, rfl⟩
  · refine g_ifNo X35 hx 21 (hb hby d_prog_23_method_10_18) (own_i0_eq_f c36) rfl ?_
    refine g_iconst X35 hx 22 (hb hby d_prog_23_method_10_21) (1 : Int32) rfl rfl ?_
    refine g_goto X35 hx 26 (hb hby d_prog_23_method_10_22) (by decide) (by decide) ?_
    refine own_retN X35 hx hlk (t := .boolean) hret (by simp) (hb hby d_prog_23_method_10_26) ?_ (by decide) (by decide)
    rw [e35]
    exact ⟨(own_rb (by simp [own_he, c36])), N0, rfl⟩
theorem pd_0 : parseMethodDescriptor "(I)Lcom/example/entitygate/entitygate/HtmlTag;" = some ⟨[.int], some (.object "com/example/entitygate/entitygate/HtmlTag")⟩ := by decide +kernel
theorem pd_1 : parseMethodDescriptor "(Z)Z" = some ⟨[.boolean], some .boolean⟩ := by decide +kernel
theorem ef_2 (m : MethodId) (x0 : Int32) (x1 : Int32) : entryFrame m #[(.int x0), (.int x1)] maxLocals = mkF m 0 #[.val (.int x0), .val (.int x1), .unset, .unset, .unset, .unset] [] := by first | (simp [entryFrame, mkF, argsToLocals, Value.category, maxLocals]; done) | rfl
def Q_law (Z : State) (p0 p1 : Int32) (t0 t1 t2 t3 t4 t5 t6 t7 t8 t9 t10 t11 t12 t13 t14 t15 t16 t17 t18 t19 t20 t21 t22 t23 t24 t25 t26 t27 t28 t29 t30 t31 : Addr) (h0 : Heap) (n0 : Nat) (v : Option Value) (h : Heap) (L : List Loc) : Prop := v = some (.int 1) ∧ Fr n0 L
set_option maxRecDepth 65536 in
set_option maxHeartbeats 40000000 in
theorem rm_law (l : Launch) (Z : State) (a0 : Array Value) (hw : ∀ d ∈ tables_1, d.before a0 Z = true) (ws : List Jvm.Cond) (p0 p1 : Int32) (t0 t1 t2 t3 t4 t5 t6 t7 t8 t9 t10 t11 t12 t13 t14 t15 t16 t17 t18 t19 t20 t21 t22 t23 t24 t25 t26 t27 t28 t29 t30 t31 : Addr) (h0 : Heap) (n0 : Nat) (Z0 : n0 ≤ h0.size) (S0 : Sta Z h0 "com/example/entitygate/entitygate/HtmlTag" "DD" "Lcom/example/entitygate/entitygate/HtmlTag;" (.ref t0)) (E0 : Exa Z h0 t0 "com/example/entitygate/entitygate/HtmlTag") (F0 : Fld Z h0 t0 "com/example/entitygate/entitygate/HtmlTag" "categories" "I" (.int (33 : Int32))) (S1 : Sta Z h0 "com/example/entitygate/entitygate/HtmlTag" "DT" "Lcom/example/entitygate/entitygate/HtmlTag;" (.ref t1)) (E1 : Exa Z h0 t1 "com/example/entitygate/entitygate/HtmlTag") (F1 : Fld Z h0 t1 "com/example/entitygate/entitygate/HtmlTag" "categories" "I" (.int (33 : Int32))) (S2 : Sta Z h0 "com/example/entitygate/entitygate/HtmlTag" "LI" "Lcom/example/entitygate/entitygate/HtmlTag;" (.ref t2)) (E2 : Exa Z h0 t2 "com/example/entitygate/entitygate/HtmlTag") (F2 : Fld Z h0 t2 "com/example/entitygate/entitygate/HtmlTag" "categories" "I" (.int (33 : Int32))) (S3 : Sta Z h0 "com/example/entitygate/entitygate/HtmlTag" "OPTGROUP" "Lcom/example/entitygate/entitygate/HtmlTag;" (.ref t3)) (E3 : Exa Z h0 t3 "com/example/entitygate/entitygate/HtmlTag") (F3 : Fld Z h0 t3 "com/example/entitygate/entitygate/HtmlTag" "categories" "I" (.int (32 : Int32))) (S4 : Sta Z h0 "com/example/entitygate/entitygate/HtmlTag" "OPTION" "Lcom/example/entitygate/entitygate/HtmlTag;" (.ref t4)) (E4 : Exa Z h0 t4 "com/example/entitygate/entitygate/HtmlTag") (F4 : Fld Z h0 t4 "com/example/entitygate/entitygate/HtmlTag" "categories" "I" (.int (32 : Int32))) (S5 : Sta Z h0 "com/example/entitygate/entitygate/HtmlTag" "P" "Lcom/example/entitygate/entitygate/HtmlTag;" (.ref t5)) (E5 : Exa Z h0 t5 "com/example/entitygate/entitygate/HtmlTag") (F5 : Fld Z h0 t5 "com/example/entitygate/entitygate/HtmlTag" "categories" "I" (.int (33 : Int32))) (S6 : Sta Z h0 "com/example/entitygate/entitygate/HtmlTag" "RB" "Lcom/example/entitygate/entitygate/HtmlTag;" (.ref t6)) (E6 : Exa Z h0 t6 "com/example/entitygate/entitygate/HtmlTag") (F6 : Fld Z h0 t6 "com/example/entitygate/entitygate/HtmlTag" "categories" "I" (.int (32 : Int32))) (S7 : Sta Z h0 "com/example/entitygate/entitygate/HtmlTag" "RP" "Lcom/example/entitygate/entitygate/HtmlTag;" (.ref t7)) (E7 : Exa Z h0 t7 "com/example/entitygate/entitygate/HtmlTag") (F7 : Fld Z h0 t7 "com/example/entitygate/entitygate/HtmlTag" "categories" "I" (.int (32 : Int32))) (S8 : Sta Z h0 "com/example/entitygate/entitygate/HtmlTag" "RT" "Lcom/example/entitygate/entitygate/HtmlTag;" (.ref t8)) (E8 : Exa Z h0 t8 "com/example/entitygate/entitygate/HtmlTag") (F8 : Fld Z h0 t8 "com/example/entitygate/entitygate/HtmlTag" "categories" "I" (.int (32 : Int32))) (S9 : Sta Z h0 "com/example/entitygate/entitygate/HtmlTag" "RTC" "Lcom/example/entitygate/entitygate/HtmlTag;" (.ref t9)) (E9 : Exa Z h0 t9 "com/example/entitygate/entitygate/HtmlTag") (F9 : Fld Z h0 t9 "com/example/entitygate/entitygate/HtmlTag" "categories" "I" (.int (32 : Int32))) (S10 : Sta Z h0 "com/example/entitygate/entitygate/HtmlTag" "CAPTION" "Lcom/example/entitygate/entitygate/HtmlTag;" (.ref t10)) (E10 : Exa Z h0 t10 "com/example/entitygate/entitygate/HtmlTag") (F10 : Fld Z h0 t10 "com/example/entitygate/entitygate/HtmlTag" "categories" "I" (.int (81 : Int32))) (S11 : Sta Z h0 "com/example/entitygate/entitygate/HtmlTag" "COLGROUP" "Lcom/example/entitygate/entitygate/HtmlTag;" (.ref t11)) (E11 : Exa Z h0 t11 "com/example/entitygate/entitygate/HtmlTag") (F11 : Fld Z h0 t11 "com/example/entitygate/entitygate/HtmlTag" "categories" "I" (.int (65 : Int32))) (S12 : Sta Z h0 "com/example/entitygate/entitygate/HtmlTag" "TBODY" "Lcom/example/entitygate/entitygate/HtmlTag;" (.ref t12)) (E12 : Exa Z h0 t12 "com/example/entitygate/entitygate/HtmlTag") (F12 : Fld Z h0 t12 "com/example/entitygate/entitygate/HtmlTag" "categories" "I" (.int (65 : Int32))) (S13 : Sta Z h0 "com/example/entitygate/entitygate/HtmlTag" "TD" "Lcom/example/entitygate/entitygate/HtmlTag;" (.ref t13)) (E13 : Exa Z h0 t13 "com/example/entitygate/entitygate/HtmlTag") (F13 : Fld Z h0 t13 "com/example/entitygate/entitygate/HtmlTag" "categories" "I" (.int (81 : Int32))) (S14 : Sta Z h0 "com/example/entitygate/entitygate/HtmlTag" "TFOOT" "Lcom/example/entitygate/entitygate/HtmlTag;" (.ref t14)) (E14 : Exa Z h0 t14 "com/example/entitygate/entitygate/HtmlTag") (F14 : Fld Z h0 t14 "com/example/entitygate/entitygate/HtmlTag" "categories" "I" (.int (65 : Int32))) (S15 : Sta Z h0 "com/example/entitygate/entitygate/HtmlTag" "TH" "Lcom/example/entitygate/entitygate/HtmlTag;" (.ref t15)) (E15 : Exa Z h0 t15 "com/example/entitygate/entitygate/HtmlTag") (F15 : Fld Z h0 t15 "com/example/entitygate/entitygate/HtmlTag" "categories" "I" (.int (81 : Int32))) (S16 : Sta Z h0 "com/example/entitygate/entitygate/HtmlTag" "THEAD" "Lcom/example/entitygate/entitygate/HtmlTag;" (.ref t16)) (E16 : Exa Z h0 t16 "com/example/entitygate/entitygate/HtmlTag") (F16 : Fld Z h0 t16 "com/example/entitygate/entitygate/HtmlTag" "categories" "I" (.int (65 : Int32))) (S17 : Sta Z h0 "com/example/entitygate/entitygate/HtmlTag" "TR" "Lcom/example/entitygate/entitygate/HtmlTag;" (.ref t17)) (E17 : Exa Z h0 t17 "com/example/entitygate/entitygate/HtmlTag") (F17 : Fld Z h0 t17 "com/example/entitygate/entitygate/HtmlTag" "categories" "I" (.int (65 : Int32))) (S18 : Sta Z h0 "com/example/entitygate/entitygate/HtmlTag" "A" "Lcom/example/entitygate/entitygate/HtmlTag;" (.ref t18)) (E18 : Exa Z h0 t18 "com/example/entitygate/entitygate/HtmlTag") (F18 : Fld Z h0 t18 "com/example/entitygate/entitygate/HtmlTag" "categories" "I" (.int (2 : Int32))) (S19 : Sta Z h0 "com/example/entitygate/entitygate/HtmlTag" "ADDRESS" "Lcom/example/entitygate/entitygate/HtmlTag;" (.ref t19)) (E19 : Exa Z h0 t19 "com/example/entitygate/entitygate/HtmlTag") (F19 : Fld Z h0 t19 "com/example/entitygate/entitygate/HtmlTag" "categories" "I" (.int (1 : Int32))) (S20 : Sta Z h0 "com/example/entitygate/entitygate/HtmlTag" "ANNOTATION_XML" "Lcom/example/entitygate/entitygate/HtmlTag;" (.ref t20)) (E20 : Exa Z h0 t20 "com/example/entitygate/entitygate/HtmlTag") (F20 : Fld Z h0 t20 "com/example/entitygate/entitygate/HtmlTag" "categories" "I" (.int (0 : Int32))) (S21 : Sta Z h0 "com/example/entitygate/entitygate/HtmlTag" "APPLET" "Lcom/example/entitygate/entitygate/HtmlTag;" (.ref t21)) (E21 : Exa Z h0 t21 "com/example/entitygate/entitygate/HtmlTag") (F21 : Fld Z h0 t21 "com/example/entitygate/entitygate/HtmlTag" "categories" "I" (.int (17 : Int32))) (S22 : Sta Z h0 "com/example/entitygate/entitygate/HtmlTag" "AREA" "Lcom/example/entitygate/entitygate/HtmlTag;" (.ref t22)) (E22 : Exa Z h0 t22 "com/example/entitygate/entitygate/HtmlTag") (F22 : Fld Z h0 t22 "com/example/entitygate/entitygate/HtmlTag" "categories" "I" (.int (5 : Int32))) (S23 : Sta Z h0 "com/example/entitygate/entitygate/HtmlTag" "H1" "Lcom/example/entitygate/entitygate/HtmlTag;" (.ref t23)) (E23 : Exa Z h0 t23 "com/example/entitygate/entitygate/HtmlTag") (F23 : Fld Z h0 t23 "com/example/entitygate/entitygate/HtmlTag" "categories" "I" (.int (129 : Int32))) (S24 : Sta Z h0 "com/example/entitygate/entitygate/HtmlTag" "IFRAME" "Lcom/example/entitygate/entitygate/HtmlTag;" (.ref t24)) (E24 : Exa Z h0 t24 "com/example/entitygate/entitygate/HtmlTag") (F24 : Fld Z h0 t24 "com/example/entitygate/entitygate/HtmlTag" "categories" "I" (.int (9 : Int32))) (S25 : Sta Z h0 "com/example/entitygate/entitygate/HtmlTag" "TABLE" "Lcom/example/entitygate/entitygate/HtmlTag;" (.ref t25)) (E25 : Exa Z h0 t25 "com/example/entitygate/entitygate/HtmlTag") (F25 : Fld Z h0 t25 "com/example/entitygate/entitygate/HtmlTag" "categories" "I" (.int (17 : Int32))) (S26 : Sta Z h0 "com/example/entitygate/entitygate/HtmlTag" "TEMPLATE" "Lcom/example/entitygate/entitygate/HtmlTag;" (.ref t26)) (E26 : Exa Z h0 t26 "com/example/entitygate/entitygate/HtmlTag") (F26 : Fld Z h0 t26 "com/example/entitygate/entitygate/HtmlTag" "categories" "I" (.int (17 : Int32))) (S27 : Sta Z h0 "com/example/entitygate/entitygate/HtmlTag" "HTML" "Lcom/example/entitygate/entitygate/HtmlTag;" (.ref t27)) (E27 : Exa Z h0 t27 "com/example/entitygate/entitygate/HtmlTag") (F27 : Fld Z h0 t27 "com/example/entitygate/entitygate/HtmlTag" "categories" "I" (.int (17 : Int32))) (S28 : Sta Z h0 "com/example/entitygate/entitygate/HtmlTag" "BODY" "Lcom/example/entitygate/entitygate/HtmlTag;" (.ref t28)) (E28 : Exa Z h0 t28 "com/example/entitygate/entitygate/HtmlTag") (F28 : Fld Z h0 t28 "com/example/entitygate/entitygate/HtmlTag" "categories" "I" (.int (1 : Int32))) (S29 : Sta Z h0 "com/example/entitygate/entitygate/HtmlTag" "SELECT" "Lcom/example/entitygate/entitygate/HtmlTag;" (.ref t29)) (E29 : Exa Z h0 t29 "com/example/entitygate/entitygate/HtmlTag") (F29 : Fld Z h0 t29 "com/example/entitygate/entitygate/HtmlTag" "categories" "I" (.int (1 : Int32))) (S30 : Sta Z h0 "com/example/entitygate/entitygate/HtmlTag" "SPAN" "Lcom/example/entitygate/entitygate/HtmlTag;" (.ref t30)) (E30 : Exa Z h0 t30 "com/example/entitygate/entitygate/HtmlTag") (F30 : Fld Z h0 t30 "com/example/entitygate/entitygate/HtmlTag" "categories" "I" (.int (0 : Int32))) (S31 : Sta Z h0 "com/example/entitygate/entitygate/HtmlTag" "BR" "Lcom/example/entitygate/entitygate/HtmlTag;" (.ref t31)) (E31 : Exa Z h0 t31 "com/example/entitygate/entitygate/HtmlTag") (F31 : Fld Z h0 t31 "com/example/entitygate/entitygate/HtmlTag" "categories" "I" (.int (5 : Int32))) :
    MetFree l x (head1 (Jvm.Cond.code x code maxLocals ret :: ws) room_1) (fun aA U => aA = #[(.int p0), (.int p1)] ∧ Z.Warmed39 U.vm ∧ U.heap = h0) (fun _ _ _ _ _ => True) (fun _ U oO U' => ∃ vV LL, oO = .returned vV ∧ Q_law Z p0 p1 t0 t1 t2 t3 t4 t5 t6 t7 t8 t9 t10 t11 t12 t13 t14 t15 t16 t17 t18 t19 t20 t21 t22 t23 t24 t25 t26 t27 t28 t29 t30 t31 h0 n0 vV U'.heap LL ∧ FrameEnd U oO U' LL room_1.cells room_1.slots) := by
  refine MetFree.of_bodySF (plainFor_of_name pn_0) hisR ?_
  intro p e s m args below meth c s₁ Bd hml0 hP hK
  obtain ⟨rfl, hZ, hh⟩ := hP
  have hx := Bd.exec
  have hby := Bd.bytes
  have hml : c.maxLocals = 6 := hml0
  have hown : s.vm.findClass "com/example/entitygate/entitygate/HtmlTagHasImpliedEndPinLaw" = some m.cls := findClass_of_methodNamed Bd.named
  have hnm := (name_of_methodNamed Bd.named Bd.method).1
  have X0 : Stand p l e room_1 s m #[(.int p0), (.int p1)] below meth c s₁ [] 0 0 := Stand.of_body Bd
  have e0 : s₁.heap = h0 := by rw [← hh, Bd.state]; rfl
  have N0 := Fr.nil n0
  have hret := Bd.returns
  have hlk : meth.locks = false := Bd.notSynchronized
  refine own_start (ef_2 m p0 p1) ?_
  show own_Go p e below s (Q_law Z p0 p1 t0 t1 t2 t3 t4 t5 t6 t7 t8 t9 t10 t11 t12 t13 t14 t15 t16 t17 t18 t19 t20 t21 t22 t23 t24 t25 t26 t27 t28 t29 t30 t31 h0 n0) room_1.cells room_1.slots (s₁.setTop (mkF m 0 #[.val (.int p0), .val (.int p1), .unset, .unset, .unset, .unset] []))
  refine g_iload_n X0 hx 1 (hb hby at_0) rfl rfl ?_
  refine g_iconst X0 hx 2 (hb hby at_1) (1 : Int32) rfl rfl ?_
  refine g_iand X0 hx 3 (hb hby at_2) rfl ?_
  by_cases c37 : (p1 &&& (1 : Int32)) = (0 : Int32)
  · refine g_ifYes X0 hx 10 (hb hby at_3) (own_i0_eq_t c37) (by decide) (by decide) ?_
    refine g_iconst X0 hx 11 (hb hby at_10) (0 : Int32) rfl rfl ?_
    refine g_istore_n X0 hx 12 (hb hby at_11) (l' := #[.val (.int p0), .val (.int p1), .val (.int (0 : Int32)), .unset, .unset, .unset]) rfl rfl ?_
    refine g_iload_n X0 hx 13 (hb hby at_12) rfl rfl ?_
    refine g_bipush X0 hx 15 (hb hby at_13) (31 : Int32) rfl rfl ?_
    refine g_iand X0 hx 16 (hb hby at_15) rfl ?_
    obtain ⟨k, q_k⟩ : ∃ z, z = (p0 &&& (31 : Int32)) := ⟨_, rfl⟩
    rw [← q_k]
    refine g_istore_n X0 hx 17 (hb hby at_16) (l' := #[.val (.int p0), .val (.int p1), .val (.int (0 : Int32)), .val (.int k), .unset, .unset]) rfl rfl ?_
    rcases own_32 p0 q_k with rfl | rfl | rfl | rfl | rfl | rfl | rfl | rfl | rfl | rfl | rfl | rfl | rfl | rfl | rfl | rfl | rfl | rfl | rfl | rfl | rfl | rfl | rfl | rfl | rfl | rfl | rfl | rfl | rfl | rfl | rfl | rfl
    · show own_Go p e below s _ _ _ (s₁.setTop (mkF m 17 _ []))
      refine g_iload_n X0 hx 18 (hb hby at_17) rfl rfl ?_
      refine own_callS X0 hx hZ hown (hw _ (List.mem_of_getElem? (i := 0) rfl)) (hw _ (List.mem_of_getElem? (i := 1) rfl)) (by decide) (rm_tag0 l Z a0 hw [] t0 h0 n0 Z0 S0) (hw _ (List.mem_of_getElem? (i := 3) rfl)) (hw _ (List.mem_of_getElem? (i := 2) rfl)) e0 0 (by decide) (by decide) (by decide) (by decide) [(.int (0 : Int32))] [] rfl pd_0 rfl 21 rfl (by rw [hml]; rfl) rfl (hb hby at_18) rfl fun T38 v38 L38 X38 hQ38 => ?_
      obtain ⟨rfl, Nq38, e38⟩ := hQ38
      have N38 := Fr.app N0 Nq38
      show own_Go p e below s _ _ _ (T38.setTop (mkF m 21 _ [(.ref t0)]))
      refine g_astore X38 hx 23 (hb hby at_21) rfl (l' := #[.val (.int p0), .val (.int p1), .val (.int (0 : Int32)), .val (.int (0 : Int32)), .val (.ref t0), .unset]) rfl rfl ?_
      refine g_iload_n X38 hx 24 (hb hby at_23) rfl rfl ?_
      refine g_ifYes X38 hx 43 (hb hby at_24) (own_i0_eq_t (by decide)) (by decide) (by decide) ?_
      refine g_iload_n X38 hx 44 (hb hby at_43) rfl rfl ?_
      refine g_bipush X38 hx 46 (hb hby at_44) (10 : Int32) rfl rfl ?_
      refine g_icmpNo X38 hx 49 (hb hby at_46) (own_ii_ge_f (by decide)) rfl ?_
      refine g_iconst X38 hx 50 (hb hby at_49) (1 : Int32) rfl rfl ?_
      refine g_goto X38 hx 54 (hb hby at_50) (by decide) (by decide) ?_
      refine g_istore X38 hx 56 (hb hby at_54) (l' := #[.val (.int p0), .val (.int p1), .val (.int (0 : Int32)), .val (.int (0 : Int32)), .val (.ref t0), .val (.int (1 : Int32))]) rfl rfl ?_
      refine g_aload X38 hx 58 (hb hby at_56) rfl rfl rfl ?_
      refine g_iload_n X38 hx 59 (hb hby at_58) rfl rfl ?_
      refine own_callV X38 hx hZ hown (hw _ (List.mem_of_getElem? (i := 7) rfl)) (hw _ (List.mem_of_getElem? (i := 8) rfl)) (own_nf hZ (hw _ (List.mem_of_getElem? (i := 10) rfl))) (hw _ (List.mem_of_getElem? (i := 10) rfl)) (hw _ (List.mem_of_getElem? (i := 9) rfl)) (by decide) (rm_hi0 l Z a0 hw [] t0 (33 : Int32) h0 n0 Z0 F0) (hw _ (List.mem_of_getElem? (i := 11) rfl)) (hw _ (List.mem_of_getElem? (i := 5) rfl)) e38 0 (by decide) (by decide) (by decide) (by decide) E0 [(.int (0 : Int32))] [] rfl pd_1 rfl 62 rfl (by rw [hml]; rfl) rfl (hb hby at_59) rfl fun T39 v39 L39 X39 hQ39 => ?_
      obtain ⟨rfl, Nq39, e39⟩ := hQ39
      have N39 := Fr.app N38 Nq39
      show own_Go p e below s _ _ _ (T39.setTop (mkF m 62 _ [(.int (own_he (32 : Int32) (33 : Int32)))]))
      refine g_iload X39 hx 64 (hb hby at_62) rfl rfl ?_
      have c40 : (own_he (32 : Int32) (33 : Int32)) = (1 : Int32) := by decide
      refine g_icmpNo X39 hx 67 (hb hby at_64) (own_ii_ne_f c40) rfl ?_
      refine g_iconst X39 hx 68 (hb hby at_67) (1 : Int32) rfl rfl ?_
      refine g_goto X39 hx 72 (hb hby at_68) (by decide) (by decide) ?_
      refine own_retN X39 hx hlk (t := .boolean) hret (by simp) (hb hby at_72) ?_ (by decide) (by decide)
      rw [e39]
      exact ⟨rfl, N39⟩
    · show own_Go p e below s _ _ _ (s₁.setTop (mkF m 17 _ []))
      refine g_iload_n X0 hx 18 (hb hby at_17) rfl rfl ?_
      refine own_callS X0 hx hZ hown (hw _ (List.mem_of_getElem? (i := 0) rfl)) (hw _ (List.mem_of_getElem? (i := 1) rfl)) (by decide) (rm_tag1 l Z a0 hw [] t1 h0 n0 Z0 S1) (hw _ (List.mem_of_getElem? (i := 3) rfl)) (hw _ (List.mem_of_getElem? (i := 2) rfl)) e0 0 (by decide) (by decide) (by decide) (by decide) [(.int (1 : Int32))] [] rfl pd_0 rfl 21 rfl (by rw [hml]; rfl) rfl (hb hby at_18) rfl fun T41 v41 L41 X41 hQ41 => ?_
      obtain ⟨rfl, Nq41, e41⟩ := hQ41
      have N41 := Fr.app N0 Nq41
      show own_Go p e below s _ _ _ (T41.setTop (mkF m 21 _ [(.ref t1)]))
      refine g_astore X41 hx 23 (hb hby at_21) rfl (l' := #[.val (.int p0), .val (.int p1), .val (.int (0 : Int32)), .val (.int (1 : Int32)), .val (.ref t1), .unset]) rfl rfl ?_
      refine g_iload_n X41 hx 24 (hb hby at_23) rfl rfl ?_
      refine g_ifYes X41 hx 43 (hb hby at_24) (own_i0_eq_t (by decide)) (by decide) (by decide) ?_
      refine g_iload_n X41 hx 44 (hb hby at_43) rfl rfl ?_
      refine g_bipush X41 hx 46 (hb hby at_44) (10 : Int32) rfl rfl ?_
      refine g_icmpNo X41 hx 49 (hb hby at_46) (own_ii_ge_f (by decide)) rfl ?_
      refine g_iconst X41 hx 50 (hb hby at_49) (1 : Int32) rfl rfl ?_
      refine g_goto X41 hx 54 (hb hby at_50) (by decide) (by decide) ?_
      refine g_istore X41 hx 56 (hb hby at_54) (l' := #[.val (.int p0), .val (.int p1), .val (.int (0 : Int32)), .val (.int (1 : Int32)), .val (.ref t1), .val (.int (1 : Int32))]) rfl rfl ?_
      refine g_aload X41 hx 58 (hb hby at_56) rfl rfl rfl ?_
      refine g_iload_n X41 hx 59 (hb hby at_58) rfl rfl ?_
      refine own_callV X41 hx hZ hown (hw _ (List.mem_of_getElem? (i := 7) rfl)) (hw _ (List.mem_of_getElem? (i := 8) rfl)) (own_nf hZ (hw _ (List.mem_of_getElem? (i := 10) rfl))) (hw _ (List.mem_of_getElem? (i := 10) rfl)) (hw _ (List.mem_of_getElem? (i := 9) rfl)) (by decide) (rm_hi0 l Z a0 hw [] t1 (33 : Int32) h0 n0 Z0 F1) (hw _ (List.mem_of_getElem? (i := 11) rfl)) (hw _ (List.mem_of_getElem? (i := 5) rfl)) e41 0 (by decide) (by decide) (by decide) (by decide) E1 [(.int (0 : Int32))] [] rfl pd_1 rfl 62 rfl (by rw [hml]; rfl) rfl (hb hby at_59) rfl fun T42 v42 L42 X42 hQ42 => ?_
      obtain ⟨rfl, Nq42, e42⟩ := hQ42
      have N42 := Fr.app N41 Nq42
      show own_Go p e below s _ _ _ (T42.setTop (mkF m 62 _ [(.int (own_he (32 : Int32) (33 : Int32)))]))
      refine g_iload X42 hx 64 (hb hby at_62) rfl rfl ?_
      have c43 : (own_he (32 : Int32) (33 : Int32)) = (1 : Int32) := by decide
      refine g_icmpNo X42 hx 67 (hb hby at_64) (own_ii_ne_f c43) rfl ?_
      refine g_iconst X42 hx 68 (hb hby at_67) (1 : Int32) rfl rfl ?_
      refine g_goto X42 hx 72 (hb hby at_68) (by decide) (by decide) ?_
      refine own_retN X42 hx hlk (t := .boolean) hret (by simp) (hb hby at_72) ?_ (by decide) (by decide)
      rw [e42]
      exact ⟨rfl, N42⟩
    · show own_Go p e below s _ _ _ (s₁.setTop (mkF m 17 _ []))
      refine g_iload_n X0 hx 18 (hb hby at_17) rfl rfl ?_
      refine own_callS X0 hx hZ hown (hw _ (List.mem_of_getElem? (i := 0) rfl)) (hw _ (List.mem_of_getElem? (i := 1) rfl)) (by decide) (rm_tag2 l Z a0 hw [] t2 h0 n0 Z0 S2) (hw _ (List.mem_of_getElem? (i := 3) rfl)) (hw _ (List.mem_of_getElem? (i := 2) rfl)) e0 0 (by decide) (by decide) (by decide) (by decide) [(.int (2 : Int32))] [] rfl pd_0 rfl 21 rfl (by rw [hml]; rfl) rfl (hb hby at_18) rfl fun T44 v44 L44 X44 hQ44 => ?_
      obtain ⟨rfl, Nq44, e44⟩ := hQ44
      have N44 := Fr.app N0 Nq44
      show own_Go p e below s _ _ _ (T44.setTop (mkF m 21 _ [(.ref t2)]))
      refine g_astore X44 hx 23 (hb hby at_21) rfl (l' := #[.val (.int p0), .val (.int p1), .val (.int (0 : Int32)), .val (.int (2 : Int32)), .val (.ref t2), .unset]) rfl rfl ?_
      refine g_iload_n X44 hx 24 (hb hby at_23) rfl rfl ?_
      refine g_ifYes X44 hx 43 (hb hby at_24) (own_i0_eq_t (by decide)) (by decide) (by decide) ?_
      refine g_iload_n X44 hx 44 (hb hby at_43) rfl rfl ?_
      refine g_bipush X44 hx 46 (hb hby at_44) (10 : Int32) rfl rfl ?_
      refine g_icmpNo X44 hx 49 (hb hby at_46) (own_ii_ge_f (by decide)) rfl ?_
      refine g_iconst X44 hx 50 (hb hby at_49) (1 : Int32) rfl rfl ?_
      refine g_goto X44 hx 54 (hb hby at_50) (by decide) (by decide) ?_
      refine g_istore X44 hx 56 (hb hby at_54) (l' := #[.val (.int p0), .val (.int p1), .val (.int (0 : Int32)), .val (.int (2 : Int32)), .val (.ref t2), .val (.int (1 : Int32))]) rfl rfl ?_
      refine g_aload X44 hx 58 (hb hby at_56) rfl rfl rfl ?_
      refine g_iload_n X44 hx 59 (hb hby at_58) rfl rfl ?_
      refine own_callV X44 hx hZ hown (hw _ (List.mem_of_getElem? (i := 7) rfl)) (hw _ (List.mem_of_getElem? (i := 8) rfl)) (own_nf hZ (hw _ (List.mem_of_getElem? (i := 10) rfl))) (hw _ (List.mem_of_getElem? (i := 10) rfl)) (hw _ (List.mem_of_getElem? (i := 9) rfl)) (by decide) (rm_hi0 l Z a0 hw [] t2 (33 : Int32) h0 n0 Z0 F2) (hw _ (List.mem_of_getElem? (i := 11) rfl)) (hw _ (List.mem_of_getElem? (i := 5) rfl)) e44 0 (by decide) (by decide) (by decide) (by decide) E2 [(.int (0 : Int32))] [] rfl pd_1 rfl 62 rfl (by rw [hml]; rfl) rfl (hb hby at_59) rfl fun T45 v45 L45 X45 hQ45 => ?_
      obtain ⟨rfl, Nq45, e45⟩ := hQ45
      have N45 := Fr.app N44 Nq45
      show own_Go p e below s _ _ _ (T45.setTop (mkF m 62 _ [(.int (own_he (32 : Int32) (33 : Int32)))]))
      refine g_iload X45 hx 64 (hb hby at_62) rfl rfl ?_
      have c46 : (own_he (32 : Int32) (33 : Int32)) = (1 : Int32) := by decide
      refine g_icmpNo X45 hx 67 (hb hby at_64) (own_ii_ne_f c46) rfl ?_
      refine g_iconst X45 hx 68 (hb hby at_67) (1 : Int32) rfl rfl ?_
      refine g_goto X45 hx 72 (hb hby at_68) (by decide) (by decide) ?_
      refine own_retN X45 hx hlk (t := .boolean) hret (by simp) (hb hby at_72) ?_ (by decide) (by decide)
      rw [e45]
      exact ⟨rfl, N45⟩
    · show own_Go p e below s _ _ _ (s₁.setTop (mkF m 17 _ []))
      refine g_iload_n X0 hx 18 (hb hby at_17) rfl rfl ?_
      refine own_callS X0 hx hZ hown (hw _ (List.mem_of_getElem? (i := 0) rfl)) (hw _ (List.mem_of_getElem? (i := 1) rfl)) (by decide) (rm_tag3 l Z a0 hw [] t3 h0 n0 Z0 S3) (hw _ (List.mem_of_getElem? (i := 3) rfl)) (hw _ (List.mem_of_getElem? (i := 2) rfl)) e0 0 (by decide) (by decide) (by decide) (by decide) [(.int (3 : Int32))] [] rfl pd_0 rfl 21 rfl (by rw [hml]; rfl) rfl (hb hby at_18) rfl fun T47 v47 L47 X47 hQ47 => ?_
      obtain ⟨rfl, Nq47, e47⟩ := hQ47
      have N47 := Fr.app N0 Nq47
      show own_Go p e below s _ _ _ (T47.setTop (mkF m 21 _ [(.ref t3)]))
      refine g_astore X47 hx 23 (hb hby at_21) rfl (l' := #[.val (.int p0), .val (.int p1), .val (.int (0 : Int32)), .val (.int (3 : Int32)), .val (.ref t3), .unset]) rfl rfl ?_
      refine g_iload_n X47 hx 24 (hb hby at_23) rfl rfl ?_
      refine g_ifYes X47 hx 43 (hb hby at_24) (own_i0_eq_t (by decide)) (by decide) (by decide) ?_
      refine g_iload_n X47 hx 44 (hb hby at_43) rfl rfl ?_
      refine g_bipush X47 hx 46 (hb hby at_44) (10 : Int32) rfl rfl ?_
      refine g_icmpNo X47 hx 49 (hb hby at_46) (own_ii_ge_f (by decide)) rfl ?_
      refine g_iconst X47 hx 50 (hb hby at_49) (1 : Int32) rfl rfl ?_
      refine g_goto X47 hx 54 (hb hby at_50) (by decide) (by decide) ?_
      refine g_istore X47 hx 56 (hb hby at_54) (l' := #[.val (.int p0), .val (.int p1), .val (.int (0 : Int32)), .val (.int (3 : Int32)), .val (.ref t3), .val (.int (1 : Int32))]) rfl rfl ?_
      refine g_aload X47 hx 58 (hb hby at_56) rfl rfl rfl ?_
      refine g_iload_n X47 hx 59 (hb hby at_58) rfl rfl ?_
      refine own_callV X47 hx hZ hown (hw _ (List.mem_of_getElem? (i := 7) rfl)) (hw _ (List.mem_of_getElem? (i := 8) rfl)) (own_nf hZ (hw _ (List.mem_of_getElem? (i := 10) rfl))) (hw _ (List.mem_of_getElem? (i := 10) rfl)) (hw _ (List.mem_of_getElem? (i := 9) rfl)) (by decide) (rm_hi0 l Z a0 hw [] t3 (32 : Int32) h0 n0 Z0 F3) (hw _ (List.mem_of_getElem? (i := 11) rfl)) (hw _ (List.mem_of_getElem? (i := 5) rfl)) e47 0 (by decide) (by decide) (by decide) (by decide) E3 [(.int (0 : Int32))] [] rfl pd_1 rfl 62 rfl (by rw [hml]; rfl) rfl (hb hby at_59) rfl fun T48 v48 L48 X48 hQ48 => ?_
      obtain ⟨rfl, Nq48, e48⟩ := hQ48
      have N48 := Fr.app N47 Nq48
      show own_Go p e below s _ _ _ (T48.setTop (mkF m 62 _ [(.int (own_he (32 : Int32) (32 : Int32)))]))
      refine g_iload X48 hx 64 (hb hby at_62) rfl rfl ?_
      have c49 : (own_he (32 : Int32) (32 : Int32)) = (1 : Int32) := by decide
      refine g_icmpNo X48 hx 67 (hb hby at_64) (own_ii_ne_f c49) rfl ?_
      refine g_iconst X48 hx 68 (hb hby at_67) (1 : Int32) rfl rfl ?_
      refine g_goto X48 hx 72 (hb hby at_68) (by decide) (by decide) ?_
      refine own_retN X48 hx hlk (t := .boolean) hret (by simp) (hb hby at_72) ?_ (by decide) (by decide)
      rw [e48]
      exact ⟨rfl, N48⟩
    · show own_Go p e below s _ _ _ (s₁.setTop (mkF m 17 _ []))
      refine g_iload_n X0 hx 18 (hb hby at_17) rfl rfl ?_
      refine own_callS X0 hx hZ hown (hw _ (List.mem_of_getElem? (i := 0) rfl)) (hw _ (List.mem_of_getElem? (i := 1) rfl)) (by decide) (rm_tag4 l Z a0 hw [] t4 h0 n0 Z0 S4) (hw _ (List.mem_of_getElem? (i := 3) rfl)) (hw _ (List.mem_of_getElem? (i := 2) rfl)) e0 0 (by decide) (by decide) (by decide) (by decide) [(.int (4 : Int32))] [] rfl pd_0 rfl 21 rfl (by rw [hml]; rfl) rfl (hb hby at_18) rfl fun T50 v50 L50 X50 hQ50 => ?_
      obtain ⟨rfl, Nq50, e50⟩ := hQ50
      have N50 := Fr.app N0 Nq50
      show own_Go p e below s _ _ _ (T50.setTop (mkF m 21 _ [(.ref t4)]))
      refine g_astore X50 hx 23 (hb hby at_21) rfl (l' := #[.val (.int p0), .val (.int p1), .val (.int (0 : Int32)), .val (.int (4 : Int32)), .val (.ref t4), .unset]) rfl rfl ?_
      refine g_iload_n X50 hx 24 (hb hby at_23) rfl rfl ?_
      refine g_ifYes X50 hx 43 (hb hby at_24) (own_i0_eq_t (by decide)) (by decide) (by decide) ?_
      refine g_iload_n X50 hx 44 (hb hby at_43) rfl rfl ?_
      refine g_bipush X50 hx 46 (hb hby at_44) (10 : Int32) rfl rfl ?_
      refine g_icmpNo X50 hx 49 (hb hby at_46) (own_ii_ge_f (by decide)) rfl ?_
      refine g_iconst X50 hx 50 (hb hby at_49) (1 : Int32) rfl rfl ?_
      refine g_goto X50 hx 54 (hb hby at_50) (by decide) (by decide) ?_
      refine g_istore X50 hx 56 (hb hby at_54) (l' := #[.val (.int p0), .val (.int p1), .val (.int (0 : Int32)), .val (.int (4 : Int32)), .val (.ref t4), .val (.int (1 : Int32))]) rfl rfl ?_
      refine g_aload X50 hx 58 (hb hby at_56) rfl rfl rfl ?_
      refine g_iload_n X50 hx 59 (hb hby at_58) rfl rfl ?_
      refine own_callV X50 hx hZ hown (hw _ (List.mem_of_getElem? (i := 7) rfl)) (hw _ (List.mem_of_getElem? (i := 8) rfl)) (own_nf hZ (hw _ (List.mem_of_getElem? (i := 10) rfl))) (hw _ (List.mem_of_getElem? (i := 10) rfl)) (hw _ (List.mem_of_getElem? (i := 9) rfl)) (by decide) (rm_hi0 l Z a0 hw [] t4 (32 : Int32) h0 n0 Z0 F4) (hw _ (List.mem_of_getElem? (i := 11) rfl)) (hw _ (List.mem_of_getElem? (i := 5) rfl)) e50 0 (by decide) (by decide) (by decide) (by decide) E4 [(.int (0 : Int32))] [] rfl pd_1 rfl 62 rfl (by rw [hml]; rfl) rfl (hb hby at_59) rfl fun T51 v51 L51 X51 hQ51 => ?_
      obtain ⟨rfl, Nq51, e51⟩ := hQ51
      have N51 := Fr.app N50 Nq51
      show own_Go p e below s _ _ _ (T51.setTop (mkF m 62 _ [(.int (own_he (32 : Int32) (32 : Int32)))]))
      refine g_iload X51 hx 64 (hb hby at_62) rfl rfl ?_
      have c52 : (own_he (32 : Int32) (32 : Int32)) = (1 : Int32) := by decide
      refine g_icmpNo X51 hx 67 (hb hby at_64) (own_ii_ne_f c52) rfl ?_
      refine g_iconst X51 hx 68 (hb hby at_67) (1 : Int32) rfl rfl ?_
      refine g_goto X51 hx 72 (hb hby at_68) (by decide) (by decide) ?_
      refine own_retN X51 hx hlk (t := .boolean) hret (by simp) (hb hby at_72) ?_ (by decide) (by decide)
      rw [e51]
      exact ⟨rfl, N51⟩
    · show own_Go p e below s _ _ _ (s₁.setTop (mkF m 17 _ []))
      refine g_iload_n X0 hx 18 (hb hby at_17) rfl rfl ?_
      refine own_callS X0 hx hZ hown (hw _ (List.mem_of_getElem? (i := 0) rfl)) (hw _ (List.mem_of_getElem? (i := 1) rfl)) (by decide) (rm_tag5 l Z a0 hw [] t5 h0 n0 Z0 S5) (hw _ (List.mem_of_getElem? (i := 3) rfl)) (hw _ (List.mem_of_getElem? (i := 2) rfl)) e0 0 (by decide) (by decide) (by decide) (by decide) [(.int (5 : Int32))] [] rfl pd_0 rfl 21 rfl (by rw [hml]; rfl) rfl (hb hby at_18) rfl fun T53 v53 L53 X53 hQ53 => ?_
      obtain ⟨rfl, Nq53, e53⟩ := hQ53
      have N53 := Fr.app N0 Nq53
      show own_Go p e below s _ _ _ (T53.setTop (mkF m 21 _ [(.ref t5)]))
      refine g_astore X53 hx 23 (hb hby at_21) rfl (l' := #[.val (.int p0), .val (.int p1), .val (.int (0 : Int32)), .val (.int (5 : Int32)), .val (.ref t5), .unset]) rfl rfl ?_
      refine g_iload_n X53 hx 24 (hb hby at_23) rfl rfl ?_
      refine g_ifYes X53 hx 43 (hb hby at_24) (own_i0_eq_t (by decide)) (by decide) (by decide) ?_
      refine g_iload_n X53 hx 44 (hb hby at_43) rfl rfl ?_
      refine g_bipush X53 hx 46 (hb hby at_44) (10 : Int32) rfl rfl ?_
      refine g_icmpNo X53 hx 49 (hb hby at_46) (own_ii_ge_f (by decide)) rfl ?_
      refine g_iconst X53 hx 50 (hb hby at_49) (1 : Int32) rfl rfl ?_
      refine g_goto X53 hx 54 (hb hby at_50) (by decide) (by decide) ?_
      refine g_istore X53 hx 56 (hb hby at_54) (l' := #[.val (.int p0), .val (.int p1), .val (.int (0 : Int32)), .val (.int (5 : Int32)), .val (.ref t5), .val (.int (1 : Int32))]) rfl rfl ?_
      refine g_aload X53 hx 58 (hb hby at_56) rfl rfl rfl ?_
      refine g_iload_n X53 hx 59 (hb hby at_58) rfl rfl ?_
      refine own_callV X53 hx hZ hown (hw _ (List.mem_of_getElem? (i := 7) rfl)) (hw _ (List.mem_of_getElem? (i := 8) rfl)) (own_nf hZ (hw _ (List.mem_of_getElem? (i := 10) rfl))) (hw _ (List.mem_of_getElem? (i := 10) rfl)) (hw _ (List.mem_of_getElem? (i := 9) rfl)) (by decide) (rm_hi0 l Z a0 hw [] t5 (33 : Int32) h0 n0 Z0 F5) (hw _ (List.mem_of_getElem? (i := 11) rfl)) (hw _ (List.mem_of_getElem? (i := 5) rfl)) e53 0 (by decide) (by decide) (by decide) (by decide) E5 [(.int (0 : Int32))] [] rfl pd_1 rfl 62 rfl (by rw [hml]; rfl) rfl (hb hby at_59) rfl fun T54 v54 L54 X54 hQ54 => ?_
      obtain ⟨rfl, Nq54, e54⟩ := hQ54
      have N54 := Fr.app N53 Nq54
      show own_Go p e below s _ _ _ (T54.setTop (mkF m 62 _ [(.int (own_he (32 : Int32) (33 : Int32)))]))
      refine g_iload X54 hx 64 (hb hby at_62) rfl rfl ?_
      have c55 : (own_he (32 : Int32) (33 : Int32)) = (1 : Int32) := by decide
      refine g_icmpNo X54 hx 67 (hb hby at_64) (own_ii_ne_f c55) rfl ?_
      refine g_iconst X54 hx 68 (hb hby at_67) (1 : Int32) rfl rfl ?_
      refine g_goto X54 hx 72 (hb hby at_68) (by decide) (by decide) ?_
      refine own_retN X54 hx hlk (t := .boolean) hret (by simp) (hb hby at_72) ?_ (by decide) (by decide)
      rw [e54]
      exact ⟨rfl, N54⟩
    · show own_Go p e below s _ _ _ (s₁.setTop (mkF m 17 _ []))
      refine g_iload_n X0 hx 18 (hb hby at_17) rfl rfl ?_
      refine own_callS X0 hx hZ hown (hw _ (List.mem_of_getElem? (i := 0) rfl)) (hw _ (List.mem_of_getElem? (i := 1) rfl)) (by decide) (rm_tag6 l Z a0 hw [] t6 h0 n0 Z0 S6) (hw _ (List.mem_of_getElem? (i := 3) rfl)) (hw _ (List.mem_of_getElem? (i := 2) rfl)) e0 0 (by decide) (by decide) (by decide) (by decide) [(.int (6 : Int32))] [] rfl pd_0 rfl 21 rfl (by rw [hml]; rfl) rfl (hb hby at_18) rfl fun T56 v56 L56 X56 hQ56 => ?_
      obtain ⟨rfl, Nq56, e56⟩ := hQ56
      have N56 := Fr.app N0 Nq56
      show own_Go p e below s _ _ _ (T56.setTop (mkF m 21 _ [(.ref t6)]))
      refine g_astore X56 hx 23 (hb hby at_21) rfl (l' := #[.val (.int p0), .val (.int p1), .val (.int (0 : Int32)), .val (.int (6 : Int32)), .val (.ref t6), .unset]) rfl rfl ?_
      refine g_iload_n X56 hx 24 (hb hby at_23) rfl rfl ?_
      refine g_ifYes X56 hx 43 (hb hby at_24) (own_i0_eq_t (by decide)) (by decide) (by decide) ?_
      refine g_iload_n X56 hx 44 (hb hby at_43) rfl rfl ?_
      refine g_bipush X56 hx 46 (hb hby at_44) (10 : Int32) rfl rfl ?_
      refine g_icmpNo X56 hx 49 (hb hby at_46) (own_ii_ge_f (by decide)) rfl ?_
      refine g_iconst X56 hx 50 (hb hby at_49) (1 : Int32) rfl rfl ?_
      refine g_goto X56 hx 54 (hb hby at_50) (by decide) (by decide) ?_
      refine g_istore X56 hx 56 (hb hby at_54) (l' := #[.val (.int p0), .val (.int p1), .val (.int (0 : Int32)), .val (.int (6 : Int32)), .val (.ref t6), .val (.int (1 : Int32))]) rfl rfl ?_
      refine g_aload X56 hx 58 (hb hby at_56) rfl rfl rfl ?_
      refine g_iload_n X56 hx 59 (hb hby at_58) rfl rfl ?_
      refine own_callV X56 hx hZ hown (hw _ (List.mem_of_getElem? (i := 7) rfl)) (hw _ (List.mem_of_getElem? (i := 8) rfl)) (own_nf hZ (hw _ (List.mem_of_getElem? (i := 10) rfl))) (hw _ (List.mem_of_getElem? (i := 10) rfl)) (hw _ (List.mem_of_getElem? (i := 9) rfl)) (by decide) (rm_hi0 l Z a0 hw [] t6 (32 : Int32) h0 n0 Z0 F6) (hw _ (List.mem_of_getElem? (i := 11) rfl)) (hw _ (List.mem_of_getElem? (i := 5) rfl)) e56 0 (by decide) (by decide) (by decide) (by decide) E6 [(.int (0 : Int32))] [] rfl pd_1 rfl 62 rfl (by rw [hml]; rfl) rfl (hb hby at_59) rfl fun T57 v57 L57 X57 hQ57 => ?_
      obtain ⟨rfl, Nq57, e57⟩ := hQ57
      have N57 := Fr.app N56 Nq57
      show own_Go p e below s _ _ _ (T57.setTop (mkF m 62 _ [(.int (own_he (32 : Int32) (32 : Int32)))]))
      refine g_iload X57 hx 64 (hb hby at_62) rfl rfl ?_
      have c58 : (own_he (32 : Int32) (32 : Int32)) = (1 : Int32) := by decide
      refine g_icmpNo X57 hx 67 (hb hby at_64) (own_ii_ne_f c58) rfl ?_
      refine g_iconst X57 hx 68 (hb hby at_67) (1 : Int32) rfl rfl ?_
      refine g_goto X57 hx 72 (hb hby at_68) (by decide) (by decide) ?_
      refine own_retN X57 hx hlk (t := .boolean) hret (by simp) (hb hby at_72) ?_ (by decide) (by decide)
      rw [e57]
      exact ⟨rfl, N57⟩
    · show own_Go p e below s _ _ _ (s₁.setTop (mkF m 17 _ []))
      refine g_iload_n X0 hx 18 (hb hby at_17) rfl rfl ?_
      refine own_callS X0 hx hZ hown (hw _ (List.mem_of_getElem? (i := 0) rfl)) (hw _ (List.mem_of_getElem? (i := 1) rfl)) (by decide) (rm_tag7 l Z a0 hw [] t7 h0 n0 Z0 S7) (hw _ (List.mem_of_getElem? (i := 3) rfl)) (hw _ (List.mem_of_getElem? (i := 2) rfl)) e0 0 (by decide) (by decide) (by decide) (by decide) [(.int (7 : Int32))] [] rfl pd_0 rfl 21 rfl (by rw [hml]; rfl) rfl (hb hby at_18) rfl fun T59 v59 L59 X59 hQ59 => ?_
      obtain ⟨rfl, Nq59, e59⟩ := hQ59
      have N59 := Fr.app N0 Nq59
      show own_Go p e below s _ _ _ (T59.setTop (mkF m 21 _ [(.ref t7)]))
      refine g_astore X59 hx 23 (hb hby at_21) rfl (l' := #[.val (.int p0), .val (.int p1), .val (.int (0 : Int32)), .val (.int (7 : Int32)), .val (.ref t7), .unset]) rfl rfl ?_
      refine g_iload_n X59 hx 24 (hb hby at_23) rfl rfl ?_
      refine g_ifYes X59 hx 43 (hb hby at_24) (own_i0_eq_t (by decide)) (by decide) (by decide) ?_
      refine g_iload_n X59 hx 44 (hb hby at_43) rfl rfl ?_
      refine g_bipush X59 hx 46 (hb hby at_44) (10 : Int32) rfl rfl ?_
      refine g_icmpNo X59 hx 49 (hb hby at_46) (own_ii_ge_f (by decide)) rfl ?_
      refine g_iconst X59 hx 50 (hb hby at_49) (1 : Int32) rfl rfl ?_
      refine g_goto X59 hx 54 (hb hby at_50) (by decide) (by decide) ?_
      refine g_istore X59 hx 56 (hb hby at_54) (l' := #[.val (.int p0), .val (.int p1), .val (.int (0 : Int32)), .val (.int (7 : Int32)), .val (.ref t7), .val (.int (1 : Int32))]) rfl rfl ?_
      refine g_aload X59 hx 58 (hb hby at_56) rfl rfl rfl ?_
      refine g_iload_n X59 hx 59 (hb hby at_58) rfl rfl ?_
      refine own_callV X59 hx hZ hown (hw _ (List.mem_of_getElem? (i := 7) rfl)) (hw _ (List.mem_of_getElem? (i := 8) rfl)) (own_nf hZ (hw _ (List.mem_of_getElem? (i := 10) rfl))) (hw _ (List.mem_of_getElem? (i := 10) rfl)) (hw _ (List.mem_of_getElem? (i := 9) rfl)) (by decide) (rm_hi0 l Z a0 hw [] t7 (32 : Int32) h0 n0 Z0 F7) (hw _ (List.mem_of_getElem? (i := 11) rfl)) (hw _ (List.mem_of_getElem? (i := 5) rfl)) e59 0 (by decide) (by decide) (by decide) (by decide) E7 [(.int (0 : Int32))] [] rfl pd_1 rfl 62 rfl (by rw [hml]; rfl) rfl (hb hby at_59) rfl fun T60 v60 L60 X60 hQ60 => ?_
      obtain ⟨rfl, Nq60, e60⟩ := hQ60
      have N60 := Fr.app N59 Nq60
      show own_Go p e below s _ _ _ (T60.setTop (mkF m 62 _ [(.int (own_he (32 : Int32) (32 : Int32)))]))
      refine g_iload X60 hx 64 (hb hby at_62) rfl rfl ?_
      have c61 : (own_he (32 : Int32) (32 : Int32)) = (1 : Int32) := by decide
      refine g_icmpNo X60 hx 67 (hb hby at_64) (own_ii_ne_f c61) rfl ?_
      refine g_iconst X60 hx 68 (hb hby at_67) (1 : Int32) rfl rfl ?_
      refine g_goto X60 hx 72 (hb hby at_68) (by decide) (by decide) ?_
      refine own_retN X60 hx hlk (t := .boolean) hret (by simp) (hb hby at_72) ?_ (by decide) (by decide)
      rw [e60]
      exact ⟨rfl, N60⟩
    · show own_Go p e below s _ _ _ (s₁.setTop (mkF m 17 _ []))
      refine g_iload_n X0 hx 18 (hb hby at_17) rfl rfl ?_
      refine own_callS X0 hx hZ hown (hw _ (List.mem_of_getElem? (i := 0) rfl)) (hw _ (List.mem_of_getElem? (i := 1) rfl)) (by decide) (rm_tag8 l Z a0 hw [] t8 h0 n0 Z0 S8) (hw _ (List.mem_of_getElem? (i := 3) rfl)) (hw _ (List.mem_of_getElem? (i := 2) rfl)) e0 0 (by decide) (by decide) (by decide) (by decide) [(.int (8 : Int32))] [] rfl pd_0 rfl 21 rfl (by rw [hml]; rfl) rfl (hb hby at_18) rfl fun T62 v62 L62 X62 hQ62 => ?_
      obtain ⟨rfl, Nq62, e62⟩ := hQ62
      have N62 := Fr.app N0 Nq62
      show own_Go p e below s _ _ _ (T62.setTop (mkF m 21 _ [(.ref t8)]))
      refine g_astore X62 hx 23 (hb hby at_21) rfl (l' := #[.val (.int p0), .val (.int p1), .val (.int (0 : Int32)), .val (.int (8 : Int32)), .val (.ref t8), .unset]) rfl rfl ?_
      refine g_iload_n X62 hx 24 (hb hby at_23) rfl rfl ?_
      refine g_ifYes X62 hx 43 (hb hby at_24) (own_i0_eq_t (by decide)) (by decide) (by decide) ?_
      refine g_iload_n X62 hx 44 (hb hby at_43) rfl rfl ?_
      refine g_bipush X62 hx 46 (hb hby at_44) (10 : Int32) rfl rfl ?_
      refine g_icmpNo X62 hx 49 (hb hby at_46) (own_ii_ge_f (by decide)) rfl ?_
      refine g_iconst X62 hx 50 (hb hby at_49) (1 : Int32) rfl rfl ?_
      refine g_goto X62 hx 54 (hb hby at_50) (by decide) (by decide) ?_
      refine g_istore X62 hx 56 (hb hby at_54) (l' := #[.val (.int p0), .val (.int p1), .val (.int (0 : Int32)), .val (.int (8 : Int32)), .val (.ref t8), .val (.int (1 : Int32))]) rfl rfl ?_
      refine g_aload X62 hx 58 (hb hby at_56) rfl rfl rfl ?_
      refine g_iload_n X62 hx 59 (hb hby at_58) rfl rfl ?_
      refine own_callV X62 hx hZ hown (hw _ (List.mem_of_getElem? (i := 7) rfl)) (hw _ (List.mem_of_getElem? (i := 8) rfl)) (own_nf hZ (hw _ (List.mem_of_getElem? (i := 10) rfl))) (hw _ (List.mem_of_getElem? (i := 10) rfl)) (hw _ (List.mem_of_getElem? (i := 9) rfl)) (by decide) (rm_hi0 l Z a0 hw [] t8 (32 : Int32) h0 n0 Z0 F8) (hw _ (List.mem_of_getElem? (i := 11) rfl)) (hw _ (List.mem_of_getElem? (i := 5) rfl)) e62 0 (by decide) (by decide) (by decide) (by decide) E8 [(.int (0 : Int32))] [] rfl pd_1 rfl 62 rfl (by rw [hml]; rfl) rfl (hb hby at_59) rfl fun T63 v63 L63 X63 hQ63 => ?_
      obtain ⟨rfl, Nq63, e63⟩ := hQ63
      have N63 := Fr.app N62 Nq63
      show own_Go p e below s _ _ _ (T63.setTop (mkF m 62 _ [(.int (own_he (32 : Int32) (32 : Int32)))]))
      refine g_iload X63 hx 64 (hb hby at_62) rfl rfl ?_
      have c64 : (own_he (32 : Int32) (32 : Int32)) = (1 : Int32) := by decide
      refine g_icmpNo X63 hx 67 (hb hby at_64) (own_ii_ne_f c64) rfl ?_
      refine g_iconst X63 hx 68 (hb hby at_67) (1 : Int32) rfl rfl ?_
      refine g_goto X63 hx 72 (hb hby at_68) (by decide) (by decide) ?_
      refine own_retN X63 hx hlk (t := .boolean) hret (by simp) (hb hby at_72) ?_ (by decide) (by decide)
      rw [e63]
      exact ⟨rfl, N63⟩
    · show own_Go p e below s _ _ _ (s₁.setTop (mkF m 17 _ []))
      refine g_iload_n X0 hx 18 (hb hby at_17) rfl rfl ?_
      refine own_callS X0 hx hZ hown (hw _ (List.mem_of_getElem? (i := 0) rfl)) (hw _ (List.mem_of_getElem? (i := 1) rfl)) (by decide) (rm_tag9 l Z a0 hw [] t9 h0 n0 Z0 S9) (hw _ (List.mem_of_getElem? (i := 3) rfl)) (hw _ (List.mem_of_getElem? (i := 2) rfl)) e0 0 (by decide) (by decide) (by decide) (by decide) [(.int (9 : Int32))] [] rfl pd_0 rfl 21 rfl (by rw [hml]; rfl) rfl (hb hby at_18) rfl fun T65 v65 L65 X65 hQ65 => ?_
      obtain ⟨rfl, Nq65, e65⟩ := hQ65
      have N65 := Fr.app N0 Nq65
      show own_Go p e below s _ _ _ (T65.setTop (mkF m 21 _ [(.ref t9)]))
      refine g_astore X65 hx 23 (hb hby at_21) rfl (l' := #[.val (.int p0), .val (.int p1), .val (.int (0 : Int32)), .val (.int (9 : Int32)), .val (.ref t9), .unset]) rfl rfl ?_
      refine g_iload_n X65 hx 24 (hb hby at_23) rfl rfl ?_
      refine g_ifYes X65 hx 43 (hb hby at_24) (own_i0_eq_t (by decide)) (by decide) (by decide) ?_
      refine g_iload_n X65 hx 44 (hb hby at_43) rfl rfl ?_
      refine g_bipush X65 hx 46 (hb hby at_44) (10 : Int32) rfl rfl ?_
      refine g_icmpNo X65 hx 49 (hb hby at_46) (own_ii_ge_f (by decide)) rfl ?_
      refine g_iconst X65 hx 50 (hb hby at_49) (1 : Int32) rfl rfl ?_
      refine g_goto X65 hx 54 (hb hby at_50) (by decide) (by decide) ?_
      refine g_istore X65 hx 56 (hb hby at_54) (l' := #[.val (.int p0), .val (.int p1), .val (.int (0 : Int32)), .val (.int (9 : Int32)), .val (.ref t9), .val (.int (1 : Int32))]) rfl rfl ?_
      refine g_aload X65 hx 58 (hb hby at_56) rfl rfl rfl ?_
      refine g_iload_n X65 hx 59 (hb hby at_58) rfl rfl ?_
      refine own_callV X65 hx hZ hown (hw _ (List.mem_of_getElem? (i := 7) rfl)) (hw _ (List.mem_of_getElem? (i := 8) rfl)) (own_nf hZ (hw _ (List.mem_of_getElem? (i := 10) rfl))) (hw _ (List.mem_of_getElem? (i := 10) rfl)) (hw _ (List.mem_of_getElem? (i := 9) rfl)) (by decide) (rm_hi0 l Z a0 hw [] t9 (32 : Int32) h0 n0 Z0 F9) (hw _ (List.mem_of_getElem? (i := 11) rfl)) (hw _ (List.mem_of_getElem? (i := 5) rfl)) e65 0 (by decide) (by decide) (by decide) (by decide) E9 [(.int (0 : Int32))] [] rfl pd_1 rfl 62 rfl (by rw [hml]; rfl) rfl (hb hby at_59) rfl fun T66 v66 L66 X66 hQ66 => ?_
      obtain ⟨rfl, Nq66, e66⟩ := hQ66
      have N66 := Fr.app N65 Nq66
      show own_Go p e below s _ _ _ (T66.setTop (mkF m 62 _ [(.int (own_he (32 : Int32) (32 : Int32)))]))
      refine g_iload X66 hx 64 (hb hby at_62) rfl rfl ?_
      have c67 : (own_he (32 : Int32) (32 : Int32)) = (1 : Int32) := by decide
      refine g_icmpNo X66 hx 67 (hb hby at_64) (own_ii_ne_f c67) rfl ?_
      refine g_iconst X66 hx 68 (hb hby at_67) (1 : Int32) rfl rfl ?_
      refine g_goto X66 hx 72 (hb hby at_68) (by decide) (by decide) ?_
      refine own_retN X66 hx hlk (t := .boolean) hret (by simp) (hb hby at_72) ?_ (by decide) (by decide)
      rw [e66]
      exact ⟨rfl, N66⟩
    · show own_Go p e below s _ _ _ (s₁.setTop (mkF m 17 _ []))
      refine g_iload_n X0 hx 18 (hb hby at_17) rfl rfl ?_
      refine own_callS X0 hx hZ hown (hw _ (List.mem_of_getElem? (i := 0) rfl)) (hw _ (List.mem_of_getElem? (i := 1) rfl)) (by decide) (rm_tag10 l Z a0 hw [] t10 h0 n0 Z0 S10) (hw _ (List.mem_of_getElem? (i := 3) rfl)) (hw _ (List.mem_of_getElem? (i := 2) rfl)) e0 0 (by decide) (by decide) (by decide) (by decide) [(.int (10 : Int32))] [] rfl pd_0 rfl 21 rfl (by rw [hml]; rfl) rfl (hb hby at_18) rfl fun T68 v68 L68 X68 hQ68 => ?_
      obtain ⟨rfl, Nq68, e68⟩ := hQ68
      have N68 := Fr.app N0 Nq68
      show own_Go p e below s _ _ _ (T68.setTop (mkF m 21 _ [(.ref t10)]))
      refine g_astore X68 hx 23 (hb hby at_21) rfl (l' := #[.val (.int p0), .val (.int p1), .val (.int (0 : Int32)), .val (.int (10 : Int32)), .val (.ref t10), .unset]) rfl rfl ?_
      refine g_iload_n X68 hx 24 (hb hby at_23) rfl rfl ?_
      refine g_ifYes X68 hx 43 (hb hby at_24) (own_i0_eq_t (by decide)) (by decide) (by decide) ?_
      refine g_iload_n X68 hx 44 (hb hby at_43) rfl rfl ?_
      refine g_bipush X68 hx 46 (hb hby at_44) (10 : Int32) rfl rfl ?_
      refine g_icmpYes X68 hx 53 (hb hby at_46) (own_ii_ge_t (by decide)) (by decide) (by decide) ?_
      refine g_iconst X68 hx 54 (hb hby at_53) (0 : Int32) rfl rfl ?_
      refine g_istore X68 hx 56 (hb hby at_54) (l' := #[.val (.int p0), .val (.int p1), .val (.int (0 : Int32)), .val (.int (10 : Int32)), .val (.ref t10), .val (.int (0 : Int32))]) rfl rfl ?_
      refine g_aload X68 hx 58 (hb hby at_56) rfl rfl rfl ?_
      refine g_iload_n X68 hx 59 (hb hby at_58) rfl rfl ?_
      refine own_callV X68 hx hZ hown (hw _ (List.mem_of_getElem? (i := 7) rfl)) (hw _ (List.mem_of_getElem? (i := 8) rfl)) (own_nf hZ (hw _ (List.mem_of_getElem? (i := 10) rfl))) (hw _ (List.mem_of_getElem? (i := 10) rfl)) (hw _ (List.mem_of_getElem? (i := 9) rfl)) (by decide) (rm_hi0 l Z a0 hw [] t10 (81 : Int32) h0 n0 Z0 F10) (hw _ (List.mem_of_getElem? (i := 11) rfl)) (hw _ (List.mem_of_getElem? (i := 5) rfl)) e68 0 (by decide) (by decide) (by decide) (by decide) E10 [(.int (0 : Int32))] [] rfl pd_1 rfl 62 rfl (by rw [hml]; rfl) rfl (hb hby at_59) rfl fun T69 v69 L69 X69 hQ69 => ?_
      obtain ⟨rfl, Nq69, e69⟩ := hQ69
      have N69 := Fr.app N68 Nq69
      show own_Go p e below s _ _ _ (T69.setTop (mkF m 62 _ [(.int (own_he (32 : Int32) (81 : Int32)))]))
      refine g_iload X69 hx 64 (hb hby at_62) rfl rfl ?_
      have c70 : (own_he (32 : Int32) (81 : Int32)) = (0 : Int32) := by decide
      refine g_icmpNo X69 hx 67 (hb hby at_64) (own_ii_ne_f c70) rfl ?_
      refine g_iconst X69 hx 68 (hb hby at_67) (1 : Int32) rfl rfl ?_
      refine g_goto X69 hx 72 (hb hby at_68) (by decide) (by decide) ?_
      refine own_retN X69 hx hlk (t := .boolean) hret (by simp) (hb hby at_72) ?_ (by decide) (by decide)
      rw [e69]
      exact ⟨rfl, N69⟩
    · show own_Go p e below s _ _ _ (s₁.setTop (mkF m 17 _ []))
      refine g_iload_n X0 hx 18 (hb hby at_17) rfl rfl ?_
      refine own_callS X0 hx hZ hown (hw _ (List.mem_of_getElem? (i := 0) rfl)) (hw _ (List.mem_of_getElem? (i := 1) rfl)) (by decide) (rm_tag11 l Z a0 hw [] t11 h0 n0 Z0 S11) (hw _ (List.mem_of_getElem? (i := 3) rfl)) (hw _ (List.mem_of_getElem? (i := 2) rfl)) e0 0 (by decide) (by decide) (by decide) (by decide) [(.int (11 : Int32))] [] rfl pd_0 rfl 21 rfl (by rw [hml]; rfl) rfl (hb hby at_18) rfl fun T71 v71 L71 X71 hQ71 => ?_
      obtain ⟨rfl, Nq71, e71⟩ := hQ71
      have N71 := Fr.app N0 Nq71
      show own_Go p e below s _ _ _ (T71.setTop (mkF m 21 _ [(.ref t11)]))
      refine g_astore X71 hx 23 (hb hby at_21) rfl (l' := #[.val (.int p0), .val (.int p1), .val (.int (0 : Int32)), .val (.int (11 : Int32)), .val (.ref t11), .unset]) rfl rfl ?_
      refine g_iload_n X71 hx 24 (hb hby at_23) rfl rfl ?_
      refine g_ifYes X71 hx 43 (hb hby at_24) (own_i0_eq_t (by decide)) (by decide) (by decide) ?_
      refine g_iload_n X71 hx 44 (hb hby at_43) rfl rfl ?_
      refine g_bipush X71 hx 46 (hb hby at_44) (10 : Int32) rfl rfl ?_
      refine g_icmpYes X71 hx 53 (hb hby at_46) (own_ii_ge_t (by decide)) (by decide) (by decide) ?_
      refine g_iconst X71 hx 54 (hb hby at_53) (0 : Int32) rfl rfl ?_
      refine g_istore X71 hx 56 (hb hby at_54) (l' := #[.val (.int p0), .val (.int p1), .val (.int (0 : Int32)), .val (.int (11 : Int32)), .val (.ref t11), .val (.int (0 : Int32))]) rfl rfl ?_
      refine g_aload X71 hx 58 (hb hby at_56) rfl rfl rfl ?_
      refine g_iload_n X71 hx 59 (hb hby at_58) rfl rfl ?_
      refine own_callV X71 hx hZ hown (hw _ (List.mem_of_getElem? (i := 7) rfl)) (hw _ (List.mem_of_getElem? (i := 8) rfl)) (own_nf hZ (hw _ (List.mem_of_getElem? (i := 10) rfl))) (hw _ (List.mem_of_getElem? (i := 10) rfl)) (hw _ (List.mem_of_getElem? (i := 9) rfl)) (by decide) (rm_hi0 l Z a0 hw [] t11 (65 : Int32) h0 n0 Z0 F11) (hw _ (List.mem_of_getElem? (i := 11) rfl)) (hw _ (List.mem_of_getElem? (i := 5) rfl)) e71 0 (by decide) (by decide) (by decide) (by decide) E11 [(.int (0 : Int32))] [] rfl pd_1 rfl 62 rfl (by rw [hml]; rfl) rfl (hb hby at_59) rfl fun T72 v72 L72 X72 hQ72 => ?_
      obtain ⟨rfl, Nq72, e72⟩ := hQ72
      have N72 := Fr.app N71 Nq72
      show own_Go p e below s _ _ _ (T72.setTop (mkF m 62 _ [(.int (own_he (32 : Int32) (65 : Int32)))]))
      refine g_iload X72 hx 64 (hb hby at_62) rfl rfl ?_
      have c73 : (own_he (32 : Int32) (65 : Int32)) = (0 : Int32) := by decide
      refine g_icmpNo X72 hx 67 (hb hby at_64) (own_ii_ne_f c73) rfl ?_
      refine g_iconst X72 hx 68 (hb hby at_67) (1 : Int32) rfl rfl ?_
      refine g_goto X72 hx 72 (hb hby at_68) (by decide) (by decide) ?_
      refine own_retN X72 hx hlk (t := .boolean) hret (by simp) (hb hby at_72) ?_ (by decide) (by decide)
      rw [e72]
      exact ⟨rfl, N72⟩
    · show own_Go p e below s _ _ _ (s₁.setTop (mkF m 17 _ []))
      refine g_iload_n X0 hx 18 (hb hby at_17) rfl rfl ?_
      refine own_callS X0 hx hZ hown (hw _ (List.mem_of_getElem? (i := 0) rfl)) (hw _ (List.mem_of_getElem? (i := 1) rfl)) (by decide) (rm_tag12 l Z a0 hw [] t12 h0 n0 Z0 S12) (hw _ (List.mem_of_getElem? (i := 3) rfl)) (hw _ (List.mem_of_getElem? (i := 2) rfl)) e0 0 (by decide) (by decide) (by decide) (by decide) [(.int (12 : Int32))] [] rfl pd_0 rfl 21 rfl (by rw [hml]; rfl) rfl (hb hby at_18) rfl fun T74 v74 L74 X74 hQ74 => ?_
      obtain ⟨rfl, Nq74, e74⟩ := hQ74
      have N74 := Fr.app N0 Nq74
      show own_Go p e below s _ _ _ (T74.setTop (mkF m 21 _ [(.ref t12)]))
      refine g_astore X74 hx 23 (hb hby at_21) rfl (l' := #[.val (.int p0), .val (.int p1), .val (.int (0 : Int32)), .val (.int (12 : Int32)), .val (.ref t12), .unset]) rfl rfl ?_
      refine g_iload_n X74 hx 24 (hb hby at_23) rfl rfl ?_
      refine g_ifYes X74 hx 43 (hb hby at_24) (own_i0_eq_t (by decide)) (by decide) (by decide) ?_
      refine g_iload_n X74 hx 44 (hb hby at_43) rfl rfl ?_
      refine g_bipush X74 hx 46 (hb hby at_44) (10 : Int32) rfl rfl ?_
      refine g_icmpYes X74 hx 53 (hb hby at_46) (own_ii_ge_t (by decide)) (by decide) (by decide) ?_
      refine g_iconst X74 hx 54 (hb hby at_53) (0 : Int32) rfl rfl ?_
      refine g_istore X74 hx 56 (hb hby at_54) (l' := #[.val (.int p0), .val (.int p1), .val (.int (0 : Int32)), .val (.int (12 : Int32)), .val (.ref t12), .val (.int (0 : Int32))]) rfl rfl ?_
      refine g_aload X74 hx 58 (hb hby at_56) rfl rfl rfl ?_
      refine g_iload_n X74 hx 59 (hb hby at_58) rfl rfl ?_
      refine own_callV X74 hx hZ hown (hw _ (List.mem_of_getElem? (i := 7) rfl)) (hw _ (List.mem_of_getElem? (i := 8) rfl)) (own_nf hZ (hw _ (List.mem_of_getElem? (i := 10) rfl))) (hw _ (List.mem_of_getElem? (i := 10) rfl)) (hw _ (List.mem_of_getElem? (i := 9) rfl)) (by decide) (rm_hi0 l Z a0 hw [] t12 (65 : Int32) h0 n0 Z0 F12) (hw _ (List.mem_of_getElem? (i := 11) rfl)) (hw _ (List.mem_of_getElem? (i := 5) rfl)) e74 0 (by decide) (by decide) (by decide) (by decide) E12 [(.int (0 : Int32))] [] rfl pd_1 rfl 62 rfl (by rw [hml]; rfl) rfl (hb hby at_59) rfl fun T75 v75 L75 X75 hQ75 => ?_
      obtain ⟨rfl, Nq75, e75⟩ := hQ75
      have N75 := Fr.app N74 Nq75
      show own_Go p e below s _ _ _ (T75.setTop (mkF m 62 _ [(.int (own_he (32 : Int32) (65 : Int32)))]))
      refine g_iload X75 hx 64 (hb hby at_62) rfl rfl ?_
      have c76 : (own_he (32 : Int32) (65 : Int32)) = (0 : Int32) := by decide
      refine g_icmpNo X75 hx 67 (hb hby at_64) (own_ii_ne_f c76) rfl ?_
      refine g_iconst X75 hx 68 (hb hby at_67) (1 : Int32) rfl rfl ?_
      refine g_goto X75 hx 72 (hb hby at_68) (by decide) (by decide) ?_
      refine own_retN X75 hx hlk (t := .boolean) hret (by simp) (hb hby at_72) ?_ (by decide) (by decide)
      rw [e75]
      exact ⟨rfl, N75⟩
    · show own_Go p e below s _ _ _ (s₁.setTop (mkF m 17 _ []))
      refine g_iload_n X0 hx 18 (hb hby at_17) rfl rfl ?_
      refine own_callS X0 hx hZ hown (hw _ (List.mem_of_getElem? (i := 0) rfl)) (hw _ (List.mem_of_getElem? (i := 1) rfl)) (by decide) (rm_tag13 l Z a0 hw [] t13 h0 n0 Z0 S13) (hw _ (List.mem_of_getElem? (i := 3) rfl)) (hw _ (List.mem_of_getElem? (i := 2) rfl)) e0 0 (by decide) (by decide) (by decide) (by decide) [(.int (13 : Int32))] [] rfl pd_0 rfl 21 rfl (by rw [hml]; rfl) rfl (hb hby at_18) rfl fun T77 v77 L77 X77 hQ77 => ?_
      obtain ⟨rfl, Nq77, e77⟩ := hQ77
      have N77 := Fr.app N0 Nq77
      show own_Go p e below s _ _ _ (T77.setTop (mkF m 21 _ [(.ref t13)]))
      refine g_astore X77 hx 23 (hb hby at_21) rfl (l' := #[.val (.int p0), .val (.int p1), .val (.int (0 : Int32)), .val (.int (13 : Int32)), .val (.ref t13), .unset]) rfl rfl ?_
      refine g_iload_n X77 hx 24 (hb hby at_23) rfl rfl ?_
      refine g_ifYes X77 hx 43 (hb hby at_24) (own_i0_eq_t (by decide)) (by decide) (by decide) ?_
      refine g_iload_n X77 hx 44 (hb hby at_43) rfl rfl ?_
      refine g_bipush X77 hx 46 (hb hby at_44) (10 : Int32) rfl rfl ?_
      refine g_icmpYes X77 hx 53 (hb hby at_46) (own_ii_ge_t (by decide)) (by decide) (by decide) ?_
      refine g_iconst X77 hx 54 (hb hby at_53) (0 : Int32) rfl rfl ?_
      refine g_istore X77 hx 56 (hb hby at_54) (l' := #[.val (.int p0), .val (.int p1), .val (.int (0 : Int32)), .val (.int (13 : Int32)), .val (.ref t13), .val (.int (0 : Int32))]) rfl rfl ?_
      refine g_aload X77 hx 58 (hb hby at_56) rfl rfl rfl ?_
      refine g_iload_n X77 hx 59 (hb hby at_58) rfl rfl ?_
      refine own_callV X77 hx hZ hown (hw _ (List.mem_of_getElem? (i := 7) rfl)) (hw _ (List.mem_of_getElem? (i := 8) rfl)) (own_nf hZ (hw _ (List.mem_of_getElem? (i := 10) rfl))) (hw _ (List.mem_of_getElem? (i := 10) rfl)) (hw _ (List.mem_of_getElem? (i := 9) rfl)) (by decide) (rm_hi0 l Z a0 hw [] t13 (81 : Int32) h0 n0 Z0 F13) (hw _ (List.mem_of_getElem? (i := 11) rfl)) (hw _ (List.mem_of_getElem? (i := 5) rfl)) e77 0 (by decide) (by decide) (by decide) (by decide) E13 [(.int (0 : Int32))] [] rfl pd_1 rfl 62 rfl (by rw [hml]; rfl) rfl (hb hby at_59) rfl fun T78 v78 L78 X78 hQ78 => ?_
      obtain ⟨rfl, Nq78, e78⟩ := hQ78
      have N78 := Fr.app N77 Nq78
      show own_Go p e below s _ _ _ (T78.setTop (mkF m 62 _ [(.int (own_he (32 : Int32) (81 : Int32)))]))
      refine g_iload X78 hx 64 (hb hby at_62) rfl rfl ?_
      have c79 : (own_he (32 : Int32) (81 : Int32)) = (0 : Int32) := by decide
      refine g_icmpNo X78 hx 67 (hb hby at_64) (own_ii_ne_f c79) rfl ?_
      refine g_iconst X78 hx 68 (hb hby at_67) (1 : Int32) rfl rfl ?_
      refine g_goto X78 hx 72 (hb hby at_68) (by decide) (by decide) ?_
      refine own_retN X78 hx hlk (t := .boolean) hret (by simp) (hb hby at_72) ?_ (by decide) (by decide)
      rw [e78]
      exact ⟨rfl, N78⟩
    · show own_Go p e below s _ _ _ (s₁.setTop (mkF m 17 _ []))
      refine g_iload_n X0 hx 18 (hb hby at_17) rfl rfl ?_
      refine own_callS X0 hx hZ hown (hw _ (List.mem_of_getElem? (i := 0) rfl)) (hw _ (List.mem_of_getElem? (i := 1) rfl)) (by decide) (rm_tag14 l Z a0 hw [] t14 h0 n0 Z0 S14) (hw _ (List.mem_of_getElem? (i := 3) rfl)) (hw _ (List.mem_of_getElem? (i := 2) rfl)) e0 0 (by decide) (by decide) (by decide) (by decide) [(.int (14 : Int32))] [] rfl pd_0 rfl 21 rfl (by rw [hml]; rfl) rfl (hb hby at_18) rfl fun T80 v80 L80 X80 hQ80 => ?_
      obtain ⟨rfl, Nq80, e80⟩ := hQ80
      have N80 := Fr.app N0 Nq80
      show own_Go p e below s _ _ _ (T80.setTop (mkF m 21 _ [(.ref t14)]))
      refine g_astore X80 hx 23 (hb hby at_21) rfl (l' := #[.val (.int p0), .val (.int p1), .val (.int (0 : Int32)), .val (.int (14 : Int32)), .val (.ref t14), .unset]) rfl rfl ?_
      refine g_iload_n X80 hx 24 (hb hby at_23) rfl rfl ?_
      refine g_ifYes X80 hx 43 (hb hby at_24) (own_i0_eq_t (by decide)) (by decide) (by decide) ?_
      refine g_iload_n X80 hx 44 (hb hby at_43) rfl rfl ?_
      refine g_bipush X80 hx 46 (hb hby at_44) (10 : Int32) rfl rfl ?_
      refine g_icmpYes X80 hx 53 (hb hby at_46) (own_ii_ge_t (by decide)) (by decide) (by decide) ?_
      refine g_iconst X80 hx 54 (hb hby at_53) (0 : Int32) rfl rfl ?_
      refine g_istore X80 hx 56 (hb hby at_54) (l' := #[.val (.int p0), .val (.int p1), .val (.int (0 : Int32)), .val (.int (14 : Int32)), .val (.ref t14), .val (.int (0 : Int32))]) rfl rfl ?_
      refine g_aload X80 hx 58 (hb hby at_56) rfl rfl rfl ?_
      refine g_iload_n X80 hx 59 (hb hby at_58) rfl rfl ?_
      refine own_callV X80 hx hZ hown (hw _ (List.mem_of_getElem? (i := 7) rfl)) (hw _ (List.mem_of_getElem? (i := 8) rfl)) (own_nf hZ (hw _ (List.mem_of_getElem? (i := 10) rfl))) (hw _ (List.mem_of_getElem? (i := 10) rfl)) (hw _ (List.mem_of_getElem? (i := 9) rfl)) (by decide) (rm_hi0 l Z a0 hw [] t14 (65 : Int32) h0 n0 Z0 F14) (hw _ (List.mem_of_getElem? (i := 11) rfl)) (hw _ (List.mem_of_getElem? (i := 5) rfl)) e80 0 (by decide) (by decide) (by decide) (by decide) E14 [(.int (0 : Int32))] [] rfl pd_1 rfl 62 rfl (by rw [hml]; rfl) rfl (hb hby at_59) rfl fun T81 v81 L81 X81 hQ81 => ?_
      obtain ⟨rfl, Nq81, e81⟩ := hQ81
      have N81 := Fr.app N80 Nq81
      show own_Go p e below s _ _ _ (T81.setTop (mkF m 62 _ [(.int (own_he (32 : Int32) (65 : Int32)))]))
      refine g_iload X81 hx 64 (hb hby at_62) rfl rfl ?_
      have c82 : (own_he (32 : Int32) (65 : Int32)) = (0 : Int32) := by decide
      refine g_icmpNo X81 hx 67 (hb hby at_64) (own_ii_ne_f c82) rfl ?_
      refine g_iconst X81 hx 68 (hb hby at_67) (1 : Int32) rfl rfl ?_
      refine g_goto X81 hx 72 (hb hby at_68) (by decide) (by decide) ?_
      refine own_retN X81 hx hlk (t := .boolean) hret (by simp) (hb hby at_72) ?_ (by decide) (by decide)
      rw [e81]
      exact ⟨rfl, N81⟩
    · show own_Go p e below s _ _ _ (s₁.setTop (mkF m 17 _ []))
      refine g_iload_n X0 hx 18 (hb hby at_17) rfl rfl ?_
      refine own_callS X0 hx hZ hown (hw _ (List.mem_of_getElem? (i := 0) rfl)) (hw _ (List.mem_of_getElem? (i := 1) rfl)) (by decide) (rm_tag15 l Z a0 hw [] t15 h0 n0 Z0 S15) (hw _ (List.mem_of_getElem? (i := 3) rfl)) (hw _ (List.mem_of_getElem? (i := 2) rfl)) e0 0 (by decide) (by decide) (by decide) (by decide) [(.int (15 : Int32))] [] rfl pd_0 rfl 21 rfl (by rw [hml]; rfl) rfl (hb hby at_18) rfl fun T83 v83 L83 X83 hQ83 => ?_
      obtain ⟨rfl, Nq83, e83⟩ := hQ83
      have N83 := Fr.app N0 Nq83
      show own_Go p e below s _ _ _ (T83.setTop (mkF m 21 _ [(.ref t15)]))
      refine g_astore X83 hx 23 (hb hby at_21) rfl (l' := #[.val (.int p0), .val (.int p1), .val (.int (0 : Int32)), .val (.int (15 : Int32)), .val (.ref t15), .unset]) rfl rfl ?_
      refine g_iload_n X83 hx 24 (hb hby at_23) rfl rfl ?_
      refine g_ifYes X83 hx 43 (hb hby at_24) (own_i0_eq_t (by decide)) (by decide) (by decide) ?_
      refine g_iload_n X83 hx 44 (hb hby at_43) rfl rfl ?_
      refine g_bipush X83 hx 46 (hb hby at_44) (10 : Int32) rfl rfl ?_
      refine g_icmpYes X83 hx 53 (hb hby at_46) (own_ii_ge_t (by decide)) (by decide) (by decide) ?_
      refine g_iconst X83 hx 54 (hb hby at_53) (0 : Int32) rfl rfl ?_
      refine g_istore X83 hx 56 (hb hby at_54) (l' := #[.val (.int p0), .val (.int p1), .val (.int (0 : Int32)), .val (.int (15 : Int32)), .val (.ref t15), .val (.int (0 : Int32))]) rfl rfl ?_
      refine g_aload X83 hx 58 (hb hby at_56) rfl rfl rfl ?_
      refine g_iload_n X83 hx 59 (hb hby at_58) rfl rfl ?_
      refine own_callV X83 hx hZ hown (hw _ (List.mem_of_getElem? (i := 7) rfl)) (hw _ (List.mem_of_getElem? (i := 8) rfl)) (own_nf hZ (hw _ (List.mem_of_getElem? (i := 10) rfl))) (hw _ (List.mem_of_getElem? (i := 10) rfl)) (hw _ (List.mem_of_getElem? (i := 9) rfl)) (by decide) (rm_hi0 l Z a0 hw [] t15 (81 : Int32) h0 n0 Z0 F15) (hw _ (List.mem_of_getElem? (i := 11) rfl)) (hw _ (List.mem_of_getElem? (i := 5) rfl)) e83 0 (by decide) (by decide) (by decide) (by decide) E15 [(.int (0 : Int32))] [] rfl pd_1 rfl 62 rfl (by rw [hml]; rfl) rfl (hb hby at_59) rfl fun T84 v84 L84 X84 hQ84 => ?_
      obtain ⟨rfl, Nq84, e84⟩ := hQ84
      have N84 := Fr.app N83 Nq84
      show own_Go p e below s _ _ _ (T84.setTop (mkF m 62 _ [(.int (own_he (32 : Int32) (81 : Int32)))]))
      refine g_iload X84 hx 64 (hb hby at_62) rfl rfl ?_
      have c85 : (own_he (32 : Int32) (81 : Int32)) = (0 : Int32) := by decide
      refine g_icmpNo X84 hx 67 (hb hby at_64) (own_ii_ne_f c85) rfl ?_
      refine g_iconst X84 hx 68 (hb hby at_67) (1 : Int32) rfl rfl ?_
      refine g_goto X84 hx 72 (hb hby at_68) (by decide) (by decide) ?_
      refine own_retN X84 hx hlk (t := .boolean) hret (by simp) (hb hby at_72) ?_ (by decide) (by decide)
      rw [e84]
      exact ⟨rfl, N84⟩
    · show own_Go p e below s _ _ _ (s₁.setTop (mkF m 17 _ []))
      refine g_iload_n X0 hx 18 (hb hby at_17) rfl rfl ?_
      refine own_callS X0 hx hZ hown (hw _ (List.mem_of_getElem? (i := 0) rfl)) (hw _ (List.mem_of_getElem? (i := 1) rfl)) (by decide) (rm_tag16 l Z a0 hw [] t16 h0 n0 Z0 S16) (hw _ (List.mem_of_getElem? (i := 3) rfl)) (hw _ (List.mem_of_getElem? (i := 2) rfl)) e0 0 (by decide) (by decide) (by decide) (by decide) [(.int (16 : Int32))] [] rfl pd_0 rfl 21 rfl (by rw [hml]; rfl) rfl (hb hby at_18) rfl fun T86 v86 L86 X86 hQ86 => ?_
      obtain ⟨rfl, Nq86, e86⟩ := hQ86
      have N86 := Fr.app N0 Nq86
      show own_Go p e below s _ _ _ (T86.setTop (mkF m 21 _ [(.ref t16)]))
      refine g_astore X86 hx 23 (hb hby at_21) rfl (l' := #[.val (.int p0), .val (.int p1), .val (.int (0 : Int32)), .val (.int (16 : Int32)), .val (.ref t16), .unset]) rfl rfl ?_
      refine g_iload_n X86 hx 24 (hb hby at_23) rfl rfl ?_
      refine g_ifYes X86 hx 43 (hb hby at_24) (own_i0_eq_t (by decide)) (by decide) (by decide) ?_
      refine g_iload_n X86 hx 44 (hb hby at_43) rfl rfl ?_
      refine g_bipush X86 hx 46 (hb hby at_44) (10 : Int32) rfl rfl ?_
      refine g_icmpYes X86 hx 53 (hb hby at_46) (own_ii_ge_t (by decide)) (by decide) (by decide) ?_
      refine g_iconst X86 hx 54 (hb hby at_53) (0 : Int32) rfl rfl ?_
      refine g_istore X86 hx 56 (hb hby at_54) (l' := #[.val (.int p0), .val (.int p1), .val (.int (0 : Int32)), .val (.int (16 : Int32)), .val (.ref t16), .val (.int (0 : Int32))]) rfl rfl ?_
      refine g_aload X86 hx 58 (hb hby at_56) rfl rfl rfl ?_
      refine g_iload_n X86 hx 59 (hb hby at_58) rfl rfl ?_
      refine own_callV X86 hx hZ hown (hw _ (List.mem_of_getElem? (i := 7) rfl)) (hw _ (List.mem_of_getElem? (i := 8) rfl)) (own_nf hZ (hw _ (List.mem_of_getElem? (i := 10) rfl))) (hw _ (List.mem_of_getElem? (i := 10) rfl)) (hw _ (List.mem_of_getElem? (i := 9) rfl)) (by decide) (rm_hi0 l Z a0 hw [] t16 (65 : Int32) h0 n0 Z0 F16) (hw _ (List.mem_of_getElem? (i := 11) rfl)) (hw _ (List.mem_of_getElem? (i := 5) rfl)) e86 0 (by decide) (by decide) (by decide) (by decide) E16 [(.int (0 : Int32))] [] rfl pd_1 rfl 62 rfl (by rw [hml]; rfl) rfl (hb hby at_59) rfl fun T87 v87 L87 X87 hQ87 => ?_
      obtain ⟨rfl, Nq87, e87⟩ := hQ87
      have N87 := Fr.app N86 Nq87
      show own_Go p e below s _ _ _ (T87.setTop (mkF m 62 _ [(.int (own_he (32 : Int32) (65 : Int32)))]))
      refine g_iload X87 hx 64 (hb hby at_62) rfl rfl ?_
      have c88 : (own_he (32 : Int32) (65 : Int32)) = (0 : Int32) := by decide
      refine g_icmpNo X87 hx 67 (hb hby at_64) (own_ii_ne_f c88) rfl ?_
      refine g_iconst X87 hx 68 (hb hby at_67) (1 : Int32) rfl rfl ?_
      refine g_goto X87 hx 72 (hb hby at_68) (by decide) (by decide) ?_
      refine own_retN X87 hx hlk (t := .boolean) hret (by simp) (hb hby at_72) ?_ (by decide) (by decide)
      rw [e87]
      exact ⟨rfl, N87⟩
    · show own_Go p e below s _ _ _ (s₁.setTop (mkF m 17 _ []))
      refine g_iload_n X0 hx 18 (hb hby at_17) rfl rfl ?_
      refine own_callS X0 hx hZ hown (hw _ (List.mem_of_getElem? (i := 0) rfl)) (hw _ (List.mem_of_getElem? (i := 1) rfl)) (by decide) (rm_tag17 l Z a0 hw [] t17 h0 n0 Z0 S17) (hw _ (List.mem_of_getElem? (i := 3) rfl)) (hw _ (List.mem_of_getElem? (i := 2) rfl)) e0 0 (by decide) (by decide) (by decide) (by decide) [(.int (17 : Int32))] [] rfl pd_0 rfl 21 rfl (by rw [hml]; rfl) rfl (hb hby at_18) rfl fun T89 v89 L89 X89 hQ89 => ?_
      obtain ⟨rfl, Nq89, e89⟩ := hQ89
      have N89 := Fr.app N0 Nq89
      show own_Go p e below s _ _ _ (T89.setTop (mkF m 21 _ [(.ref t17)]))
      refine g_astore X89 hx 23 (hb hby at_21) rfl (l' := #[.val (.int p0), .val (.int p1), .val (.int (0 : Int32)), .val (.int (17 : Int32)), .val (.ref t17), .unset]) rfl rfl ?_
      refine g_iload_n X89 hx 24 (hb hby at_23) rfl rfl ?_
      refine g_ifYes X89 hx 43 (hb hby at_24) (own_i0_eq_t (by decide)) (by decide) (by decide) ?_
      refine g_iload_n X89 hx 44 (hb hby at_43) rfl rfl ?_
      refine g_bipush X89 hx 46 (hb hby at_44) (10 : Int32) rfl rfl ?_
      refine g_icmpYes X89 hx 53 (hb hby at_46) (own_ii_ge_t (by decide)) (by decide) (by decide) ?_
      refine g_iconst X89 hx 54 (hb hby at_53) (0 : Int32) rfl rfl ?_
      refine g_istore X89 hx 56 (hb hby at_54) (l' := #[.val (.int p0), .val (.int p1), .val (.int (0 : Int32)), .val (.int (17 : Int32)), .val (.ref t17), .val (.int (0 : Int32))]) rfl rfl ?_
      refine g_aload X89 hx 58 (hb hby at_56) rfl rfl rfl ?_
      refine g_iload_n X89 hx 59 (hb hby at_58) rfl rfl ?_
      refine own_callV X89 hx hZ hown (hw _ (List.mem_of_getElem? (i := 7) rfl)) (hw _ (List.mem_of_getElem? (i := 8) rfl)) (own_nf hZ (hw _ (List.mem_of_getElem? (i := 10) rfl))) (hw _ (List.mem_of_getElem? (i := 10) rfl)) (hw _ (List.mem_of_getElem? (i := 9) rfl)) (by decide) (rm_hi0 l Z a0 hw [] t17 (65 : Int32) h0 n0 Z0 F17) (hw _ (List.mem_of_getElem? (i := 11) rfl)) (hw _ (List.mem_of_getElem? (i := 5) rfl)) e89 0 (by decide) (by decide) (by decide) (by decide) E17 [(.int (0 : Int32))] [] rfl pd_1 rfl 62 rfl (by rw [hml]; rfl) rfl (hb hby at_59) rfl fun T90 v90 L90 X90 hQ90 => ?_
      obtain ⟨rfl, Nq90, e90⟩ := hQ90
      have N90 := Fr.app N89 Nq90
      show own_Go p e below s _ _ _ (T90.setTop (mkF m 62 _ [(.int (own_he (32 : Int32) (65 : Int32)))]))
      refine g_iload X90 hx 64 (hb hby at_62) rfl rfl ?_
      have c91 : (own_he (32 : Int32) (65 : Int32)) = (0 : Int32) := by decide
      refine g_icmpNo X90 hx 67 (hb hby at_64) (own_ii_ne_f c91) rfl ?_
      refine g_iconst X90 hx 68 (hb hby at_67) (1 : Int32) rfl rfl ?_
      refine g_goto X90 hx 72 (hb hby at_68) (by decide) (by decide) ?_
      refine own_retN X90 hx hlk (t := .boolean) hret (by simp) (hb hby at_72) ?_ (by decide) (by decide)
      rw [e90]
      exact ⟨rfl, N90⟩
    · show own_Go p e below s _ _ _ (s₁.setTop (mkF m 17 _ []))
      refine g_iload_n X0 hx 18 (hb hby at_17) rfl rfl ?_
      refine own_callS X0 hx hZ hown (hw _ (List.mem_of_getElem? (i := 0) rfl)) (hw _ (List.mem_of_getElem? (i := 1) rfl)) (by decide) (rm_tag18 l Z a0 hw [] t18 h0 n0 Z0 S18) (hw _ (List.mem_of_getElem? (i := 3) rfl)) (hw _ (List.mem_of_getElem? (i := 2) rfl)) e0 0 (by decide) (by decide) (by decide) (by decide) [(.int (18 : Int32))] [] rfl pd_0 rfl 21 rfl (by rw [hml]; rfl) rfl (hb hby at_18) rfl fun T92 v92 L92 X92 hQ92 => ?_
      obtain ⟨rfl, Nq92, e92⟩ := hQ92
      have N92 := Fr.app N0 Nq92
      show own_Go p e below s _ _ _ (T92.setTop (mkF m 21 _ [(.ref t18)]))
      refine g_astore X92 hx 23 (hb hby at_21) rfl (l' := #[.val (.int p0), .val (.int p1), .val (.int (0 : Int32)), .val (.int (18 : Int32)), .val (.ref t18), .unset]) rfl rfl ?_
      refine g_iload_n X92 hx 24 (hb hby at_23) rfl rfl ?_
      refine g_ifYes X92 hx 43 (hb hby at_24) (own_i0_eq_t (by decide)) (by decide) (by decide) ?_
      refine g_iload_n X92 hx 44 (hb hby at_43) rfl rfl ?_
      refine g_bipush X92 hx 46 (hb hby at_44) (10 : Int32) rfl rfl ?_
      refine g_icmpYes X92 hx 53 (hb hby at_46) (own_ii_ge_t (by decide)) (by decide) (by decide) ?_
      refine g_iconst X92 hx 54 (hb hby at_53) (0 : Int32) rfl rfl ?_
      refine g_istore X92 hx 56 (hb hby at_54) (l' := #[.val (.int p0), .val (.int p1), .val (.int (0 : Int32)), .val (.int (18 : Int32)), .val (.ref t18), .val (.int (0 : Int32))]) rfl rfl ?_
      refine g_aload X92 hx 58 (hb hby at_56) rfl rfl rfl ?_
      refine g_iload_n X92 hx 59 (hb hby at_58) rfl rfl ?_
      refine own_callV X92 hx hZ hown (hw _ (List.mem_of_getElem? (i := 7) rfl)) (hw _ (List.mem_of_getElem? (i := 8) rfl)) (own_nf hZ (hw _ (List.mem_of_getElem? (i := 10) rfl))) (hw _ (List.mem_of_getElem? (i := 10) rfl)) (hw _ (List.mem_of_getElem? (i := 9) rfl)) (by decide) (rm_hi0 l Z a0 hw [] t18 (2 : Int32) h0 n0 Z0 F18) (hw _ (List.mem_of_getElem? (i := 11) rfl)) (hw _ (List.mem_of_getElem? (i := 5) rfl)) e92 0 (by decide) (by decide) (by decide) (by decide) E18 [(.int (0 : Int32))] [] rfl pd_1 rfl 62 rfl (by rw [hml]; rfl) rfl (hb hby at_59) rfl fun T93 v93 L93 X93 hQ93 => ?_
      obtain ⟨rfl, Nq93, e93⟩ := hQ93
      have N93 := Fr.app N92 Nq93
      show own_Go p e below s _ _ _ (T93.setTop (mkF m 62 _ [(.int (own_he (32 : Int32) (2 : Int32)))]))
      refine g_iload X93 hx 64 (hb hby at_62) rfl rfl ?_
      have c94 : (own_he (32 : Int32) (2 : Int32)) = (0 : Int32) := by decide
      refine g_icmpNo X93 hx 67 (hb hby at_64) (own_ii_ne_f c94) rfl ?_
      refine g_iconst X93 hx 68 (hb hby at_67) (1 : Int32) rfl rfl ?_
      refine g_goto X93 hx 72 (hb hby at_68) (by decide) (by decide) ?_
      refine own_retN X93 hx hlk (t := .boolean) hret (by simp) (hb hby at_72) ?_ (by decide) (by decide)
      rw [e93]
      exact ⟨rfl, N93⟩
    · show own_Go p e below s _ _ _ (s₁.setTop (mkF m 17 _ []))
      refine g_iload_n X0 hx 18 (hb hby at_17) rfl rfl ?_
      refine own_callS X0 hx hZ hown (hw _ (List.mem_of_getElem? (i := 0) rfl)) (hw _ (List.mem_of_getElem? (i := 1) rfl)) (by decide) (rm_tag19 l Z a0 hw [] t19 h0 n0 Z0 S19) (hw _ (List.mem_of_getElem? (i := 3) rfl)) (hw _ (List.mem_of_getElem? (i := 2) rfl)) e0 0 (by decide) (by decide) (by decide) (by decide) [(.int (19 : Int32))] [] rfl pd_0 rfl 21 rfl (by rw [hml]; rfl) rfl (hb hby at_18) rfl fun T95 v95 L95 X95 hQ95 => ?_
      obtain ⟨rfl, Nq95, e95⟩ := hQ95
      have N95 := Fr.app N0 Nq95
      show own_Go p e below s _ _ _ (T95.setTop (mkF m 21 _ [(.ref t19)]))
      refine g_astore X95 hx 23 (hb hby at_21) rfl (l' := #[.val (.int p0), .val (.int p1), .val (.int (0 : Int32)), .val (.int (19 : Int32)), .val (.ref t19), .unset]) rfl rfl ?_
      refine g_iload_n X95 hx 24 (hb hby at_23) rfl rfl ?_
      refine g_ifYes X95 hx 43 (hb hby at_24) (own_i0_eq_t (by decide)) (by decide) (by decide) ?_
      refine g_iload_n X95 hx 44 (hb hby at_43) rfl rfl ?_
      refine g_bipush X95 hx 46 (hb hby at_44) (10 : Int32) rfl rfl ?_
      refine g_icmpYes X95 hx 53 (hb hby at_46) (own_ii_ge_t (by decide)) (by decide) (by decide) ?_
      refine g_iconst X95 hx 54 (hb hby at_53) (0 : Int32) rfl rfl ?_
      refine g_istore X95 hx 56 (hb hby at_54) (l' := #[.val (.int p0), .val (.int p1), .val (.int (0 : Int32)), .val (.int (19 : Int32)), .val (.ref t19), .val (.int (0 : Int32))]) rfl rfl ?_
      refine g_aload X95 hx 58 (hb hby at_56) rfl rfl rfl ?_
      refine g_iload_n X95 hx 59 (hb hby at_58) rfl rfl ?_
      refine own_callV X95 hx hZ hown (hw _ (List.mem_of_getElem? (i := 7) rfl)) (hw _ (List.mem_of_getElem? (i := 8) rfl)) (own_nf hZ (hw _ (List.mem_of_getElem? (i := 10) rfl))) (hw _ (List.mem_of_getElem? (i := 10) rfl)) (hw _ (List.mem_of_getElem? (i := 9) rfl)) (by decide) (rm_hi0 l Z a0 hw [] t19 (1 : Int32) h0 n0 Z0 F19) (hw _ (List.mem_of_getElem? (i := 11) rfl)) (hw _ (List.mem_of_getElem? (i := 5) rfl)) e95 0 (by decide) (by decide) (by decide) (by decide) E19 [(.int (0 : Int32))] [] rfl pd_1 rfl 62 rfl (by rw [hml]; rfl) rfl (hb hby at_59) rfl fun T96 v96 L96 X96 hQ96 => ?_
      obtain ⟨rfl, Nq96, e96⟩ := hQ96
      have N96 := Fr.app N95 Nq96
      show own_Go p e below s _ _ _ (T96.setTop (mkF m 62 _ [(.int (own_he (32 : Int32) (1 : Int32)))]))
      refine g_iload X96 hx 64 (hb hby at_62) rfl rfl ?_
      have c97 : (own_he (32 : Int32) (1 : Int32)) = (0 : Int32) := by decide
      refine g_icmpNo X96 hx 67 (hb hby at_64) (own_ii_ne_f c97) rfl ?_
      refine g_iconst X96 hx 68 (hb hby at_67) (1 : Int32) rfl rfl ?_
      refine g_goto X96 hx 72 (hb hby at_68) (by decide) (by decide) ?_
      refine own_retN X96 hx hlk (t := .boolean) hret (by simp) (hb hby at_72) ?_ (by decide) (by decide)
      rw [e96]
      exact ⟨rfl, N96⟩
    · show own_Go p e below s _ _ _ (s₁.setTop (mkF m 17 _ []))
      refine g_iload_n X0 hx 18 (hb hby at_17) rfl rfl ?_
      refine own_callS X0 hx hZ hown (hw _ (List.mem_of_getElem? (i := 0) rfl)) (hw _ (List.mem_of_getElem? (i := 1) rfl)) (by decide) (rm_tag20 l Z a0 hw [] t20 h0 n0 Z0 S20) (hw _ (List.mem_of_getElem? (i := 3) rfl)) (hw _ (List.mem_of_getElem? (i := 2) rfl)) e0 0 (by decide) (by decide) (by decide) (by decide) [(.int (20 : Int32))] [] rfl pd_0 rfl 21 rfl (by rw [hml]; rfl) rfl (hb hby at_18) rfl fun T98 v98 L98 X98 hQ98 => ?_
      obtain ⟨rfl, Nq98, e98⟩ := hQ98
      have N98 := Fr.app N0 Nq98
      show own_Go p e below s _ _ _ (T98.setTop (mkF m 21 _ [(.ref t20)]))
      refine g_astore X98 hx 23 (hb hby at_21) rfl (l' := #[.val (.int p0), .val (.int p1), .val (.int (0 : Int32)), .val (.int (20 : Int32)), .val (.ref t20), .unset]) rfl rfl ?_
      refine g_iload_n X98 hx 24 (hb hby at_23) rfl rfl ?_
      refine g_ifYes X98 hx 43 (hb hby at_24) (own_i0_eq_t (by decide)) (by decide) (by decide) ?_
      refine g_iload_n X98 hx 44 (hb hby at_43) rfl rfl ?_
      refine g_bipush X98 hx 46 (hb hby at_44) (10 : Int32) rfl rfl ?_
      refine g_icmpYes X98 hx 53 (hb hby at_46) (own_ii_ge_t (by decide)) (by decide) (by decide) ?_
      refine g_iconst X98 hx 54 (hb hby at_53) (0 : Int32) rfl rfl ?_
      refine g_istore X98 hx 56 (hb hby at_54) (l' := #[.val (.int p0), .val (.int p1), .val (.int (0 : Int32)), .val (.int (20 : Int32)), .val (.ref t20), .val (.int (0 : Int32))]) rfl rfl ?_
      refine g_aload X98 hx 58 (hb hby at_56) rfl rfl rfl ?_
      refine g_iload_n X98 hx 59 (hb hby at_58) rfl rfl ?_
      refine own_callV X98 hx hZ hown (hw _ (List.mem_of_getElem? (i := 7) rfl)) (hw _ (List.mem_of_getElem? (i := 8) rfl)) (own_nf hZ (hw _ (List.mem_of_getElem? (i := 10) rfl))) (hw _ (List.mem_of_getElem? (i := 10) rfl)) (hw _ (List.mem_of_getElem? (i := 9) rfl)) (by decide) (rm_hi0 l Z a0 hw [] t20 (0 : Int32) h0 n0 Z0 F20) (hw _ (List.mem_of_getElem? (i := 11) rfl)) (hw _ (List.mem_of_getElem? (i := 5) rfl)) e98 0 (by decide) (by decide) (by decide) (by decide) E20 [(.int (0 : Int32))] [] rfl pd_1 rfl 62 rfl (by rw [hml]; rfl) rfl (hb hby at_59) rfl fun T99 v99 L99 X99 hQ99 => ?_
      obtain ⟨rfl, Nq99, e99⟩ := hQ99
      have N99 := Fr.app N98 Nq99
      show own_Go p e below s _ _ _ (T99.setTop (mkF m 62 _ [(.int (own_he (32 : Int32) (0 : Int32)))]))
      refine g_iload X99 hx 64 (hb hby at_62) rfl rfl ?_
      have c100 : (own_he (32 : Int32) (0 : Int32)) = (0 : Int32) := by decide
      refine g_icmpNo X99 hx 67 (hb hby at_64) (own_ii_ne_f c100) rfl ?_
      refine g_iconst X99 hx 68 (hb hby at_67) (1 : Int32) rfl rfl ?_
      refine g_goto X99 hx 72 (hb hby at_68) (by decide) (by decide) ?_
      refine own_retN X99 hx hlk (t := .boolean) hret (by simp) (hb hby at_72) ?_ (by decide) (by decide)
      rw [e99]
      exact ⟨rfl, N99⟩
    · show own_Go p e below s _ _ _ (s₁.setTop (mkF m 17 _ []))
      refine g_iload_n X0 hx 18 (hb hby at_17) rfl rfl ?_
      refine own_callS X0 hx hZ hown (hw _ (List.mem_of_getElem? (i := 0) rfl)) (hw _ (List.mem_of_getElem? (i := 1) rfl)) (by decide) (rm_tag21 l Z a0 hw [] t21 h0 n0 Z0 S21) (hw _ (List.mem_of_getElem? (i := 3) rfl)) (hw _ (List.mem_of_getElem? (i := 2) rfl)) e0 0 (by decide) (by decide) (by decide) (by decide) [(.int (21 : Int32))] [] rfl pd_0 rfl 21 rfl (by rw [hml]; rfl) rfl (hb hby at_18) rfl fun T101 v101 L101 X101 hQ101 => ?_
      obtain ⟨rfl, Nq101, e101⟩ := hQ101
      have N101 := Fr.app N0 Nq101
      show own_Go p e below s _ _ _ (T101.setTop (mkF m 21 _ [(.ref t21)]))
      refine g_astore X101 hx 23 (hb hby at_21) rfl (l' := #[.val (.int p0), .val (.int p1), .val (.int (0 : Int32)), .val (.int (21 : Int32)), .val (.ref t21), .unset]) rfl rfl ?_
      refine g_iload_n X101 hx 24 (hb hby at_23) rfl rfl ?_
      refine g_ifYes X101 hx 43 (hb hby at_24) (own_i0_eq_t (by decide)) (by decide) (by decide) ?_
      refine g_iload_n X101 hx 44 (hb hby at_43) rfl rfl ?_
      refine g_bipush X101 hx 46 (hb hby at_44) (10 : Int32) rfl rfl ?_
      refine g_icmpYes X101 hx 53 (hb hby at_46) (own_ii_ge_t (by decide)) (by decide) (by decide) ?_
      refine g_iconst X101 hx 54 (hb hby at_53) (0 : Int32) rfl rfl ?_
      refine g_istore X101 hx 56 (hb hby at_54) (l' := #[.val (.int p0), .val (.int p1), .val (.int (0 : Int32)), .val (.int (21 : Int32)), .val (.ref t21), .val (.int (0 : Int32))]) rfl rfl ?_
      refine g_aload X101 hx 58 (hb hby at_56) rfl rfl rfl ?_
      refine g_iload_n X101 hx 59 (hb hby at_58) rfl rfl ?_
      refine own_callV X101 hx hZ hown (hw _ (List.mem_of_getElem? (i := 7) rfl)) (hw _ (List.mem_of_getElem? (i := 8) rfl)) (own_nf hZ (hw _ (List.mem_of_getElem? (i := 10) rfl))) (hw _ (List.mem_of_getElem? (i := 10) rfl)) (hw _ (List.mem_of_getElem? (i := 9) rfl)) (by decide) (rm_hi0 l Z a0 hw [] t21 (17 : Int32) h0 n0 Z0 F21) (hw _ (List.mem_of_getElem? (i := 11) rfl)) (hw _ (List.mem_of_getElem? (i := 5) rfl)) e101 0 (by decide) (by decide) (by decide) (by decide) E21 [(.int (0 : Int32))] [] rfl pd_1 rfl 62 rfl (by rw [hml]; rfl) rfl (hb hby at_59) rfl fun T102 v102 L102 X102 hQ102 => ?_
      obtain ⟨rfl, Nq102, e102⟩ := hQ102
      have N102 := Fr.app N101 Nq102
      show own_Go p e below s _ _ _ (T102.setTop (mkF m 62 _ [(.int (own_he (32 : Int32) (17 : Int32)))]))
      refine g_iload X102 hx 64 (hb hby at_62) rfl rfl ?_
      have c103 : (own_he (32 : Int32) (17 : Int32)) = (0 : Int32) := by decide
      refine g_icmpNo X102 hx 67 (hb hby at_64) (own_ii_ne_f c103) rfl ?_
      refine g_iconst X102 hx 68 (hb hby at_67) (1 : Int32) rfl rfl ?_
      refine g_goto X102 hx 72 (hb hby at_68) (by decide) (by decide) ?_
      refine own_retN X102 hx hlk (t := .boolean) hret (by simp) (hb hby at_72) ?_ (by decide) (by decide)
      rw [e102]
      exact ⟨rfl, N102⟩
    · show own_Go p e below s _ _ _ (s₁.setTop (mkF m 17 _ []))
      refine g_iload_n X0 hx 18 (hb hby at_17) rfl rfl ?_
      refine own_callS X0 hx hZ hown (hw _ (List.mem_of_getElem? (i := 0) rfl)) (hw _ (List.mem_of_getElem? (i := 1) rfl)) (by decide) (rm_tag22 l Z a0 hw [] t22 h0 n0 Z0 S22) (hw _ (List.mem_of_getElem? (i := 3) rfl)) (hw _ (List.mem_of_getElem? (i := 2) rfl)) e0 0 (by decide) (by decide) (by decide) (by decide) [(.int (22 : Int32))] [] rfl pd_0 rfl 21 rfl (by rw [hml]; rfl) rfl (hb hby at_18) rfl fun T104 v104 L104 X104 hQ104 => ?_
      obtain ⟨rfl, Nq104, e104⟩ := hQ104
      have N104 := Fr.app N0 Nq104
      show own_Go p e below s _ _ _ (T104.setTop (mkF m 21 _ [(.ref t22)]))
      refine g_astore X104 hx 23 (hb hby at_21) rfl (l' := #[.val (.int p0), .val (.int p1), .val (.int (0 : Int32)), .val (.int (22 : Int32)), .val (.ref t22), .unset]) rfl rfl ?_
      refine g_iload_n X104 hx 24 (hb hby at_23) rfl rfl ?_
      refine g_ifYes X104 hx 43 (hb hby at_24) (own_i0_eq_t (by decide)) (by decide) (by decide) ?_
      refine g_iload_n X104 hx 44 (hb hby at_43) rfl rfl ?_
      refine g_bipush X104 hx 46 (hb hby at_44) (10 : Int32) rfl rfl ?_
      refine g_icmpYes X104 hx 53 (hb hby at_46) (own_ii_ge_t (by decide)) (by decide) (by decide) ?_
      refine g_iconst X104 hx 54 (hb hby at_53) (0 : Int32) rfl rfl ?_
      refine g_istore X104 hx 56 (hb hby at_54) (l' := #[.val (.int p0), .val (.int p1), .val (.int (0 : Int32)), .val (.int (22 : Int32)), .val (.ref t22), .val (.int (0 : Int32))]) rfl rfl ?_
      refine g_aload X104 hx 58 (hb hby at_56) rfl rfl rfl ?_
      refine g_iload_n X104 hx 59 (hb hby at_58) rfl rfl ?_
      refine own_callV X104 hx hZ hown (hw _ (List.mem_of_getElem? (i := 7) rfl)) (hw _ (List.mem_of_getElem? (i := 8) rfl)) (own_nf hZ (hw _ (List.mem_of_getElem? (i := 10) rfl))) (hw _ (List.mem_of_getElem? (i := 10) rfl)) (hw _ (List.mem_of_getElem? (i := 9) rfl)) (by decide) (rm_hi0 l Z a0 hw [] t22 (5 : Int32) h0 n0 Z0 F22) (hw _ (List.mem_of_getElem? (i := 11) rfl)) (hw _ (List.mem_of_getElem? (i := 5) rfl)) e104 0 (by decide) (by decide) (by decide) (by decide) E22 [(.int (0 : Int32))] [] rfl pd_1 rfl 62 rfl (by rw [hml]; rfl) rfl (hb hby at_59) rfl fun T105 v105 L105 X105 hQ105 => ?_
      obtain ⟨rfl, Nq105, e105⟩ := hQ105
      have N105 := Fr.app N104 Nq105
      show own_Go p e below s _ _ _ (T105.setTop (mkF m 62 _ [(.int (own_he (32 : Int32) (5 : Int32)))]))
      refine g_iload X105 hx 64 (hb hby at_62) rfl rfl ?_
      have c106 : (own_he (32 : Int32) (5 : Int32)) = (0 : Int32) := by decide
      refine g_icmpNo X105 hx 67 (hb hby at_64) (own_ii_ne_f c106) rfl ?_
      refine g_iconst X105 hx 68 (hb hby at_67) (1 : Int32) rfl rfl ?_
      refine g_goto X105 hx 72 (hb hby at_68) (by decide) (by decide) ?_
      refine own_retN X105 hx hlk (t := .boolean) hret (by simp) (hb hby at_72) ?_ (by decide) (by decide)
      rw [e105]
      exact ⟨rfl, N105⟩
    · show own_Go p e below s _ _ _ (s₁.setTop (mkF m 17 _ []))
      refine g_iload_n X0 hx 18 (hb hby at_17) rfl rfl ?_
      refine own_callS X0 hx hZ hown (hw _ (List.mem_of_getElem? (i := 0) rfl)) (hw _ (List.mem_of_getElem? (i := 1) rfl)) (by decide) (rm_tag23 l Z a0 hw [] t23 h0 n0 Z0 S23) (hw _ (List.mem_of_getElem? (i := 3) rfl)) (hw _ (List.mem_of_getElem? (i := 2) rfl)) e0 0 (by decide) (by decide) (by decide) (by decide) [(.int (23 : Int32))] [] rfl pd_0 rfl 21 rfl (by rw [hml]; rfl) rfl (hb hby at_18) rfl fun T107 v107 L107 X107 hQ107 => ?_
      obtain ⟨rfl, Nq107, e107⟩ := hQ107
      have N107 := Fr.app N0 Nq107
      show own_Go p e below s _ _ _ (T107.setTop (mkF m 21 _ [(.ref t23)]))
      refine g_astore X107 hx 23 (hb hby at_21) rfl (l' := #[.val (.int p0), .val (.int p1), .val (.int (0 : Int32)), .val (.int (23 : Int32)), .val (.ref t23), .unset]) rfl rfl ?_
      refine g_iload_n X107 hx 24 (hb hby at_23) rfl rfl ?_
      refine g_ifYes X107 hx 43 (hb hby at_24) (own_i0_eq_t (by decide)) (by decide) (by decide) ?_
      refine g_iload_n X107 hx 44 (hb hby at_43) rfl rfl ?_
      refine g_bipush X107 hx 46 (hb hby at_44) (10 : Int32) rfl rfl ?_
      refine g_icmpYes X107 hx 53 (hb hby at_46) (own_ii_ge_t (by decide)) (by decide) (by decide) ?_
      refine g_iconst X107 hx 54 (hb hby at_53) (0 : Int32) rfl rfl ?_
      refine g_istore X107 hx 56 (hb hby at_54) (l' := #[.val (.int p0), .val (.int p1), .val (.int (0 : Int32)), .val (.int (23 : Int32)), .val (.ref t23), .val (.int (0 : Int32))]) rfl rfl ?_
      refine g_aload X107 hx 58 (hb hby at_56) rfl rfl rfl ?_
      refine g_iload_n X107 hx 59 (hb hby at_58) rfl rfl ?_
      refine own_callV X107 hx hZ hown (hw _ (List.mem_of_getElem? (i := 7) rfl)) (hw _ (List.mem_of_getElem? (i := 8) rfl)) (own_nf hZ (hw _ (List.mem_of_getElem? (i := 10) rfl))) (hw _ (List.mem_of_getElem? (i := 10) rfl)) (hw _ (List.mem_of_getElem? (i := 9) rfl)) (by decide) (rm_hi0 l Z a0 hw [] t23 (129 : Int32) h0 n0 Z0 F23) (hw _ (List.mem_of_getElem? (i := 11) rfl)) (hw _ (List.mem_of_getElem? (i := 5) rfl)) e107 0 (by decide) (by decide) (by decide) (by decide) E23 [(.int (0 : Int32))] [] rfl pd_1 rfl 62 rfl (by rw [hml]; rfl) rfl (hb hby at_59) rfl fun T108 v108 L108 X108 hQ108 => ?_
      obtain ⟨rfl, Nq108, e108⟩ := hQ108
      have N108 := Fr.app N107 Nq108
      show own_Go p e below s _ _ _ (T108.setTop (mkF m 62 _ [(.int (own_he (32 : Int32) (129 : Int32)))]))
      refine g_iload X108 hx 64 (hb hby at_62) rfl rfl ?_
      have c109 : (own_he (32 : Int32) (129 : Int32)) = (0 : Int32) := by decide
      refine g_icmpNo X108 hx 67 (hb hby at_64) (own_ii_ne_f c109) rfl ?_
      refine g_iconst X108 hx 68 (hb hby at_67) (1 : Int32) rfl rfl ?_
      refine g_goto X108 hx 72 (hb hby at_68) (by decide) (by decide) ?_
      refine own_retN X108 hx hlk (t := .boolean) hret (by simp) (hb hby at_72) ?_ (by decide) (by decide)
      rw [e108]
      exact ⟨rfl, N108⟩
    · show own_Go p e below s _ _ _ (s₁.setTop (mkF m 17 _ []))
      refine g_iload_n X0 hx 18 (hb hby at_17) rfl rfl ?_
      refine own_callS X0 hx hZ hown (hw _ (List.mem_of_getElem? (i := 0) rfl)) (hw _ (List.mem_of_getElem? (i := 1) rfl)) (by decide) (rm_tag24 l Z a0 hw [] t24 h0 n0 Z0 S24) (hw _ (List.mem_of_getElem? (i := 3) rfl)) (hw _ (List.mem_of_getElem? (i := 2) rfl)) e0 0 (by decide) (by decide) (by decide) (by decide) [(.int (24 : Int32))] [] rfl pd_0 rfl 21 rfl (by rw [hml]; rfl) rfl (hb hby at_18) rfl fun T110 v110 L110 X110 hQ110 => ?_
      obtain ⟨rfl, Nq110, e110⟩ := hQ110
      have N110 := Fr.app N0 Nq110
      show own_Go p e below s _ _ _ (T110.setTop (mkF m 21 _ [(.ref t24)]))
      refine g_astore X110 hx 23 (hb hby at_21) rfl (l' := #[.val (.int p0), .val (.int p1), .val (.int (0 : Int32)), .val (.int (24 : Int32)), .val (.ref t24), .unset]) rfl rfl ?_
      refine g_iload_n X110 hx 24 (hb hby at_23) rfl rfl ?_
      refine g_ifYes X110 hx 43 (hb hby at_24) (own_i0_eq_t (by decide)) (by decide) (by decide) ?_
      refine g_iload_n X110 hx 44 (hb hby at_43) rfl rfl ?_
      refine g_bipush X110 hx 46 (hb hby at_44) (10 : Int32) rfl rfl ?_
      refine g_icmpYes X110 hx 53 (hb hby at_46) (own_ii_ge_t (by decide)) (by decide) (by decide) ?_
      refine g_iconst X110 hx 54 (hb hby at_53) (0 : Int32) rfl rfl ?_
      refine g_istore X110 hx 56 (hb hby at_54) (l' := #[.val (.int p0), .val (.int p1), .val (.int (0 : Int32)), .val (.int (24 : Int32)), .val (.ref t24), .val (.int (0 : Int32))]) rfl rfl ?_
      refine g_aload X110 hx 58 (hb hby at_56) rfl rfl rfl ?_
      refine g_iload_n X110 hx 59 (hb hby at_58) rfl rfl ?_
      refine own_callV X110 hx hZ hown (hw _ (List.mem_of_getElem? (i := 7) rfl)) (hw _ (List.mem_of_getElem? (i := 8) rfl)) (own_nf hZ (hw _ (List.mem_of_getElem? (i := 10) rfl))) (hw _ (List.mem_of_getElem? (i := 10) rfl)) (hw _ (List.mem_of_getElem? (i := 9) rfl)) (by decide) (rm_hi0 l Z a0 hw [] t24 (9 : Int32) h0 n0 Z0 F24) (hw _ (List.mem_of_getElem? (i := 11) rfl)) (hw _ (List.mem_of_getElem? (i := 5) rfl)) e110 0 (by decide) (by decide) (by decide) (by decide) E24 [(.int (0 : Int32))] [] rfl pd_1 rfl 62 rfl (by rw [hml]; rfl) rfl (hb hby at_59) rfl fun T111 v111 L111 X111 hQ111 => ?_
      obtain ⟨rfl, Nq111, e111⟩ := hQ111
      have N111 := Fr.app N110 Nq111
      show own_Go p e below s _ _ _ (T111.setTop (mkF m 62 _ [(.int (own_he (32 : Int32) (9 : Int32)))]))
      refine g_iload X111 hx 64 (hb hby at_62) rfl rfl ?_
      have c112 : (own_he (32 : Int32) (9 : Int32)) = (0 : Int32) := by decide
      refine g_icmpNo X111 hx 67 (hb hby at_64) (own_ii_ne_f c112) rfl ?_
      refine g_iconst X111 hx 68 (hb hby at_67) (1 : Int32) rfl rfl ?_
      refine g_goto X111 hx 72 (hb hby at_68) (by decide) (by decide) ?_
      refine own_retN X111 hx hlk (t := .boolean) hret (by simp) (hb hby at_72) ?_ (by decide) (by decide)
      rw [e111]
      exact ⟨rfl, N111⟩
    · show own_Go p e below s _ _ _ (s₁.setTop (mkF m 17 _ []))
      refine g_iload_n X0 hx 18 (hb hby at_17) rfl rfl ?_
      refine own_callS X0 hx hZ hown (hw _ (List.mem_of_getElem? (i := 0) rfl)) (hw _ (List.mem_of_getElem? (i := 1) rfl)) (by decide) (rm_tag25 l Z a0 hw [] t25 h0 n0 Z0 S25) (hw _ (List.mem_of_getElem? (i := 3) rfl)) (hw _ (List.mem_of_getElem? (i := 2) rfl)) e0 0 (by decide) (by decide) (by decide) (by decide) [(.int (25 : Int32))] [] rfl pd_0 rfl 21 rfl (by rw [hml]; rfl) rfl (hb hby at_18) rfl fun T113 v113 L113 X113 hQ113 => ?_
      obtain ⟨rfl, Nq113, e113⟩ := hQ113
      have N113 := Fr.app N0 Nq113
      show own_Go p e below s _ _ _ (T113.setTop (mkF m 21 _ [(.ref t25)]))
      refine g_astore X113 hx 23 (hb hby at_21) rfl (l' := #[.val (.int p0), .val (.int p1), .val (.int (0 : Int32)), .val (.int (25 : Int32)), .val (.ref t25), .unset]) rfl rfl ?_
      refine g_iload_n X113 hx 24 (hb hby at_23) rfl rfl ?_
      refine g_ifYes X113 hx 43 (hb hby at_24) (own_i0_eq_t (by decide)) (by decide) (by decide) ?_
      refine g_iload_n X113 hx 44 (hb hby at_43) rfl rfl ?_
      refine g_bipush X113 hx 46 (hb hby at_44) (10 : Int32) rfl rfl ?_
      refine g_icmpYes X113 hx 53 (hb hby at_46) (own_ii_ge_t (by decide)) (by decide) (by decide) ?_
      refine g_iconst X113 hx 54 (hb hby at_53) (0 : Int32) rfl rfl ?_
      refine g_istore X113 hx 56 (hb hby at_54) (l' := #[.val (.int p0), .val (.int p1), .val (.int (0 : Int32)), .val (.int (25 : Int32)), .val (.ref t25), .val (.int (0 : Int32))]) rfl rfl ?_
      refine g_aload X113 hx 58 (hb hby at_56) rfl rfl rfl ?_
      refine g_iload_n X113 hx 59 (hb hby at_58) rfl rfl ?_
      refine own_callV X113 hx hZ hown (hw _ (List.mem_of_getElem? (i := 7) rfl)) (hw _ (List.mem_of_getElem? (i := 8) rfl)) (own_nf hZ (hw _ (List.mem_of_getElem? (i := 10) rfl))) (hw _ (List.mem_of_getElem? (i := 10) rfl)) (hw _ (List.mem_of_getElem? (i := 9) rfl)) (by decide) (rm_hi0 l Z a0 hw [] t25 (17 : Int32) h0 n0 Z0 F25) (hw _ (List.mem_of_getElem? (i := 11) rfl)) (hw _ (List.mem_of_getElem? (i := 5) rfl)) e113 0 (by decide) (by decide) (by decide) (by decide) E25 [(.int (0 : Int32))] [] rfl pd_1 rfl 62 rfl (by rw [hml]; rfl) rfl (hb hby at_59) rfl fun T114 v114 L114 X114 hQ114 => ?_
      obtain ⟨rfl, Nq114, e114⟩ := hQ114
      have N114 := Fr.app N113 Nq114
      show own_Go p e below s _ _ _ (T114.setTop (mkF m 62 _ [(.int (own_he (32 : Int32) (17 : Int32)))]))
      refine g_iload X114 hx 64 (hb hby at_62) rfl rfl ?_
      have c115 : (own_he (32 : Int32) (17 : Int32)) = (0 : Int32) := by decide
      refine g_icmpNo X114 hx 67 (hb hby at_64) (own_ii_ne_f c115) rfl ?_
      refine g_iconst X114 hx 68 (hb hby at_67) (1 : Int32) rfl rfl ?_
      refine g_goto X114 hx 72 (hb hby at_68) (by decide) (by decide) ?_
      refine own_retN X114 hx hlk (t := .boolean) hret (by simp) (hb hby at_72) ?_ (by decide) (by decide)
      rw [e114]
      exact ⟨rfl, N114⟩
    · show own_Go p e below s _ _ _ (s₁.setTop (mkF m 17 _ []))
      refine g_iload_n X0 hx 18 (hb hby at_17) rfl rfl ?_
      refine own_callS X0 hx hZ hown (hw _ (List.mem_of_getElem? (i := 0) rfl)) (hw _ (List.mem_of_getElem? (i := 1) rfl)) (by decide) (rm_tag26 l Z a0 hw [] t26 h0 n0 Z0 S26) (hw _ (List.mem_of_getElem? (i := 3) rfl)) (hw _ (List.mem_of_getElem? (i := 2) rfl)) e0 0 (by decide) (by decide) (by decide) (by decide) [(.int (26 : Int32))] [] rfl pd_0 rfl 21 rfl (by rw [hml]; rfl) rfl (hb hby at_18) rfl fun T116 v116 L116 X116 hQ116 => ?_
      obtain ⟨rfl, Nq116, e116⟩ := hQ116
      have N116 := Fr.app N0 Nq116
      show own_Go p e below s _ _ _ (T116.setTop (mkF m 21 _ [(.ref t26)]))
      refine g_astore X116 hx 23 (hb hby at_21) rfl (l' := #[.val (.int p0), .val (.int p1), .val (.int (0 : Int32)), .val (.int (26 : Int32)), .val (.ref t26), .unset]) rfl rfl ?_
      refine g_iload_n X116 hx 24 (hb hby at_23) rfl rfl ?_
      refine g_ifYes X116 hx 43 (hb hby at_24) (own_i0_eq_t (by decide)) (by decide) (by decide) ?_
      refine g_iload_n X116 hx 44 (hb hby at_43) rfl rfl ?_
      refine g_bipush X116 hx 46 (hb hby at_44) (10 : Int32) rfl rfl ?_
      refine g_icmpYes X116 hx 53 (hb hby at_46) (own_ii_ge_t (by decide)) (by decide) (by decide) ?_
      refine g_iconst X116 hx 54 (hb hby at_53) (0 : Int32) rfl rfl ?_
      refine g_istore X116 hx 56 (hb hby at_54) (l' := #[.val (.int p0), .val (.int p1), .val (.int (0 : Int32)), .val (.int (26 : Int32)), .val (.ref t26), .val (.int (0 : Int32))]) rfl rfl ?_
      refine g_aload X116 hx 58 (hb hby at_56) rfl rfl rfl ?_
      refine g_iload_n X116 hx 59 (hb hby at_58) rfl rfl ?_
      refine own_callV X116 hx hZ hown (hw _ (List.mem_of_getElem? (i := 7) rfl)) (hw _ (List.mem_of_getElem? (i := 8) rfl)) (own_nf hZ (hw _ (List.mem_of_getElem? (i := 10) rfl))) (hw _ (List.mem_of_getElem? (i := 10) rfl)) (hw _ (List.mem_of_getElem? (i := 9) rfl)) (by decide) (rm_hi0 l Z a0 hw [] t26 (17 : Int32) h0 n0 Z0 F26) (hw _ (List.mem_of_getElem? (i := 11) rfl)) (hw _ (List.mem_of_getElem? (i := 5) rfl)) e116 0 (by decide) (by decide) (by decide) (by decide) E26 [(.int (0 : Int32))] [] rfl pd_1 rfl 62 rfl (by rw [hml]; rfl) rfl (hb hby at_59) rfl fun T117 v117 L117 X117 hQ117 => ?_
      obtain ⟨rfl, Nq117, e117⟩ := hQ117
      have N117 := Fr.app N116 Nq117
      show own_Go p e below s _ _ _ (T117.setTop (mkF m 62 _ [(.int (own_he (32 : Int32) (17 : Int32)))]))
      refine g_iload X117 hx 64 (hb hby at_62) rfl rfl ?_
      have c118 : (own_he (32 : Int32) (17 : Int32)) = (0 : Int32) := by decide
      refine g_icmpNo X117 hx 67 (hb hby at_64) (own_ii_ne_f c118) rfl ?_
      refine g_iconst X117 hx 68 (hb hby at_67) (1 : Int32) rfl rfl ?_
      refine g_goto X117 hx 72 (hb hby at_68) (by decide) (by decide) ?_
      refine own_retN X117 hx hlk (t := .boolean) hret (by simp) (hb hby at_72) ?_ (by decide) (by decide)
      rw [e117]
      exact ⟨rfl, N117⟩
    · show own_Go p e below s _ _ _ (s₁.setTop (mkF m 17 _ []))
      refine g_iload_n X0 hx 18 (hb hby at_17) rfl rfl ?_
      refine own_callS X0 hx hZ hown (hw _ (List.mem_of_getElem? (i := 0) rfl)) (hw _ (List.mem_of_getElem? (i := 1) rfl)) (by decide) (rm_tag27 l Z a0 hw [] t27 h0 n0 Z0 S27) (hw _ (List.mem_of_getElem? (i := 3) rfl)) (hw _ (List.mem_of_getElem? (i := 2) rfl)) e0 0 (by decide) (by decide) (by decide) (by decide) [(.int (27 : Int32))] [] rfl pd_0 rfl 21 rfl (by rw [hml]; rfl) rfl (hb hby at_18) rfl fun T119 v119 L119 X119 hQ119 => ?_
      obtain ⟨rfl, Nq119, e119⟩ := hQ119
      have N119 := Fr.app N0 Nq119
      show own_Go p e below s _ _ _ (T119.setTop (mkF m 21 _ [(.ref t27)]))
      refine g_astore X119 hx 23 (hb hby at_21) rfl (l' := #[.val (.int p0), .val (.int p1), .val (.int (0 : Int32)), .val (.int (27 : Int32)), .val (.ref t27), .unset]) rfl rfl ?_
      refine g_iload_n X119 hx 24 (hb hby at_23) rfl rfl ?_
      refine g_ifYes X119 hx 43 (hb hby at_24) (own_i0_eq_t (by decide)) (by decide) (by decide) ?_
      refine g_iload_n X119 hx 44 (hb hby at_43) rfl rfl ?_
      refine g_bipush X119 hx 46 (hb hby at_44) (10 : Int32) rfl rfl ?_
      refine g_icmpYes X119 hx 53 (hb hby at_46) (own_ii_ge_t (by decide)) (by decide) (by decide) ?_
      refine g_iconst X119 hx 54 (hb hby at_53) (0 : Int32) rfl rfl ?_
      refine g_istore X119 hx 56 (hb hby at_54) (l' := #[.val (.int p0), .val (.int p1), .val (.int (0 : Int32)), .val (.int (27 : Int32)), .val (.ref t27), .val (.int (0 : Int32))]) rfl rfl ?_
      refine g_aload X119 hx 58 (hb hby at_56) rfl rfl rfl ?_
      refine g_iload_n X119 hx 59 (hb hby at_58) rfl rfl ?_
      refine own_callV X119 hx hZ hown (hw _ (List.mem_of_getElem? (i := 7) rfl)) (hw _ (List.mem_of_getElem? (i := 8) rfl)) (own_nf hZ (hw _ (List.mem_of_getElem? (i := 10) rfl))) (hw _ (List.mem_of_getElem? (i := 10) rfl)) (hw _ (List.mem_of_getElem? (i := 9) rfl)) (by decide) (rm_hi0 l Z a0 hw [] t27 (17 : Int32) h0 n0 Z0 F27) (hw _ (List.mem_of_getElem? (i := 11) rfl)) (hw _ (List.mem_of_getElem? (i := 5) rfl)) e119 0 (by decide) (by decide) (by decide) (by decide) E27 [(.int (0 : Int32))] [] rfl pd_1 rfl 62 rfl (by rw [hml]; rfl) rfl (hb hby at_59) rfl fun T120 v120 L120 X120 hQ120 => ?_
      obtain ⟨rfl, Nq120, e120⟩ := hQ120
      have N120 := Fr.app N119 Nq120
      show own_Go p e below s _ _ _ (T120.setTop (mkF m 62 _ [(.int (own_he (32 : Int32) (17 : Int32)))]))
      refine g_iload X120 hx 64 (hb hby at_62) rfl rfl ?_
      have c121 : (own_he (32 : Int32) (17 : Int32)) = (0 : Int32) := by decide
      refine g_icmpNo X120 hx 67 (hb hby at_64) (own_ii_ne_f c121) rfl ?_
      refine g_iconst X120 hx 68 (hb hby at_67) (1 : Int32) rfl rfl ?_
      refine g_goto X120 hx 72 (hb hby at_68) (by decide) (by decide) ?_
      refine own_retN X120 hx hlk (t := .boolean) hret (by simp) (hb hby at_72) ?_ (by decide) (by decide)
      rw [e120]
      exact ⟨rfl, N120⟩
    · show own_Go p e below s _ _ _ (s₁.setTop (mkF m 17 _ []))
      refine g_iload_n X0 hx 18 (hb hby at_17) rfl rfl ?_
      refine own_callS X0 hx hZ hown (hw _ (List.mem_of_getElem? (i := 0) rfl)) (hw _ (List.mem_of_getElem? (i := 1) rfl)) (by decide) (rm_tag28 l Z a0 hw [] t28 h0 n0 Z0 S28) (hw _ (List.mem_of_getElem? (i := 3) rfl)) (hw _ (List.mem_of_getElem? (i := 2) rfl)) e0 0 (by decide) (by decide) (by decide) (by decide) [(.int (28 : Int32))] [] rfl pd_0 rfl 21 rfl (by rw [hml]; rfl) rfl (hb hby at_18) rfl fun T122 v122 L122 X122 hQ122 => ?_
      obtain ⟨rfl, Nq122, e122⟩ := hQ122
      have N122 := Fr.app N0 Nq122
      show own_Go p e below s _ _ _ (T122.setTop (mkF m 21 _ [(.ref t28)]))
      refine g_astore X122 hx 23 (hb hby at_21) rfl (l' := #[.val (.int p0), .val (.int p1), .val (.int (0 : Int32)), .val (.int (28 : Int32)), .val (.ref t28), .unset]) rfl rfl ?_
      refine g_iload_n X122 hx 24 (hb hby at_23) rfl rfl ?_
      refine g_ifYes X122 hx 43 (hb hby at_24) (own_i0_eq_t (by decide)) (by decide) (by decide) ?_
      refine g_iload_n X122 hx 44 (hb hby at_43) rfl rfl ?_
      refine g_bipush X122 hx 46 (hb hby at_44) (10 : Int32) rfl rfl ?_
      refine g_icmpYes X122 hx 53 (hb hby at_46) (own_ii_ge_t (by decide)) (by decide) (by decide) ?_
      refine g_iconst X122 hx 54 (hb hby at_53) (0 : Int32) rfl rfl ?_
      refine g_istore X122 hx 56 (hb hby at_54) (l' := #[.val (.int p0), .val (.int p1), .val (.int (0 : Int32)), .val (.int (28 : Int32)), .val (.ref t28), .val (.int (0 : Int32))]) rfl rfl ?_
      refine g_aload X122 hx 58 (hb hby at_56) rfl rfl rfl ?_
      refine g_iload_n X122 hx 59 (hb hby at_58) rfl rfl ?_
      refine own_callV X122 hx hZ hown (hw _ (List.mem_of_getElem? (i := 7) rfl)) (hw _ (List.mem_of_getElem? (i := 8) rfl)) (own_nf hZ (hw _ (List.mem_of_getElem? (i := 10) rfl))) (hw _ (List.mem_of_getElem? (i := 10) rfl)) (hw _ (List.mem_of_getElem? (i := 9) rfl)) (by decide) (rm_hi0 l Z a0 hw [] t28 (1 : Int32) h0 n0 Z0 F28) (hw _ (List.mem_of_getElem? (i := 11) rfl)) (hw _ (List.mem_of_getElem? (i := 5) rfl)) e122 0 (by decide) (by decide) (by decide) (by decide) E28 [(.int (0 : Int32))] [] rfl pd_1 rfl 62 rfl (by rw [hml]; rfl) rfl (hb hby at_59) rfl fun T123 v123 L123 X123 hQ123 => ?_
      obtain ⟨rfl, Nq123, e123⟩ := hQ123
      have N123 := Fr.app N122 Nq123
      show own_Go p e below s _ _ _ (T123.setTop (mkF m 62 _ [(.int (own_he (32 : Int32) (1 : Int32)))]))
      refine g_iload X123 hx 64 (hb hby at_62) rfl rfl ?_
      have c124 : (own_he (32 : Int32) (1 : Int32)) = (0 : Int32) := by decide
      refine g_icmpNo X123 hx 67 (hb hby at_64) (own_ii_ne_f c124) rfl ?_
      refine g_iconst X123 hx 68 (hb hby at_67) (1 : Int32) rfl rfl ?_
      refine g_goto X123 hx 72 (hb hby at_68) (by decide) (by decide) ?_
      refine own_retN X123 hx hlk (t := .boolean) hret (by simp) (hb hby at_72) ?_ (by decide) (by decide)
      rw [e123]
      exact ⟨rfl, N123⟩
    · show own_Go p e below s _ _ _ (s₁.setTop (mkF m 17 _ []))
      refine g_iload_n X0 hx 18 (hb hby at_17) rfl rfl ?_
      refine own_callS X0 hx hZ hown (hw _ (List.mem_of_getElem? (i := 0) rfl)) (hw _ (List.mem_of_getElem? (i := 1) rfl)) (by decide) (rm_tag29 l Z a0 hw [] t29 h0 n0 Z0 S29) (hw _ (List.mem_of_getElem? (i := 3) rfl)) (hw _ (List.mem_of_getElem? (i := 2) rfl)) e0 0 (by decide) (by decide) (by decide) (by decide) [(.int (29 : Int32))] [] rfl pd_0 rfl 21 rfl (by rw [hml]; rfl) rfl (hb hby at_18) rfl fun T125 v125 L125 X125 hQ125 => ?_
      obtain ⟨rfl, Nq125, e125⟩ := hQ125
      have N125 := Fr.app N0 Nq125
      show own_Go p e below s _ _ _ (T125.setTop (mkF m 21 _ [(.ref t29)]))
      refine g_astore X125 hx 23 (hb hby at_21) rfl (l' := #[.val (.int p0), .val (.int p1), .val (.int (0 : Int32)), .val (.int (29 : Int32)), .val (.ref t29), .unset]) rfl rfl ?_
      refine g_iload_n X125 hx 24 (hb hby at_23) rfl rfl ?_
      refine g_ifYes X125 hx 43 (hb hby at_24) (own_i0_eq_t (by decide)) (by decide) (by decide) ?_
      refine g_iload_n X125 hx 44 (hb hby at_43) rfl rfl ?_
      refine g_bipush X125 hx 46 (hb hby at_44) (10 : Int32) rfl rfl ?_
      refine g_icmpYes X125 hx 53 (hb hby at_46) (own_ii_ge_t (by decide)) (by decide) (by decide) ?_
      refine g_iconst X125 hx 54 (hb hby at_53) (0 : Int32) rfl rfl ?_
      refine g_istore X125 hx 56 (hb hby at_54) (l' := #[.val (.int p0), .val (.int p1), .val (.int (0 : Int32)), .val (.int (29 : Int32)), .val (.ref t29), .val (.int (0 : Int32))]) rfl rfl ?_
      refine g_aload X125 hx 58 (hb hby at_56) rfl rfl rfl ?_
      refine g_iload_n X125 hx 59 (hb hby at_58) rfl rfl ?_
      refine own_callV X125 hx hZ hown (hw _ (List.mem_of_getElem? (i := 7) rfl)) (hw _ (List.mem_of_getElem? (i := 8) rfl)) (own_nf hZ (hw _ (List.mem_of_getElem? (i := 10) rfl))) (hw _ (List.mem_of_getElem? (i := 10) rfl)) (hw _ (List.mem_of_getElem? (i := 9) rfl)) (by decide) (rm_hi0 l Z a0 hw [] t29 (1 : Int32) h0 n0 Z0 F29) (hw _ (List.mem_of_getElem? (i := 11) rfl)) (hw _ (List.mem_of_getElem? (i := 5) rfl)) e125 0 (by decide) (by decide) (by decide) (by decide) E29 [(.int (0 : Int32))] [] rfl pd_1 rfl 62 rfl (by rw [hml]; rfl) rfl (hb hby at_59) rfl fun T126 v126 L126 X126 hQ126 => ?_
      obtain ⟨rfl, Nq126, e126⟩ := hQ126
      have N126 := Fr.app N125 Nq126
      show own_Go p e below s _ _ _ (T126.setTop (mkF m 62 _ [(.int (own_he (32 : Int32) (1 : Int32)))]))
      refine g_iload X126 hx 64 (hb hby at_62) rfl rfl ?_
      have c127 : (own_he (32 : Int32) (1 : Int32)) = (0 : Int32) := by decide
      refine g_icmpNo X126 hx 67 (hb hby at_64) (own_ii_ne_f c127) rfl ?_
      refine g_iconst X126 hx 68 (hb hby at_67) (1 : Int32) rfl rfl ?_
      refine g_goto X126 hx 72 (hb hby at_68) (by decide) (by decide) ?_
      refine own_retN X126 hx hlk (t := .boolean) hret (by simp) (hb hby at_72) ?_ (by decide) (by decide)
      rw [e126]
      exact ⟨rfl, N126⟩
    · show own_Go p e below s _ _ _ (s₁.setTop (mkF m 17 _ []))
      refine g_iload_n X0 hx 18 (hb hby at_17) rfl rfl ?_
      refine own_callS X0 hx hZ hown (hw _ (List.mem_of_getElem? (i := 0) rfl)) (hw _ (List.mem_of_getElem? (i := 1) rfl)) (by decide) (rm_tag30 l Z a0 hw [] t30 h0 n0 Z0 S30) (hw _ (List.mem_of_getElem? (i := 3) rfl)) (hw _ (List.mem_of_getElem? (i := 2) rfl)) e0 0 (by decide) (by decide) (by decide) (by decide) [(.int (30 : Int32))] [] rfl pd_0 rfl 21 rfl (by rw [hml]; rfl) rfl (hb hby at_18) rfl fun T128 v128 L128 X128 hQ128 => ?_
      obtain ⟨rfl, Nq128, e128⟩ := hQ128
      have N128 := Fr.app N0 Nq128
      show own_Go p e below s _ _ _ (T128.setTop (mkF m 21 _ [(.ref t30)]))
      refine g_astore X128 hx 23 (hb hby at_21) rfl (l' := #[.val (.int p0), .val (.int p1), .val (.int (0 : Int32)), .val (.int (30 : Int32)), .val (.ref t30), .unset]) rfl rfl ?_
      refine g_iload_n X128 hx 24 (hb hby at_23) rfl rfl ?_
      refine g_ifYes X128 hx 43 (hb hby at_24) (own_i0_eq_t (by decide)) (by decide) (by decide) ?_
      refine g_iload_n X128 hx 44 (hb hby at_43) rfl rfl ?_
      refine g_bipush X128 hx 46 (hb hby at_44) (10 : Int32) rfl rfl ?_
      refine g_icmpYes X128 hx 53 (hb hby at_46) (own_ii_ge_t (by decide)) (by decide) (by decide) ?_
      refine g_iconst X128 hx 54 (hb hby at_53) (0 : Int32) rfl rfl ?_
      refine g_istore X128 hx 56 (hb hby at_54) (l' := #[.val (.int p0), .val (.int p1), .val (.int (0 : Int32)), .val (.int (30 : Int32)), .val (.ref t30), .val (.int (0 : Int32))]) rfl rfl ?_
      refine g_aload X128 hx 58 (hb hby at_56) rfl rfl rfl ?_
      refine g_iload_n X128 hx 59 (hb hby at_58) rfl rfl ?_
      refine own_callV X128 hx hZ hown (hw _ (List.mem_of_getElem? (i := 7) rfl)) (hw _ (List.mem_of_getElem? (i := 8) rfl)) (own_nf hZ (hw _ (List.mem_of_getElem? (i := 10) rfl))) (hw _ (List.mem_of_getElem? (i := 10) rfl)) (hw _ (List.mem_of_getElem? (i := 9) rfl)) (by decide) (rm_hi0 l Z a0 hw [] t30 (0 : Int32) h0 n0 Z0 F30) (hw _ (List.mem_of_getElem? (i := 11) rfl)) (hw _ (List.mem_of_getElem? (i := 5) rfl)) e128 0 (by decide) (by decide) (by decide) (by decide) E30 [(.int (0 : Int32))] [] rfl pd_1 rfl 62 rfl (by rw [hml]; rfl) rfl (hb hby at_59) rfl fun T129 v129 L129 X129 hQ129 => ?_
      obtain ⟨rfl, Nq129, e129⟩ := hQ129
      have N129 := Fr.app N128 Nq129
      show own_Go p e below s _ _ _ (T129.setTop (mkF m 62 _ [(.int (own_he (32 : Int32) (0 : Int32)))]))
      refine g_iload X129 hx 64 (hb hby at_62) rfl rfl ?_
      have c130 : (own_he (32 : Int32) (0 : Int32)) = (0 : Int32) := by decide
      refine g_icmpNo X129 hx 67 (hb hby at_64) (own_ii_ne_f c130) rfl ?_
      refine g_iconst X129 hx 68 (hb hby at_67) (1 : Int32) rfl rfl ?_
      refine g_goto X129 hx 72 (hb hby at_68) (by decide) (by decide) ?_
      refine own_retN X129 hx hlk (t := .boolean) hret (by simp) (hb hby at_72) ?_ (by decide) (by decide)
      rw [e129]
      exact ⟨rfl, N129⟩
    · show own_Go p e below s _ _ _ (s₁.setTop (mkF m 17 _ []))
      refine g_iload_n X0 hx 18 (hb hby at_17) rfl rfl ?_
      refine own_callS X0 hx hZ hown (hw _ (List.mem_of_getElem? (i := 0) rfl)) (hw _ (List.mem_of_getElem? (i := 1) rfl)) (by decide) (rm_tag31 l Z a0 hw [] t31 h0 n0 Z0 S31) (hw _ (List.mem_of_getElem? (i := 3) rfl)) (hw _ (List.mem_of_getElem? (i := 2) rfl)) e0 0 (by decide) (by decide) (by decide) (by decide) [(.int (31 : Int32))] [] rfl pd_0 rfl 21 rfl (by rw [hml]; rfl) rfl (hb hby at_18) rfl fun T131 v131 L131 X131 hQ131 => ?_
      obtain ⟨rfl, Nq131, e131⟩ := hQ131
      have N131 := Fr.app N0 Nq131
      show own_Go p e below s _ _ _ (T131.setTop (mkF m 21 _ [(.ref t31)]))
      refine g_astore X131 hx 23 (hb hby at_21) rfl (l' := #[.val (.int p0), .val (.int p1), .val (.int (0 : Int32)), .val (.int (31 : Int32)), .val (.ref t31), .unset]) rfl rfl ?_
      refine g_iload_n X131 hx 24 (hb hby at_23) rfl rfl ?_
      refine g_ifYes X131 hx 43 (hb hby at_24) (own_i0_eq_t (by decide)) (by decide) (by decide) ?_
      refine g_iload_n X131 hx 44 (hb hby at_43) rfl rfl ?_
      refine g_bipush X131 hx 46 (hb hby at_44) (10 : Int32) rfl rfl ?_
      refine g_icmpYes X131 hx 53 (hb hby at_46) (own_ii_ge_t (by decide)) (by decide) (by decide) ?_
      refine g_iconst X131 hx 54 (hb hby at_53) (0 : Int32) rfl rfl ?_
      refine g_istore X131 hx 56 (hb hby at_54) (l' := #[.val (.int p0), .val (.int p1), .val (.int (0 : Int32)), .val (.int (31 : Int32)), .val (.ref t31), .val (.int (0 : Int32))]) rfl rfl ?_
      refine g_aload X131 hx 58 (hb hby at_56) rfl rfl rfl ?_
      refine g_iload_n X131 hx 59 (hb hby at_58) rfl rfl ?_
      refine own_callV X131 hx hZ hown (hw _ (List.mem_of_getElem? (i := 7) rfl)) (hw _ (List.mem_of_getElem? (i := 8) rfl)) (own_nf hZ (hw _ (List.mem_of_getElem? (i := 10) rfl))) (hw _ (List.mem_of_getElem? (i := 10) rfl)) (hw _ (List.mem_of_getElem? (i := 9) rfl)) (by decide) (rm_hi0 l Z a0 hw [] t31 (5 : Int32) h0 n0 Z0 F31) (hw _ (List.mem_of_getElem? (i := 11) rfl)) (hw _ (List.mem_of_getElem? (i := 5) rfl)) e131 0 (by decide) (by decide) (by decide) (by decide) E31 [(.int (0 : Int32))] [] rfl pd_1 rfl 62 rfl (by rw [hml]; rfl) rfl (hb hby at_59) rfl fun T132 v132 L132 X132 hQ132 => ?_
      obtain ⟨rfl, Nq132, e132⟩ := hQ132
      have N132 := Fr.app N131 Nq132
      show own_Go p e below s _ _ _ (T132.setTop (mkF m 62 _ [(.int (own_he (32 : Int32) (5 : Int32)))]))
      refine g_iload X132 hx 64 (hb hby at_62) rfl rfl ?_
      have c133 : (own_he (32 : Int32) (5 : Int32)) = (0 : Int32) := by decide
      refine g_icmpNo X132 hx 67 (hb hby at_64) (own_ii_ne_f c133) rfl ?_
      refine g_iconst X132 hx 68 (hb hby at_67) (1 : Int32) rfl rfl ?_
      refine g_goto X132 hx 72 (hb hby at_68) (by decide) (by decide) ?_
      refine own_retN X132 hx hlk (t := .boolean) hret (by simp) (hb hby at_72) ?_ (by decide) (by decide)
      rw [e132]
      exact ⟨rfl, N132⟩
  · refine g_ifNo X0 hx 6 (hb hby at_3) (own_i0_eq_f c37) rfl ?_
    refine g_iconst X0 hx 7 (hb hby at_6) (1 : Int32) rfl rfl ?_
    refine g_goto X0 hx 11 (hb hby at_7) (by decide) (by decide) ?_
    refine g_istore_n X0 hx 12 (hb hby at_11) (l' := #[.val (.int p0), .val (.int p1), .val (.int (1 : Int32)), .unset, .unset, .unset]) rfl rfl ?_
    refine g_iload_n X0 hx 13 (hb hby at_12) rfl rfl ?_
    refine g_bipush X0 hx 15 (hb hby at_13) (31 : Int32) rfl rfl ?_
    refine g_iand X0 hx 16 (hb hby at_15) rfl ?_
    obtain ⟨k, q_k⟩ : ∃ z, z = (p0 &&& (31 : Int32)) := ⟨_, rfl⟩
    rw [← q_k]
    refine g_istore_n X0 hx 17 (hb hby at_16) (l' := #[.val (.int p0), .val (.int p1), .val (.int (1 : Int32)), .val (.int k), .unset, .unset]) rfl rfl ?_
    rcases own_32 p0 q_k with rfl | rfl | rfl | rfl | rfl | rfl | rfl | rfl | rfl | rfl | rfl | rfl | rfl | rfl | rfl | rfl | rfl | rfl | rfl | rfl | rfl | rfl | rfl | rfl | rfl | rfl | rfl | rfl | rfl | rfl | rfl | rfl
    · show own_Go p e below s _ _ _ (s₁.setTop (mkF m 17 _ []))
      refine g_iload_n X0 hx 18 (hb hby at_17) rfl rfl ?_
      refine own_callS X0 hx hZ hown (hw _ (List.mem_of_getElem? (i := 0) rfl)) (hw _ (List.mem_of_getElem? (i := 1) rfl)) (by decide) (rm_tag0 l Z a0 hw [] t0 h0 n0 Z0 S0) (hw _ (List.mem_of_getElem? (i := 3) rfl)) (hw _ (List.mem_of_getElem? (i := 2) rfl)) e0 0 (by decide) (by decide) (by decide) (by decide) [(.int (0 : Int32))] [] rfl pd_0 rfl 21 rfl (by rw [hml]; rfl) rfl (hb hby at_18) rfl fun T134 v134 L134 X134 hQ134 => ?_
      obtain ⟨rfl, Nq134, e134⟩ := hQ134
      have N134 := Fr.app N0 Nq134
      show own_Go p e below s _ _ _ (T134.setTop (mkF m 21 _ [(.ref t0)]))
      refine g_astore X134 hx 23 (hb hby at_21) rfl (l' := #[.val (.int p0), .val (.int p1), .val (.int (1 : Int32)), .val (.int (0 : Int32)), .val (.ref t0), .unset]) rfl rfl ?_
      refine g_iload_n X134 hx 24 (hb hby at_23) rfl rfl ?_
      refine g_ifNo X134 hx 27 (hb hby at_24) (own_i0_eq_f (by decide)) rfl ?_
      refine g_iload_n X134 hx 28 (hb hby at_27) rfl rfl ?_
      refine g_bipush X134 hx 30 (hb hby at_28) (18 : Int32) rfl rfl ?_
      refine g_icmpNo X134 hx 33 (hb hby at_30) (own_ii_ge_f (by decide)) rfl ?_
      refine g_iconst X134 hx 34 (hb hby at_33) (1 : Int32) rfl rfl ?_
      refine g_goto X134 hx 38 (hb hby at_34) (by decide) (by decide) ?_
      refine g_istore X134 hx 40 (hb hby at_38) (l' := #[.val (.int p0), .val (.int p1), .val (.int (1 : Int32)), .val (.int (0 : Int32)), .val (.ref t0), .val (.int (1 : Int32))]) rfl rfl ?_
      refine g_goto X134 hx 56 (hb hby at_40) (by decide) (by decide) ?_
      refine g_aload X134 hx 58 (hb hby at_56) rfl rfl rfl ?_
      refine g_iload_n X134 hx 59 (hb hby at_58) rfl rfl ?_
      refine own_callV X134 hx hZ hown (hw _ (List.mem_of_getElem? (i := 7) rfl)) (hw _ (List.mem_of_getElem? (i := 8) rfl)) (own_nf hZ (hw _ (List.mem_of_getElem? (i := 10) rfl))) (hw _ (List.mem_of_getElem? (i := 10) rfl)) (hw _ (List.mem_of_getElem? (i := 9) rfl)) (by decide) (rm_hi1 l Z a0 hw [] t0 (33 : Int32) h0 n0 Z0 F0) (hw _ (List.mem_of_getElem? (i := 11) rfl)) (hw _ (List.mem_of_getElem? (i := 5) rfl)) e134 0 (by decide) (by decide) (by decide) (by decide) E0 [(.int (1 : Int32))] [] rfl pd_1 rfl 62 rfl (by rw [hml]; rfl) rfl (hb hby at_59) rfl fun T135 v135 L135 X135 hQ135 => ?_
      obtain ⟨rfl, Nq135, e135⟩ := hQ135
      have N135 := Fr.app N134 Nq135
      show own_Go p e below s _ _ _ (T135.setTop (mkF m 62 _ [(.int (own_he (96 : Int32) (33 : Int32)))]))
      refine g_iload X135 hx 64 (hb hby at_62) rfl rfl ?_
      have c136 : (own_he (96 : Int32) (33 : Int32)) = (1 : Int32) := by decide
      refine g_icmpNo X135 hx 67 (hb hby at_64) (own_ii_ne_f c136) rfl ?_
      refine g_iconst X135 hx 68 (hb hby at_67) (1 : Int32) rfl rfl ?_
      refine g_goto X135 hx 72 (hb hby at_68) (by decide) (by decide) ?_
      refine own_retN X135 hx hlk (t := .boolean) hret (by simp) (hb hby at_72) ?_ (by decide) (by decide)
      rw [e135]
      exact ⟨rfl, N135⟩
    · show own_Go p e below s _ _ _ (s₁.setTop (mkF m 17 _ []))
      refine g_iload_n X0 hx 18 (hb hby at_17) rfl rfl ?_
      refine own_callS X0 hx hZ hown (hw _ (List.mem_of_getElem? (i := 0) rfl)) (hw _ (List.mem_of_getElem? (i := 1) rfl)) (by decide) (rm_tag1 l Z a0 hw [] t1 h0 n0 Z0 S1) (hw _ (List.mem_of_getElem? (i := 3) rfl)) (hw _ (List.mem_of_getElem? (i := 2) rfl)) e0 0 (by decide) (by decide) (by decide) (by decide) [(.int (1 : Int32))] [] rfl pd_0 rfl 21 rfl (by rw [hml]; rfl) rfl (hb hby at_18) rfl fun T137 v137 L137 X137 hQ137 => ?_
      obtain ⟨rfl, Nq137, e137⟩ := hQ137
      have N137 := Fr.app N0 Nq137
      show own_Go p e below s _ _ _ (T137.setTop (mkF m 21 _ [(.ref t1)]))
      refine g_astore X137 hx 23 (hb hby at_21) rfl (l' := #[.val (.int p0), .val (.int p1), .val (.int (1 : Int32)), .val (.int (1 : Int32)), .val (.ref t1), .unset]) rfl rfl ?_
      refine g_iload_n X137 hx 24 (hb hby at_23) rfl rfl ?_
      refine g_ifNo X137 hx 27 (hb hby at_24) (own_i0_eq_f (by decide)) rfl ?_
      refine g_iload_n X137 hx 28 (hb hby at_27) rfl rfl ?_
      refine g_bipush X137 hx 30 (hb hby at_28) (18 : Int32) rfl rfl ?_
      refine g_icmpNo X137 hx 33 (hb hby at_30) (own_ii_ge_f (by decide)) rfl ?_
      refine g_iconst X137 hx 34 (hb hby at_33) (1 : Int32) rfl rfl ?_
      refine g_goto X137 hx 38 (hb hby at_34) (by decide) (by decide) ?_
      refine g_istore X137 hx 40 (hb hby at_38) (l' := #[.val (.int p0), .val (.int p1), .val (.int (1 : Int32)), .val (.int (1 : Int32)), .val (.ref t1), .val (.int (1 : Int32))]) rfl rfl ?_
      refine g_goto X137 hx 56 (hb hby at_40) (by decide) (by decide) ?_
      refine g_aload X137 hx 58 (hb hby at_56) rfl rfl rfl ?_
      refine g_iload_n X137 hx 59 (hb hby at_58) rfl rfl ?_
      refine own_callV X137 hx hZ hown (hw _ (List.mem_of_getElem? (i := 7) rfl)) (hw _ (List.mem_of_getElem? (i := 8) rfl)) (own_nf hZ (hw _ (List.mem_of_getElem? (i := 10) rfl))) (hw _ (List.mem_of_getElem? (i := 10) rfl)) (hw _ (List.mem_of_getElem? (i := 9) rfl)) (by decide) (rm_hi1 l Z a0 hw [] t1 (33 : Int32) h0 n0 Z0 F1) (hw _ (List.mem_of_getElem? (i := 11) rfl)) (hw _ (List.mem_of_getElem? (i := 5) rfl)) e137 0 (by decide) (by decide) (by decide) (by decide) E1 [(.int (1 : Int32))] [] rfl pd_1 rfl 62 rfl (by rw [hml]; rfl) rfl (hb hby at_59) rfl fun T138 v138 L138 X138 hQ138 => ?_
      obtain ⟨rfl, Nq138, e138⟩ := hQ138
      have N138 := Fr.app N137 Nq138
      show own_Go p e below s _ _ _ (T138.setTop (mkF m 62 _ [(.int (own_he (96 : Int32) (33 : Int32)))]))
      refine g_iload X138 hx 64 (hb hby at_62) rfl rfl ?_
      have c139 : (own_he (96 : Int32) (33 : Int32)) = (1 : Int32) := by decide
      refine g_icmpNo X138 hx 67 (hb hby at_64) (own_ii_ne_f c139) rfl ?_
      refine g_iconst X138 hx 68 (hb hby at_67) (1 : Int32) rfl rfl ?_
      refine g_goto X138 hx 72 (hb hby at_68) (by decide) (by decide) ?_
      refine own_retN X138 hx hlk (t := .boolean) hret (by simp) (hb hby at_72) ?_ (by decide) (by decide)
      rw [e138]
      exact ⟨rfl, N138⟩
    · show own_Go p e below s _ _ _ (s₁.setTop (mkF m 17 _ []))
      refine g_iload_n X0 hx 18 (hb hby at_17) rfl rfl ?_
      refine own_callS X0 hx hZ hown (hw _ (List.mem_of_getElem? (i := 0) rfl)) (hw _ (List.mem_of_getElem? (i := 1) rfl)) (by decide) (rm_tag2 l Z a0 hw [] t2 h0 n0 Z0 S2) (hw _ (List.mem_of_getElem? (i := 3) rfl)) (hw _ (List.mem_of_getElem? (i := 2) rfl)) e0 0 (by decide) (by decide) (by decide) (by decide) [(.int (2 : Int32))] [] rfl pd_0 rfl 21 rfl (by rw [hml]; rfl) rfl (hb hby at_18) rfl fun T140 v140 L140 X140 hQ140 => ?_
      obtain ⟨rfl, Nq140, e140⟩ := hQ140
      have N140 := Fr.app N0 Nq140
      show own_Go p e below s _ _ _ (T140.setTop (mkF m 21 _ [(.ref t2)]))
      refine g_astore X140 hx 23 (hb hby at_21) rfl (l' := #[.val (.int p0), .val (.int p1), .val (.int (1 : Int32)), .val (.int (2 : Int32)), .val (.ref t2), .unset]) rfl rfl ?_
      refine g_iload_n X140 hx 24 (hb hby at_23) rfl rfl ?_
      refine g_ifNo X140 hx 27 (hb hby at_24) (own_i0_eq_f (by decide)) rfl ?_
      refine g_iload_n X140 hx 28 (hb hby at_27) rfl rfl ?_
      refine g_bipush X140 hx 30 (hb hby at_28) (18 : Int32) rfl rfl ?_
      refine g_icmpNo X140 hx 33 (hb hby at_30) (own_ii_ge_f (by decide)) rfl ?_
      refine g_iconst X140 hx 34 (hb hby at_33) (1 : Int32) rfl rfl ?_
      refine g_goto X140 hx 38 (hb hby at_34) (by decide) (by decide) ?_
      refine g_istore X140 hx 40 (hb hby at_38) (l' := #[.val (.int p0), .val (.int p1), .val (.int (1 : Int32)), .val (.int (2 : Int32)), .val (.ref t2), .val (.int (1 : Int32))]) rfl rfl ?_
      refine g_goto X140 hx 56 (hb hby at_40) (by decide) (by decide) ?_
      refine g_aload X140 hx 58 (hb hby at_56) rfl rfl rfl ?_
      refine g_iload_n X140 hx 59 (hb hby at_58) rfl rfl ?_
      refine own_callV X140 hx hZ hown (hw _ (List.mem_of_getElem? (i := 7) rfl)) (hw _ (List.mem_of_getElem? (i := 8) rfl)) (own_nf hZ (hw _ (List.mem_of_getElem? (i := 10) rfl))) (hw _ (List.mem_of_getElem? (i := 10) rfl)) (hw _ (List.mem_of_getElem? (i := 9) rfl)) (by decide) (rm_hi1 l Z a0 hw [] t2 (33 : Int32) h0 n0 Z0 F2) (hw _ (List.mem_of_getElem? (i := 11) rfl)) (hw _ (List.mem_of_getElem? (i := 5) rfl)) e140 0 (by decide) (by decide) (by decide) (by decide) E2 [(.int (1 : Int32))] [] rfl pd_1 rfl 62 rfl (by rw [hml]; rfl) rfl (hb hby at_59) rfl fun T141 v141 L141 X141 hQ141 => ?_
      obtain ⟨rfl, Nq141, e141⟩ := hQ141
      have N141 := Fr.app N140 Nq141
      show own_Go p e below s _ _ _ (T141.setTop (mkF m 62 _ [(.int (own_he (96 : Int32) (33 : Int32)))]))
      refine g_iload X141 hx 64 (hb hby at_62) rfl rfl ?_
      have c142 : (own_he (96 : Int32) (33 : Int32)) = (1 : Int32) := by decide
      refine g_icmpNo X141 hx 67 (hb hby at_64) (own_ii_ne_f c142) rfl ?_
      refine g_iconst X141 hx 68 (hb hby at_67) (1 : Int32) rfl rfl ?_
      refine g_goto X141 hx 72 (hb hby at_68) (by decide) (by decide) ?_
      refine own_retN X141 hx hlk (t := .boolean) hret (by simp) (hb hby at_72) ?_ (by decide) (by decide)
      rw [e141]
      exact ⟨rfl, N141⟩
    · show own_Go p e below s _ _ _ (s₁.setTop (mkF m 17 _ []))
      refine g_iload_n X0 hx 18 (hb hby at_17) rfl rfl ?_
      refine own_callS X0 hx hZ hown (hw _ (List.mem_of_getElem? (i := 0) rfl)) (hw _ (List.mem_of_getElem? (i := 1) rfl)) (by decide) (rm_tag3 l Z a0 hw [] t3 h0 n0 Z0 S3) (hw _ (List.mem_of_getElem? (i := 3) rfl)) (hw _ (List.mem_of_getElem? (i := 2) rfl)) e0 0 (by decide) (by decide) (by decide) (by decide) [(.int (3 : Int32))] [] rfl pd_0 rfl 21 rfl (by rw [hml]; rfl) rfl (hb hby at_18) rfl fun T143 v143 L143 X143 hQ143 => ?_
      obtain ⟨rfl, Nq143, e143⟩ := hQ143
      have N143 := Fr.app N0 Nq143
      show own_Go p e below s _ _ _ (T143.setTop (mkF m 21 _ [(.ref t3)]))
      refine g_astore X143 hx 23 (hb hby at_21) rfl (l' := #[.val (.int p0), .val (.int p1), .val (.int (1 : Int32)), .val (.int (3 : Int32)), .val (.ref t3), .unset]) rfl rfl ?_
      refine g_iload_n X143 hx 24 (hb hby at_23) rfl rfl ?_
      refine g_ifNo X143 hx 27 (hb hby at_24) (own_i0_eq_f (by decide)) rfl ?_
      refine g_iload_n X143 hx 28 (hb hby at_27) rfl rfl ?_
      refine g_bipush X143 hx 30 (hb hby at_28) (18 : Int32) rfl rfl ?_
      refine g_icmpNo X143 hx 33 (hb hby at_30) (own_ii_ge_f (by decide)) rfl ?_
      refine g_iconst X143 hx 34 (hb hby at_33) (1 : Int32) rfl rfl ?_
      refine g_goto X143 hx 38 (hb hby at_34) (by decide) (by decide) ?_
      refine g_istore X143 hx 40 (hb hby at_38) (l' := #[.val (.int p0), .val (.int p1), .val (.int (1 : Int32)), .val (.int (3 : Int32)), .val (.ref t3), .val (.int (1 : Int32))]) rfl rfl ?_
      refine g_goto X143 hx 56 (hb hby at_40) (by decide) (by decide) ?_
      refine g_aload X143 hx 58 (hb hby at_56) rfl rfl rfl ?_
      refine g_iload_n X143 hx 59 (hb hby at_58) rfl rfl ?_
      refine own_callV X143 hx hZ hown (hw _ (List.mem_of_getElem? (i := 7) rfl)) (hw _ (List.mem_of_getElem? (i := 8) rfl)) (own_nf hZ (hw _ (List.mem_of_getElem? (i := 10) rfl))) (hw _ (List.mem_of_getElem? (i := 10) rfl)) (hw _ (List.mem_of_getElem? (i := 9) rfl)) (by decide) (rm_hi1 l Z a0 hw [] t3 (32 : Int32) h0 n0 Z0 F3) (hw _ (List.mem_of_getElem? (i := 11) rfl)) (hw _ (List.mem_of_getElem? (i := 5) rfl)) e143 0 (by decide) (by decide) (by decide) (by decide) E3 [(.int (1 : Int32))] [] rfl pd_1 rfl 62 rfl (by rw [hml]; rfl) rfl (hb hby at_59) rfl fun T144 v144 L144 X144 hQ144 => ?_
      obtain ⟨rfl, Nq144, e144⟩ := hQ144
      have N144 := Fr.app N143 Nq144
      show own_Go p e below s _ _ _ (T144.setTop (mkF m 62 _ [(.int (own_he (96 : Int32) (32 : Int32)))]))
      refine g_iload X144 hx 64 (hb hby at_62) rfl rfl ?_
      have c145 : (own_he (96 : Int32) (32 : Int32)) = (1 : Int32) := by decide
      refine g_icmpNo X144 hx 67 (hb hby at_64) (own_ii_ne_f c145) rfl ?_
      refine g_iconst X144 hx 68 (hb hby at_67) (1 : Int32) rfl rfl ?_
      refine g_goto X144 hx 72 (hb hby at_68) (by decide) (by decide) ?_
      refine own_retN X144 hx hlk (t := .boolean) hret (by simp) (hb hby at_72) ?_ (by decide) (by decide)
      rw [e144]
      exact ⟨rfl, N144⟩
    · show own_Go p e below s _ _ _ (s₁.setTop (mkF m 17 _ []))
      refine g_iload_n X0 hx 18 (hb hby at_17) rfl rfl ?_
      refine own_callS X0 hx hZ hown (hw _ (List.mem_of_getElem? (i := 0) rfl)) (hw _ (List.mem_of_getElem? (i := 1) rfl)) (by decide) (rm_tag4 l Z a0 hw [] t4 h0 n0 Z0 S4) (hw _ (List.mem_of_getElem? (i := 3) rfl)) (hw _ (List.mem_of_getElem? (i := 2) rfl)) e0 0 (by decide) (by decide) (by decide) (by decide) [(.int (4 : Int32))] [] rfl pd_0 rfl 21 rfl (by rw [hml]; rfl) rfl (hb hby at_18) rfl fun T146 v146 L146 X146 hQ146 => ?_
      obtain ⟨rfl, Nq146, e146⟩ := hQ146
      have N146 := Fr.app N0 Nq146
      show own_Go p e below s _ _ _ (T146.setTop (mkF m 21 _ [(.ref t4)]))
      refine g_astore X146 hx 23 (hb hby at_21) rfl (l' := #[.val (.int p0), .val (.int p1), .val (.int (1 : Int32)), .val (.int (4 : Int32)), .val (.ref t4), .unset]) rfl rfl ?_
      refine g_iload_n X146 hx 24 (hb hby at_23) rfl rfl ?_
      refine g_ifNo X146 hx 27 (hb hby at_24) (own_i0_eq_f (by decide)) rfl ?_
      refine g_iload_n X146 hx 28 (hb hby at_27) rfl rfl ?_
      refine g_bipush X146 hx 30 (hb hby at_28) (18 : Int32) rfl rfl ?_
      refine g_icmpNo X146 hx 33 (hb hby at_30) (own_ii_ge_f (by decide)) rfl ?_
      refine g_iconst X146 hx 34 (hb hby at_33) (1 : Int32) rfl rfl ?_
      refine g_goto X146 hx 38 (hb hby at_34) (by decide) (by decide) ?_
      refine g_istore X146 hx 40 (hb hby at_38) (l' := #[.val (.int p0), .val (.int p1), .val (.int (1 : Int32)), .val (.int (4 : Int32)), .val (.ref t4), .val (.int (1 : Int32))]) rfl rfl ?_
      refine g_goto X146 hx 56 (hb hby at_40) (by decide) (by decide) ?_
      refine g_aload X146 hx 58 (hb hby at_56) rfl rfl rfl ?_
      refine g_iload_n X146 hx 59 (hb hby at_58) rfl rfl ?_
      refine own_callV X146 hx hZ hown (hw _ (List.mem_of_getElem? (i := 7) rfl)) (hw _ (List.mem_of_getElem? (i := 8) rfl)) (own_nf hZ (hw _ (List.mem_of_getElem? (i := 10) rfl))) (hw _ (List.mem_of_getElem? (i := 10) rfl)) (hw _ (List.mem_of_getElem? (i := 9) rfl)) (by decide) (rm_hi1 l Z a0 hw [] t4 (32 : Int32) h0 n0 Z0 F4) (hw _ (List.mem_of_getElem? (i := 11) rfl)) (hw _ (List.mem_of_getElem? (i := 5) rfl)) e146 0 (by decide) (by decide) (by decide) (by decide) E4 [(.int (1 : Int32))] [] rfl pd_1 rfl 62 rfl (by rw [hml]; rfl) rfl (hb hby at_59) rfl fun T147 v147 L147 X147 hQ147 => ?_
      obtain ⟨rfl, Nq147, e147⟩ := hQ147
      have N147 := Fr.app N146 Nq147
      show own_Go p e below s _ _ _ (T147.setTop (mkF m 62 _ [(.int (own_he (96 : Int32) (32 : Int32)))]))
      refine g_iload X147 hx 64 (hb hby at_62) rfl rfl ?_
      have c148 : (own_he (96 : Int32) (32 : Int32)) = (1 : Int32) := by decide
      refine g_icmpNo X147 hx 67 (hb hby at_64) (own_ii_ne_f c148) rfl ?_
      refine g_iconst X147 hx 68 (hb hby at_67) (1 : Int32) rfl rfl ?_
      refine g_goto X147 hx 72 (hb hby at_68) (by decide) (by decide) ?_
      refine own_retN X147 hx hlk (t := .boolean) hret (by simp) (hb hby at_72) ?_ (by decide) (by decide)
      rw [e147]
      exact ⟨rfl, N147⟩
    · show own_Go p e below s _ _ _ (s₁.setTop (mkF m 17 _ []))
      refine g_iload_n X0 hx 18 (hb hby at_17) rfl rfl ?_
      refine own_callS X0 hx hZ hown (hw _ (List.mem_of_getElem? (i := 0) rfl)) (hw _ (List.mem_of_getElem? (i := 1) rfl)) (by decide) (rm_tag5 l Z a0 hw [] t5 h0 n0 Z0 S5) (hw _ (List.mem_of_getElem? (i := 3) rfl)) (hw _ (List.mem_of_getElem? (i := 2) rfl)) e0 0 (by decide) (by decide) (by decide) (by decide) [(.int (5 : Int32))] [] rfl pd_0 rfl 21 rfl (by rw [hml]; rfl) rfl (hb hby at_18) rfl fun T149 v149 L149 X149 hQ149 => ?_
      obtain ⟨rfl, Nq149, e149⟩ := hQ149
      have N149 := Fr.app N0 Nq149
      show own_Go p e below s _ _ _ (T149.setTop (mkF m 21 _ [(.ref t5)]))
      refine g_astore X149 hx 23 (hb hby at_21) rfl (l' := #[.val (.int p0), .val (.int p1), .val (.int (1 : Int32)), .val (.int (5 : Int32)), .val (.ref t5), .unset]) rfl rfl ?_
      refine g_iload_n X149 hx 24 (hb hby at_23) rfl rfl ?_
      refine g_ifNo X149 hx 27 (hb hby at_24) (own_i0_eq_f (by decide)) rfl ?_
      refine g_iload_n X149 hx 28 (hb hby at_27) rfl rfl ?_
      refine g_bipush X149 hx 30 (hb hby at_28) (18 : Int32) rfl rfl ?_
      refine g_icmpNo X149 hx 33 (hb hby at_30) (own_ii_ge_f (by decide)) rfl ?_
      refine g_iconst X149 hx 34 (hb hby at_33) (1 : Int32) rfl rfl ?_
      refine g_goto X149 hx 38 (hb hby at_34) (by decide) (by decide) ?_
      refine g_istore X149 hx 40 (hb hby at_38) (l' := #[.val (.int p0), .val (.int p1), .val (.int (1 : Int32)), .val (.int (5 : Int32)), .val (.ref t5), .val (.int (1 : Int32))]) rfl rfl ?_
      refine g_goto X149 hx 56 (hb hby at_40) (by decide) (by decide) ?_
      refine g_aload X149 hx 58 (hb hby at_56) rfl rfl rfl ?_
      refine g_iload_n X149 hx 59 (hb hby at_58) rfl rfl ?_
      refine own_callV X149 hx hZ hown (hw _ (List.mem_of_getElem? (i := 7) rfl)) (hw _ (List.mem_of_getElem? (i := 8) rfl)) (own_nf hZ (hw _ (List.mem_of_getElem? (i := 10) rfl))) (hw _ (List.mem_of_getElem? (i := 10) rfl)) (hw _ (List.mem_of_getElem? (i := 9) rfl)) (by decide) (rm_hi1 l Z a0 hw [] t5 (33 : Int32) h0 n0 Z0 F5) (hw _ (List.mem_of_getElem? (i := 11) rfl)) (hw _ (List.mem_of_getElem? (i := 5) rfl)) e149 0 (by decide) (by decide) (by decide) (by decide) E5 [(.int (1 : Int32))] [] rfl pd_1 rfl 62 rfl (by rw [hml]; rfl) rfl (hb hby at_59) rfl fun T150 v150 L150 X150 hQ150 => ?_
      obtain ⟨rfl, Nq150, e150⟩ := hQ150
      have N150 := Fr.app N149 Nq150
      show own_Go p e below s _ _ _ (T150.setTop (mkF m 62 _ [(.int (own_he (96 : Int32) (33 : Int32)))]))
      refine g_iload X150 hx 64 (hb hby at_62) rfl rfl ?_
      have c151 : (own_he (96 : Int32) (33 : Int32)) = (1 : Int32) := by decide
      refine g_icmpNo X150 hx 67 (hb hby at_64) (own_ii_ne_f c151) rfl ?_
      refine g_iconst X150 hx 68 (hb hby at_67) (1 : Int32) rfl rfl ?_
      refine g_goto X150 hx 72 (hb hby at_68) (by decide) (by decide) ?_
      refine own_retN X150 hx hlk (t := .boolean) hret (by simp) (hb hby at_72) ?_ (by decide) (by decide)
      rw [e150]
      exact ⟨rfl, N150⟩
    · show own_Go p e below s _ _ _ (s₁.setTop (mkF m 17 _ []))
      refine g_iload_n X0 hx 18 (hb hby at_17) rfl rfl ?_
      refine own_callS X0 hx hZ hown (hw _ (List.mem_of_getElem? (i := 0) rfl)) (hw _ (List.mem_of_getElem? (i := 1) rfl)) (by decide) (rm_tag6 l Z a0 hw [] t6 h0 n0 Z0 S6) (hw _ (List.mem_of_getElem? (i := 3) rfl)) (hw _ (List.mem_of_getElem? (i := 2) rfl)) e0 0 (by decide) (by decide) (by decide) (by decide) [(.int (6 : Int32))] [] rfl pd_0 rfl 21 rfl (by rw [hml]; rfl) rfl (hb hby at_18) rfl fun T152 v152 L152 X152 hQ152 => ?_
      obtain ⟨rfl, Nq152, e152⟩ := hQ152
      have N152 := Fr.app N0 Nq152
      show own_Go p e below s _ _ _ (T152.setTop (mkF m 21 _ [(.ref t6)]))
      refine g_astore X152 hx 23 (hb hby at_21) rfl (l' := #[.val (.int p0), .val (.int p1), .val (.int (1 : Int32)), .val (.int (6 : Int32)), .val (.ref t6), .unset]) rfl rfl ?_
      refine g_iload_n X152 hx 24 (hb hby at_23) rfl rfl ?_
      refine g_ifNo X152 hx 27 (hb hby at_24) (own_i0_eq_f (by decide)) rfl ?_
      refine g_iload_n X152 hx 28 (hb hby at_27) rfl rfl ?_
      refine g_bipush X152 hx 30 (hb hby at_28) (18 : Int32) rfl rfl ?_
      refine g_icmpNo X152 hx 33 (hb hby at_30) (own_ii_ge_f (by decide)) rfl ?_
      refine g_iconst X152 hx 34 (hb hby at_33) (1 : Int32) rfl rfl ?_
      refine g_goto X152 hx 38 (hb hby at_34) (by decide) (by decide) ?_
      refine g_istore X152 hx 40 (hb hby at_38) (l' := #[.val (.int p0), .val (.int p1), .val (.int (1 : Int32)), .val (.int (6 : Int32)), .val (.ref t6), .val (.int (1 : Int32))]) rfl rfl ?_
      refine g_goto X152 hx 56 (hb hby at_40) (by decide) (by decide) ?_
      refine g_aload X152 hx 58 (hb hby at_56) rfl rfl rfl ?_
      refine g_iload_n X152 hx 59 (hb hby at_58) rfl rfl ?_
      refine own_callV X152 hx hZ hown (hw _ (List.mem_of_getElem? (i := 7) rfl)) (hw _ (List.mem_of_getElem? (i := 8) rfl)) (own_nf hZ (hw _ (List.mem_of_getElem? (i := 10) rfl))) (hw _ (List.mem_of_getElem? (i := 10) rfl)) (hw _ (List.mem_of_getElem? (i := 9) rfl)) (by decide) (rm_hi1 l Z a0 hw [] t6 (32 : Int32) h0 n0 Z0 F6) (hw _ (List.mem_of_getElem? (i := 11) rfl)) (hw _ (List.mem_of_getElem? (i := 5) rfl)) e152 0 (by decide) (by decide) (by decide) (by decide) E6 [(.int (1 : Int32))] [] rfl pd_1 rfl 62 rfl (by rw [hml]; rfl) rfl (hb hby at_59) rfl fun T153 v153 L153 X153 hQ153 => ?_
      obtain ⟨rfl, Nq153, e153⟩ := hQ153
      have N153 := Fr.app N152 Nq153
      show own_Go p e below s _ _ _ (T153.setTop (mkF m 62 _ [(.int (own_he (96 : Int32) (32 : Int32)))]))
      refine g_iload X153 hx 64 (hb hby at_62) rfl rfl ?_
      have c154 : (own_he (96 : Int32) (32 : Int32)) = (1 : Int32) := by decide
      refine g_icmpNo X153 hx 67 (hb hby at_64) (own_ii_ne_f c154) rfl ?_
      refine g_iconst X153 hx 68 (hb hby at_67) (1 : Int32) rfl rfl ?_
      refine g_goto X153 hx 72 (hb hby at_68) (by decide) (by decide) ?_
      refine own_retN X153 hx hlk (t := .boolean) hret (by simp) (hb hby at_72) ?_ (by decide) (by decide)
      rw [e153]
      exact ⟨rfl, N153⟩
    · show own_Go p e below s _ _ _ (s₁.setTop (mkF m 17 _ []))
      refine g_iload_n X0 hx 18 (hb hby at_17) rfl rfl ?_
      refine own_callS X0 hx hZ hown (hw _ (List.mem_of_getElem? (i := 0) rfl)) (hw _ (List.mem_of_getElem? (i := 1) rfl)) (by decide) (rm_tag7 l Z a0 hw [] t7 h0 n0 Z0 S7) (hw _ (List.mem_of_getElem? (i := 3) rfl)) (hw _ (List.mem_of_getElem? (i := 2) rfl)) e0 0 (by decide) (by decide) (by decide) (by decide) [(.int (7 : Int32))] [] rfl pd_0 rfl 21 rfl (by rw [hml]; rfl) rfl (hb hby at_18) rfl fun T155 v155 L155 X155 hQ155 => ?_
      obtain ⟨rfl, Nq155, e155⟩ := hQ155
      have N155 := Fr.app N0 Nq155
      show own_Go p e below s _ _ _ (T155.setTop (mkF m 21 _ [(.ref t7)]))
      refine g_astore X155 hx 23 (hb hby at_21) rfl (l' := #[.val (.int p0), .val (.int p1), .val (.int (1 : Int32)), .val (.int (7 : Int32)), .val (.ref t7), .unset]) rfl rfl ?_
      refine g_iload_n X155 hx 24 (hb hby at_23) rfl rfl ?_
      refine g_ifNo X155 hx 27 (hb hby at_24) (own_i0_eq_f (by decide)) rfl ?_
      refine g_iload_n X155 hx 28 (hb hby at_27) rfl rfl ?_
      refine g_bipush X155 hx 30 (hb hby at_28) (18 : Int32) rfl rfl ?_
      refine g_icmpNo X155 hx 33 (hb hby at_30) (own_ii_ge_f (by decide)) rfl ?_
      refine g_iconst X155 hx 34 (hb hby at_33) (1 : Int32) rfl rfl ?_
      refine g_goto X155 hx 38 (hb hby at_34) (by decide) (by decide) ?_
      refine g_istore X155 hx 40 (hb hby at_38) (l' := #[.val (.int p0), .val (.int p1), .val (.int (1 : Int32)), .val (.int (7 : Int32)), .val (.ref t7), .val (.int (1 : Int32))]) rfl rfl ?_
      refine g_goto X155 hx 56 (hb hby at_40) (by decide) (by decide) ?_
      refine g_aload X155 hx 58 (hb hby at_56) rfl rfl rfl ?_
      refine g_iload_n X155 hx 59 (hb hby at_58) rfl rfl ?_
      refine own_callV X155 hx hZ hown (hw _ (List.mem_of_getElem? (i := 7) rfl)) (hw _ (List.mem_of_getElem? (i := 8) rfl)) (own_nf hZ (hw _ (List.mem_of_getElem? (i := 10) rfl))) (hw _ (List.mem_of_getElem? (i := 10) rfl)) (hw _ (List.mem_of_getElem? (i := 9) rfl)) (by decide) (rm_hi1 l Z a0 hw [] t7 (32 : Int32) h0 n0 Z0 F7) (hw _ (List.mem_of_getElem? (i := 11) rfl)) (hw _ (List.mem_of_getElem? (i := 5) rfl)) e155 0 (by decide) (by decide) (by decide) (by decide) E7 [(.int (1 : Int32))] [] rfl pd_1 rfl 62 rfl (by rw [hml]; rfl) rfl (hb hby at_59) rfl fun T156 v156 L156 X156 hQ156 => ?_
      obtain ⟨rfl, Nq156, e156⟩ := hQ156
      have N156 := Fr.app N155 Nq156
      show own_Go p e below s _ _ _ (T156.setTop (mkF m 62 _ [(.int (own_he (96 : Int32) (32 : Int32)))]))
      refine g_iload X156 hx 64 (hb hby at_62) rfl rfl ?_
      have c157 : (own_he (96 : Int32) (32 : Int32)) = (1 : Int32) := by decide
      refine g_icmpNo X156 hx 67 (hb hby at_64) (own_ii_ne_f c157) rfl ?_
      refine g_iconst X156 hx 68 (hb hby at_67) (1 : Int32) rfl rfl ?_
      refine g_goto X156 hx 72 (hb hby at_68) (by decide) (by decide) ?_
      refine own_retN X156 hx hlk (t := .boolean) hret (by simp) (hb hby at_72) ?_ (by decide) (by decide)
      rw [e156]
      exact ⟨rfl, N156⟩
    · show own_Go p e below s _ _ _ (s₁.setTop (mkF m 17 _ []))
      refine g_iload_n X0 hx 18 (hb hby at_17) rfl rfl ?_
      refine own_callS X0 hx hZ hown (hw _ (List.mem_of_getElem? (i := 0) rfl)) (hw _ (List.mem_of_getElem? (i := 1) rfl)) (by decide) (rm_tag8 l Z a0 hw [] t8 h0 n0 Z0 S8) (hw _ (List.mem_of_getElem? (i := 3) rfl)) (hw _ (List.mem_of_getElem? (i := 2) rfl)) e0 0 (by decide) (by decide) (by decide) (by decide) [(.int (8 : Int32))] [] rfl pd_0 rfl 21 rfl (by rw [hml]; rfl) rfl (hb hby at_18) rfl fun T158 v158 L158 X158 hQ158 => ?_
      obtain ⟨rfl, Nq158, e158⟩ := hQ158
      have N158 := Fr.app N0 Nq158
      show own_Go p e below s _ _ _ (T158.setTop (mkF m 21 _ [(.ref t8)]))
      refine g_astore X158 hx 23 (hb hby at_21) rfl (l' := #[.val (.int p0), .val (.int p1), .val (.int (1 : Int32)), .val (.int (8 : Int32)), .val (.ref t8), .unset]) rfl rfl ?_
      refine g_iload_n X158 hx 24 (hb hby at_23) rfl rfl ?_
      refine g_ifNo X158 hx 27 (hb hby at_24) (own_i0_eq_f (by decide)) rfl ?_
      refine g_iload_n X158 hx 28 (hb hby at_27) rfl rfl ?_
      refine g_bipush X158 hx 30 (hb hby at_28) (18 : Int32) rfl rfl ?_
      refine g_icmpNo X158 hx 33 (hb hby at_30) (own_ii_ge_f (by decide)) rfl ?_
      refine g_iconst X158 hx 34 (hb hby at_33) (1 : Int32) rfl rfl ?_
      refine g_goto X158 hx 38 (hb hby at_34) (by decide) (by decide) ?_
      refine g_istore X158 hx 40 (hb hby at_38) (l' := #[.val (.int p0), .val (.int p1), .val (.int (1 : Int32)), .val (.int (8 : Int32)), .val (.ref t8), .val (.int (1 : Int32))]) rfl rfl ?_
      refine g_goto X158 hx 56 (hb hby at_40) (by decide) (by decide) ?_
      refine g_aload X158 hx 58 (hb hby at_56) rfl rfl rfl ?_
      refine g_iload_n X158 hx 59 (hb hby at_58) rfl rfl ?_
      refine own_callV X158 hx hZ hown (hw _ (List.mem_of_getElem? (i := 7) rfl)) (hw _ (List.mem_of_getElem? (i := 8) rfl)) (own_nf hZ (hw _ (List.mem_of_getElem? (i := 10) rfl))) (hw _ (List.mem_of_getElem? (i := 10) rfl)) (hw _ (List.mem_of_getElem? (i := 9) rfl)) (by decide) (rm_hi1 l Z a0 hw [] t8 (32 : Int32) h0 n0 Z0 F8) (hw _ (List.mem_of_getElem? (i := 11) rfl)) (hw _ (List.mem_of_getElem? (i := 5) rfl)) e158 0 (by decide) (by decide) (by decide) (by decide) E8 [(.int (1 : Int32))] [] rfl pd_1 rfl 62 rfl (by rw [hml]; rfl) rfl (hb hby at_59) rfl fun T159 v159 L159 X159 hQ159 => ?_
      obtain ⟨rfl, Nq159, e159⟩ := hQ159
      have N159 := Fr.app N158 Nq159
      show own_Go p e below s _ _ _ (T159.setTop (mkF m 62 _ [(.int (own_he (96 : Int32) (32 : Int32)))]))
      refine g_iload X159 hx 64 (hb hby at_62) rfl rfl ?_
      have c160 : (own_he (96 : Int32) (32 : Int32)) = (1 : Int32) := by decide
      refine g_icmpNo X159 hx 67 (hb hby at_64) (own_ii_ne_f c160) rfl ?_
      refine g_iconst X159 hx 68 (hb hby at_67) (1 : Int32) rfl rfl ?_
      refine g_goto X159 hx 72 (hb hby at_68) (by decide) (by decide) ?_
      refine own_retN X159 hx hlk (t := .boolean) hret (by simp) (hb hby at_72) ?_ (by decide) (by decide)
      rw [e159]
      exact ⟨rfl, N159⟩
    · show own_Go p e below s _ _ _ (s₁.setTop (mkF m 17 _ []))
      refine g_iload_n X0 hx 18 (hb hby at_17) rfl rfl ?_
      refine own_callS X0 hx hZ hown (hw _ (List.mem_of_getElem? (i := 0) rfl)) (hw _ (List.mem_of_getElem? (i := 1) rfl)) (by decide) (rm_tag9 l Z a0 hw [] t9 h0 n0 Z0 S9) (hw _ (List.mem_of_getElem? (i := 3) rfl)) (hw _ (List.mem_of_getElem? (i := 2) rfl)) e0 0 (by decide) (by decide) (by decide) (by decide) [(.int (9 : Int32))] [] rfl pd_0 rfl 21 rfl (by rw [hml]; rfl) rfl (hb hby at_18) rfl fun T161 v161 L161 X161 hQ161 => ?_
      obtain ⟨rfl, Nq161, e161⟩ := hQ161
      have N161 := Fr.app N0 Nq161
      show own_Go p e below s _ _ _ (T161.setTop (mkF m 21 _ [(.ref t9)]))
      refine g_astore X161 hx 23 (hb hby at_21) rfl (l' := #[.val (.int p0), .val (.int p1), .val (.int (1 : Int32)), .val (.int (9 : Int32)), .val (.ref t9), .unset]) rfl rfl ?_
      refine g_iload_n X161 hx 24 (hb hby at_23) rfl rfl ?_
      refine g_ifNo X161 hx 27 (hb hby at_24) (own_i0_eq_f (by decide)) rfl ?_
      refine g_iload_n X161 hx 28 (hb hby at_27) rfl rfl ?_
      refine g_bipush X161 hx 30 (hb hby at_28) (18 : Int32) rfl rfl ?_
      refine g_icmpNo X161 hx 33 (hb hby at_30) (own_ii_ge_f (by decide)) rfl ?_
      refine g_iconst X161 hx 34 (hb hby at_33) (1 : Int32) rfl rfl ?_
      refine g_goto X161 hx 38 (hb hby at_34) (by decide) (by decide) ?_
      refine g_istore X161 hx 40 (hb hby at_38) (l' := #[.val (.int p0), .val (.int p1), .val (.int (1 : Int32)), .val (.int (9 : Int32)), .val (.ref t9), .val (.int (1 : Int32))]) rfl rfl ?_
      refine g_goto X161 hx 56 (hb hby at_40) (by decide) (by decide) ?_
      refine g_aload X161 hx 58 (hb hby at_56) rfl rfl rfl ?_
      refine g_iload_n X161 hx 59 (hb hby at_58) rfl rfl ?_
      refine own_callV X161 hx hZ hown (hw _ (List.mem_of_getElem? (i := 7) rfl)) (hw _ (List.mem_of_getElem? (i := 8) rfl)) (own_nf hZ (hw _ (List.mem_of_getElem? (i := 10) rfl))) (hw _ (List.mem_of_getElem? (i := 10) rfl)) (hw _ (List.mem_of_getElem? (i := 9) rfl)) (by decide) (rm_hi1 l Z a0 hw [] t9 (32 : Int32) h0 n0 Z0 F9) (hw _ (List.mem_of_getElem? (i := 11) rfl)) (hw _ (List.mem_of_getElem? (i := 5) rfl)) e161 0 (by decide) (by decide) (by decide) (by decide) E9 [(.int (1 : Int32))] [] rfl pd_1 rfl 62 rfl (by rw [hml]; rfl) rfl (hb hby at_59) rfl fun T162 v162 L162 X162 hQ162 => ?_
      obtain ⟨rfl, Nq162, e162⟩ := hQ162
      have N162 := Fr.app N161 Nq162
      show own_Go p e below s _ _ _ (T162.setTop (mkF m 62 _ [(.int (own_he (96 : Int32) (32 : Int32)))]))
      refine g_iload X162 hx 64 (hb hby at_62) rfl rfl ?_
      have c163 : (own_he (96 : Int32) (32 : Int32)) = (1 : Int32) := by decide
      refine g_icmpNo X162 hx 67 (hb hby at_64) (own_ii_ne_f c163) rfl ?_
      refine g_iconst X162 hx 68 (hb hby at_67) (1 : Int32) rfl rfl ?_
      refine g_goto X162 hx 72 (hb hby at_68) (by decide) (by decide) ?_
      refine own_retN X162 hx hlk (t := .boolean) hret (by simp) (hb hby at_72) ?_ (by decide) (by decide)
      rw [e162]
      exact ⟨rfl, N162⟩
    · show own_Go p e below s _ _ _ (s₁.setTop (mkF m 17 _ []))
      refine g_iload_n X0 hx 18 (hb hby at_17) rfl rfl ?_
      refine own_callS X0 hx hZ hown (hw _ (List.mem_of_getElem? (i := 0) rfl)) (hw _ (List.mem_of_getElem? (i := 1) rfl)) (by decide) (rm_tag10 l Z a0 hw [] t10 h0 n0 Z0 S10) (hw _ (List.mem_of_getElem? (i := 3) rfl)) (hw _ (List.mem_of_getElem? (i := 2) rfl)) e0 0 (by decide) (by decide) (by decide) (by decide) [(.int (10 : Int32))] [] rfl pd_0 rfl 21 rfl (by rw [hml]; rfl) rfl (hb hby at_18) rfl fun T164 v164 L164 X164 hQ164 => ?_
      obtain ⟨rfl, Nq164, e164⟩ := hQ164
      have N164 := Fr.app N0 Nq164
      show own_Go p e below s _ _ _ (T164.setTop (mkF m 21 _ [(.ref t10)]))
      refine g_astore X164 hx 23 (hb hby at_21) rfl (l' := #[.val (.int p0), .val (.int p1), .val (.int (1 : Int32)), .val (.int (10 : Int32)), .val (.ref t10), .unset]) rfl rfl ?_
      refine g_iload_n X164 hx 24 (hb hby at_23) rfl rfl ?_
      refine g_ifNo X164 hx 27 (hb hby at_24) (own_i0_eq_f (by decide)) rfl ?_
      refine g_iload_n X164 hx 28 (hb hby at_27) rfl rfl ?_
      refine g_bipush X164 hx 30 (hb hby at_28) (18 : Int32) rfl rfl ?_
      refine g_icmpNo X164 hx 33 (hb hby at_30) (own_ii_ge_f (by decide)) rfl ?_
      refine g_iconst X164 hx 34 (hb hby at_33) (1 : Int32) rfl rfl ?_
      refine g_goto X164 hx 38 (hb hby at_34) (by decide) (by decide) ?_
      refine g_istore X164 hx 40 (hb hby at_38) (l' := #[.val (.int p0), .val (.int p1), .val (.int (1 : Int32)), .val (.int (10 : Int32)), .val (.ref t10), .val (.int (1 : Int32))]) rfl rfl ?_
      refine g_goto X164 hx 56 (hb hby at_40) (by decide) (by decide) ?_
      refine g_aload X164 hx 58 (hb hby at_56) rfl rfl rfl ?_
      refine g_iload_n X164 hx 59 (hb hby at_58) rfl rfl ?_
      refine own_callV X164 hx hZ hown (hw _ (List.mem_of_getElem? (i := 7) rfl)) (hw _ (List.mem_of_getElem? (i := 8) rfl)) (own_nf hZ (hw _ (List.mem_of_getElem? (i := 10) rfl))) (hw _ (List.mem_of_getElem? (i := 10) rfl)) (hw _ (List.mem_of_getElem? (i := 9) rfl)) (by decide) (rm_hi1 l Z a0 hw [] t10 (81 : Int32) h0 n0 Z0 F10) (hw _ (List.mem_of_getElem? (i := 11) rfl)) (hw _ (List.mem_of_getElem? (i := 5) rfl)) e164 0 (by decide) (by decide) (by decide) (by decide) E10 [(.int (1 : Int32))] [] rfl pd_1 rfl 62 rfl (by rw [hml]; rfl) rfl (hb hby at_59) rfl fun T165 v165 L165 X165 hQ165 => ?_
      obtain ⟨rfl, Nq165, e165⟩ := hQ165
      have N165 := Fr.app N164 Nq165
      show own_Go p e below s _ _ _ (T165.setTop (mkF m 62 _ [(.int (own_he (96 : Int32) (81 : Int32)))]))
      refine g_iload X165 hx 64 (hb hby at_62) rfl rfl ?_
      have c166 : (own_he (96 : Int32) (81 : Int32)) = (1 : Int32) := by decide
      refine g_icmpNo X165 hx 67 (hb hby at_64) (own_ii_ne_f c166) rfl ?_
      refine g_iconst X165 hx 68 (hb hby at_67) (1 : Int32) rfl rfl ?_
      refine g_goto X165 hx 72 (hb hby at_68) (by decide) (by decide) ?_
      refine own_retN X165 hx hlk (t := .boolean) hret (by simp) (hb hby at_72) ?_ (by decide) (by decide)
      rw [e165]
      exact ⟨rfl, N165⟩
    · show own_Go p e below s _ _ _ (s₁.setTop (mkF m 17 _ []))
      refine g_iload_n X0 hx 18 (hb hby at_17) rfl rfl ?_
      refine own_callS X0 hx hZ hown (hw _ (List.mem_of_getElem? (i := 0) rfl)) (hw _ (List.mem_of_getElem? (i := 1) rfl)) (by decide) (rm_tag11 l Z a0 hw [] t11 h0 n0 Z0 S11) (hw _ (List.mem_of_getElem? (i := 3) rfl)) (hw _ (List.mem_of_getElem? (i := 2) rfl)) e0 0 (by decide) (by decide) (by decide) (by decide) [(.int (11 : Int32))] [] rfl pd_0 rfl 21 rfl (by rw [hml]; rfl) rfl (hb hby at_18) rfl fun T167 v167 L167 X167 hQ167 => ?_
      obtain ⟨rfl, Nq167, e167⟩ := hQ167
      have N167 := Fr.app N0 Nq167
      show own_Go p e below s _ _ _ (T167.setTop (mkF m 21 _ [(.ref t11)]))
      refine g_astore X167 hx 23 (hb hby at_21) rfl (l' := #[.val (.int p0), .val (.int p1), .val (.int (1 : Int32)), .val (.int (11 : Int32)), .val (.ref t11), .unset]) rfl rfl ?_
      refine g_iload_n X167 hx 24 (hb hby at_23) rfl rfl ?_
      refine g_ifNo X167 hx 27 (hb hby at_24) (own_i0_eq_f (by decide)) rfl ?_
      refine g_iload_n X167 hx 28 (hb hby at_27) rfl rfl ?_
      refine g_bipush X167 hx 30 (hb hby at_28) (18 : Int32) rfl rfl ?_
      refine g_icmpNo X167 hx 33 (hb hby at_30) (own_ii_ge_f (by decide)) rfl ?_
      refine g_iconst X167 hx 34 (hb hby at_33) (1 : Int32) rfl rfl ?_
      refine g_goto X167 hx 38 (hb hby at_34) (by decide) (by decide) ?_
      refine g_istore X167 hx 40 (hb hby at_38) (l' := #[.val (.int p0), .val (.int p1), .val (.int (1 : Int32)), .val (.int (11 : Int32)), .val (.ref t11), .val (.int (1 : Int32))]) rfl rfl ?_
      refine g_goto X167 hx 56 (hb hby at_40) (by decide) (by decide) ?_
      refine g_aload X167 hx 58 (hb hby at_56) rfl rfl rfl ?_
      refine g_iload_n X167 hx 59 (hb hby at_58) rfl rfl ?_
      refine own_callV X167 hx hZ hown (hw _ (List.mem_of_getElem? (i := 7) rfl)) (hw _ (List.mem_of_getElem? (i := 8) rfl)) (own_nf hZ (hw _ (List.mem_of_getElem? (i := 10) rfl))) (hw _ (List.mem_of_getElem? (i := 10) rfl)) (hw _ (List.mem_of_getElem? (i := 9) rfl)) (by decide) (rm_hi1 l Z a0 hw [] t11 (65 : Int32) h0 n0 Z0 F11) (hw _ (List.mem_of_getElem? (i := 11) rfl)) (hw _ (List.mem_of_getElem? (i := 5) rfl)) e167 0 (by decide) (by decide) (by decide) (by decide) E11 [(.int (1 : Int32))] [] rfl pd_1 rfl 62 rfl (by rw [hml]; rfl) rfl (hb hby at_59) rfl fun T168 v168 L168 X168 hQ168 => ?_
      obtain ⟨rfl, Nq168, e168⟩ := hQ168
      have N168 := Fr.app N167 Nq168
      show own_Go p e below s _ _ _ (T168.setTop (mkF m 62 _ [(.int (own_he (96 : Int32) (65 : Int32)))]))
      refine g_iload X168 hx 64 (hb hby at_62) rfl rfl ?_
      have c169 : (own_he (96 : Int32) (65 : Int32)) = (1 : Int32) := by decide
      refine g_icmpNo X168 hx 67 (hb hby at_64) (own_ii_ne_f c169) rfl ?_
      refine g_iconst X168 hx 68 (hb hby at_67) (1 : Int32) rfl rfl ?_
      refine g_goto X168 hx 72 (hb hby at_68) (by decide) (by decide) ?_
      refine own_retN X168 hx hlk (t := .boolean) hret (by simp) (hb hby at_72) ?_ (by decide) (by decide)
      rw [e168]
      exact ⟨rfl, N168⟩
    · show own_Go p e below s _ _ _ (s₁.setTop (mkF m 17 _ []))
      refine g_iload_n X0 hx 18 (hb hby at_17) rfl rfl ?_
      refine own_callS X0 hx hZ hown (hw _ (List.mem_of_getElem? (i := 0) rfl)) (hw _ (List.mem_of_getElem? (i := 1) rfl)) (by decide) (rm_tag12 l Z a0 hw [] t12 h0 n0 Z0 S12) (hw _ (List.mem_of_getElem? (i := 3) rfl)) (hw _ (List.mem_of_getElem? (i := 2) rfl)) e0 0 (by decide) (by decide) (by decide) (by decide) [(.int (12 : Int32))] [] rfl pd_0 rfl 21 rfl (by rw [hml]; rfl) rfl (hb hby at_18) rfl fun T170 v170 L170 X170 hQ170 => ?_
      obtain ⟨rfl, Nq170, e170⟩ := hQ170
      have N170 := Fr.app N0 Nq170
      show own_Go p e below s _ _ _ (T170.setTop (mkF m 21 _ [(.ref t12)]))
      refine g_astore X170 hx 23 (hb hby at_21) rfl (l' := #[.val (.int p0), .val (.int p1), .val (.int (1 : Int32)), .val (.int (12 : Int32)), .val (.ref t12), .unset]) rfl rfl ?_
      refine g_iload_n X170 hx 24 (hb hby at_23) rfl rfl ?_
      refine g_ifNo X170 hx 27 (hb hby at_24) (own_i0_eq_f (by decide)) rfl ?_
      refine g_iload_n X170 hx 28 (hb hby at_27) rfl rfl ?_
      refine g_bipush X170 hx 30 (hb hby at_28) (18 : Int32) rfl rfl ?_
      refine g_icmpNo X170 hx 33 (hb hby at_30) (own_ii_ge_f (by decide)) rfl ?_
      refine g_iconst X170 hx 34 (hb hby at_33) (1 : Int32) rfl rfl ?_
      refine g_goto X170 hx 38 (hb hby at_34) (by decide) (by decide) ?_
      refine g_istore X170 hx 40 (hb hby at_38) (l' := #[.val (.int p0), .val (.int p1), .val (.int (1 : Int32)), .val (.int (12 : Int32)), .val (.ref t12), .val (.int (1 : Int32))]) rfl rfl ?_
      refine g_goto X170 hx 56 (hb hby at_40) (by decide) (by decide) ?_
      refine g_aload X170 hx 58 (hb hby at_56) rfl rfl rfl ?_
      refine g_iload_n X170 hx 59 (hb hby at_58) rfl rfl ?_
      refine own_callV X170 hx hZ hown (hw _ (List.mem_of_getElem? (i := 7) rfl)) (hw _ (List.mem_of_getElem? (i := 8) rfl)) (own_nf hZ (hw _ (List.mem_of_getElem? (i := 10) rfl))) (hw _ (List.mem_of_getElem? (i := 10) rfl)) (hw _ (List.mem_of_getElem? (i := 9) rfl)) (by decide) (rm_hi1 l Z a0 hw [] t12 (65 : Int32) h0 n0 Z0 F12) (hw _ (List.mem_of_getElem? (i := 11) rfl)) (hw _ (List.mem_of_getElem? (i := 5) rfl)) e170 0 (by decide) (by decide) (by decide) (by decide) E12 [(.int (1 : Int32))] [] rfl pd_1 rfl 62 rfl (by rw [hml]; rfl) rfl (hb hby at_59) rfl fun T171 v171 L171 X171 hQ171 => ?_
      obtain ⟨rfl, Nq171, e171⟩ := hQ171
      have N171 := Fr.app N170 Nq171
      show own_Go p e below s _ _ _ (T171.setTop (mkF m 62 _ [(.int (own_he (96 : Int32) (65 : Int32)))]))
      refine g_iload X171 hx 64 (hb hby at_62) rfl rfl ?_
      have c172 : (own_he (96 : Int32) (65 : Int32)) = (1 : Int32) := by decide
      refine g_icmpNo X171 hx 67 (hb hby at_64) (own_ii_ne_f c172) rfl ?_
      refine g_iconst X171 hx 68 (hb hby at_67) (1 : Int32) rfl rfl ?_
      refine g_goto X171 hx 72 (hb hby at_68) (by decide) (by decide) ?_
      refine own_retN X171 hx hlk (t := .boolean) hret (by simp) (hb hby at_72) ?_ (by decide) (by decide)
      rw [e171]
      exact ⟨rfl, N171⟩
    · show own_Go p e below s _ _ _ (s₁.setTop (mkF m 17 _ []))
      refine g_iload_n X0 hx 18 (hb hby at_17) rfl rfl ?_
      refine own_callS X0 hx hZ hown (hw _ (List.mem_of_getElem? (i := 0) rfl)) (hw _ (List.mem_of_getElem? (i := 1) rfl)) (by decide) (rm_tag13 l Z a0 hw [] t13 h0 n0 Z0 S13) (hw _ (List.mem_of_getElem? (i := 3) rfl)) (hw _ (List.mem_of_getElem? (i := 2) rfl)) e0 0 (by decide) (by decide) (by decide) (by decide) [(.int (13 : Int32))] [] rfl pd_0 rfl 21 rfl (by rw [hml]; rfl) rfl (hb hby at_18) rfl fun T173 v173 L173 X173 hQ173 => ?_
      obtain ⟨rfl, Nq173, e173⟩ := hQ173
      have N173 := Fr.app N0 Nq173
      show own_Go p e below s _ _ _ (T173.setTop (mkF m 21 _ [(.ref t13)]))
      refine g_astore X173 hx 23 (hb hby at_21) rfl (l' := #[.val (.int p0), .val (.int p1), .val (.int (1 : Int32)), .val (.int (13 : Int32)), .val (.ref t13), .unset]) rfl rfl ?_
      refine g_iload_n X173 hx 24 (hb hby at_23) rfl rfl ?_
      refine g_ifNo X173 hx 27 (hb hby at_24) (own_i0_eq_f (by decide)) rfl ?_
      refine g_iload_n X173 hx 28 (hb hby at_27) rfl rfl ?_
      refine g_bipush X173 hx 30 (hb hby at_28) (18 : Int32) rfl rfl ?_
      refine g_icmpNo X173 hx 33 (hb hby at_30) (own_ii_ge_f (by decide)) rfl ?_
      refine g_iconst X173 hx 34 (hb hby at_33) (1 : Int32) rfl rfl ?_
      refine g_goto X173 hx 38 (hb hby at_34) (by decide) (by decide) ?_
      refine g_istore X173 hx 40 (hb hby at_38) (l' := #[.val (.int p0), .val (.int p1), .val (.int (1 : Int32)), .val (.int (13 : Int32)), .val (.ref t13), .val (.int (1 : Int32))]) rfl rfl ?_
      refine g_goto X173 hx 56 (hb hby at_40) (by decide) (by decide) ?_
      refine g_aload X173 hx 58 (hb hby at_56) rfl rfl rfl ?_
      refine g_iload_n X173 hx 59 (hb hby at_58) rfl rfl ?_
      refine own_callV X173 hx hZ hown (hw _ (List.mem_of_getElem? (i := 7) rfl)) (hw _ (List.mem_of_getElem? (i := 8) rfl)) (own_nf hZ (hw _ (List.mem_of_getElem? (i := 10) rfl))) (hw _ (List.mem_of_getElem? (i := 10) rfl)) (hw _ (List.mem_of_getElem? (i := 9) rfl)) (by decide) (rm_hi1 l Z a0 hw [] t13 (81 : Int32) h0 n0 Z0 F13) (hw _ (List.mem_of_getElem? (i := 11) rfl)) (hw _ (List.mem_of_getElem? (i := 5) rfl)) e173 0 (by decide) (by decide) (by decide) (by decide) E13 [(.int (1 : Int32))] [] rfl pd_1 rfl 62 rfl (by rw [hml]; rfl) rfl (hb hby at_59) rfl fun T174 v174 L174 X174 hQ174 => ?_
      obtain ⟨rfl, Nq174, e174⟩ := hQ174
      have N174 := Fr.app N173 Nq174
      show own_Go p e below s _ _ _ (T174.setTop (mkF m 62 _ [(.int (own_he (96 : Int32) (81 : Int32)))]))
      refine g_iload X174 hx 64 (hb hby at_62) rfl rfl ?_
      have c175 : (own_he (96 : Int32) (81 : Int32)) = (1 : Int32) := by decide
      refine g_icmpNo X174 hx 67 (hb hby at_64) (own_ii_ne_f c175) rfl ?_
      refine g_iconst X174 hx 68 (hb hby at_67) (1 : Int32) rfl rfl ?_
      refine g_goto X174 hx 72 (hb hby at_68) (by decide) (by decide) ?_
      refine own_retN X174 hx hlk (t := .boolean) hret (by simp) (hb hby at_72) ?_ (by decide) (by decide)
      rw [e174]
      exact ⟨rfl, N174⟩
    · show own_Go p e below s _ _ _ (s₁.setTop (mkF m 17 _ []))
      refine g_iload_n X0 hx 18 (hb hby at_17) rfl rfl ?_
      refine own_callS X0 hx hZ hown (hw _ (List.mem_of_getElem? (i := 0) rfl)) (hw _ (List.mem_of_getElem? (i := 1) rfl)) (by decide) (rm_tag14 l Z a0 hw [] t14 h0 n0 Z0 S14) (hw _ (List.mem_of_getElem? (i := 3) rfl)) (hw _ (List.mem_of_getElem? (i := 2) rfl)) e0 0 (by decide) (by decide) (by decide) (by decide) [(.int (14 : Int32))] [] rfl pd_0 rfl 21 rfl (by rw [hml]; rfl) rfl (hb hby at_18) rfl fun T176 v176 L176 X176 hQ176 => ?_
      obtain ⟨rfl, Nq176, e176⟩ := hQ176
      have N176 := Fr.app N0 Nq176
      show own_Go p e below s _ _ _ (T176.setTop (mkF m 21 _ [(.ref t14)]))
      refine g_astore X176 hx 23 (hb hby at_21) rfl (l' := #[.val (.int p0), .val (.int p1), .val (.int (1 : Int32)), .val (.int (14 : Int32)), .val (.ref t14), .unset]) rfl rfl ?_
      refine g_iload_n X176 hx 24 (hb hby at_23) rfl rfl ?_
      refine g_ifNo X176 hx 27 (hb hby at_24) (own_i0_eq_f (by decide)) rfl ?_
      refine g_iload_n X176 hx 28 (hb hby at_27) rfl rfl ?_
      refine g_bipush X176 hx 30 (hb hby at_28) (18 : Int32) rfl rfl ?_
      refine g_icmpNo X176 hx 33 (hb hby at_30) (own_ii_ge_f (by decide)) rfl ?_
      refine g_iconst X176 hx 34 (hb hby at_33) (1 : Int32) rfl rfl ?_
      refine g_goto X176 hx 38 (hb hby at_34) (by decide) (by decide) ?_
      refine g_istore X176 hx 40 (hb hby at_38) (l' := #[.val (.int p0), .val (.int p1), .val (.int (1 : Int32)), .val (.int (14 : Int32)), .val (.ref t14), .val (.int (1 : Int32))]) rfl rfl ?_
      refine g_goto X176 hx 56 (hb hby at_40) (by decide) (by decide) ?_
      refine g_aload X176 hx 58 (hb hby at_56) rfl rfl rfl ?_
      refine g_iload_n X176 hx 59 (hb hby at_58) rfl rfl ?_
      refine own_callV X176 hx hZ hown (hw _ (List.mem_of_getElem? (i := 7) rfl)) (hw _ (List.mem_of_getElem? (i := 8) rfl)) (own_nf hZ (hw _ (List.mem_of_getElem? (i := 10) rfl))) (hw _ (List.mem_of_getElem? (i := 10) rfl)) (hw _ (List.mem_of_getElem? (i := 9) rfl)) (by decide) (rm_hi1 l Z a0 hw [] t14 (65 : Int32) h0 n0 Z0 F14) (hw _ (List.mem_of_getElem? (i := 11) rfl)) (hw _ (List.mem_of_getElem? (i := 5) rfl)) e176 0 (by decide) (by decide) (by decide) (by decide) E14 [(.int (1 : Int32))] [] rfl pd_1 rfl 62 rfl (by rw [hml]; rfl) rfl (hb hby at_59) rfl fun T177 v177 L177 X177 hQ177 => ?_
      obtain ⟨rfl, Nq177, e177⟩ := hQ177
      have N177 := Fr.app N176 Nq177
      show own_Go p e below s _ _ _ (T177.setTop (mkF m 62 _ [(.int (own_he (96 : Int32) (65 : Int32)))]))
      refine g_iload X177 hx 64 (hb hby at_62) rfl rfl ?_
      have c178 : (own_he (96 : Int32) (65 : Int32)) = (1 : Int32) := by decide
      refine g_icmpNo X177 hx 67 (hb hby at_64) (own_ii_ne_f c178) rfl ?_
      refine g_iconst X177 hx 68 (hb hby at_67) (1 : Int32) rfl rfl ?_
      refine g_goto X177 hx 72 (hb hby at_68) (by decide) (by decide) ?_
      refine own_retN X177 hx hlk (t := .boolean) hret (by simp) (hb hby at_72) ?_ (by decide) (by decide)
      rw [e177]
      exact ⟨rfl, N177⟩
    · show own_Go p e below s _ _ _ (s₁.setTop (mkF m 17 _ []))
      refine g_iload_n X0 hx 18 (hb hby at_17) rfl rfl ?_
      refine own_callS X0 hx hZ hown (hw _ (List.mem_of_getElem? (i := 0) rfl)) (hw _ (List.mem_of_getElem? (i := 1) rfl)) (by decide) (rm_tag15 l Z a0 hw [] t15 h0 n0 Z0 S15) (hw _ (List.mem_of_getElem? (i := 3) rfl)) (hw _ (List.mem_of_getElem? (i := 2) rfl)) e0 0 (by decide) (by decide) (by decide) (by decide) [(.int (15 : Int32))] [] rfl pd_0 rfl 21 rfl (by rw [hml]; rfl) rfl (hb hby at_18) rfl fun T179 v179 L179 X179 hQ179 => ?_
      obtain ⟨rfl, Nq179, e179⟩ := hQ179
      have N179 := Fr.app N0 Nq179
      show own_Go p e below s _ _ _ (T179.setTop (mkF m 21 _ [(.ref t15)]))
      refine g_astore X179 hx 23 (hb hby at_21) rfl (l' := #[.val (.int p0), .val (.int p1), .val (.int (1 : Int32)), .val (.int (15 : Int32)), .val (.ref t15), .unset]) rfl rfl ?_
      refine g_iload_n X179 hx 24 (hb hby at_23) rfl rfl ?_
      refine g_ifNo X179 hx 27 (hb hby at_24) (own_i0_eq_f (by decide)) rfl ?_
      refine g_iload_n X179 hx 28 (hb hby at_27) rfl rfl ?_
      refine g_bipush X179 hx 30 (hb hby at_28) (18 : Int32) rfl rfl ?_
      refine g_icmpNo X179 hx 33 (hb hby at_30) (own_ii_ge_f (by decide)) rfl ?_
      refine g_iconst X179 hx 34 (hb hby at_33) (1 : Int32) rfl rfl ?_
      refine g_goto X179 hx 38 (hb hby at_34) (by decide) (by decide) ?_
      refine g_istore X179 hx 40 (hb hby at_38) (l' := #[.val (.int p0), .val (.int p1), .val (.int (1 : Int32)), .val (.int (15 : Int32)), .val (.ref t15), .val (.int (1 : Int32))]) rfl rfl ?_
      refine g_goto X179 hx 56 (hb hby at_40) (by decide) (by decide) ?_
      refine g_aload X179 hx 58 (hb hby at_56) rfl rfl rfl ?_
      refine g_iload_n X179 hx 59 (hb hby at_58) rfl rfl ?_
      refine own_callV X179 hx hZ hown (hw _ (List.mem_of_getElem? (i := 7) rfl)) (hw _ (List.mem_of_getElem? (i := 8) rfl)) (own_nf hZ (hw _ (List.mem_of_getElem? (i := 10) rfl))) (hw _ (List.mem_of_getElem? (i := 10) rfl)) (hw _ (List.mem_of_getElem? (i := 9) rfl)) (by decide) (rm_hi1 l Z a0 hw [] t15 (81 : Int32) h0 n0 Z0 F15) (hw _ (List.mem_of_getElem? (i := 11) rfl)) (hw _ (List.mem_of_getElem? (i := 5) rfl)) e179 0 (by decide) (by decide) (by decide) (by decide) E15 [(.int (1 : Int32))] [] rfl pd_1 rfl 62 rfl (by rw [hml]; rfl) rfl (hb hby at_59) rfl fun T180 v180 L180 X180 hQ180 => ?_
      obtain ⟨rfl, Nq180, e180⟩ := hQ180
      have N180 := Fr.app N179 Nq180
      show own_Go p e below s _ _ _ (T180.setTop (mkF m 62 _ [(.int (own_he (96 : Int32) (81 : Int32)))]))
      refine g_iload X180 hx 64 (hb hby at_62) rfl rfl ?_
      have c181 : (own_he (96 : Int32) (81 : Int32)) = (1 : Int32) := by decide
      refine g_icmpNo X180 hx 67 (hb hby at_64) (own_ii_ne_f c181) rfl ?_
      refine g_iconst X180 hx 68 (hb hby at_67) (1 : Int32) rfl rfl ?_
      refine g_goto X180 hx 72 (hb hby at_68) (by decide) (by decide) ?_
      refine own_retN X180 hx hlk (t := .boolean) hret (by simp) (hb hby at_72) ?_ (by decide) (by decide)
      rw [e180]
      exact ⟨rfl, N180⟩
    · show own_Go p e below s _ _ _ (s₁.setTop (mkF m 17 _ []))
      refine g_iload_n X0 hx 18 (hb hby at_17) rfl rfl ?_
      refine own_callS X0 hx hZ hown (hw _ (List.mem_of_getElem? (i := 0) rfl)) (hw _ (List.mem_of_getElem? (i := 1) rfl)) (by decide) (rm_tag16 l Z a0 hw [] t16 h0 n0 Z0 S16) (hw _ (List.mem_of_getElem? (i := 3) rfl)) (hw _ (List.mem_of_getElem? (i := 2) rfl)) e0 0 (by decide) (by decide) (by decide) (by decide) [(.int (16 : Int32))] [] rfl pd_0 rfl 21 rfl (by rw [hml]; rfl) rfl (hb hby at_18) rfl fun T182 v182 L182 X182 hQ182 => ?_
      obtain ⟨rfl, Nq182, e182⟩ := hQ182
      have N182 := Fr.app N0 Nq182
      show own_Go p e below s _ _ _ (T182.setTop (mkF m 21 _ [(.ref t16)]))
      refine g_astore X182 hx 23 (hb hby at_21) rfl (l' := #[.val (.int p0), .val (.int p1), .val (.int (1 : Int32)), .val (.int (16 : Int32)), .val (.ref t16), .unset]) rfl rfl ?_
      refine g_iload_n X182 hx 24 (hb hby at_23) rfl rfl ?_
      refine g_ifNo X182 hx 27 (hb hby at_24) (own_i0_eq_f (by decide)) rfl ?_
      refine g_iload_n X182 hx 28 (hb hby at_27) rfl rfl ?_
      refine g_bipush X182 hx 30 (hb hby at_28) (18 : Int32) rfl rfl ?_
      refine g_icmpNo X182 hx 33 (hb hby at_30) (own_ii_ge_f (by decide)) rfl ?_
      refine g_iconst X182 hx 34 (hb hby at_33) (1 : Int32) rfl rfl ?_
      refine g_goto X182 hx 38 (hb hby at_34) (by decide) (by decide) ?_
      refine g_istore X182 hx 40 (hb hby at_38) (l' := #[.val (.int p0), .val (.int p1), .val (.int (1 : Int32)), .val (.int (16 : Int32)), .val (.ref t16), .val (.int (1 : Int32))]) rfl rfl ?_
      refine g_goto X182 hx 56 (hb hby at_40) (by decide) (by decide) ?_
      refine g_aload X182 hx 58 (hb hby at_56) rfl rfl rfl ?_
      refine g_iload_n X182 hx 59 (hb hby at_58) rfl rfl ?_
      refine own_callV X182 hx hZ hown (hw _ (List.mem_of_getElem? (i := 7) rfl)) (hw _ (List.mem_of_getElem? (i := 8) rfl)) (own_nf hZ (hw _ (List.mem_of_getElem? (i := 10) rfl))) (hw _ (List.mem_of_getElem? (i := 10) rfl)) (hw _ (List.mem_of_getElem? (i := 9) rfl)) (by decide) (rm_hi1 l Z a0 hw [] t16 (65 : Int32) h0 n0 Z0 F16) (hw _ (List.mem_of_getElem? (i := 11) rfl)) (hw _ (List.mem_of_getElem? (i := 5) rfl)) e182 0 (by decide) (by decide) (by decide) (by decide) E16 [(.int (1 : Int32))] [] rfl pd_1 rfl 62 rfl (by rw [hml]; rfl) rfl (hb hby at_59) rfl fun T183 v183 L183 X183 hQ183 => ?_
      obtain ⟨rfl, Nq183, e183⟩ := hQ183
      have N183 := Fr.app N182 Nq183
      show own_Go p e below s _ _ _ (T183.setTop (mkF m 62 _ [(.int (own_he (96 : Int32) (65 : Int32)))]))
      refine g_iload X183 hx 64 (hb hby at_62) rfl rfl ?_
      have c184 : (own_he (96 : Int32) (65 : Int32)) = (1 : Int32) := by decide
      refine g_icmpNo X183 hx 67 (hb hby at_64) (own_ii_ne_f c184) rfl ?_
      refine g_iconst X183 hx 68 (hb hby at_67) (1 : Int32) rfl rfl ?_
      refine g_goto X183 hx 72 (hb hby at_68) (by decide) (by decide) ?_
      refine own_retN X183 hx hlk (t := .boolean) hret (by simp) (hb hby at_72) ?_ (by decide) (by decide)
      rw [e183]
      exact ⟨rfl, N183⟩
    · show own_Go p e below s _ _ _ (s₁.setTop (mkF m 17 _ []))
      refine g_iload_n X0 hx 18 (hb hby at_17) rfl rfl ?_
      refine own_callS X0 hx hZ hown (hw _ (List.mem_of_getElem? (i := 0) rfl)) (hw _ (List.mem_of_getElem? (i := 1) rfl)) (by decide) (rm_tag17 l Z a0 hw [] t17 h0 n0 Z0 S17) (hw _ (List.mem_of_getElem? (i := 3) rfl)) (hw _ (List.mem_of_getElem? (i := 2) rfl)) e0 0 (by decide) (by decide) (by decide) (by decide) [(.int (17 : Int32))] [] rfl pd_0 rfl 21 rfl (by rw [hml]; rfl) rfl (hb hby at_18) rfl fun T185 v185 L185 X185 hQ185 => ?_
      obtain ⟨rfl, Nq185, e185⟩ := hQ185
      have N185 := Fr.app N0 Nq185
      show own_Go p e below s _ _ _ (T185.setTop (mkF m 21 _ [(.ref t17)]))
      refine g_astore X185 hx 23 (hb hby at_21) rfl (l' := #[.val (.int p0), .val (.int p1), .val (.int (1 : Int32)), .val (.int (17 : Int32)), .val (.ref t17), .unset]) rfl rfl ?_
      refine g_iload_n X185 hx 24 (hb hby at_23) rfl rfl ?_
      refine g_ifNo X185 hx 27 (hb hby at_24) (own_i0_eq_f (by decide)) rfl ?_
      refine g_iload_n X185 hx 28 (hb hby at_27) rfl rfl ?_
      refine g_bipush X185 hx 30 (hb hby at_28) (18 : Int32) rfl rfl ?_
      refine g_icmpNo X185 hx 33 (hb hby at_30) (own_ii_ge_f (by decide)) rfl ?_
      refine g_iconst X185 hx 34 (hb hby at_33) (1 : Int32) rfl rfl ?_
      refine g_goto X185 hx 38 (hb hby at_34) (by decide) (by decide) ?_
      refine g_istore X185 hx 40 (hb hby at_38) (l' := #[.val (.int p0), .val (.int p1), .val (.int (1 : Int32)), .val (.int (17 : Int32)), .val (.ref t17), .val (.int (1 : Int32))]) rfl rfl ?_
      refine g_goto X185 hx 56 (hb hby at_40) (by decide) (by decide) ?_
      refine g_aload X185 hx 58 (hb hby at_56) rfl rfl rfl ?_
      refine g_iload_n X185 hx 59 (hb hby at_58) rfl rfl ?_
      refine own_callV X185 hx hZ hown (hw _ (List.mem_of_getElem? (i := 7) rfl)) (hw _ (List.mem_of_getElem? (i := 8) rfl)) (own_nf hZ (hw _ (List.mem_of_getElem? (i := 10) rfl))) (hw _ (List.mem_of_getElem? (i := 10) rfl)) (hw _ (List.mem_of_getElem? (i := 9) rfl)) (by decide) (rm_hi1 l Z a0 hw [] t17 (65 : Int32) h0 n0 Z0 F17) (hw _ (List.mem_of_getElem? (i := 11) rfl)) (hw _ (List.mem_of_getElem? (i := 5) rfl)) e185 0 (by decide) (by decide) (by decide) (by decide) E17 [(.int (1 : Int32))] [] rfl pd_1 rfl 62 rfl (by rw [hml]; rfl) rfl (hb hby at_59) rfl fun T186 v186 L186 X186 hQ186 => ?_
      obtain ⟨rfl, Nq186, e186⟩ := hQ186
      have N186 := Fr.app N185 Nq186
      show own_Go p e below s _ _ _ (T186.setTop (mkF m 62 _ [(.int (own_he (96 : Int32) (65 : Int32)))]))
      refine g_iload X186 hx 64 (hb hby at_62) rfl rfl ?_
      have c187 : (own_he (96 : Int32) (65 : Int32)) = (1 : Int32) := by decide
      refine g_icmpNo X186 hx 67 (hb hby at_64) (own_ii_ne_f c187) rfl ?_
      refine g_iconst X186 hx 68 (hb hby at_67) (1 : Int32) rfl rfl ?_
      refine g_goto X186 hx 72 (hb hby at_68) (by decide) (by decide) ?_
      refine own_retN X186 hx hlk (t := .boolean) hret (by simp) (hb hby at_72) ?_ (by decide) (by decide)
      rw [e186]
      exact ⟨rfl, N186⟩
    · show own_Go p e below s _ _ _ (s₁.setTop (mkF m 17 _ []))
      refine g_iload_n X0 hx 18 (hb hby at_17) rfl rfl ?_
      refine own_callS X0 hx hZ hown (hw _ (List.mem_of_getElem? (i := 0) rfl)) (hw _ (List.mem_of_getElem? (i := 1) rfl)) (by decide) (rm_tag18 l Z a0 hw [] t18 h0 n0 Z0 S18) (hw _ (List.mem_of_getElem? (i := 3) rfl)) (hw _ (List.mem_of_getElem? (i := 2) rfl)) e0 0 (by decide) (by decide) (by decide) (by decide) [(.int (18 : Int32))] [] rfl pd_0 rfl 21 rfl (by rw [hml]; rfl) rfl (hb hby at_18) rfl fun T188 v188 L188 X188 hQ188 => ?_
      obtain ⟨rfl, Nq188, e188⟩ := hQ188
      have N188 := Fr.app N0 Nq188
      show own_Go p e below s _ _ _ (T188.setTop (mkF m 21 _ [(.ref t18)]))
      refine g_astore X188 hx 23 (hb hby at_21) rfl (l' := #[.val (.int p0), .val (.int p1), .val (.int (1 : Int32)), .val (.int (18 : Int32)), .val (.ref t18), .unset]) rfl rfl ?_
      refine g_iload_n X188 hx 24 (hb hby at_23) rfl rfl ?_
      refine g_ifNo X188 hx 27 (hb hby at_24) (own_i0_eq_f (by decide)) rfl ?_
      refine g_iload_n X188 hx 28 (hb hby at_27) rfl rfl ?_
      refine g_bipush X188 hx 30 (hb hby at_28) (18 : Int32) rfl rfl ?_
      refine g_icmpYes X188 hx 37 (hb hby at_30) (own_ii_ge_t (by decide)) (by decide) (by decide) ?_
      refine g_iconst X188 hx 38 (hb hby at_37) (0 : Int32) rfl rfl ?_
      refine g_istore X188 hx 40 (hb hby at_38) (l' := #[.val (.int p0), .val (.int p1), .val (.int (1 : Int32)), .val (.int (18 : Int32)), .val (.ref t18), .val (.int (0 : Int32))]) rfl rfl ?_
      refine g_goto X188 hx 56 (hb hby at_40) (by decide) (by decide) ?_
      refine g_aload X188 hx 58 (hb hby at_56) rfl rfl rfl ?_
      refine g_iload_n X188 hx 59 (hb hby at_58) rfl rfl ?_
      refine own_callV X188 hx hZ hown (hw _ (List.mem_of_getElem? (i := 7) rfl)) (hw _ (List.mem_of_getElem? (i := 8) rfl)) (own_nf hZ (hw _ (List.mem_of_getElem? (i := 10) rfl))) (hw _ (List.mem_of_getElem? (i := 10) rfl)) (hw _ (List.mem_of_getElem? (i := 9) rfl)) (by decide) (rm_hi1 l Z a0 hw [] t18 (2 : Int32) h0 n0 Z0 F18) (hw _ (List.mem_of_getElem? (i := 11) rfl)) (hw _ (List.mem_of_getElem? (i := 5) rfl)) e188 0 (by decide) (by decide) (by decide) (by decide) E18 [(.int (1 : Int32))] [] rfl pd_1 rfl 62 rfl (by rw [hml]; rfl) rfl (hb hby at_59) rfl fun T189 v189 L189 X189 hQ189 => ?_
      obtain ⟨rfl, Nq189, e189⟩ := hQ189
      have N189 := Fr.app N188 Nq189
      show own_Go p e below s _ _ _ (T189.setTop (mkF m 62 _ [(.int (own_he (96 : Int32) (2 : Int32)))]))
      refine g_iload X189 hx 64 (hb hby at_62) rfl rfl ?_
      have c190 : (own_he (96 : Int32) (2 : Int32)) = (0 : Int32) := by decide
      refine g_icmpNo X189 hx 67 (hb hby at_64) (own_ii_ne_f c190) rfl ?_
      refine g_iconst X189 hx 68 (hb hby at_67) (1 : Int32) rfl rfl ?_
      refine g_goto X189 hx 72 (hb hby at_68) (by decide) (by decide) ?_
      refine own_retN X189 hx hlk (t := .boolean) hret (by simp) (hb hby at_72) ?_ (by decide) (by decide)
      rw [e189]
      exact ⟨rfl, N189⟩
    · show own_Go p e below s _ _ _ (s₁.setTop (mkF m 17 _ []))
      refine g_iload_n X0 hx 18 (hb hby at_17) rfl rfl ?_
      refine own_callS X0 hx hZ hown (hw _ (List.mem_of_getElem? (i := 0) rfl)) (hw _ (List.mem_of_getElem? (i := 1) rfl)) (by decide) (rm_tag19 l Z a0 hw [] t19 h0 n0 Z0 S19) (hw _ (List.mem_of_getElem? (i := 3) rfl)) (hw _ (List.mem_of_getElem? (i := 2) rfl)) e0 0 (by decide) (by decide) (by decide) (by decide) [(.int (19 : Int32))] [] rfl pd_0 rfl 21 rfl (by rw [hml]; rfl) rfl (hb hby at_18) rfl fun T191 v191 L191 X191 hQ191 => ?_
      obtain ⟨rfl, Nq191, e191⟩ := hQ191
      have N191 := Fr.app N0 Nq191
      show own_Go p e below s _ _ _ (T191.setTop (mkF m 21 _ [(.ref t19)]))
      refine g_astore X191 hx 23 (hb hby at_21) rfl (l' := #[.val (.int p0), .val (.int p1), .val (.int (1 : Int32)), .val (.int (19 : Int32)), .val (.ref t19), .unset]) rfl rfl ?_
      refine g_iload_n X191 hx 24 (hb hby at_23) rfl rfl ?_
      refine g_ifNo X191 hx 27 (hb hby at_24) (own_i0_eq_f (by decide)) rfl ?_
      refine g_iload_n X191 hx 28 (hb hby at_27) rfl rfl ?_
      refine g_bipush X191 hx 30 (hb hby at_28) (18 : Int32) rfl rfl ?_
      refine g_icmpYes X191 hx 37 (hb hby at_30) (own_ii_ge_t (by decide)) (by decide) (by decide) ?_
      refine g_iconst X191 hx 38 (hb hby at_37) (0 : Int32) rfl rfl ?_
      refine g_istore X191 hx 40 (hb hby at_38) (l' := #[.val (.int p0), .val (.int p1), .val (.int (1 : Int32)), .val (.int (19 : Int32)), .val (.ref t19), .val (.int (0 : Int32))]) rfl rfl ?_
      refine g_goto X191 hx 56 (hb hby at_40) (by decide) (by decide) ?_
      refine g_aload X191 hx 58 (hb hby at_56) rfl rfl rfl ?_
      refine g_iload_n X191 hx 59 (hb hby at_58) rfl rfl ?_
      refine own_callV X191 hx hZ hown (hw _ (List.mem_of_getElem? (i := 7) rfl)) (hw _ (List.mem_of_getElem? (i := 8) rfl)) (own_nf hZ (hw _ (List.mem_of_getElem? (i := 10) rfl))) (hw _ (List.mem_of_getElem? (i := 10) rfl)) (hw _ (List.mem_of_getElem? (i := 9) rfl)) (by decide) (rm_hi1 l Z a0 hw [] t19 (1 : Int32) h0 n0 Z0 F19) (hw _ (List.mem_of_getElem? (i := 11) rfl)) (hw _ (List.mem_of_getElem? (i := 5) rfl)) e191 0 (by decide) (by decide) (by decide) (by decide) E19 [(.int (1 : Int32))] [] rfl pd_1 rfl 62 rfl (by rw [hml]; rfl) rfl (hb hby at_59) rfl fun T192 v192 L192 X192 hQ192 => ?_
      obtain ⟨rfl, Nq192, e192⟩ := hQ192
      have N192 := Fr.app N191 Nq192
      show own_Go p e below s _ _ _ (T192.setTop (mkF m 62 _ [(.int (own_he (96 : Int32) (1 : Int32)))]))
      refine g_iload X192 hx 64 (hb hby at_62) rfl rfl ?_
      have c193 : (own_he (96 : Int32) (1 : Int32)) = (0 : Int32) := by decide
      refine g_icmpNo X192 hx 67 (hb hby at_64) (own_ii_ne_f c193) rfl ?_
      refine g_iconst X192 hx 68 (hb hby at_67) (1 : Int32) rfl rfl ?_
      refine g_goto X192 hx 72 (hb hby at_68) (by decide) (by decide) ?_
      refine own_retN X192 hx hlk (t := .boolean) hret (by simp) (hb hby at_72) ?_ (by decide) (by decide)
      rw [e192]
      exact ⟨rfl, N192⟩
    · show own_Go p e below s _ _ _ (s₁.setTop (mkF m 17 _ []))
      refine g_iload_n X0 hx 18 (hb hby at_17) rfl rfl ?_
      refine own_callS X0 hx hZ hown (hw _ (List.mem_of_getElem? (i := 0) rfl)) (hw _ (List.mem_of_getElem? (i := 1) rfl)) (by decide) (rm_tag20 l Z a0 hw [] t20 h0 n0 Z0 S20) (hw _ (List.mem_of_getElem? (i := 3) rfl)) (hw _ (List.mem_of_getElem? (i := 2) rfl)) e0 0 (by decide) (by decide) (by decide) (by decide) [(.int (20 : Int32))] [] rfl pd_0 rfl 21 rfl (by rw [hml]; rfl) rfl (hb hby at_18) rfl fun T194 v194 L194 X194 hQ194 => ?_
      obtain ⟨rfl, Nq194, e194⟩ := hQ194
      have N194 := Fr.app N0 Nq194
      show own_Go p e below s _ _ _ (T194.setTop (mkF m 21 _ [(.ref t20)]))
      refine g_astore X194 hx 23 (hb hby at_21) rfl (l' := #[.val (.int p0), .val (.int p1), .val (.int (1 : Int32)), .val (.int (20 : Int32)), .val (.ref t20), .unset]) rfl rfl ?_
      refine g_iload_n X194 hx 24 (hb hby at_23) rfl rfl ?_
      refine g_ifNo X194 hx 27 (hb hby at_24) (own_i0_eq_f (by decide)) rfl ?_
      refine g_iload_n X194 hx 28 (hb hby at_27) rfl rfl ?_
      refine g_bipush X194 hx 30 (hb hby at_28) (18 : Int32) rfl rfl ?_
      refine g_icmpYes X194 hx 37 (hb hby at_30) (own_ii_ge_t (by decide)) (by decide) (by decide) ?_
      refine g_iconst X194 hx 38 (hb hby at_37) (0 : Int32) rfl rfl ?_
      refine g_istore X194 hx 40 (hb hby at_38) (l' := #[.val (.int p0), .val (.int p1), .val (.int (1 : Int32)), .val (.int (20 : Int32)), .val (.ref t20), .val (.int (0 : Int32))]) rfl rfl ?_
      refine g_goto X194 hx 56 (hb hby at_40) (by decide) (by decide) ?_
      refine g_aload X194 hx 58 (hb hby at_56) rfl rfl rfl ?_
      refine g_iload_n X194 hx 59 (hb hby at_58) rfl rfl ?_
      refine own_callV X194 hx hZ hown (hw _ (List.mem_of_getElem? (i := 7) rfl)) (hw _ (List.mem_of_getElem? (i := 8) rfl)) (own_nf hZ (hw _ (List.mem_of_getElem? (i := 10) rfl))) (hw _ (List.mem_of_getElem? (i := 10) rfl)) (hw _ (List.mem_of_getElem? (i := 9) rfl)) (by decide) (rm_hi1 l Z a0 hw [] t20 (0 : Int32) h0 n0 Z0 F20) (hw _ (List.mem_of_getElem? (i := 11) rfl)) (hw _ (List.mem_of_getElem? (i := 5) rfl)) e194 0 (by decide) (by decide) (by decide) (by decide) E20 [(.int (1 : Int32))] [] rfl pd_1 rfl 62 rfl (by rw [hml]; rfl) rfl (hb hby at_59) rfl fun T195 v195 L195 X195 hQ195 => ?_
      obtain ⟨rfl, Nq195, e195⟩ := hQ195
      have N195 := Fr.app N194 Nq195
      show own_Go p e below s _ _ _ (T195.setTop (mkF m 62 _ [(.int (own_he (96 : Int32) (0 : Int32)))]))
      refine g_iload X195 hx 64 (hb hby at_62) rfl rfl ?_
      have c196 : (own_he (96 : Int32) (0 : Int32)) = (0 : Int32) := by decide
      refine g_icmpNo X195 hx 67 (hb hby at_64) (own_ii_ne_f c196) rfl ?_
      refine g_iconst X195 hx 68 (hb hby at_67) (1 : Int32) rfl rfl ?_
      refine g_goto X195 hx 72 (hb hby at_68) (by decide) (by decide) ?_
      refine own_retN X195 hx hlk (t := .boolean) hret (by simp) (hb hby at_72) ?_ (by decide) (by decide)
      rw [e195]
      exact ⟨rfl, N195⟩
    · show own_Go p e below s _ _ _ (s₁.setTop (mkF m 17 _ []))
      refine g_iload_n X0 hx 18 (hb hby at_17) rfl rfl ?_
      refine own_callS X0 hx hZ hown (hw _ (List.mem_of_getElem? (i := 0) rfl)) (hw _ (List.mem_of_getElem? (i := 1) rfl)) (by decide) (rm_tag21 l Z a0 hw [] t21 h0 n0 Z0 S21) (hw _ (List.mem_of_getElem? (i := 3) rfl)) (hw _ (List.mem_of_getElem? (i := 2) rfl)) e0 0 (by decide) (by decide) (by decide) (by decide) [(.int (21 : Int32))] [] rfl pd_0 rfl 21 rfl (by rw [hml]; rfl) rfl (hb hby at_18) rfl fun T197 v197 L197 X197 hQ197 => ?_
      obtain ⟨rfl, Nq197, e197⟩ := hQ197
      have N197 := Fr.app N0 Nq197
      show own_Go p e below s _ _ _ (T197.setTop (mkF m 21 _ [(.ref t21)]))
      refine g_astore X197 hx 23 (hb hby at_21) rfl (l' := #[.val (.int p0), .val (.int p1), .val (.int (1 : Int32)), .val (.int (21 : Int32)), .val (.ref t21), .unset]) rfl rfl ?_
      refine g_iload_n X197 hx 24 (hb hby at_23) rfl rfl ?_
      refine g_ifNo X197 hx 27 (hb hby at_24) (own_i0_eq_f (by decide)) rfl ?_
      refine g_iload_n X197 hx 28 (hb hby at_27) rfl rfl ?_
      refine g_bipush X197 hx 30 (hb hby at_28) (18 : Int32) rfl rfl ?_
      refine g_icmpYes X197 hx 37 (hb hby at_30) (own_ii_ge_t (by decide)) (by decide) (by decide) ?_
      refine g_iconst X197 hx 38 (hb hby at_37) (0 : Int32) rfl rfl ?_
      refine g_istore X197 hx 40 (hb hby at_38) (l' := #[.val (.int p0), .val (.int p1), .val (.int (1 : Int32)), .val (.int (21 : Int32)), .val (.ref t21), .val (.int (0 : Int32))]) rfl rfl ?_
      refine g_goto X197 hx 56 (hb hby at_40) (by decide) (by decide) ?_
      refine g_aload X197 hx 58 (hb hby at_56) rfl rfl rfl ?_
      refine g_iload_n X197 hx 59 (hb hby at_58) rfl rfl ?_
      refine own_callV X197 hx hZ hown (hw _ (List.mem_of_getElem? (i := 7) rfl)) (hw _ (List.mem_of_getElem? (i := 8) rfl)) (own_nf hZ (hw _ (List.mem_of_getElem? (i := 10) rfl))) (hw _ (List.mem_of_getElem? (i := 10) rfl)) (hw _ (List.mem_of_getElem? (i := 9) rfl)) (by decide) (rm_hi1 l Z a0 hw [] t21 (17 : Int32) h0 n0 Z0 F21) (hw _ (List.mem_of_getElem? (i := 11) rfl)) (hw _ (List.mem_of_getElem? (i := 5) rfl)) e197 0 (by decide) (by decide) (by decide) (by decide) E21 [(.int (1 : Int32))] [] rfl pd_1 rfl 62 rfl (by rw [hml]; rfl) rfl (hb hby at_59) rfl fun T198 v198 L198 X198 hQ198 => ?_
      obtain ⟨rfl, Nq198, e198⟩ := hQ198
      have N198 := Fr.app N197 Nq198
      show own_Go p e below s _ _ _ (T198.setTop (mkF m 62 _ [(.int (own_he (96 : Int32) (17 : Int32)))]))
      refine g_iload X198 hx 64 (hb hby at_62) rfl rfl ?_
      have c199 : (own_he (96 : Int32) (17 : Int32)) = (0 : Int32) := by decide
      refine g_icmpNo X198 hx 67 (hb hby at_64) (own_ii_ne_f c199) rfl ?_
      refine g_iconst X198 hx 68 (hb hby at_67) (1 : Int32) rfl rfl ?_
      refine g_goto X198 hx 72 (hb hby at_68) (by decide) (by decide) ?_
      refine own_retN X198 hx hlk (t := .boolean) hret (by simp) (hb hby at_72) ?_ (by decide) (by decide)
      rw [e198]
      exact ⟨rfl, N198⟩
    · show own_Go p e below s _ _ _ (s₁.setTop (mkF m 17 _ []))
      refine g_iload_n X0 hx 18 (hb hby at_17) rfl rfl ?_
      refine own_callS X0 hx hZ hown (hw _ (List.mem_of_getElem? (i := 0) rfl)) (hw _ (List.mem_of_getElem? (i := 1) rfl)) (by decide) (rm_tag22 l Z a0 hw [] t22 h0 n0 Z0 S22) (hw _ (List.mem_of_getElem? (i := 3) rfl)) (hw _ (List.mem_of_getElem? (i := 2) rfl)) e0 0 (by decide) (by decide) (by decide) (by decide) [(.int (22 : Int32))] [] rfl pd_0 rfl 21 rfl (by rw [hml]; rfl) rfl (hb hby at_18) rfl fun T200 v200 L200 X200 hQ200 => ?_
      obtain ⟨rfl, Nq200, e200⟩ := hQ200
      have N200 := Fr.app N0 Nq200
      show own_Go p e below s _ _ _ (T200.setTop (mkF m 21 _ [(.ref t22)]))
      refine g_astore X200 hx 23 (hb hby at_21) rfl (l' := #[.val (.int p0), .val (.int p1), .val (.int (1 : Int32)), .val (.int (22 : Int32)), .val (.ref t22), .unset]) rfl rfl ?_
      refine g_iload_n X200 hx 24 (hb hby at_23) rfl rfl ?_
      refine g_ifNo X200 hx 27 (hb hby at_24) (own_i0_eq_f (by decide)) rfl ?_
      refine g_iload_n X200 hx 28 (hb hby at_27) rfl rfl ?_
      refine g_bipush X200 hx 30 (hb hby at_28) (18 : Int32) rfl rfl ?_
      refine g_icmpYes X200 hx 37 (hb hby at_30) (own_ii_ge_t (by decide)) (by decide) (by decide) ?_
      refine g_iconst X200 hx 38 (hb hby at_37) (0 : Int32) rfl rfl ?_
      refine g_istore X200 hx 40 (hb hby at_38) (l' := #[.val (.int p0), .val (.int p1), .val (.int (1 : Int32)), .val (.int (22 : Int32)), .val (.ref t22), .val (.int (0 : Int32))]) rfl rfl ?_
      refine g_goto X200 hx 56 (hb hby at_40) (by decide) (by decide) ?_
      refine g_aload X200 hx 58 (hb hby at_56) rfl rfl rfl ?_
      refine g_iload_n X200 hx 59 (hb hby at_58) rfl rfl ?_
      refine own_callV X200 hx hZ hown (hw _ (List.mem_of_getElem? (i := 7) rfl)) (hw _ (List.mem_of_getElem? (i := 8) rfl)) (own_nf hZ (hw _ (List.mem_of_getElem? (i := 10) rfl))) (hw _ (List.mem_of_getElem? (i := 10) rfl)) (hw _ (List.mem_of_getElem? (i := 9) rfl)) (by decide) (rm_hi1 l Z a0 hw [] t22 (5 : Int32) h0 n0 Z0 F22) (hw _ (List.mem_of_getElem? (i := 11) rfl)) (hw _ (List.mem_of_getElem? (i := 5) rfl)) e200 0 (by decide) (by decide) (by decide) (by decide) E22 [(.int (1 : Int32))] [] rfl pd_1 rfl 62 rfl (by rw [hml]; rfl) rfl (hb hby at_59) rfl fun T201 v201 L201 X201 hQ201 => ?_
      obtain ⟨rfl, Nq201, e201⟩ := hQ201
      have N201 := Fr.app N200 Nq201
      show own_Go p e below s _ _ _ (T201.setTop (mkF m 62 _ [(.int (own_he (96 : Int32) (5 : Int32)))]))
      refine g_iload X201 hx 64 (hb hby at_62) rfl rfl ?_
      have c202 : (own_he (96 : Int32) (5 : Int32)) = (0 : Int32) := by decide
      refine g_icmpNo X201 hx 67 (hb hby at_64) (own_ii_ne_f c202) rfl ?_
      refine g_iconst X201 hx 68 (hb hby at_67) (1 : Int32) rfl rfl ?_
      refine g_goto X201 hx 72 (hb hby at_68) (by decide) (by decide) ?_
      refine own_retN X201 hx hlk (t := .boolean) hret (by simp) (hb hby at_72) ?_ (by decide) (by decide)
      rw [e201]
      exact ⟨rfl, N201⟩
    · show own_Go p e below s _ _ _ (s₁.setTop (mkF m 17 _ []))
      refine g_iload_n X0 hx 18 (hb hby at_17) rfl rfl ?_
      refine own_callS X0 hx hZ hown (hw _ (List.mem_of_getElem? (i := 0) rfl)) (hw _ (List.mem_of_getElem? (i := 1) rfl)) (by decide) (rm_tag23 l Z a0 hw [] t23 h0 n0 Z0 S23) (hw _ (List.mem_of_getElem? (i := 3) rfl)) (hw _ (List.mem_of_getElem? (i := 2) rfl)) e0 0 (by decide) (by decide) (by decide) (by decide) [(.int (23 : Int32))] [] rfl pd_0 rfl 21 rfl (by rw [hml]; rfl) rfl (hb hby at_18) rfl fun T203 v203 L203 X203 hQ203 => ?_
      obtain ⟨rfl, Nq203, e203⟩ := hQ203
      have N203 := Fr.app N0 Nq203
      show own_Go p e below s _ _ _ (T203.setTop (mkF m 21 _ [(.ref t23)]))
      refine g_astore X203 hx 23 (hb hby at_21) rfl (l' := #[.val (.int p0), .val (.int p1), .val (.int (1 : Int32)), .val (.int (23 : Int32)), .val (.ref t23), .unset]) rfl rfl ?_
      refine g_iload_n X203 hx 24 (hb hby at_23) rfl rfl ?_
      refine g_ifNo X203 hx 27 (hb hby at_24) (own_i0_eq_f (by decide)) rfl ?_
      refine g_iload_n X203 hx 28 (hb hby at_27) rfl rfl ?_
      refine g_bipush X203 hx 30 (hb hby at_28) (18 : Int32) rfl rfl ?_
      refine g_icmpYes X203 hx 37 (hb hby at_30) (own_ii_ge_t (by decide)) (by decide) (by decide) ?_
      refine g_iconst X203 hx 38 (hb hby at_37) (0 : Int32) rfl rfl ?_
      refine g_istore X203 hx 40 (hb hby at_38) (l' := #[.val (.int p0), .val (.int p1), .val (.int (1 : Int32)), .val (.int (23 : Int32)), .val (.ref t23), .val (.int (0 : Int32))]) rfl rfl ?_
      refine g_goto X203 hx 56 (hb hby at_40) (by decide) (by decide) ?_
      refine g_aload X203 hx 58 (hb hby at_56) rfl rfl rfl ?_
      refine g_iload_n X203 hx 59 (hb hby at_58) rfl rfl ?_
      refine own_callV X203 hx hZ hown (hw _ (List.mem_of_getElem? (i := 7) rfl)) (hw _ (List.mem_of_getElem? (i := 8) rfl)) (own_nf hZ (hw _ (List.mem_of_getElem? (i := 10) rfl))) (hw _ (List.mem_of_getElem? (i := 10) rfl)) (hw _ (List.mem_of_getElem? (i := 9) rfl)) (by decide) (rm_hi1 l Z a0 hw [] t23 (129 : Int32) h0 n0 Z0 F23) (hw _ (List.mem_of_getElem? (i := 11) rfl)) (hw _ (List.mem_of_getElem? (i := 5) rfl)) e203 0 (by decide) (by decide) (by decide) (by decide) E23 [(.int (1 : Int32))] [] rfl pd_1 rfl 62 rfl (by rw [hml]; rfl) rfl (hb hby at_59) rfl fun T204 v204 L204 X204 hQ204 => ?_
      obtain ⟨rfl, Nq204, e204⟩ := hQ204
      have N204 := Fr.app N203 Nq204
      show own_Go p e below s _ _ _ (T204.setTop (mkF m 62 _ [(.int (own_he (96 : Int32) (129 : Int32)))]))
      refine g_iload X204 hx 64 (hb hby at_62) rfl rfl ?_
      have c205 : (own_he (96 : Int32) (129 : Int32)) = (0 : Int32) := by decide
      refine g_icmpNo X204 hx 67 (hb hby at_64) (own_ii_ne_f c205) rfl ?_
      refine g_iconst X204 hx 68 (hb hby at_67) (1 : Int32) rfl rfl ?_
      refine g_goto X204 hx 72 (hb hby at_68) (by decide) (by decide) ?_
      refine own_retN X204 hx hlk (t := .boolean) hret (by simp) (hb hby at_72) ?_ (by decide) (by decide)
      rw [e204]
      exact ⟨rfl, N204⟩
    · show own_Go p e below s _ _ _ (s₁.setTop (mkF m 17 _ []))
      refine g_iload_n X0 hx 18 (hb hby at_17) rfl rfl ?_
      refine own_callS X0 hx hZ hown (hw _ (List.mem_of_getElem? (i := 0) rfl)) (hw _ (List.mem_of_getElem? (i := 1) rfl)) (by decide) (rm_tag24 l Z a0 hw [] t24 h0 n0 Z0 S24) (hw _ (List.mem_of_getElem? (i := 3) rfl)) (hw _ (List.mem_of_getElem? (i := 2) rfl)) e0 0 (by decide) (by decide) (by decide) (by decide) [(.int (24 : Int32))] [] rfl pd_0 rfl 21 rfl (by rw [hml]; rfl) rfl (hb hby at_18) rfl fun T206 v206 L206 X206 hQ206 => ?_
      obtain ⟨rfl, Nq206, e206⟩ := hQ206
      have N206 := Fr.app N0 Nq206
      show own_Go p e below s _ _ _ (T206.setTop (mkF m 21 _ [(.ref t24)]))
      refine g_astore X206 hx 23 (hb hby at_21) rfl (l' := #[.val (.int p0), .val (.int p1), .val (.int (1 : Int32)), .val (.int (24 : Int32)), .val (.ref t24), .unset]) rfl rfl ?_
      refine g_iload_n X206 hx 24 (hb hby at_23) rfl rfl ?_
      refine g_ifNo X206 hx 27 (hb hby at_24) (own_i0_eq_f (by decide)) rfl ?_
      refine g_iload_n X206 hx 28 (hb hby at_27) rfl rfl ?_
      refine g_bipush X206 hx 30 (hb hby at_28) (18 : Int32) rfl rfl ?_
      refine g_icmpYes X206 hx 37 (hb hby at_30) (own_ii_ge_t (by decide)) (by decide) (by decide) ?_
      refine g_iconst X206 hx 38 (hb hby at_37) (0 : Int32) rfl rfl ?_
      refine g_istore X206 hx 40 (hb hby at_38) (l' := #[.val (.int p0), .val (.int p1), .val (.int (1 : Int32)), .val (.int (24 : Int32)), .val (.ref t24), .val (.int (0 : Int32))]) rfl rfl ?_
      refine g_goto X206 hx 56 (hb hby at_40) (by decide) (by decide) ?_
      refine g_aload X206 hx 58 (hb hby at_56) rfl rfl rfl ?_
      refine g_iload_n X206 hx 59 (hb hby at_58) rfl rfl ?_
      refine own_callV X206 hx hZ hown (hw _ (List.mem_of_getElem? (i := 7) rfl)) (hw _ (List.mem_of_getElem? (i := 8) rfl)) (own_nf hZ (hw _ (List.mem_of_getElem? (i := 10) rfl))) (hw _ (List.mem_of_getElem? (i := 10) rfl)) (hw _ (List.mem_of_getElem? (i := 9) rfl)) (by decide) (rm_hi1 l Z a0 hw [] t24 (9 : Int32) h0 n0 Z0 F24) (hw _ (List.mem_of_getElem? (i := 11) rfl)) (hw _ (List.mem_of_getElem? (i := 5) rfl)) e206 0 (by decide) (by decide) (by decide) (by decide) E24 [(.int (1 : Int32))] [] rfl pd_1 rfl 62 rfl (by rw [hml]; rfl) rfl (hb hby at_59) rfl fun T207 v207 L207 X207 hQ207 => ?_
      obtain ⟨rfl, Nq207, e207⟩ := hQ207
      have N207 := Fr.app N206 Nq207
      show own_Go p e below s _ _ _ (T207.setTop (mkF m 62 _ [(.int (own_he (96 : Int32) (9 : Int32)))]))
      refine g_iload X207 hx 64 (hb hby at_62) rfl rfl ?_
      have c208 : (own_he (96 : Int32) (9 : Int32)) = (0 : Int32) := by decide
      refine g_icmpNo X207 hx 67 (hb hby at_64) (own_ii_ne_f c208) rfl ?_
      refine g_iconst X207 hx 68 (hb hby at_67) (1 : Int32) rfl rfl ?_
      refine g_goto X207 hx 72 (hb hby at_68) (by decide) (by decide) ?_
      refine own_retN X207 hx hlk (t := .boolean) hret (by simp) (hb hby at_72) ?_ (by decide) (by decide)
      rw [e207]
      exact ⟨rfl, N207⟩
    · show own_Go p e below s _ _ _ (s₁.setTop (mkF m 17 _ []))
      refine g_iload_n X0 hx 18 (hb hby at_17) rfl rfl ?_
      refine own_callS X0 hx hZ hown (hw _ (List.mem_of_getElem? (i := 0) rfl)) (hw _ (List.mem_of_getElem? (i := 1) rfl)) (by decide) (rm_tag25 l Z a0 hw [] t25 h0 n0 Z0 S25) (hw _ (List.mem_of_getElem? (i := 3) rfl)) (hw _ (List.mem_of_getElem? (i := 2) rfl)) e0 0 (by decide) (by decide) (by decide) (by decide) [(.int (25 : Int32))] [] rfl pd_0 rfl 21 rfl (by rw [hml]; rfl) rfl (hb hby at_18) rfl fun T209 v209 L209 X209 hQ209 => ?_
      obtain ⟨rfl, Nq209, e209⟩ := hQ209
      have N209 := Fr.app N0 Nq209
      show own_Go p e below s _ _ _ (T209.setTop (mkF m 21 _ [(.ref t25)]))
      refine g_astore X209 hx 23 (hb hby at_21) rfl (l' := #[.val (.int p0), .val (.int p1), .val (.int (1 : Int32)), .val (.int (25 : Int32)), .val (.ref t25), .unset]) rfl rfl ?_
      refine g_iload_n X209 hx 24 (hb hby at_23) rfl rfl ?_
      refine g_ifNo X209 hx 27 (hb hby at_24) (own_i0_eq_f (by decide)) rfl ?_
      refine g_iload_n X209 hx 28 (hb hby at_27) rfl rfl ?_
      refine g_bipush X209 hx 30 (hb hby at_28) (18 : Int32) rfl rfl ?_
      refine g_icmpYes X209 hx 37 (hb hby at_30) (own_ii_ge_t (by decide)) (by decide) (by decide) ?_
      refine g_iconst X209 hx 38 (hb hby at_37) (0 : Int32) rfl rfl ?_
      refine g_istore X209 hx 40 (hb hby at_38) (l' := #[.val (.int p0), .val (.int p1), .val (.int (1 : Int32)), .val (.int (25 : Int32)), .val (.ref t25), .val (.int (0 : Int32))]) rfl rfl ?_
      refine g_goto X209 hx 56 (hb hby at_40) (by decide) (by decide) ?_
      refine g_aload X209 hx 58 (hb hby at_56) rfl rfl rfl ?_
      refine g_iload_n X209 hx 59 (hb hby at_58) rfl rfl ?_
      refine own_callV X209 hx hZ hown (hw _ (List.mem_of_getElem? (i := 7) rfl)) (hw _ (List.mem_of_getElem? (i := 8) rfl)) (own_nf hZ (hw _ (List.mem_of_getElem? (i := 10) rfl))) (hw _ (List.mem_of_getElem? (i := 10) rfl)) (hw _ (List.mem_of_getElem? (i := 9) rfl)) (by decide) (rm_hi1 l Z a0 hw [] t25 (17 : Int32) h0 n0 Z0 F25) (hw _ (List.mem_of_getElem? (i := 11) rfl)) (hw _ (List.mem_of_getElem? (i := 5) rfl)) e209 0 (by decide) (by decide) (by decide) (by decide) E25 [(.int (1 : Int32))] [] rfl pd_1 rfl 62 rfl (by rw [hml]; rfl) rfl (hb hby at_59) rfl fun T210 v210 L210 X210 hQ210 => ?_
      obtain ⟨rfl, Nq210, e210⟩ := hQ210
      have N210 := Fr.app N209 Nq210
      show own_Go p e below s _ _ _ (T210.setTop (mkF m 62 _ [(.int (own_he (96 : Int32) (17 : Int32)))]))
      refine g_iload X210 hx 64 (hb hby at_62) rfl rfl ?_
      have c211 : (own_he (96 : Int32) (17 : Int32)) = (0 : Int32) := by decide
      refine g_icmpNo X210 hx 67 (hb hby at_64) (own_ii_ne_f c211) rfl ?_
      refine g_iconst X210 hx 68 (hb hby at_67) (1 : Int32) rfl rfl ?_
      refine g_goto X210 hx 72 (hb hby at_68) (by decide) (by decide) ?_
      refine own_retN X210 hx hlk (t := .boolean) hret (by simp) (hb hby at_72) ?_ (by decide) (by decide)
      rw [e210]
      exact ⟨rfl, N210⟩
    · show own_Go p e below s _ _ _ (s₁.setTop (mkF m 17 _ []))
      refine g_iload_n X0 hx 18 (hb hby at_17) rfl rfl ?_
      refine own_callS X0 hx hZ hown (hw _ (List.mem_of_getElem? (i := 0) rfl)) (hw _ (List.mem_of_getElem? (i := 1) rfl)) (by decide) (rm_tag26 l Z a0 hw [] t26 h0 n0 Z0 S26) (hw _ (List.mem_of_getElem? (i := 3) rfl)) (hw _ (List.mem_of_getElem? (i := 2) rfl)) e0 0 (by decide) (by decide) (by decide) (by decide) [(.int (26 : Int32))] [] rfl pd_0 rfl 21 rfl (by rw [hml]; rfl) rfl (hb hby at_18) rfl fun T212 v212 L212 X212 hQ212 => ?_
      obtain ⟨rfl, Nq212, e212⟩ := hQ212
      have N212 := Fr.app N0 Nq212
      show own_Go p e below s _ _ _ (T212.setTop (mkF m 21 _ [(.ref t26)]))
      refine g_astore X212 hx 23 (hb hby at_21) rfl (l' := #[.val (.int p0), .val (.int p1), .val (.int (1 : Int32)), .val (.int (26 : Int32)), .val (.ref t26), .unset]) rfl rfl ?_
      refine g_iload_n X212 hx 24 (hb hby at_23) rfl rfl ?_
      refine g_ifNo X212 hx 27 (hb hby at_24) (own_i0_eq_f (by decide)) rfl ?_
      refine g_iload_n X212 hx 28 (hb hby at_27) rfl rfl ?_
      refine g_bipush X212 hx 30 (hb hby at_28) (18 : Int32) rfl rfl ?_
      refine g_icmpYes X212 hx 37 (hb hby at_30) (own_ii_ge_t (by decide)) (by decide) (by decide) ?_
      refine g_iconst X212 hx 38 (hb hby at_37) (0 : Int32) rfl rfl ?_
      refine g_istore X212 hx 40 (hb hby at_38) (l' := #[.val (.int p0), .val (.int p1), .val (.int (1 : Int32)), .val (.int (26 : Int32)), .val (.ref t26), .val (.int (0 : Int32))]) rfl rfl ?_
      refine g_goto X212 hx 56 (hb hby at_40) (by decide) (by decide) ?_
      refine g_aload X212 hx 58 (hb hby at_56) rfl rfl rfl ?_
      refine g_iload_n X212 hx 59 (hb hby at_58) rfl rfl ?_
      refine own_callV X212 hx hZ hown (hw _ (List.mem_of_getElem? (i := 7) rfl)) (hw _ (List.mem_of_getElem? (i := 8) rfl)) (own_nf hZ (hw _ (List.mem_of_getElem? (i := 10) rfl))) (hw _ (List.mem_of_getElem? (i := 10) rfl)) (hw _ (List.mem_of_getElem? (i := 9) rfl)) (by decide) (rm_hi1 l Z a0 hw [] t26 (17 : Int32) h0 n0 Z0 F26) (hw _ (List.mem_of_getElem? (i := 11) rfl)) (hw _ (List.mem_of_getElem? (i := 5) rfl)) e212 0 (by decide) (by decide) (by decide) (by decide) E26 [(.int (1 : Int32))] [] rfl pd_1 rfl 62 rfl (by rw [hml]; rfl) rfl (hb hby at_59) rfl fun T213 v213 L213 X213 hQ213 => ?_
      obtain ⟨rfl, Nq213, e213⟩ := hQ213
      have N213 := Fr.app N212 Nq213
      show own_Go p e below s _ _ _ (T213.setTop (mkF m 62 _ [(.int (own_he (96 : Int32) (17 : Int32)))]))
      refine g_iload X213 hx 64 (hb hby at_62) rfl rfl ?_
      have c214 : (own_he (96 : Int32) (17 : Int32)) = (0 : Int32) := by decide
      refine g_icmpNo X213 hx 67 (hb hby at_64) (own_ii_ne_f c214) rfl ?_
      refine g_iconst X213 hx 68 (hb hby at_67) (1 : Int32) rfl rfl ?_
      refine g_goto X213 hx 72 (hb hby at_68) (by decide) (by decide) ?_
      refine own_retN X213 hx hlk (t := .boolean) hret (by simp) (hb hby at_72) ?_ (by decide) (by decide)
      rw [e213]
      exact ⟨rfl, N213⟩
    · show own_Go p e below s _ _ _ (s₁.setTop (mkF m 17 _ []))
      refine g_iload_n X0 hx 18 (hb hby at_17) rfl rfl ?_
      refine own_callS X0 hx hZ hown (hw _ (List.mem_of_getElem? (i := 0) rfl)) (hw _ (List.mem_of_getElem? (i := 1) rfl)) (by decide) (rm_tag27 l Z a0 hw [] t27 h0 n0 Z0 S27) (hw _ (List.mem_of_getElem? (i := 3) rfl)) (hw _ (List.mem_of_getElem? (i := 2) rfl)) e0 0 (by decide) (by decide) (by decide) (by decide) [(.int (27 : Int32))] [] rfl pd_0 rfl 21 rfl (by rw [hml]; rfl) rfl (hb hby at_18) rfl fun T215 v215 L215 X215 hQ215 => ?_
      obtain ⟨rfl, Nq215, e215⟩ := hQ215
      have N215 := Fr.app N0 Nq215
      show own_Go p e below s _ _ _ (T215.setTop (mkF m 21 _ [(.ref t27)]))
      refine g_astore X215 hx 23 (hb hby at_21) rfl (l' := #[.val (.int p0), .val (.int p1), .val (.int (1 : Int32)), .val (.int (27 : Int32)), .val (.ref t27), .unset]) rfl rfl ?_
      refine g_iload_n X215 hx 24 (hb hby at_23) rfl rfl ?_
      refine g_ifNo X215 hx 27 (hb hby at_24) (own_i0_eq_f (by decide)) rfl ?_
      refine g_iload_n X215 hx 28 (hb hby at_27) rfl rfl ?_
      refine g_bipush X215 hx 30 (hb hby at_28) (18 : Int32) rfl rfl ?_
      refine g_icmpYes X215 hx 37 (hb hby at_30) (own_ii_ge_t (by decide)) (by decide) (by decide) ?_
      refine g_iconst X215 hx 38 (hb hby at_37) (0 : Int32) rfl rfl ?_
      refine g_istore X215 hx 40 (hb hby at_38) (l' := #[.val (.int p0), .val (.int p1), .val (.int (1 : Int32)), .val (.int (27 : Int32)), .val (.ref t27), .val (.int (0 : Int32))]) rfl rfl ?_
      refine g_goto X215 hx 56 (hb hby at_40) (by decide) (by decide) ?_
      refine g_aload X215 hx 58 (hb hby at_56) rfl rfl rfl ?_
      refine g_iload_n X215 hx 59 (hb hby at_58) rfl rfl ?_
      refine own_callV X215 hx hZ hown (hw _ (List.mem_of_getElem? (i := 7) rfl)) (hw _ (List.mem_of_getElem? (i := 8) rfl)) (own_nf hZ (hw _ (List.mem_of_getElem? (i := 10) rfl))) (hw _ (List.mem_of_getElem? (i := 10) rfl)) (hw _ (List.mem_of_getElem? (i := 9) rfl)) (by decide) (rm_hi1 l Z a0 hw [] t27 (17 : Int32) h0 n0 Z0 F27) (hw _ (List.mem_of_getElem? (i := 11) rfl)) (hw _ (List.mem_of_getElem? (i := 5) rfl)) e215 0 (by decide) (by decide) (by decide) (by decide) E27 [(.int (1 : Int32))] [] rfl pd_1 rfl 62 rfl (by rw [hml]; rfl) rfl (hb hby at_59) rfl fun T216 v216 L216 X216 hQ216 => ?_
      obtain ⟨rfl, Nq216, e216⟩ := hQ216
      have N216 := Fr.app N215 Nq216
      show own_Go p e below s _ _ _ (T216.setTop (mkF m 62 _ [(.int (own_he (96 : Int32) (17 : Int32)))]))
      refine g_iload X216 hx 64 (hb hby at_62) rfl rfl ?_
      have c217 : (own_he (96 : Int32) (17 : Int32)) = (0 : Int32) := by decide
      refine g_icmpNo X216 hx 67 (hb hby at_64) (own_ii_ne_f c217) rfl ?_
      refine g_iconst X216 hx 68 (hb hby at_67) (1 : Int32) rfl rfl ?_
      refine g_goto X216 hx 72 (hb hby at_68) (by decide) (by decide) ?_
      refine own_retN X216 hx hlk (t := .boolean) hret (by simp) (hb hby at_72) ?_ (by decide) (by decide)
      rw [e216]
      exact ⟨rfl, N216⟩
    · show own_Go p e below s _ _ _ (s₁.setTop (mkF m 17 _ []))
      refine g_iload_n X0 hx 18 (hb hby at_17) rfl rfl ?_
      refine own_callS X0 hx hZ hown (hw _ (List.mem_of_getElem? (i := 0) rfl)) (hw _ (List.mem_of_getElem? (i := 1) rfl)) (by decide) (rm_tag28 l Z a0 hw [] t28 h0 n0 Z0 S28) (hw _ (List.mem_of_getElem? (i := 3) rfl)) (hw _ (List.mem_of_getElem? (i := 2) rfl)) e0 0 (by decide) (by decide) (by decide) (by decide) [(.int (28 : Int32))] [] rfl pd_0 rfl 21 rfl (by rw [hml]; rfl) rfl (hb hby at_18) rfl fun T218 v218 L218 X218 hQ218 => ?_
      obtain ⟨rfl, Nq218, e218⟩ := hQ218
      have N218 := Fr.app N0 Nq218
      show own_Go p e below s _ _ _ (T218.setTop (mkF m 21 _ [(.ref t28)]))
      refine g_astore X218 hx 23 (hb hby at_21) rfl (l' := #[.val (.int p0), .val (.int p1), .val (.int (1 : Int32)), .val (.int (28 : Int32)), .val (.ref t28), .unset]) rfl rfl ?_
      refine g_iload_n X218 hx 24 (hb hby at_23) rfl rfl ?_
      refine g_ifNo X218 hx 27 (hb hby at_24) (own_i0_eq_f (by decide)) rfl ?_
      refine g_iload_n X218 hx 28 (hb hby at_27) rfl rfl ?_
      refine g_bipush X218 hx 30 (hb hby at_28) (18 : Int32) rfl rfl ?_
      refine g_icmpYes X218 hx 37 (hb hby at_30) (own_ii_ge_t (by decide)) (by decide) (by decide) ?_
      refine g_iconst X218 hx 38 (hb hby at_37) (0 : Int32) rfl rfl ?_
      refine g_istore X218 hx 40 (hb hby at_38) (l' := #[.val (.int p0), .val (.int p1), .val (.int (1 : Int32)), .val (.int (28 : Int32)), .val (.ref t28), .val (.int (0 : Int32))]) rfl rfl ?_
      refine g_goto X218 hx 56 (hb hby at_40) (by decide) (by decide) ?_
      refine g_aload X218 hx 58 (hb hby at_56) rfl rfl rfl ?_
      refine g_iload_n X218 hx 59 (hb hby at_58) rfl rfl ?_
      refine own_callV X218 hx hZ hown (hw _ (List.mem_of_getElem? (i := 7) rfl)) (hw _ (List.mem_of_getElem? (i := 8) rfl)) (own_nf hZ (hw _ (List.mem_of_getElem? (i := 10) rfl))) (hw _ (List.mem_of_getElem? (i := 10) rfl)) (hw _ (List.mem_of_getElem? (i := 9) rfl)) (by decide) (rm_hi1 l Z a0 hw [] t28 (1 : Int32) h0 n0 Z0 F28) (hw _ (List.mem_of_getElem? (i := 11) rfl)) (hw _ (List.mem_of_getElem? (i := 5) rfl)) e218 0 (by decide) (by decide) (by decide) (by decide) E28 [(.int (1 : Int32))] [] rfl pd_1 rfl 62 rfl (by rw [hml]; rfl) rfl (hb hby at_59) rfl fun T219 v219 L219 X219 hQ219 => ?_
      obtain ⟨rfl, Nq219, e219⟩ := hQ219
      have N219 := Fr.app N218 Nq219
      show own_Go p e below s _ _ _ (T219.setTop (mkF m 62 _ [(.int (own_he (96 : Int32) (1 : Int32)))]))
      refine g_iload X219 hx 64 (hb hby at_62) rfl rfl ?_
      have c220 : (own_he (96 : Int32) (1 : Int32)) = (0 : Int32) := by decide
      refine g_icmpNo X219 hx 67 (hb hby at_64) (own_ii_ne_f c220) rfl ?_
      refine g_iconst X219 hx 68 (hb hby at_67) (1 : Int32) rfl rfl ?_
      refine g_goto X219 hx 72 (hb hby at_68) (by decide) (by decide) ?_
      refine own_retN X219 hx hlk (t := .boolean) hret (by simp) (hb hby at_72) ?_ (by decide) (by decide)
      rw [e219]
      exact ⟨rfl, N219⟩
    · show own_Go p e below s _ _ _ (s₁.setTop (mkF m 17 _ []))
      refine g_iload_n X0 hx 18 (hb hby at_17) rfl rfl ?_
      refine own_callS X0 hx hZ hown (hw _ (List.mem_of_getElem? (i := 0) rfl)) (hw _ (List.mem_of_getElem? (i := 1) rfl)) (by decide) (rm_tag29 l Z a0 hw [] t29 h0 n0 Z0 S29) (hw _ (List.mem_of_getElem? (i := 3) rfl)) (hw _ (List.mem_of_getElem? (i := 2) rfl)) e0 0 (by decide) (by decide) (by decide) (by decide) [(.int (29 : Int32))] [] rfl pd_0 rfl 21 rfl (by rw [hml]; rfl) rfl (hb hby at_18) rfl fun T221 v221 L221 X221 hQ221 => ?_
      obtain ⟨rfl, Nq221, e221⟩ := hQ221
      have N221 := Fr.app N0 Nq221
      show own_Go p e below s _ _ _ (T221.setTop (mkF m 21 _ [(.ref t29)]))
      refine g_astore X221 hx 23 (hb hby at_21) rfl (l' := #[.val (.int p0), .val (.int p1), .val (.int (1 : Int32)), .val (.int (29 : Int32)), .val (.ref t29), .unset]) rfl rfl ?_
      refine g_iload_n X221 hx 24 (hb hby at_23) rfl rfl ?_
      refine g_ifNo X221 hx 27 (hb hby at_24) (own_i0_eq_f (by decide)) rfl ?_
      refine g_iload_n X221 hx 28 (hb hby at_27) rfl rfl ?_
      refine g_bipush X221 hx 30 (hb hby at_28) (18 : Int32) rfl rfl ?_
      refine g_icmpYes X221 hx 37 (hb hby at_30) (own_ii_ge_t (by decide)) (by decide) (by decide) ?_
      refine g_iconst X221 hx 38 (hb hby at_37) (0 : Int32) rfl rfl ?_
      refine g_istore X221 hx 40 (hb hby at_38) (l' := #[.val (.int p0), .val (.int p1), .val (.int (1 : Int32)), .val (.int (29 : Int32)), .val (.ref t29), .val (.int (0 : Int32))]) rfl rfl ?_
      refine g_goto X221 hx 56 (hb hby at_40) (by decide) (by decide) ?_
      refine g_aload X221 hx 58 (hb hby at_56) rfl rfl rfl ?_
      refine g_iload_n X221 hx 59 (hb hby at_58) rfl rfl ?_
      refine own_callV X221 hx hZ hown (hw _ (List.mem_of_getElem? (i := 7) rfl)) (hw _ (List.mem_of_getElem? (i := 8) rfl)) (own_nf hZ (hw _ (List.mem_of_getElem? (i := 10) rfl))) (hw _ (List.mem_of_getElem? (i := 10) rfl)) (hw _ (List.mem_of_getElem? (i := 9) rfl)) (by decide) (rm_hi1 l Z a0 hw [] t29 (1 : Int32) h0 n0 Z0 F29) (hw _ (List.mem_of_getElem? (i := 11) rfl)) (hw _ (List.mem_of_getElem? (i := 5) rfl)) e221 0 (by decide) (by decide) (by decide) (by decide) E29 [(.int (1 : Int32))] [] rfl pd_1 rfl 62 rfl (by rw [hml]; rfl) rfl (hb hby at_59) rfl fun T222 v222 L222 X222 hQ222 => ?_
      obtain ⟨rfl, Nq222, e222⟩ := hQ222
      have N222 := Fr.app N221 Nq222
      show own_Go p e below s _ _ _ (T222.setTop (mkF m 62 _ [(.int (own_he (96 : Int32) (1 : Int32)))]))
      refine g_iload X222 hx 64 (hb hby at_62) rfl rfl ?_
      have c223 : (own_he (96 : Int32) (1 : Int32)) = (0 : Int32) := by decide
      refine g_icmpNo X222 hx 67 (hb hby at_64) (own_ii_ne_f c223) rfl ?_
      refine g_iconst X222 hx 68 (hb hby at_67) (1 : Int32) rfl rfl ?_
      refine g_goto X222 hx 72 (hb hby at_68) (by decide) (by decide) ?_
      refine own_retN X222 hx hlk (t := .boolean) hret (by simp) (hb hby at_72) ?_ (by decide) (by decide)
      rw [e222]
      exact ⟨rfl, N222⟩
    · show own_Go p e below s _ _ _ (s₁.setTop (mkF m 17 _ []))
      refine g_iload_n X0 hx 18 (hb hby at_17) rfl rfl ?_
      refine own_callS X0 hx hZ hown (hw _ (List.mem_of_getElem? (i := 0) rfl)) (hw _ (List.mem_of_getElem? (i := 1) rfl)) (by decide) (rm_tag30 l Z a0 hw [] t30 h0 n0 Z0 S30) (hw _ (List.mem_of_getElem? (i := 3) rfl)) (hw _ (List.mem_of_getElem? (i := 2) rfl)) e0 0 (by decide) (by decide) (by decide) (by decide) [(.int (30 : Int32))] [] rfl pd_0 rfl 21 rfl (by rw [hml]; rfl) rfl (hb hby at_18) rfl fun T224 v224 L224 X224 hQ224 => ?_
      obtain ⟨rfl, Nq224, e224⟩ := hQ224
      have N224 := Fr.app N0 Nq224
      show own_Go p e below s _ _ _ (T224.setTop (mkF m 21 _ [(.ref t30)]))
      refine g_astore X224 hx 23 (hb hby at_21) rfl (l' := #[.val (.int p0), .val (.int p1), .val (.int (1 : Int32)), .val (.int (30 : Int32)), .val (.ref t30), .unset]) rfl rfl ?_
      refine g_iload_n X224 hx 24 (hb hby at_23) rfl rfl ?_
      refine g_ifNo X224 hx 27 (hb hby at_24) (own_i0_eq_f (by decide)) rfl ?_
      refine g_iload_n X224 hx 28 (hb hby at_27) rfl rfl ?_
      refine g_bipush X224 hx 30 (hb hby at_28) (18 : Int32) rfl rfl ?_
      refine g_icmpYes X224 hx 37 (hb hby at_30) (own_ii_ge_t (by decide)) (by decide) (by decide) ?_
      refine g_iconst X224 hx 38 (hb hby at_37) (0 : Int32) rfl rfl ?_
      refine g_istore X224 hx 40 (hb hby at_38) (l' := #[.val (.int p0), .val (.int p1), .val (.int (1 : Int32)), .val (.int (30 : Int32)), .val (.ref t30), .val (.int (0 : Int32))]) rfl rfl ?_
      refine g_goto X224 hx 56 (hb hby at_40) (by decide) (by decide) ?_
      refine g_aload X224 hx 58 (hb hby at_56) rfl rfl rfl ?_
      refine g_iload_n X224 hx 59 (hb hby at_58) rfl rfl ?_
      refine own_callV X224 hx hZ hown (hw _ (List.mem_of_getElem? (i := 7) rfl)) (hw _ (List.mem_of_getElem? (i := 8) rfl)) (own_nf hZ (hw _ (List.mem_of_getElem? (i := 10) rfl))) (hw _ (List.mem_of_getElem? (i := 10) rfl)) (hw _ (List.mem_of_getElem? (i := 9) rfl)) (by decide) (rm_hi1 l Z a0 hw [] t30 (0 : Int32) h0 n0 Z0 F30) (hw _ (List.mem_of_getElem? (i := 11) rfl)) (hw _ (List.mem_of_getElem? (i := 5) rfl)) e224 0 (by decide) (by decide) (by decide) (by decide) E30 [(.int (1 : Int32))] [] rfl pd_1 rfl 62 rfl (by rw [hml]; rfl) rfl (hb hby at_59) rfl fun T225 v225 L225 X225 hQ225 => ?_
      obtain ⟨rfl, Nq225, e225⟩ := hQ225
      have N225 := Fr.app N224 Nq225
      show own_Go p e below s _ _ _ (T225.setTop (mkF m 62 _ [(.int (own_he (96 : Int32) (0 : Int32)))]))
      refine g_iload X225 hx 64 (hb hby at_62) rfl rfl ?_
      have c226 : (own_he (96 : Int32) (0 : Int32)) = (0 : Int32) := by decide
      refine g_icmpNo X225 hx 67 (hb hby at_64) (own_ii_ne_f c226) rfl ?_
      refine g_iconst X225 hx 68 (hb hby at_67) (1 : Int32) rfl rfl ?_
      refine g_goto X225 hx 72 (hb hby at_68) (by decide) (by decide) ?_
      refine own_retN X225 hx hlk (t := .boolean) hret (by simp) (hb hby at_72) ?_ (by decide) (by decide)
      rw [e225]
      exact ⟨rfl, N225⟩
    · show own_Go p e below s _ _ _ (s₁.setTop (mkF m 17 _ []))
      refine g_iload_n X0 hx 18 (hb hby at_17) rfl rfl ?_
      refine own_callS X0 hx hZ hown (hw _ (List.mem_of_getElem? (i := 0) rfl)) (hw _ (List.mem_of_getElem? (i := 1) rfl)) (by decide) (rm_tag31 l Z a0 hw [] t31 h0 n0 Z0 S31) (hw _ (List.mem_of_getElem? (i := 3) rfl)) (hw _ (List.mem_of_getElem? (i := 2) rfl)) e0 0 (by decide) (by decide) (by decide) (by decide) [(.int (31 : Int32))] [] rfl pd_0 rfl 21 rfl (by rw [hml]; rfl) rfl (hb hby at_18) rfl fun T227 v227 L227 X227 hQ227 => ?_
      obtain ⟨rfl, Nq227, e227⟩ := hQ227
      have N227 := Fr.app N0 Nq227
      show own_Go p e below s _ _ _ (T227.setTop (mkF m 21 _ [(.ref t31)]))
      refine g_astore X227 hx 23 (hb hby at_21) rfl (l' := #[.val (.int p0), .val (.int p1), .val (.int (1 : Int32)), .val (.int (31 : Int32)), .val (.ref t31), .unset]) rfl rfl ?_
      refine g_iload_n X227 hx 24 (hb hby at_23) rfl rfl ?_
      refine g_ifNo X227 hx 27 (hb hby at_24) (own_i0_eq_f (by decide)) rfl ?_
      refine g_iload_n X227 hx 28 (hb hby at_27) rfl rfl ?_
      refine g_bipush X227 hx 30 (hb hby at_28) (18 : Int32) rfl rfl ?_
      refine g_icmpYes X227 hx 37 (hb hby at_30) (own_ii_ge_t (by decide)) (by decide) (by decide) ?_
      refine g_iconst X227 hx 38 (hb hby at_37) (0 : Int32) rfl rfl ?_
      refine g_istore X227 hx 40 (hb hby at_38) (l' := #[.val (.int p0), .val (.int p1), .val (.int (1 : Int32)), .val (.int (31 : Int32)), .val (.ref t31), .val (.int (0 : Int32))]) rfl rfl ?_
      refine g_goto X227 hx 56 (hb hby at_40) (by decide) (by decide) ?_
      refine g_aload X227 hx 58 (hb hby at_56) rfl rfl rfl ?_
      refine g_iload_n X227 hx 59 (hb hby at_58) rfl rfl ?_
      refine own_callV X227 hx hZ hown (hw _ (List.mem_of_getElem? (i := 7) rfl)) (hw _ (List.mem_of_getElem? (i := 8) rfl)) (own_nf hZ (hw _ (List.mem_of_getElem? (i := 10) rfl))) (hw _ (List.mem_of_getElem? (i := 10) rfl)) (hw _ (List.mem_of_getElem? (i := 9) rfl)) (by decide) (rm_hi1 l Z a0 hw [] t31 (5 : Int32) h0 n0 Z0 F31) (hw _ (List.mem_of_getElem? (i := 11) rfl)) (hw _ (List.mem_of_getElem? (i := 5) rfl)) e227 0 (by decide) (by decide) (by decide) (by decide) E31 [(.int (1 : Int32))] [] rfl pd_1 rfl 62 rfl (by rw [hml]; rfl) rfl (hb hby at_59) rfl fun T228 v228 L228 X228 hQ228 => ?_
      obtain ⟨rfl, Nq228, e228⟩ := hQ228
      have N228 := Fr.app N227 Nq228
      show own_Go p e below s _ _ _ (T228.setTop (mkF m 62 _ [(.int (own_he (96 : Int32) (5 : Int32)))]))
      refine g_iload X228 hx 64 (hb hby at_62) rfl rfl ?_
      have c229 : (own_he (96 : Int32) (5 : Int32)) = (0 : Int32) := by decide
      refine g_icmpNo X228 hx 67 (hb hby at_64) (own_ii_ne_f c229) rfl ?_
      refine g_iconst X228 hx 68 (hb hby at_67) (1 : Int32) rfl rfl ?_
      refine g_goto X228 hx 72 (hb hby at_68) (by decide) (by decide) ?_
      refine own_retN X228 hx hlk (t := .boolean) hret (by simp) (hb hby at_72) ?_ (by decide) (by decide)
      rw [e228]
      exact ⟨rfl, N228⟩
set_option maxRecDepth 65536 in
set_option maxHeartbeats 40000000 in
theorem comes_1 {Post : Tables → Env → Array Value → State → Outcome → State → Prop} (hpost : ∀ tb e args s v u, (limb_1_1.after args s (.returned v) u = true ∧ limb_1_2.after args s (.returned v) u = true ∧ True) → FrameEnd s (.returned v) u (Jvm.fieldLocs frame_1_writes args s ++ Jvm.arrayLocs frame_1_arrays args s ++ Jvm.staticLocs frame_1_statics s) 0 0 → Post tb e args s (.returned v) u) :
    ArmFor flags0 classFile x code maxLocals ret World_1 tables_1 room_1 Calls_1 rest_1 Pre_1 Post := by
  intro l hfl _ _ p e ha hc hk s m args below hf hA hF happ hP
  obtain ⟨hcalls, hrest, hpre⟩ := hP
  obtain ⟨-, -, -, hnamed, -, -, -, hat⟩ := (Spec.applies_iff hf).mp happ
  obtain ⟨hg, hn⟩ := and_e (Cond.before_iff.mp (show (Jvm.Cond.and given_1 narrow_1).before args s = true from hpre))
  obtain ⟨gc, q0⟩ := and_e hg
  obtain ⟨ga0, q1⟩ := and_e q0
  have ga1 := q1
  obtain ⟨w0, w1, rfl⟩ : ∃ w0 w1 : Value, args = #[w0, w1] := by
    have hs : args.size = 2 := by simpa [Cond.value, given_1] using gc
    obtain ⟨L⟩ := args
    match L, hs with
    | [w0, w1], _ => exact ⟨w0, w1, rfl⟩
  have hw := fun d (hd : d ∈ tables_1) => atoms_spec (ws := Jvm.Cond.code x code maxLocals ret :: tables_1) hat d (List.mem_cons_of_mem _ hd)
  have hfit : Fit s := fun {y c} hc i hi => by
    obtain ⟨ha, rfl⟩ := Array.getElem?_eq_some_iff.mp hc
    have q := List.all_eq_true.mp ((Array.all_eq_true_iff_forall_mem.mp hF) _ (Array.getElem_mem ha)) i (List.mem_range.mpr hi)
    simpa [Array.getElem?_eq_getElem hi] using q
  obtain ⟨i0, ei0⟩ := is_v ga0
  obtain rfl : w0 = (.int i0) := Option.some.inj ei0
  obtain ⟨i1, ei1⟩ := is_v ga1
  obtain rfl : w1 = (.int i1) := Option.some.inj ei1
  obtain ⟨nn0, nr0⟩ := and_e hn
  obtain ⟨nn1, nr1⟩ := and_e nr0
  obtain ⟨nn2, nr2⟩ := and_e nr1
  obtain ⟨nn3, nr3⟩ := and_e nr2
  obtain ⟨nn4, nr4⟩ := and_e nr3
  obtain ⟨nn5, nr5⟩ := and_e nr4
  obtain ⟨nn6, nr6⟩ := and_e nr5
  obtain ⟨nn7, nr7⟩ := and_e nr6
  obtain ⟨nn8, nr8⟩ := and_e nr7
  obtain ⟨nn9, nr9⟩ := and_e nr8
  obtain ⟨nn10, nr10⟩ := and_e nr9
  obtain ⟨nn11, nr11⟩ := and_e nr10
  obtain ⟨nn12, nr12⟩ := and_e nr11
  obtain ⟨nn13, nr13⟩ := and_e nr12
  obtain ⟨nn14, nr14⟩ := and_e nr13
  obtain ⟨nn15, nr15⟩ := and_e nr14
  obtain ⟨nn16, nr16⟩ := and_e nr15
  obtain ⟨nn17, nr17⟩ := and_e nr16
  obtain ⟨nn18, nr18⟩ := and_e nr17
  obtain ⟨nn19, nr19⟩ := and_e nr18
  obtain ⟨nn20, nr20⟩ := and_e nr19
  obtain ⟨nn21, nr21⟩ := and_e nr20
  obtain ⟨nn22, nr22⟩ := and_e nr21
  obtain ⟨nn23, nr23⟩ := and_e nr22
  obtain ⟨nn24, nr24⟩ := and_e nr23
  obtain ⟨nn25, nr25⟩ := and_e nr24
  obtain ⟨nn26, nr26⟩ := and_e nr25
  obtain ⟨nn27, nr27⟩ := and_e nr26
  obtain ⟨nn28, nr28⟩ := and_e nr27
  obtain ⟨nn29, nr29⟩ := and_e nr28
  obtain ⟨nn30, nr30⟩ := and_e nr29
  obtain ⟨nn31, nr31⟩ := and_e nr30
  obtain ⟨nn32, nr32⟩ := and_e nr31
  obtain ⟨nn33, nr33⟩ := and_e nr32
  obtain ⟨nn34, nr34⟩ := and_e nr33
  obtain ⟨nn35, nr35⟩ := and_e nr34
  obtain ⟨nn36, nr36⟩ := and_e nr35
  obtain ⟨nn37, nr37⟩ := and_e nr36
  obtain ⟨nn38, nr38⟩ := and_e nr37
  obtain ⟨nn39, nr39⟩ := and_e nr38
  obtain ⟨nn40, nr40⟩ := and_e nr39
  obtain ⟨nn41, nr41⟩ := and_e nr40
  obtain ⟨nn42, nr42⟩ := and_e nr41
  obtain ⟨nn43, nr43⟩ := and_e nr42
  obtain ⟨nn44, nr44⟩ := and_e nr43
  obtain ⟨nn45, nr45⟩ := and_e nr44
  obtain ⟨nn46, nr46⟩ := and_e nr45
  obtain ⟨nn47, nr47⟩ := and_e nr46
  obtain ⟨nn48, nr48⟩ := and_e nr47
  obtain ⟨nn49, nr49⟩ := and_e nr48
  obtain ⟨nn50, nr50⟩ := and_e nr49
  obtain ⟨nn51, nr51⟩ := and_e nr50
  obtain ⟨nn52, nr52⟩ := and_e nr51
  obtain ⟨nn53, nr53⟩ := and_e nr52
  obtain ⟨nn54, nr54⟩ := and_e nr53
  obtain ⟨nn55, nr55⟩ := and_e nr54
  obtain ⟨nn56, nr56⟩ := and_e nr55
  obtain ⟨nn57, nr57⟩ := and_e nr56
  obtain ⟨nn58, nr58⟩ := and_e nr57
  obtain ⟨nn59, nr59⟩ := and_e nr58
  obtain ⟨nn60, nr60⟩ := and_e nr59
  obtain ⟨nn61, nr61⟩ := and_e nr60
  obtain ⟨nn62, nr62⟩ := and_e nr61
  have nn63 := nr62
  obtain ⟨t0, v_0⟩ := exa_v nn0
  obtain ⟨t1, v_1⟩ := exa_v nn22
  obtain ⟨t2, v_2⟩ := exa_v nn26
  obtain ⟨t3, v_3⟩ := exa_v nn14
  obtain ⟨t4, v_4⟩ := exa_v nn46
  obtain ⟨t5, v_5⟩ := exa_v nn20
  obtain ⟨t6, v_6⟩ := exa_v nn10
  obtain ⟨t7, v_7⟩ := exa_v nn32
  obtain ⟨t8, v_8⟩ := exa_v nn6
  obtain ⟨t9, v_9⟩ := exa_v nn42
  obtain ⟨t10, v_10⟩ := exa_v nn34
  obtain ⟨t11, v_11⟩ := exa_v nn38
  obtain ⟨t12, v_12⟩ := exa_v nn4
  obtain ⟨t13, v_13⟩ := exa_v nn8
  obtain ⟨t14, v_14⟩ := exa_v nn2
  obtain ⟨t15, v_15⟩ := exa_v nn52
  obtain ⟨t16, v_16⟩ := exa_v nn40
  obtain ⟨t17, v_17⟩ := exa_v nn18
  obtain ⟨t18, v_18⟩ := exa_v nn30
  obtain ⟨t19, v_19⟩ := exa_v nn58
  obtain ⟨t20, v_20⟩ := exa_v nn50
  obtain ⟨t21, v_21⟩ := exa_v nn44
  obtain ⟨t22, v_22⟩ := exa_v nn62
  obtain ⟨t23, v_23⟩ := exa_v nn12
  obtain ⟨t24, v_24⟩ := exa_v nn28
  obtain ⟨t25, v_25⟩ := exa_v nn60
  obtain ⟨t26, v_26⟩ := exa_v nn54
  obtain ⟨t27, v_27⟩ := exa_v nn48
  obtain ⟨t28, v_28⟩ := exa_v nn56
  obtain ⟨t29, v_29⟩ := exa_v nn36
  obtain ⟨t30, v_30⟩ := exa_v nn24
  obtain ⟨t31, v_31⟩ := exa_v nn16
  obtain ⟨n, o, h1, h2, h3, _, L, rfl, ⟨rfl, N⟩, hq⟩ := rm_law l s _ hw tables_1 i0 i1 t0 t1 t2 t3 t4 t5 t6 t7 t8 t9 t10 t11 t12 t13 t14 t15 t16 t17 t18 t19 t20 t21 t22 t23 t24 t25 t26 t27 t28 t29 t30 t31 s.heap s.heap.size (Nat.le_refl _) (Sta.start v_0 (Or.inr ⟨(hw _ (List.mem_of_getElem? (i := 5) rfl)), (hw _ (List.mem_of_getElem? (i := 6) rfl))⟩)) (Exa.start v_0 nn0) (own_fld_int v_0 nn1) (Sta.start v_1 (Or.inr ⟨(hw _ (List.mem_of_getElem? (i := 5) rfl)), (hw _ (List.mem_of_getElem? (i := 35) rfl))⟩)) (Exa.start v_1 nn22) (own_fld_int v_1 nn23) (Sta.start v_2 (Or.inr ⟨(hw _ (List.mem_of_getElem? (i := 5) rfl)), (hw _ (List.mem_of_getElem? (i := 39) rfl))⟩)) (Exa.start v_2 nn26) (own_fld_int v_2 nn27) (Sta.start v_3 (Or.inr ⟨(hw _ (List.mem_of_getElem? (i := 5) rfl)), (hw _ (List.mem_of_getElem? (i := 27) rfl))⟩)) (Exa.start v_3 nn14) (own_fld_int v_3 nn15) (Sta.start v_4 (Or.inr ⟨(hw _ (List.mem_of_getElem? (i := 5) rfl)), (hw _ (List.mem_of_getElem? (i := 59) rfl))⟩)) (Exa.start v_4 nn46) (own_fld_int v_4 nn47) (Sta.start v_5 (Or.inr ⟨(hw _ (List.mem_of_getElem? (i := 5) rfl)), (hw _ (List.mem_of_getElem? (i := 33) rfl))⟩)) (Exa.start v_5 nn20) (own_fld_int v_5 nn21) (Sta.start v_6 (Or.inr ⟨(hw _ (List.mem_of_getElem? (i := 5) rfl)), (hw _ (List.mem_of_getElem? (i := 23) rfl))⟩)) (Exa.start v_6 nn10) (own_fld_int v_6 nn11) (Sta.start v_7 (Or.inr ⟨(hw _ (List.mem_of_getElem? (i := 5) rfl)), (hw _ (List.mem_of_getElem? (i := 45) rfl))⟩)) (Exa.start v_7 nn32) (own_fld_int v_7 nn33) (Sta.start v_8 (Or.inr ⟨(hw _ (List.mem_of_getElem? (i := 5) rfl)), (hw _ (List.mem_of_getElem? (i := 19) rfl))⟩)) (Exa.start v_8 nn6) (own_fld_int v_8 nn7) (Sta.start v_9 (Or.inr ⟨(hw _ (List.mem_of_getElem? (i := 5) rfl)), (hw _ (List.mem_of_getElem? (i := 55) rfl))⟩)) (Exa.start v_9 nn42) (own_fld_int v_9 nn43) (Sta.start v_10 (Or.inr ⟨(hw _ (List.mem_of_getElem? (i := 5) rfl)), (hw _ (List.mem_of_getElem? (i := 47) rfl))⟩)) (Exa.start v_10 nn34) (own_fld_int v_10 nn35) (Sta.start v_11 (Or.inr ⟨(hw _ (List.mem_of_getElem? (i := 5) rfl)), (hw _ (List.mem_of_getElem? (i := 51) rfl))⟩)) (Exa.start v_11 nn38) (own_fld_int v_11 nn39) (Sta.start v_12 (Or.inr ⟨(hw _ (List.mem_of_getElem? (i := 5) rfl)), (hw _ (List.mem_of_getElem? (i := 17) rfl))⟩)) (Exa.start v_12 nn4) (own_fld_int v_12 nn5) (Sta.start v_13 (Or.inr ⟨(hw _ (List.mem_of_getElem? (i := 5) rfl)), (hw _ (List.mem_of_getElem? (i := 21) rfl))⟩)) (Exa.start v_13 nn8) (own_fld_int v_13 nn9) (Sta.start v_14 (Or.inr ⟨(hw _ (List.mem_of_getElem? (i := 5) rfl)), (hw _ (List.mem_of_getElem? (i := 15) rfl))⟩)) (Exa.start v_14 nn2) (own_fld_int v_14 nn3) (Sta.start v_15 (Or.inr ⟨(hw _ (List.mem_of_getElem? (i := 5) rfl)), (hw _ (List.mem_of_getElem? (i := 65) rfl))⟩)) (Exa.start v_15 nn52) (own_fld_int v_15 nn53) (Sta.start v_16 (Or.inr ⟨(hw _ (List.mem_of_getElem? (i := 5) rfl)), (hw _ (List.mem_of_getElem? (i := 53) rfl))⟩)) (Exa.start v_16 nn40) (own_fld_int v_16 nn41) (Sta.start v_17 (Or.inr ⟨(hw _ (List.mem_of_getElem? (i := 5) rfl)), (hw _ (List.mem_of_getElem? (i := 31) rfl))⟩)) (Exa.start v_17 nn18) (own_fld_int v_17 nn19) (Sta.start v_18 (Or.inr ⟨(hw _ (List.mem_of_getElem? (i := 5) rfl)), (hw _ (List.mem_of_getElem? (i := 43) rfl))⟩)) (Exa.start v_18 nn30) (own_fld_int v_18 nn31) (Sta.start v_19 (Or.inr ⟨(hw _ (List.mem_of_getElem? (i := 5) rfl)), (hw _ (List.mem_of_getElem? (i := 71) rfl))⟩)) (Exa.start v_19 nn58) (own_fld_int v_19 nn59) (Sta.start v_20 (Or.inr ⟨(hw _ (List.mem_of_getElem? (i := 5) rfl)), (hw _ (List.mem_of_getElem? (i := 63) rfl))⟩)) (Exa.start v_20 nn50) (own_fld_int v_20 nn51) (Sta.start v_21 (Or.inr ⟨(hw _ (List.mem_of_getElem? (i := 5) rfl)), (hw _ (List.mem_of_getElem? (i := 57) rfl))⟩)) (Exa.start v_21 nn44) (own_fld_int v_21 nn45) (Sta.start v_22 (Or.inr ⟨(hw _ (List.mem_of_getElem? (i := 5) rfl)), (hw _ (List.mem_of_getElem? (i := 75) rfl))⟩)) (Exa.start v_22 nn62) (own_fld_int v_22 nn63) (Sta.start v_23 (Or.inr ⟨(hw _ (List.mem_of_getElem? (i := 5) rfl)), (hw _ (List.mem_of_getElem? (i := 25) rfl))⟩)) (Exa.start v_23 nn12) (own_fld_int v_23 nn13) (Sta.start v_24 (Or.inr ⟨(hw _ (List.mem_of_getElem? (i := 5) rfl)), (hw _ (List.mem_of_getElem? (i := 41) rfl))⟩)) (Exa.start v_24 nn28) (own_fld_int v_24 nn29) (Sta.start v_25 (Or.inr ⟨(hw _ (List.mem_of_getElem? (i := 5) rfl)), (hw _ (List.mem_of_getElem? (i := 73) rfl))⟩)) (Exa.start v_25 nn60) (own_fld_int v_25 nn61) (Sta.start v_26 (Or.inr ⟨(hw _ (List.mem_of_getElem? (i := 5) rfl)), (hw _ (List.mem_of_getElem? (i := 67) rfl))⟩)) (Exa.start v_26 nn54) (own_fld_int v_26 nn55) (Sta.start v_27 (Or.inr ⟨(hw _ (List.mem_of_getElem? (i := 5) rfl)), (hw _ (List.mem_of_getElem? (i := 61) rfl))⟩)) (Exa.start v_27 nn48) (own_fld_int v_27 nn49) (Sta.start v_28 (Or.inr ⟨(hw _ (List.mem_of_getElem? (i := 5) rfl)), (hw _ (List.mem_of_getElem? (i := 69) rfl))⟩)) (Exa.start v_28 nn56) (own_fld_int v_28 nn57) (Sta.start v_29 (Or.inr ⟨(hw _ (List.mem_of_getElem? (i := 5) rfl)), (hw _ (List.mem_of_getElem? (i := 49) rfl))⟩)) (Exa.start v_29 nn36) (own_fld_int v_29 nn37) (Sta.start v_30 (Or.inr ⟨(hw _ (List.mem_of_getElem? (i := 5) rfl)), (hw _ (List.mem_of_getElem? (i := 37) rfl))⟩)) (Exa.start v_30 nn24) (own_fld_int v_30 nn25) (Sta.start v_31 (Or.inr ⟨(hw _ (List.mem_of_getElem? (i := 5) rfl)), (hw _ (List.mem_of_getElem? (i := 29) rfl))⟩)) (Exa.start v_31 nn16) (own_fld_int v_31 nn17) p e ha hc hk s m _ below hf ((Spec.applies_iff_loose hf).mp happ).1 ⟨rfl, State.Warmed39.refl s, rfl⟩ trivial
  refine ⟨n, _, h1, h2, h3, hpost _ _ _ _ _ _ ⟨Cond.after_iff.mpr rfl, Cond.after_iff.mpr (eq_i res_at (Term.int_eval (1)) rfl), trivial⟩ ⟨hq.1, hq.2.1, (hq.2.2.sift fun y hy => Or.inr (N y hy)).mono (by decide) (by decide)⟩⟩
theorem main_1_1 : Claimed_1_1 := comes_1 fun _ _ _ _ _ _ h hF => ⟨h.1, hF⟩
theorem main_1_2 : Claimed_1_2 := comes_1 fun _ _ _ _ _ _ h hF => ⟨h.2.1, hF⟩
end Jvm.Pilot.@@N@@
namespace Jvm.Pilot.@@N@@
open Jvm Jvm.ClassFile Sem Op Lib Jvm.Free Jvm.Stand Jvm.Pilot.@@N@@.Jvm.D
/-! MADE BY PROGRAM (witnessworld.py) out of the Statement's table words and the real class files: 12 classes; the members and pool entries that the words name. The judged class is class 1, her method 2. -/
namespace start1
open Jvm.ClassFile
def u (s : String) : CpInfo := .utf8 (stringToUtf16 s)
/-- a pool by its gaps: so many unusable entries, then the entry; so many at the end -/
def gap : Nat → List CpInfo → List CpInfo
  | 0, r => r
  | n + 1, r => .unusable :: gap n r
def poolList (es : List (Nat × CpInfo)) (last : Nat) : List CpInfo := es.foldr (fun e r => gap e.1 (e.2 :: r)) (gap last [])
def pool (es : List (Nat × CpInfo)) (last : Nat) : Array CpInfo := ⟨poolList es last⟩
def fileOf (pool : Array CpInfo) (this : Nat) (attrs : Array Attribute := #[]) (ms : Array MethodInfo := #[]) (fl : Nat := 33) (sup : Nat := 0) (ifs : Array Nat := #[]) (fds : Array FieldInfo := #[]) : ClassFile where
  minorVersion := 0
  majorVersion := 65
  constantPool := pool
  accessFlags := fl
  thisClass := this
  superClass := sup
  interfaces := ifs
  fields := fds
  methods := ms
  attributes := attrs
def plain (name : String) (sup : Option ClassId) : Class where
  name := name
  kind := .ordinary
  loader := none
  accessFlags := 33
  super := sup
  interfaces := #[]
  cf := none
  fields := #[]
  methods := #[]
  instanceTypes := #[]
  staticTypes := #[]
  resolved := #[]
  callSites := []
  init := .initialized
  statics := none
  mirror := none

def pool0 : Array CpInfo := pool [(5, u "<init>"), (0, u "()V"), (1, .class_ 10), (1, u "java/lang/Object")] 113

def k0m0 : Method := { name := "<init>", desc := "()V", sig := { parameters := [], returnType := none }, accessFlags := 1, code := none }
/-- java/lang/Object -/
def k0 : Class := { plain "java/lang/Object" none with
  accessFlags := 33
  interfaces := #[]
  cf := some (fileOf pool0 8 #[] #[{ accessFlags := 1, nameIndex := 5, descriptorIndex := 6, attributes := #[] }] 33 0 #[] #[])
  fields := #[]
  methods := #[k0m0]
  instanceTypes := #[]
  staticTypes := #[]
  resolved := Array.replicate 124 none
  statics := none }

def pool1 : Array CpInfo := pool [(2, .class_ 4), (1, u "java/lang/Object"), (0, u "<init>"), (0, u "()V"), (0, .fieldref 8 9), (0, .class_ 10), (0, .nameAndType 11 12), (0, u "com/example/entitygate/entitygate/HtmlTag"), (0, u "DD"), (0, u "Lcom/example/entitygate/entitygate/HtmlTag;"), (0, .fieldref 8 14), (0, .nameAndType 15 12), (0, u "DT"), (0, .fieldref 8 17), (0, .nameAndType 18 12), (0, u "LI"), (0, .fieldref 8 20), (0, .nameAndType 21 12), (0, u "OPTGROUP"), (0, .fieldref 8 23), (0, .nameAndType 24 12), (0, u "OPTION"), (0, .fieldref 8 26), (0, .nameAndType 27 12), (0, u "P"), (0, .fieldref 8 29), (0, .nameAndType 30 12), (0, u "RB"), (0, .fieldref 8 32), (0, .nameAndType 33 12), (0, u "RP"), (0, .fieldref 8 35), (0, .nameAndType 36 12), (0, u "RT"), (0, .fieldref 8 38), (0, .nameAndType 39 12), (0, u "RTC"), (0, .fieldref 8 41), (0, .nameAndType 42 12), (0, u "CAPTION"), (0, .fieldref 8 44), (0, .nameAndType 45 12), (0, u "COLGROUP"), (0, .fieldref 8 47), (0, .nameAndType 48 12), (0, u "TBODY"), (0, .fieldref 8 50), (0, .nameAndType 51 12), (0, u "TD"), (0, .fieldref 8 53), (0, .nameAndType 54 12), (0, u "TFOOT"), (0, .fieldref 8 56), (0, .nameAndType 57 12), (0, u "TH"), (0, .fieldref 8 59), (0, .nameAndType 60 12), (0, u "THEAD"), (0, .fieldref 8 62), (0, .nameAndType 63 12), (0, u "TR"), (0, .fieldref 8 65), (0, .nameAndType 66 12), (0, u "A"), (0, .fieldref 8 68), (0, .nameAndType 69 12), (0, u "ADDRESS"), (0, .fieldref 8 71), (0, .nameAndType 72 12), (0, u "ANNOTATION_XML"), (0, .fieldref 8 74), (0, .nameAndType 75 12), (0, u "APPLET"), (0, .fieldref 8 77), (0, .nameAndType 78 12), (0, u "AREA"), (0, .fieldref 8 80), (0, .nameAndType 81 12), (0, u "H1"), (0, .fieldref 8 83), (0, .nameAndType 84 12), (0, u "IFRAME"), (0, .fieldref 8 86), (0, .nameAndType 87 12), (0, u "TABLE"), (0, .fieldref 8 89), (0, .nameAndType 90 12), (0, u "TEMPLATE"), (0, .fieldref 8 92), (0, .nameAndType 93 12), (0, u "HTML"), (0, .fieldref 8 95), (0, .nameAndType 96 12), (0, u "BODY"), (0, .fieldref 8 98), (0, .nameAndType 99 12), (0, u "SELECT"), (0, .fieldref 8 101), (0, .nameAndType 102 12), (0, u "SPAN"), (0, .fieldref 8 104), (0, .nameAndType 105 12), (0, u "BR"), (0, .methodref 107 108), (0, .class_ 109), (0, .nameAndType 110 111), (0, u "com/example/entitygate/entitygate/HtmlTagHasImpliedEndPinLaw"), (0, u "tag"), (0, u "(I)Lcom/example/entitygate/entitygate/HtmlTag;"), (0, .methodref 8 113), (0, .nameAndType 114 115), (0, u "hasImpliedEnd"), (0, u "(Z)Z"), (3, u "law"), (0, u "(II)Z")] 2

def k1m0 : Method := { name := "<init>", desc := "()V", sig := { parameters := [], returnType := none }, accessFlags := 2, code := none }
def k1c1 : Code := { maxStack := 1, maxLocals := 1, code := method_2_code, exceptionTable := #[], attributes := #[] }
def k1m1 : Method := { name := "tag", desc := "(I)Lcom/example/entitygate/entitygate/HtmlTag;", sig := { parameters := [.int], returnType := some (.object "com/example/entitygate/entitygate/HtmlTag") }, accessFlags := 10, code := some k1c1 }
def k1c2 : Code := { maxStack := 2, maxLocals := 6, code := code, exceptionTable := #[], attributes := #[] }
def k1m2 : Method := { name := "law", desc := "(II)Z", sig := { parameters := [.int, .int], returnType := some .boolean }, accessFlags := 9, code := some k1c2 }
/-- com/example/entitygate/entitygate/HtmlTagHasImpliedEndPinLaw -/
def k1 : Class := { plain "com/example/entitygate/entitygate/HtmlTagHasImpliedEndPinLaw" (some 0) with
  accessFlags := 49
  interfaces := #[]
  cf := some (fileOf pool1 107 #[] #[{ accessFlags := 2, nameIndex := 5, descriptorIndex := 6, attributes := #[] }, { accessFlags := 10, nameIndex := 110, descriptorIndex := 111, attributes := #[] }, { accessFlags := 9, nameIndex := 119, descriptorIndex := 120, attributes := #[] }] 49 2 #[] #[])
  fields := #[]
  methods := #[k1m0, k1m1, k1m2]
  instanceTypes := #[]
  staticTypes := #[]
  resolved := Array.replicate 123 none
  statics := none }

def pool2 : Array CpInfo := pool [(1, .class_ 2), (0, u "java/lang/constant/Constable"), (0, .class_ 4), (0, u "java/lang/Object")] 6

/-- java/lang/constant/Constable -/
def k2 : Class := { plain "java/lang/constant/Constable" (some 0) with
  accessFlags := 1537
  interfaces := #[]
  cf := some (fileOf pool2 1 #[] #[] 1537 3 #[] #[])
  fields := #[]
  methods := #[]
  instanceTypes := #[]
  staticTypes := #[]
  resolved := Array.replicate 11 none
  statics := none }

def pool3 : Array CpInfo := pool [(1, .class_ 2), (0, u "java/lang/Comparable"), (0, .class_ 4), (0, u "java/lang/Object")] 7

/-- java/lang/Comparable -/
def k3 : Class := { plain "java/lang/Comparable" (some 0) with
  accessFlags := 1537
  interfaces := #[]
  cf := some (fileOf pool3 1 #[] #[] 1537 3 #[] #[])
  fields := #[]
  methods := #[]
  instanceTypes := #[]
  staticTypes := #[]
  resolved := Array.replicate 12 none
  statics := none }

def pool4 : Array CpInfo := pool [(1, .class_ 2), (0, u "java/io/Serializable"), (0, .class_ 4), (0, u "java/lang/Object")] 2

/-- java/io/Serializable -/
def k4 : Class := { plain "java/io/Serializable" (some 0) with
  accessFlags := 1537
  interfaces := #[]
  cf := some (fileOf pool4 1 #[] #[] 1537 3 #[] #[])
  fields := #[]
  methods := #[]
  instanceTypes := #[]
  staticTypes := #[]
  resolved := Array.replicate 7 none
  statics := none }

def pool5 : Array CpInfo := pool [(2, .class_ 4), (1, u "java/lang/Enum"), (0, u "name"), (0, u "Ljava/lang/String;"), (2, u "ordinal"), (0, u "I"), (1, .class_ 14), (1, u "java/lang/Object"), (4, u "hash"), (86, .class_ 108), (1, u "java/lang/Enum$EnumDesc"), (2, .class_ 112), (0, u "java/lang/constant/Constable"), (0, .class_ 114), (0, u "java/lang/Comparable"), (0, .class_ 116), (0, u "java/io/Serializable")] 87

/-- java/lang/Enum -/
def k5 : Class := { plain "java/lang/Enum" (some 0) with
  accessFlags := 1057
  interfaces := #[2, 3, 4]
  cf := some (fileOf pool5 2 #[.nestMembers #[106]] #[] 1057 12 #[111, 113, 115] #[{ accessFlags := 18, nameIndex := 5, descriptorIndex := 6, attributes := #[] }, { accessFlags := 18, nameIndex := 9, descriptorIndex := 10, attributes := #[] }, { accessFlags := 2, nameIndex := 19, descriptorIndex := 10, attributes := #[] }])
  fields := #[{ name := "name", type := (.object "java/lang/String"), accessFlags := 18, slot := 0, constantValue := 0 }, { name := "ordinal", type := .int, accessFlags := 18, slot := 1, constantValue := 0 }, { name := "hash", type := .int, accessFlags := 2, slot := 2, constantValue := 0 }]
  methods := #[]
  instanceTypes := #[(.object "java/lang/String"), .int, .int]
  staticTypes := #[]
  resolved := Array.replicate 204 none
  statics := none }

def pool6 : Array CpInfo := pool [(1, .class_ 2), (0, u "com/example/entitygate/entitygate/HtmlTag"), (2, u "A"), (0, u "Lcom/example/entitygate/entitygate/HtmlTag;"), (2, u "ADDRESS"), (2, u "ANNOTATION_XML"), (2, u "APPLET"), (2, u "AREA"), (2, u "ARTICLE"), (2, u "ASIDE"), (2, u "B"), (2, u "BASE"), (2, u "BASEFONT"), (2, u "BGSOUND"), (2, u "BIG"), (2, u "BLOCKQUOTE"), (2, u "BODY"), (2, u "BR"), (2, u "BUTTON"), (2, u "CAPTION"), (2, u "CENTER"), (2, u "CODE"), (2, u "COL"), (2, u "COLGROUP"), (2, u "DD"), (2, u "DESC"), (2, u "DETAILS"), (2, u "DIALOG"), (2, u "DIR"), (2, u "DIV"), (2, u "DL"), (2, u "DT"), (2, u "EM"), (2, u "EMBED"), (2, u "FIELDSET"), (2, u "FIGCAPTION"), (2, u "FIGURE"), (2, u "FONT"), (2, u "FOOTER"), (2, u "FOREIGN_OBJECT"), (2, u "FORM"), (2, u "FRAME"), (2, u "FRAMESET"), (2, u "H1"), (2, u "H2"), (2, u "H3"), (2, u "H4"), (2, u "H5"), (2, u "H6"), (2, u "HEAD"), (2, u "HEADER"), (2, u "HGROUP"), (2, u "HR"), (2, u "HTML"), (2, u "I"), (2, u "IFRAME"), (2, u "IMAGE"), (2, u "IMG"), (2, u "INPUT"), (2, u "KEYGEN"), (2, u "LI"), (2, u "LINK"), (2, u "LISTING"), (2, u "MAIN"), (2, u "MALIGNMARK"), (2, u "MARQUEE"), (2, u "MATH"), (2, u "MENU"), (2, u "META"), (2, u "MGLYPH"), (2, u "MI"), (2, u "MN"), (2, u "MO"), (2, u "MS"), (2, u "MTEXT"), (2, u "NAV"), (2, u "NOBR"), (2, u "NOEMBED"), (2, u "NOFRAMES"), (2, u "NOSCRIPT"), (2, u "OBJECT"), (2, u "OL"), (2, u "OPTGROUP"), (2, u "OPTION"), (2, u "P"), (2, u "PARAM"), (2, u "PLAINTEXT"), (2, u "PRE"), (2, u "RB"), (2, u "RP"), (2, u "RT"), (2, u "RTC"), (2, u "RUBY"), (2, u "S"), (2, u "SCRIPT"), (2, u "SEARCH"), (2, u "SECTION"), (2, u "SELECT"), (2, u "SMALL"), (2, u "SOURCE"), (2, u "SPAN"), (2, u "STRIKE"), (2, u "STRONG"), (2, u "STYLE"), (2, u "SUB"), (2, u "SUMMARY"), (2, u "SUP"), (2, u "SVG"), (2, u "TABLE"), (2, u "TBODY"), (2, u "TD"), (2, u "TEMPLATE"), (2, u "TEXTAREA"), (2, u "TFOOT"), (2, u "TH"), (2, u "THEAD"), (2, u "TITLE"), (2, u "TR"), (2, u "TRACK"), (2, u "TT"), (2, u "U"), (2, u "UL"), (2, u "VAR"), (2, u "WBR"), (2, u "XMP"), (2, u "$VALUES"), (0, u "[Lcom/example/entitygate/entitygate/HtmlTag;"), (6, .class_ 382), (1, u "java/lang/Enum"), (8, u "name"), (0, u "Ljava/lang/String;"), (0, .fieldref 1 394), (0, .nameAndType 395 159), (0, u "categories"), (2, u "BY_NAME"), (0, u "Ljava/util/Map;"), (6, .class_ 407), (0, u "com/example/entitygate/entitygate/HtmlTag$Category"), (401, u "hasImpliedEnd"), (0, u "(Z)Z")] 8

def k6c0 : Code := { maxStack := 2, maxLocals := 3, code := prog_23_method_10_code, exceptionTable := #[], attributes := #[] }
def k6m0 : Method := { name := "hasImpliedEnd", desc := "(Z)Z", sig := { parameters := [.boolean], returnType := some .boolean }, accessFlags := 0, code := some k6c0 }
/-- com/example/entitygate/entitygate/HtmlTag -/
def k6 : Class := { plain "com/example/entitygate/entitygate/HtmlTag" (some 5) with
  accessFlags := 16432
  interfaces := #[]
  cf := some (fileOf pool6 1 #[.nestMembers #[406]] #[{ accessFlags := 0, nameIndex := 809, descriptorIndex := 810, attributes := #[] }] 16432 380 #[] #[{ accessFlags := 16409, nameIndex := 5, descriptorIndex := 6, attributes := #[] }, { accessFlags := 16409, nameIndex := 9, descriptorIndex := 6, attributes := #[] }, { accessFlags := 16409, nameIndex := 12, descriptorIndex := 6, attributes := #[] }, { accessFlags := 16409, nameIndex := 15, descriptorIndex := 6, attributes := #[] }, { accessFlags := 16409, nameIndex := 18, descriptorIndex := 6, attributes := #[] }, { accessFlags := 16409, nameIndex := 21, descriptorIndex := 6, attributes := #[] }, { accessFlags := 16409, nameIndex := 24, descriptorIndex := 6, attributes := #[] }, { accessFlags := 16409, nameIndex := 27, descriptorIndex := 6, attributes := #[] }, { accessFlags := 16409, nameIndex := 30, descriptorIndex := 6, attributes := #[] }, { accessFlags := 16409, nameIndex := 33, descriptorIndex := 6, attributes := #[] }, { accessFlags := 16409, nameIndex := 36, descriptorIndex := 6, attributes := #[] }, { accessFlags := 16409, nameIndex := 39, descriptorIndex := 6, attributes := #[] }, { accessFlags := 16409, nameIndex := 42, descriptorIndex := 6, attributes := #[] }, { accessFlags := 16409, nameIndex := 45, descriptorIndex := 6, attributes := #[] }, { accessFlags := 16409, nameIndex := 48, descriptorIndex := 6, attributes := #[] }, { accessFlags := 16409, nameIndex := 51, descriptorIndex := 6, attributes := #[] }, { accessFlags := 16409, nameIndex := 54, descriptorIndex := 6, attributes := #[] }, { accessFlags := 16409, nameIndex := 57, descriptorIndex := 6, attributes := #[] }, { accessFlags := 16409, nameIndex := 60, descriptorIndex := 6, attributes := #[] }, { accessFlags := 16409, nameIndex := 63, descriptorIndex := 6, attributes := #[] }, { accessFlags := 16409, nameIndex := 66, descriptorIndex := 6, attributes := #[] }, { accessFlags := 16409, nameIndex := 69, descriptorIndex := 6, attributes := #[] }, { accessFlags := 16409, nameIndex := 72, descriptorIndex := 6, attributes := #[] }, { accessFlags := 16409, nameIndex := 75, descriptorIndex := 6, attributes := #[] }, { accessFlags := 16409, nameIndex := 78, descriptorIndex := 6, attributes := #[] }, { accessFlags := 16409, nameIndex := 81, descriptorIndex := 6, attributes := #[] }, { accessFlags := 16409, nameIndex := 84, descriptorIndex := 6, attributes := #[] }, { accessFlags := 16409, nameIndex := 87, descriptorIndex := 6, attributes := #[] }, { accessFlags := 16409, nameIndex := 90, descriptorIndex := 6, attributes := #[] }, { accessFlags := 16409, nameIndex := 93, descriptorIndex := 6, attributes := #[] }, { accessFlags := 16409, nameIndex := 96, descriptorIndex := 6, attributes := #[] }, { accessFlags := 16409, nameIndex := 99, descriptorIndex := 6, attributes := #[] }, { accessFlags := 16409, nameIndex := 102, descriptorIndex := 6, attributes := #[] }, { accessFlags := 16409, nameIndex := 105, descriptorIndex := 6, attributes := #[] }, { accessFlags := 16409, nameIndex := 108, descriptorIndex := 6, attributes := #[] }, { accessFlags := 16409, nameIndex := 111, descriptorIndex := 6, attributes := #[] }, { accessFlags := 16409, nameIndex := 114, descriptorIndex := 6, attributes := #[] }, { accessFlags := 16409, nameIndex := 117, descriptorIndex := 6, attributes := #[] }, { accessFlags := 16409, nameIndex := 120, descriptorIndex := 6, attributes := #[] }, { accessFlags := 16409, nameIndex := 123, descriptorIndex := 6, attributes := #[] }, { accessFlags := 16409, nameIndex := 126, descriptorIndex := 6, attributes := #[] }, { accessFlags := 16409, nameIndex := 129, descriptorIndex := 6, attributes := #[] }, { accessFlags := 16409, nameIndex := 132, descriptorIndex := 6, attributes := #[] }, { accessFlags := 16409, nameIndex := 135, descriptorIndex := 6, attributes := #[] }, { accessFlags := 16409, nameIndex := 138, descriptorIndex := 6, attributes := #[] }, { accessFlags := 16409, nameIndex := 141, descriptorIndex := 6, attributes := #[] }, { accessFlags := 16409, nameIndex := 144, descriptorIndex := 6, attributes := #[] }, { accessFlags := 16409, nameIndex := 147, descriptorIndex := 6, attributes := #[] }, { accessFlags := 16409, nameIndex := 150, descriptorIndex := 6, attributes := #[] }, { accessFlags := 16409, nameIndex := 153, descriptorIndex := 6, attributes := #[] }, { accessFlags := 16409, nameIndex := 156, descriptorIndex := 6, attributes := #[] }, { accessFlags := 16409, nameIndex := 159, descriptorIndex := 6, attributes := #[] }, { accessFlags := 16409, nameIndex := 162, descriptorIndex := 6, attributes := #[] }, { accessFlags := 16409, nameIndex := 165, descriptorIndex := 6, attributes := #[] }, { accessFlags := 16409, nameIndex := 168, descriptorIndex := 6, attributes := #[] }, { accessFlags := 16409, nameIndex := 171, descriptorIndex := 6, attributes := #[] }, { accessFlags := 16409, nameIndex := 174, descriptorIndex := 6, attributes := #[] }, { accessFlags := 16409, nameIndex := 177, descriptorIndex := 6, attributes := #[] }, { accessFlags := 16409, nameIndex := 180, descriptorIndex := 6, attributes := #[] }, { accessFlags := 16409, nameIndex := 183, descriptorIndex := 6, attributes := #[] }, { accessFlags := 16409, nameIndex := 186, descriptorIndex := 6, attributes := #[] }, { accessFlags := 16409, nameIndex := 189, descriptorIndex := 6, attributes := #[] }, { accessFlags := 16409, nameIndex := 192, descriptorIndex := 6, attributes := #[] }, { accessFlags := 16409, nameIndex := 195, descriptorIndex := 6, attributes := #[] }, { accessFlags := 16409, nameIndex := 198, descriptorIndex := 6, attributes := #[] }, { accessFlags := 16409, nameIndex := 201, descriptorIndex := 6, attributes := #[] }, { accessFlags := 16409, nameIndex := 204, descriptorIndex := 6, attributes := #[] }, { accessFlags := 16409, nameIndex := 207, descriptorIndex := 6, attributes := #[] }, { accessFlags := 16409, nameIndex := 210, descriptorIndex := 6, attributes := #[] }, { accessFlags := 16409, nameIndex := 213, descriptorIndex := 6, attributes := #[] }, { accessFlags := 16409, nameIndex := 216, descriptorIndex := 6, attributes := #[] }, { accessFlags := 16409, nameIndex := 219, descriptorIndex := 6, attributes := #[] }, { accessFlags := 16409, nameIndex := 222, descriptorIndex := 6, attributes := #[] }, { accessFlags := 16409, nameIndex := 225, descriptorIndex := 6, attributes := #[] }, { accessFlags := 16409, nameIndex := 228, descriptorIndex := 6, attributes := #[] }, { accessFlags := 16409, nameIndex := 231, descriptorIndex := 6, attributes := #[] }, { accessFlags := 16409, nameIndex := 234, descriptorIndex := 6, attributes := #[] }, { accessFlags := 16409, nameIndex := 237, descriptorIndex := 6, attributes := #[] }, { accessFlags := 16409, nameIndex := 240, descriptorIndex := 6, attributes := #[] }, { accessFlags := 16409, nameIndex := 243, descriptorIndex := 6, attributes := #[] }, { accessFlags := 16409, nameIndex := 246, descriptorIndex := 6, attributes := #[] }, { accessFlags := 16409, nameIndex := 249, descriptorIndex := 6, attributes := #[] }, { accessFlags := 16409, nameIndex := 252, descriptorIndex := 6, attributes := #[] }, { accessFlags := 16409, nameIndex := 255, descriptorIndex := 6, attributes := #[] }, { accessFlags := 16409, nameIndex := 258, descriptorIndex := 6, attributes := #[] }, { accessFlags := 16409, nameIndex := 261, descriptorIndex := 6, attributes := #[] }, { accessFlags := 16409, nameIndex := 264, descriptorIndex := 6, attributes := #[] }, { accessFlags := 16409, nameIndex := 267, descriptorIndex := 6, attributes := #[] }, { accessFlags := 16409, nameIndex := 270, descriptorIndex := 6, attributes := #[] }, { accessFlags := 16409, nameIndex := 273, descriptorIndex := 6, attributes := #[] }, { accessFlags := 16409, nameIndex := 276, descriptorIndex := 6, attributes := #[] }, { accessFlags := 16409, nameIndex := 279, descriptorIndex := 6, attributes := #[] }, { accessFlags := 16409, nameIndex := 282, descriptorIndex := 6, attributes := #[] }, { accessFlags := 16409, nameIndex := 285, descriptorIndex := 6, attributes := #[] }, { accessFlags := 16409, nameIndex := 288, descriptorIndex := 6, attributes := #[] }, { accessFlags := 16409, nameIndex := 291, descriptorIndex := 6, attributes := #[] }, { accessFlags := 16409, nameIndex := 294, descriptorIndex := 6, attributes := #[] }, { accessFlags := 16409, nameIndex := 297, descriptorIndex := 6, attributes := #[] }, { accessFlags := 16409, nameIndex := 300, descriptorIndex := 6, attributes := #[] }, { accessFlags := 16409, nameIndex := 303, descriptorIndex := 6, attributes := #[] }, { accessFlags := 16409, nameIndex := 306, descriptorIndex := 6, attributes := #[] }, { accessFlags := 16409, nameIndex := 309, descriptorIndex := 6, attributes := #[] }, { accessFlags := 16409, nameIndex := 312, descriptorIndex := 6, attributes := #[] }, { accessFlags := 16409, nameIndex := 315, descriptorIndex := 6, attributes := #[] }, { accessFlags := 16409, nameIndex := 318, descriptorIndex := 6, attributes := #[] }, { accessFlags := 16409, nameIndex := 321, descriptorIndex := 6, attributes := #[] }, { accessFlags := 16409, nameIndex := 324, descriptorIndex := 6, attributes := #[] }, { accessFlags := 16409, nameIndex := 327, descriptorIndex := 6, attributes := #[] }, { accessFlags := 16409, nameIndex := 330, descriptorIndex := 6, attributes := #[] }, { accessFlags := 16409, nameIndex := 333, descriptorIndex := 6, attributes := #[] }, { accessFlags := 16409, nameIndex := 336, descriptorIndex := 6, attributes := #[] }, { accessFlags := 16409, nameIndex := 339, descriptorIndex := 6, attributes := #[] }, { accessFlags := 16409, nameIndex := 342, descriptorIndex := 6, attributes := #[] }, { accessFlags := 16409, nameIndex := 345, descriptorIndex := 6, attributes := #[] }, { accessFlags := 16409, nameIndex := 348, descriptorIndex := 6, attributes := #[] }, { accessFlags := 16409, nameIndex := 351, descriptorIndex := 6, attributes := #[] }, { accessFlags := 16409, nameIndex := 354, descriptorIndex := 6, attributes := #[] }, { accessFlags := 16409, nameIndex := 357, descriptorIndex := 6, attributes := #[] }, { accessFlags := 16409, nameIndex := 360, descriptorIndex := 6, attributes := #[] }, { accessFlags := 16409, nameIndex := 363, descriptorIndex := 6, attributes := #[] }, { accessFlags := 16409, nameIndex := 366, descriptorIndex := 6, attributes := #[] }, { accessFlags := 16409, nameIndex := 369, descriptorIndex := 6, attributes := #[] }, { accessFlags := 26, nameIndex := 398, descriptorIndex := 399, attributes := #[] }, { accessFlags := 18, nameIndex := 391, descriptorIndex := 392, attributes := #[] }, { accessFlags := 18, nameIndex := 395, descriptorIndex := 159, attributes := #[] }, { accessFlags := 4122, nameIndex := 372, descriptorIndex := 373, attributes := #[] }])
  fields := #[{ name := "A", type := (.object "com/example/entitygate/entitygate/HtmlTag"), accessFlags := 16409, slot := 0, constantValue := 0 }, { name := "ADDRESS", type := (.object "com/example/entitygate/entitygate/HtmlTag"), accessFlags := 16409, slot := 1, constantValue := 0 }, { name := "ANNOTATION_XML", type := (.object "com/example/entitygate/entitygate/HtmlTag"), accessFlags := 16409, slot := 2, constantValue := 0 }, { name := "APPLET", type := (.object "com/example/entitygate/entitygate/HtmlTag"), accessFlags := 16409, slot := 3, constantValue := 0 }, { name := "AREA", type := (.object "com/example/entitygate/entitygate/HtmlTag"), accessFlags := 16409, slot := 4, constantValue := 0 }, { name := "ARTICLE", type := (.object "com/example/entitygate/entitygate/HtmlTag"), accessFlags := 16409, slot := 5, constantValue := 0 }, { name := "ASIDE", type := (.object "com/example/entitygate/entitygate/HtmlTag"), accessFlags := 16409, slot := 6, constantValue := 0 }, { name := "B", type := (.object "com/example/entitygate/entitygate/HtmlTag"), accessFlags := 16409, slot := 7, constantValue := 0 }, { name := "BASE", type := (.object "com/example/entitygate/entitygate/HtmlTag"), accessFlags := 16409, slot := 8, constantValue := 0 }, { name := "BASEFONT", type := (.object "com/example/entitygate/entitygate/HtmlTag"), accessFlags := 16409, slot := 9, constantValue := 0 }, { name := "BGSOUND", type := (.object "com/example/entitygate/entitygate/HtmlTag"), accessFlags := 16409, slot := 10, constantValue := 0 }, { name := "BIG", type := (.object "com/example/entitygate/entitygate/HtmlTag"), accessFlags := 16409, slot := 11, constantValue := 0 }, { name := "BLOCKQUOTE", type := (.object "com/example/entitygate/entitygate/HtmlTag"), accessFlags := 16409, slot := 12, constantValue := 0 }, { name := "BODY", type := (.object "com/example/entitygate/entitygate/HtmlTag"), accessFlags := 16409, slot := 13, constantValue := 0 }, { name := "BR", type := (.object "com/example/entitygate/entitygate/HtmlTag"), accessFlags := 16409, slot := 14, constantValue := 0 }, { name := "BUTTON", type := (.object "com/example/entitygate/entitygate/HtmlTag"), accessFlags := 16409, slot := 15, constantValue := 0 }, { name := "CAPTION", type := (.object "com/example/entitygate/entitygate/HtmlTag"), accessFlags := 16409, slot := 16, constantValue := 0 }, { name := "CENTER", type := (.object "com/example/entitygate/entitygate/HtmlTag"), accessFlags := 16409, slot := 17, constantValue := 0 }, { name := "CODE", type := (.object "com/example/entitygate/entitygate/HtmlTag"), accessFlags := 16409, slot := 18, constantValue := 0 }, { name := "COL", type := (.object "com/example/entitygate/entitygate/HtmlTag"), accessFlags := 16409, slot := 19, constantValue := 0 }, { name := "COLGROUP", type := (.object "com/example/entitygate/entitygate/HtmlTag"), accessFlags := 16409, slot := 20, constantValue := 0 }, { name := "DD", type := (.object "com/example/entitygate/entitygate/HtmlTag"), accessFlags := 16409, slot := 21, constantValue := 0 }, { name := "DESC", type := (.object "com/example/entitygate/entitygate/HtmlTag"), accessFlags := 16409, slot := 22, constantValue := 0 }, { name := "DETAILS", type := (.object "com/example/entitygate/entitygate/HtmlTag"), accessFlags := 16409, slot := 23, constantValue := 0 }, { name := "DIALOG", type := (.object "com/example/entitygate/entitygate/HtmlTag"), accessFlags := 16409, slot := 24, constantValue := 0 }, { name := "DIR", type := (.object "com/example/entitygate/entitygate/HtmlTag"), accessFlags := 16409, slot := 25, constantValue := 0 }, { name := "DIV", type := (.object "com/example/entitygate/entitygate/HtmlTag"), accessFlags := 16409, slot := 26, constantValue := 0 }, { name := "DL", type := (.object "com/example/entitygate/entitygate/HtmlTag"), accessFlags := 16409, slot := 27, constantValue := 0 }, { name := "DT", type := (.object "com/example/entitygate/entitygate/HtmlTag"), accessFlags := 16409, slot := 28, constantValue := 0 }, { name := "EM", type := (.object "com/example/entitygate/entitygate/HtmlTag"), accessFlags := 16409, slot := 29, constantValue := 0 }, { name := "EMBED", type := (.object "com/example/entitygate/entitygate/HtmlTag"), accessFlags := 16409, slot := 30, constantValue := 0 }, { name := "FIELDSET", type := (.object "com/example/entitygate/entitygate/HtmlTag"), accessFlags := 16409, slot := 31, constantValue := 0 }, { name := "FIGCAPTION", type := (.object "com/example/entitygate/entitygate/HtmlTag"), accessFlags := 16409, slot := 32, constantValue := 0 }, { name := "FIGURE", type := (.object "com/example/entitygate/entitygate/HtmlTag"), accessFlags := 16409, slot := 33, constantValue := 0 }, { name := "FONT", type := (.object "com/example/entitygate/entitygate/HtmlTag"), accessFlags := 16409, slot := 34, constantValue := 0 }, { name := "FOOTER", type := (.object "com/example/entitygate/entitygate/HtmlTag"), accessFlags := 16409, slot := 35, constantValue := 0 }, { name := "FOREIGN_OBJECT", type := (.object "com/example/entitygate/entitygate/HtmlTag"), accessFlags := 16409, slot := 36, constantValue := 0 }, { name := "FORM", type := (.object "com/example/entitygate/entitygate/HtmlTag"), accessFlags := 16409, slot := 37, constantValue := 0 }, { name := "FRAME", type := (.object "com/example/entitygate/entitygate/HtmlTag"), accessFlags := 16409, slot := 38, constantValue := 0 }, { name := "FRAMESET", type := (.object "com/example/entitygate/entitygate/HtmlTag"), accessFlags := 16409, slot := 39, constantValue := 0 }, { name := "H1", type := (.object "com/example/entitygate/entitygate/HtmlTag"), accessFlags := 16409, slot := 40, constantValue := 0 }, { name := "H2", type := (.object "com/example/entitygate/entitygate/HtmlTag"), accessFlags := 16409, slot := 41, constantValue := 0 }, { name := "H3", type := (.object "com/example/entitygate/entitygate/HtmlTag"), accessFlags := 16409, slot := 42, constantValue := 0 }, { name := "H4", type := (.object "com/example/entitygate/entitygate/HtmlTag"), accessFlags := 16409, slot := 43, constantValue := 0 }, { name := "H5", type := (.object "com/example/entitygate/entitygate/HtmlTag"), accessFlags := 16409, slot := 44, constantValue := 0 }, { name := "H6", type := (.object "com/example/entitygate/entitygate/HtmlTag"), accessFlags := 16409, slot := 45, constantValue := 0 }, { name := "HEAD", type := (.object "com/example/entitygate/entitygate/HtmlTag"), accessFlags := 16409, slot := 46, constantValue := 0 }, { name := "HEADER", type := (.object "com/example/entitygate/entitygate/HtmlTag"), accessFlags := 16409, slot := 47, constantValue := 0 }, { name := "HGROUP", type := (.object "com/example/entitygate/entitygate/HtmlTag"), accessFlags := 16409, slot := 48, constantValue := 0 }, { name := "HR", type := (.object "com/example/entitygate/entitygate/HtmlTag"), accessFlags := 16409, slot := 49, constantValue := 0 }, { name := "HTML", type := (.object "com/example/entitygate/entitygate/HtmlTag"), accessFlags := 16409, slot := 50, constantValue := 0 }, { name := "I", type := (.object "com/example/entitygate/entitygate/HtmlTag"), accessFlags := 16409, slot := 51, constantValue := 0 }, { name := "IFRAME", type := (.object "com/example/entitygate/entitygate/HtmlTag"), accessFlags := 16409, slot := 52, constantValue := 0 }, { name := "IMAGE", type := (.object "com/example/entitygate/entitygate/HtmlTag"), accessFlags := 16409, slot := 53, constantValue := 0 }, { name := "IMG", type := (.object "com/example/entitygate/entitygate/HtmlTag"), accessFlags := 16409, slot := 54, constantValue := 0 }, { name := "INPUT", type := (.object "com/example/entitygate/entitygate/HtmlTag"), accessFlags := 16409, slot := 55, constantValue := 0 }, { name := "KEYGEN", type := (.object "com/example/entitygate/entitygate/HtmlTag"), accessFlags := 16409, slot := 56, constantValue := 0 }, { name := "LI", type := (.object "com/example/entitygate/entitygate/HtmlTag"), accessFlags := 16409, slot := 57, constantValue := 0 }, { name := "LINK", type := (.object "com/example/entitygate/entitygate/HtmlTag"), accessFlags := 16409, slot := 58, constantValue := 0 }, { name := "LISTING", type := (.object "com/example/entitygate/entitygate/HtmlTag"), accessFlags := 16409, slot := 59, constantValue := 0 }, { name := "MAIN", type := (.object "com/example/entitygate/entitygate/HtmlTag"), accessFlags := 16409, slot := 60, constantValue := 0 }, { name := "MALIGNMARK", type := (.object "com/example/entitygate/entitygate/HtmlTag"), accessFlags := 16409, slot := 61, constantValue := 0 }, { name := "MARQUEE", type := (.object "com/example/entitygate/entitygate/HtmlTag"), accessFlags := 16409, slot := 62, constantValue := 0 }, { name := "MATH", type := (.object "com/example/entitygate/entitygate/HtmlTag"), accessFlags := 16409, slot := 63, constantValue := 0 }, { name := "MENU", type := (.object "com/example/entitygate/entitygate/HtmlTag"), accessFlags := 16409, slot := 64, constantValue := 0 }, { name := "META", type := (.object "com/example/entitygate/entitygate/HtmlTag"), accessFlags := 16409, slot := 65, constantValue := 0 }, { name := "MGLYPH", type := (.object "com/example/entitygate/entitygate/HtmlTag"), accessFlags := 16409, slot := 66, constantValue := 0 }, { name := "MI", type := (.object "com/example/entitygate/entitygate/HtmlTag"), accessFlags := 16409, slot := 67, constantValue := 0 }, { name := "MN", type := (.object "com/example/entitygate/entitygate/HtmlTag"), accessFlags := 16409, slot := 68, constantValue := 0 }, { name := "MO", type := (.object "com/example/entitygate/entitygate/HtmlTag"), accessFlags := 16409, slot := 69, constantValue := 0 }, { name := "MS", type := (.object "com/example/entitygate/entitygate/HtmlTag"), accessFlags := 16409, slot := 70, constantValue := 0 }, { name := "MTEXT", type := (.object "com/example/entitygate/entitygate/HtmlTag"), accessFlags := 16409, slot := 71, constantValue := 0 }, { name := "NAV", type := (.object "com/example/entitygate/entitygate/HtmlTag"), accessFlags := 16409, slot := 72, constantValue := 0 }, { name := "NOBR", type := (.object "com/example/entitygate/entitygate/HtmlTag"), accessFlags := 16409, slot := 73, constantValue := 0 }, { name := "NOEMBED", type := (.object "com/example/entitygate/entitygate/HtmlTag"), accessFlags := 16409, slot := 74, constantValue := 0 }, { name := "NOFRAMES", type := (.object "com/example/entitygate/entitygate/HtmlTag"), accessFlags := 16409, slot := 75, constantValue := 0 }, { name := "NOSCRIPT", type := (.object "com/example/entitygate/entitygate/HtmlTag"), accessFlags := 16409, slot := 76, constantValue := 0 }, { name := "OBJECT", type := (.object "com/example/entitygate/entitygate/HtmlTag"), accessFlags := 16409, slot := 77, constantValue := 0 }, { name := "OL", type := (.object "com/example/entitygate/entitygate/HtmlTag"), accessFlags := 16409, slot := 78, constantValue := 0 }, { name := "OPTGROUP", type := (.object "com/example/entitygate/entitygate/HtmlTag"), accessFlags := 16409, slot := 79, constantValue := 0 }, { name := "OPTION", type := (.object "com/example/entitygate/entitygate/HtmlTag"), accessFlags := 16409, slot := 80, constantValue := 0 }, { name := "P", type := (.object "com/example/entitygate/entitygate/HtmlTag"), accessFlags := 16409, slot := 81, constantValue := 0 }, { name := "PARAM", type := (.object "com/example/entitygate/entitygate/HtmlTag"), accessFlags := 16409, slot := 82, constantValue := 0 }, { name := "PLAINTEXT", type := (.object "com/example/entitygate/entitygate/HtmlTag"), accessFlags := 16409, slot := 83, constantValue := 0 }, { name := "PRE", type := (.object "com/example/entitygate/entitygate/HtmlTag"), accessFlags := 16409, slot := 84, constantValue := 0 }, { name := "RB", type := (.object "com/example/entitygate/entitygate/HtmlTag"), accessFlags := 16409, slot := 85, constantValue := 0 }, { name := "RP", type := (.object "com/example/entitygate/entitygate/HtmlTag"), accessFlags := 16409, slot := 86, constantValue := 0 }, { name := "RT", type := (.object "com/example/entitygate/entitygate/HtmlTag"), accessFlags := 16409, slot := 87, constantValue := 0 }, { name := "RTC", type := (.object "com/example/entitygate/entitygate/HtmlTag"), accessFlags := 16409, slot := 88, constantValue := 0 }, { name := "RUBY", type := (.object "com/example/entitygate/entitygate/HtmlTag"), accessFlags := 16409, slot := 89, constantValue := 0 }, { name := "S", type := (.object "com/example/entitygate/entitygate/HtmlTag"), accessFlags := 16409, slot := 90, constantValue := 0 }, { name := "SCRIPT", type := (.object "com/example/entitygate/entitygate/HtmlTag"), accessFlags := 16409, slot := 91, constantValue := 0 }, { name := "SEARCH", type := (.object "com/example/entitygate/entitygate/HtmlTag"), accessFlags := 16409, slot := 92, constantValue := 0 }, { name := "SECTION", type := (.object "com/example/entitygate/entitygate/HtmlTag"), accessFlags := 16409, slot := 93, constantValue := 0 }, { name := "SELECT", type := (.object "com/example/entitygate/entitygate/HtmlTag"), accessFlags := 16409, slot := 94, constantValue := 0 }, { name := "SMALL", type := (.object "com/example/entitygate/entitygate/HtmlTag"), accessFlags := 16409, slot := 95, constantValue := 0 }, { name := "SOURCE", type := (.object "com/example/entitygate/entitygate/HtmlTag"), accessFlags := 16409, slot := 96, constantValue := 0 }, { name := "SPAN", type := (.object "com/example/entitygate/entitygate/HtmlTag"), accessFlags := 16409, slot := 97, constantValue := 0 }, { name := "STRIKE", type := (.object "com/example/entitygate/entitygate/HtmlTag"), accessFlags := 16409, slot := 98, constantValue := 0 }, { name := "STRONG", type := (.object "com/example/entitygate/entitygate/HtmlTag"), accessFlags := 16409, slot := 99, constantValue := 0 }, { name := "STYLE", type := (.object "com/example/entitygate/entitygate/HtmlTag"), accessFlags := 16409, slot := 100, constantValue := 0 }, { name := "SUB", type := (.object "com/example/entitygate/entitygate/HtmlTag"), accessFlags := 16409, slot := 101, constantValue := 0 }, { name := "SUMMARY", type := (.object "com/example/entitygate/entitygate/HtmlTag"), accessFlags := 16409, slot := 102, constantValue := 0 }, { name := "SUP", type := (.object "com/example/entitygate/entitygate/HtmlTag"), accessFlags := 16409, slot := 103, constantValue := 0 }, { name := "SVG", type := (.object "com/example/entitygate/entitygate/HtmlTag"), accessFlags := 16409, slot := 104, constantValue := 0 }, { name := "TABLE", type := (.object "com/example/entitygate/entitygate/HtmlTag"), accessFlags := 16409, slot := 105, constantValue := 0 }, { name := "TBODY", type := (.object "com/example/entitygate/entitygate/HtmlTag"), accessFlags := 16409, slot := 106, constantValue := 0 }, { name := "TD", type := (.object "com/example/entitygate/entitygate/HtmlTag"), accessFlags := 16409, slot := 107, constantValue := 0 }, { name := "TEMPLATE", type := (.object "com/example/entitygate/entitygate/HtmlTag"), accessFlags := 16409, slot := 108, constantValue := 0 }, { name := "TEXTAREA", type := (.object "com/example/entitygate/entitygate/HtmlTag"), accessFlags := 16409, slot := 109, constantValue := 0 }, { name := "TFOOT", type := (.object "com/example/entitygate/entitygate/HtmlTag"), accessFlags := 16409, slot := 110, constantValue := 0 }, { name := "TH", type := (.object "com/example/entitygate/entitygate/HtmlTag"), accessFlags := 16409, slot := 111, constantValue := 0 }, { name := "THEAD", type := (.object "com/example/entitygate/entitygate/HtmlTag"), accessFlags := 16409, slot := 112, constantValue := 0 }, { name := "TITLE", type := (.object "com/example/entitygate/entitygate/HtmlTag"), accessFlags := 16409, slot := 113, constantValue := 0 }, { name := "TR", type := (.object "com/example/entitygate/entitygate/HtmlTag"), accessFlags := 16409, slot := 114, constantValue := 0 }, { name := "TRACK", type := (.object "com/example/entitygate/entitygate/HtmlTag"), accessFlags := 16409, slot := 115, constantValue := 0 }, { name := "TT", type := (.object "com/example/entitygate/entitygate/HtmlTag"), accessFlags := 16409, slot := 116, constantValue := 0 }, { name := "U", type := (.object "com/example/entitygate/entitygate/HtmlTag"), accessFlags := 16409, slot := 117, constantValue := 0 }, { name := "UL", type := (.object "com/example/entitygate/entitygate/HtmlTag"), accessFlags := 16409, slot := 118, constantValue := 0 }, { name := "VAR", type := (.object "com/example/entitygate/entitygate/HtmlTag"), accessFlags := 16409, slot := 119, constantValue := 0 }, { name := "WBR", type := (.object "com/example/entitygate/entitygate/HtmlTag"), accessFlags := 16409, slot := 120, constantValue := 0 }, { name := "XMP", type := (.object "com/example/entitygate/entitygate/HtmlTag"), accessFlags := 16409, slot := 121, constantValue := 0 }, { name := "BY_NAME", type := (.object "java/util/Map"), accessFlags := 26, slot := 122, constantValue := 0 }, { name := "name", type := (.object "java/lang/String"), accessFlags := 18, slot := 3, constantValue := 0 }, { name := "categories", type := .int, accessFlags := 18, slot := 4, constantValue := 0 }, { name := "$VALUES", type := (.array (.object "com/example/entitygate/entitygate/HtmlTag")), accessFlags := 4122, slot := 123, constantValue := 0 }]
  methods := #[k6m0]
  instanceTypes := #[(.object "java/lang/String"), .int, .int, (.object "java/lang/String"), .int]
  staticTypes := #[(.object "com/example/entitygate/entitygate/HtmlTag"), (.object "com/example/entitygate/entitygate/HtmlTag"), (.object "com/example/entitygate/entitygate/HtmlTag"), (.object "com/example/entitygate/entitygate/HtmlTag"), (.object "com/example/entitygate/entitygate/HtmlTag"), (.object "com/example/entitygate/entitygate/HtmlTag"), (.object "com/example/entitygate/entitygate/HtmlTag"), (.object "com/example/entitygate/entitygate/HtmlTag"), (.object "com/example/entitygate/entitygate/HtmlTag"), (.object "com/example/entitygate/entitygate/HtmlTag"), (.object "com/example/entitygate/entitygate/HtmlTag"), (.object "com/example/entitygate/entitygate/HtmlTag"), (.object "com/example/entitygate/entitygate/HtmlTag"), (.object "com/example/entitygate/entitygate/HtmlTag"), (.object "com/example/entitygate/entitygate/HtmlTag"), (.object "com/example/entitygate/entitygate/HtmlTag"), (.object "com/example/entitygate/entitygate/HtmlTag"), (.object "com/example/entitygate/entitygate/HtmlTag"), (.object "com/example/entitygate/entitygate/HtmlTag"), (.object "com/example/entitygate/entitygate/HtmlTag"), (.object "com/example/entitygate/entitygate/HtmlTag"), (.object "com/example/entitygate/entitygate/HtmlTag"), (.object "com/example/entitygate/entitygate/HtmlTag"), (.object "com/example/entitygate/entitygate/HtmlTag"), (.object "com/example/entitygate/entitygate/HtmlTag"), (.object "com/example/entitygate/entitygate/HtmlTag"), (.object "com/example/entitygate/entitygate/HtmlTag"), (.object "com/example/entitygate/entitygate/HtmlTag"), (.object "com/example/entitygate/entitygate/HtmlTag"), (.object "com/example/entitygate/entitygate/HtmlTag"), (.object "com/example/entitygate/entitygate/HtmlTag"), (.object "com/example/entitygate/entitygate/HtmlTag"), (.object "com/example/entitygate/entitygate/HtmlTag"), (.object "com/example/entitygate/entitygate/HtmlTag"), (.object "com/example/entitygate/entitygate/HtmlTag"), (.object "com/example/entitygate/entitygate/HtmlTag"), (.object "com/example/entitygate/entitygate/HtmlTag"), (.object "com/example/entitygate/entitygate/HtmlTag"), (.object "com/example/entitygate/entitygate/HtmlTag"), (.object "com/example/entitygate/entitygate/HtmlTag"), (.object "com/example/entitygate/entitygate/HtmlTag"), (.object "com/example/entitygate/entitygate/HtmlTag"), (.object "com/example/entitygate/entitygate/HtmlTag"), (.object "com/example/entitygate/entitygate/HtmlTag"), (.object "com/example/entitygate/entitygate/HtmlTag"), (.object "com/example/entitygate/entitygate/HtmlTag"), (.object "com/example/entitygate/entitygate/HtmlTag"), (.object "com/example/entitygate/entitygate/HtmlTag"), (.object "com/example/entitygate/entitygate/HtmlTag"), (.object "com/example/entitygate/entitygate/HtmlTag"), (.object "com/example/entitygate/entitygate/HtmlTag"), (.object "com/example/entitygate/entitygate/HtmlTag"), (.object "com/example/entitygate/entitygate/HtmlTag"), (.object "com/example/entitygate/entitygate/HtmlTag"), (.object "com/example/entitygate/entitygate/HtmlTag"), (.object "com/example/entitygate/entitygate/HtmlTag"), (.object "com/example/entitygate/entitygate/HtmlTag"), (.object "com/example/entitygate/entitygate/HtmlTag"), (.object "com/example/entitygate/entitygate/HtmlTag"), (.object "com/example/entitygate/entitygate/HtmlTag"), (.object "com/example/entitygate/entitygate/HtmlTag"), (.object "com/example/entitygate/entitygate/HtmlTag"), (.object "com/example/entitygate/entitygate/HtmlTag"), (.object "com/example/entitygate/entitygate/HtmlTag"), (.object "com/example/entitygate/entitygate/HtmlTag"), (.object "com/example/entitygate/entitygate/HtmlTag"), (.object "com/example/entitygate/entitygate/HtmlTag"), (.object "com/example/entitygate/entitygate/HtmlTag"), (.object "com/example/entitygate/entitygate/HtmlTag"), (.object "com/example/entitygate/entitygate/HtmlTag"), (.object "com/example/entitygate/entitygate/HtmlTag"), (.object "com/example/entitygate/entitygate/HtmlTag"), (.object "com/example/entitygate/entitygate/HtmlTag"), (.object "com/example/entitygate/entitygate/HtmlTag"), (.object "com/example/entitygate/entitygate/HtmlTag"), (.object "com/example/entitygate/entitygate/HtmlTag"), (.object "com/example/entitygate/entitygate/HtmlTag"), (.object "com/example/entitygate/entitygate/HtmlTag"), (.object "com/example/entitygate/entitygate/HtmlTag"), (.object "com/example/entitygate/entitygate/HtmlTag"), (.object "com/example/entitygate/entitygate/HtmlTag"), (.object "com/example/entitygate/entitygate/HtmlTag"), (.object "com/example/entitygate/entitygate/HtmlTag"), (.object "com/example/entitygate/entitygate/HtmlTag"), (.object "com/example/entitygate/entitygate/HtmlTag"), (.object "com/example/entitygate/entitygate/HtmlTag"), (.object "com/example/entitygate/entitygate/HtmlTag"), (.object "com/example/entitygate/entitygate/HtmlTag"), (.object "com/example/entitygate/entitygate/HtmlTag"), (.object "com/example/entitygate/entitygate/HtmlTag"), (.object "com/example/entitygate/entitygate/HtmlTag"), (.object "com/example/entitygate/entitygate/HtmlTag"), (.object "com/example/entitygate/entitygate/HtmlTag"), (.object "com/example/entitygate/entitygate/HtmlTag"), (.object "com/example/entitygate/entitygate/HtmlTag"), (.object "com/example/entitygate/entitygate/HtmlTag"), (.object "com/example/entitygate/entitygate/HtmlTag"), (.object "com/example/entitygate/entitygate/HtmlTag"), (.object "com/example/entitygate/entitygate/HtmlTag"), (.object "com/example/entitygate/entitygate/HtmlTag"), (.object "com/example/entitygate/entitygate/HtmlTag"), (.object "com/example/entitygate/entitygate/HtmlTag"), (.object "com/example/entitygate/entitygate/HtmlTag"), (.object "com/example/entitygate/entitygate/HtmlTag"), (.object "com/example/entitygate/entitygate/HtmlTag"), (.object "com/example/entitygate/entitygate/HtmlTag"), (.object "com/example/entitygate/entitygate/HtmlTag"), (.object "com/example/entitygate/entitygate/HtmlTag"), (.object "com/example/entitygate/entitygate/HtmlTag"), (.object "com/example/entitygate/entitygate/HtmlTag"), (.object "com/example/entitygate/entitygate/HtmlTag"), (.object "com/example/entitygate/entitygate/HtmlTag"), (.object "com/example/entitygate/entitygate/HtmlTag"), (.object "com/example/entitygate/entitygate/HtmlTag"), (.object "com/example/entitygate/entitygate/HtmlTag"), (.object "com/example/entitygate/entitygate/HtmlTag"), (.object "com/example/entitygate/entitygate/HtmlTag"), (.object "com/example/entitygate/entitygate/HtmlTag"), (.object "com/example/entitygate/entitygate/HtmlTag"), (.object "com/example/entitygate/entitygate/HtmlTag"), (.object "com/example/entitygate/entitygate/HtmlTag"), (.object "com/example/entitygate/entitygate/HtmlTag"), (.object "java/util/Map"), (.array (.object "com/example/entitygate/entitygate/HtmlTag"))]
  resolved := Array.replicate 819 none
  statics := some 0 }

def pool7 : Array CpInfo := pool [(1, u "java/lang/Cloneable"), (0, .class_ 1), (0, u "java/lang/Object"), (0, .class_ 3)] 3

/-- java/lang/Cloneable -/
def k7 : Class := { plain "java/lang/Cloneable" (some 0) with
  accessFlags := 1537
  interfaces := #[]
  cf := some (fileOf pool7 2 #[] #[] 1537 4 #[] #[])
  fields := #[]
  methods := #[]
  instanceTypes := #[]
  staticTypes := #[]
  resolved := Array.replicate 8 none
  statics := none }

/-- the primitive byte -/
def k8 : Class := { plain "byte" none with kind := .primitive 'B', accessFlags := 0x411 }
/-- [B -/
def k9 : Class := { plain "[B" (some 0) with kind := .array 8 .byte, interfaces := #[7, 4], accessFlags := 1041 }

/-- the primitive int -/
def k10 : Class := { plain "int" none with kind := .primitive 'I', accessFlags := 0x411 }
/-- [I -/
def k11 : Class := { plain "[I" (some 0) with kind := .array 10 .int, interfaces := #[7, 4], accessFlags := 1041 }

def heap : Heap := #[{ cls := 6, slots := #[.ref 19, .ref 20, .ref 21, .ref 22, .ref 23, .null, .null, .null, .null, .null, .null, .null, .null, .ref 29, .ref 32, .null, .ref 11, .null, .null, .null, .ref 12, .ref 1, .null, .null, .null, .null, .null, .null, .ref 2, .null, .null, .null, .null, .null, .null, .null, .null, .null, .null, .null, .ref 24, .null, .null, .null, .null, .null, .null, .null, .null, .null, .ref 28, .null, .ref 25, .null, .null, .null, .null, .ref 3, .null, .null, .null, .null, .null, .null, .null, .null, .null, .null, .null, .null, .null, .null, .null, .null, .null, .null, .null, .null, .null, .ref 4, .ref 5, .ref 6, .null, .null, .null, .ref 7, .ref 8, .ref 9, .ref 10, .null, .null, .null, .null, .null, .ref 30, .null, .null, .ref 31, .null, .null, .null, .null, .null, .null, .null, .ref 26, .ref 13, .ref 14, .ref 27, .null, .ref 15, .ref 16, .ref 17, .null, .ref 18, .null, .null, .null, .null, .null, .null, .null, .null, .null], vm := .statics 6 },
  { cls := 6, slots := #[.null, .int 0, .int 0, .null, .int 33], vm := .none },
  { cls := 6, slots := #[.null, .int 1, .int 0, .null, .int 33], vm := .none },
  { cls := 6, slots := #[.null, .int 2, .int 0, .null, .int 33], vm := .none },
  { cls := 6, slots := #[.null, .int 3, .int 0, .null, .int 32], vm := .none },
  { cls := 6, slots := #[.null, .int 4, .int 0, .null, .int 32], vm := .none },
  { cls := 6, slots := #[.null, .int 5, .int 0, .null, .int 33], vm := .none },
  { cls := 6, slots := #[.null, .int 6, .int 0, .null, .int 32], vm := .none },
  { cls := 6, slots := #[.null, .int 7, .int 0, .null, .int 32], vm := .none },
  { cls := 6, slots := #[.null, .int 8, .int 0, .null, .int 32], vm := .none },
  { cls := 6, slots := #[.null, .int 9, .int 0, .null, .int 32], vm := .none },
  { cls := 6, slots := #[.null, .int 10, .int 0, .null, .int 81], vm := .none },
  { cls := 6, slots := #[.null, .int 11, .int 0, .null, .int 65], vm := .none },
  { cls := 6, slots := #[.null, .int 12, .int 0, .null, .int 65], vm := .none },
  { cls := 6, slots := #[.null, .int 13, .int 0, .null, .int 81], vm := .none },
  { cls := 6, slots := #[.null, .int 14, .int 0, .null, .int 65], vm := .none },
  { cls := 6, slots := #[.null, .int 15, .int 0, .null, .int 81], vm := .none },
  { cls := 6, slots := #[.null, .int 16, .int 0, .null, .int 65], vm := .none },
  { cls := 6, slots := #[.null, .int 17, .int 0, .null, .int 65], vm := .none },
  { cls := 6, slots := #[.null, .int 18, .int 0, .null, .int 2], vm := .none },
  { cls := 6, slots := #[.null, .int 19, .int 0, .null, .int 1], vm := .none },
  { cls := 6, slots := #[.null, .int 20, .int 0, .null, .int 0], vm := .none },
  { cls := 6, slots := #[.null, .int 21, .int 0, .null, .int 17], vm := .none },
  { cls := 6, slots := #[.null, .int 22, .int 0, .null, .int 5], vm := .none },
  { cls := 6, slots := #[.null, .int 23, .int 0, .null, .int 129], vm := .none },
  { cls := 6, slots := #[.null, .int 24, .int 0, .null, .int 9], vm := .none },
  { cls := 6, slots := #[.null, .int 25, .int 0, .null, .int 17], vm := .none },
  { cls := 6, slots := #[.null, .int 26, .int 0, .null, .int 17], vm := .none },
  { cls := 6, slots := #[.null, .int 27, .int 0, .null, .int 17], vm := .none },
  { cls := 6, slots := #[.null, .int 28, .int 0, .null, .int 1], vm := .none },
  { cls := 6, slots := #[.null, .int 29, .int 0, .null, .int 1], vm := .none },
  { cls := 6, slots := #[.null, .int 30, .int 0, .null, .int 0], vm := .none },
  { cls := 6, slots := #[.null, .int 31, .int 0, .null, .int 5], vm := .none }]
def classes : Array Class := #[k0, k1, k2, k3, k4, k5, k6, k7, k8, k9, k10, k11]
def interned : List (Array UInt16 × Addr) := []
def slotsUsed : Nat := 284
def theMethod : MethodId := ⟨1, 2⟩
def args0 : Array Value := #[.int 2, .int 1]
def aboutOver (below : List Frame) : State where
  vm := { classes := classes, interned := interned.toArray }
  heap := heap
  slotsUsed := slotsUsed
  threads := #[{ frames := .invoking theMethod args0 :: below }]
def below0 : List Frame := [.native { method := ⟨0, 0⟩, args := #[] }]
def about1 : State := aboutOver below0
def p0 : Program := .bare "" "" ""
def e0 : Env := launch0.env 0 0 0
theorem w_frames : about1.frames = Frame.invoking theMethod args0 :: below0 := rfl
set_option maxRecDepth 65536 in
theorem w_args : argsFit about1.vm theMethod args0 = true := by decide +kernel
set_option maxRecDepth 65536 in
theorem w_heap : heapFits about1 = true := by decide +kernel
set_option maxRecDepth 65536 in
theorem w_runnable : about1.curStatus? = some .runnable := by decide +kernel
set_option maxRecDepth 65536 in
theorem w_alone : about1.alone = true := by decide +kernel
set_option maxRecDepth 65536 in
theorem w_named : about1.methodNamed? x = some theMethod := by decide +kernel
set_option maxRecDepth 65536 in
theorem w_hears : about1.hears theMethod below0 = true := by decide +kernel
set_option maxRecDepth 65536 in
theorem w_ripe : about1.ripe theMethod args0 below0 = true := by decide +kernel
theorem w_running : about1.status = .running := rfl
set_option maxRecDepth 65536 in
theorem w_room : about1.hasRoom e0.platform room_1 = true :=
  launch0.hasRoom_least _ room_1 (by decide +kernel) (by decide +kernel) (by decide +kernel) (by decide +kernel) (by decide +kernel) (by decide +kernel)
theorem allAtoms_all (ts : List Jvm.Cond) (a : Array Jvm.Value) (st : Jvm.State) : (allAtoms ts).before a st = ts.all (fun c => c.before a st) := by
  induction ts with
  | nil => rfl
  | cons c t ih =>
    show (Jvm.Cond.and c (allAtoms t)).before a st = _
    rw [Jvm.Cond.before_and, ih, List.all_cons]
def words1 : List Jvm.Cond := Jvm.Cond.code x code maxLocals ret :: tables_1
/-- a 'code' word, met by the world's own term for the bytes: nothing is compared byte by byte -/
theorem code_word {y : MethodName} {bytes : ByteArray} {mx : Nat} {rt : Option FieldType} {a : Array Value} {s : State} {m : MethodId} {meth : Method} {c : Code} (h1 : s.methodNamed? y = some m) (h2 : s.vm.method? m = some meth) (h3 : meth.code = some c) (h4 : c.code = bytes)
    (h5 : (c.maxLocals == mx && c.exceptionTable.isEmpty && decide (c.maxStack ≤ mostOperands) && decide (meth.sig.returnType = rt) && !meth.locks && decide (parseMethodDescriptor y.desc = some meth.sig)) = true) : (Jvm.Cond.code y bytes mx rt).before a s = true := by
  simp only [Bool.and_eq_true, beq_iff_eq, Bool.not_eq_true', decide_eq_true_eq] at h5
  obtain ⟨⟨⟨⟨⟨g1, g2⟩, g3⟩, g4⟩, g5⟩, g6⟩ := h5
  simp [Cond.before, Cond.holds, Cond.value, h1, h2, h3, h4, g1, g2, g3, g4, g5, g6]
def isCode : Jvm.Cond → Bool
  | .code _ _ _ _ => true
  | _ => false
theorem all_split {L : List Jvm.Cond} {P : Jvm.Cond → Bool} (h1 : L.all (fun c => isCode c || P c) = true) (h2 : ∀ c ∈ L.filter isCode, P c = true) : L.all P = true := by
  refine List.all_eq_true.mpr fun c hc => ?_
  have h := List.all_eq_true.mp h1 c hc
  rcases Bool.eq_false_or_eq_true (isCode c) with hi | hi
  · exact h2 c (List.mem_filter.mpr ⟨hc, hi⟩)
  · simpa [hi] using h
set_option maxRecDepth 65536 in
theorem w_c0 : (Jvm.Cond.code x code maxLocals ret).before args0 about1 = true := code_word (m := ⟨1, 2⟩) (meth := k1m2) (c := k1c2) (by decide +kernel) rfl rfl rfl (by decide +kernel)
set_option maxRecDepth 65536 in
theorem w_c1 : (Jvm.Cond.code ({ cls := "com/example/entitygate/entitygate/HtmlTagHasImpliedEndPinLaw", name := "tag", desc := "(I)Lcom/example/entitygate/entitygate/HtmlTag;" } : Jvm.MethodName) method_2_code (1 : Nat) (Option.some (Jvm.ClassFile.FieldType.object "com/example/entitygate/entitygate/HtmlTag"))).before args0 about1 = true := code_word (m := ⟨1, 1⟩) (meth := k1m1) (c := k1c1) (by decide +kernel) rfl rfl rfl (by decide +kernel)
set_option maxRecDepth 65536 in
theorem w_c2 : (Jvm.Cond.code ({ cls := "com/example/entitygate/entitygate/HtmlTag", name := "hasImpliedEnd", desc := "(Z)Z" } : Jvm.MethodName) prog_23_method_10_code (3 : Nat) (Option.some Jvm.ClassFile.FieldType.boolean)).before args0 about1 = true := code_word (m := ⟨6, 0⟩) (meth := k6m0) (c := k6c0) (by decide +kernel) rfl rfl rfl (by decide +kernel)
def codes1 : List Jvm.Cond := [Jvm.Cond.code x code maxLocals ret, Jvm.Cond.code ({ cls := "com/example/entitygate/entitygate/HtmlTagHasImpliedEndPinLaw", name := "tag", desc := "(I)Lcom/example/entitygate/entitygate/HtmlTag;" } : Jvm.MethodName) method_2_code (1 : Nat) (Option.some (Jvm.ClassFile.FieldType.object "com/example/entitygate/entitygate/HtmlTag")), Jvm.Cond.code ({ cls := "com/example/entitygate/entitygate/HtmlTag", name := "hasImpliedEnd", desc := "(Z)Z" } : Jvm.MethodName) prog_23_method_10_code (3 : Nat) (Option.some Jvm.ClassFile.FieldType.boolean)]
set_option maxRecDepth 65536 in
theorem codes_eq : words1.filter isCode = codes1 := rfl
theorem w_codes : ∀ c ∈ words1.filter isCode, c.before args0 about1 = true := by
  rw [codes_eq]
  intro c hc
  simp only [codes1, List.mem_cons, List.not_mem_nil, or_false] at hc
  rcases hc with rfl | rfl | rfl
  · exact w_c0
  · exact w_c1
  · exact w_c2
set_option maxRecDepth 65536 in
theorem w_t1 : (words1.take 24).all (fun c => isCode c || c.before args0 about1) = true := by decide +kernel
set_option maxRecDepth 65536 in
theorem w_t2 : ((words1.drop 24).take 24).all (fun c => isCode c || c.before args0 about1) = true := by decide +kernel
set_option maxRecDepth 65536 in
theorem w_t3 : (((words1.drop 24).drop 24).take 24).all (fun c => isCode c || c.before args0 about1) = true := by decide +kernel
set_option maxRecDepth 65536 in
theorem w_t4 : (((words1.drop 24).drop 24).drop 24).all (fun c => isCode c || c.before args0 about1) = true := by decide +kernel
theorem w_tables : (allAtoms (Jvm.Cond.code x code maxLocals ret :: tables_1)).before args0 about1 = true := by
  rw [allAtoms_all]
  show words1.all (fun c => c.before args0 about1) = true
  refine all_split ?_ w_codes
  rw [← List.take_append_drop 24 words1, List.all_append, w_t1, ← List.take_append_drop 24 (words1.drop 24), List.all_append, w_t2, ← List.take_append_drop 24 ((words1.drop 24).drop 24), List.all_append, w_t3, w_t4]
  rfl
set_option maxRecDepth 65536 in
theorem w_case : (Jvm.Cond.and given_1 narrow_1).before args0 about1 = true := by decide +kernel
theorem w_applies : (headSpec (Jvm.Cond.code x code maxLocals ret :: tables_1) room_1).applies x e0.platform about1 = true :=
  (Spec.applies_iff w_frames).mpr ⟨w_running, w_runnable, w_alone, w_named, w_hears, w_ripe, w_room, w_tables⟩
theorem atStart : AtStart classFile x code maxLocals ret World_1 tables_1 room_1 Calls_1 rest_1 Pre_1 launch0 p0 e0 about1 theMethod args0 below0 :=
  ⟨lists_1, trivial, launch0.admits_env _ _ _, launch0.least_env, fairChoices_fair.cas, fairChoices_fair.clock, w_frames, w_args, w_heap, w_applies, trivial, trivial, w_case⟩
end start1
theorem witness_1 : WitnessClaimed_1 := ⟨start1.p0, start1.e0, start1.about1, start1.theMethod, start1.args0, start1.below0, start1.atStart⟩
end Jvm.Pilot.@@N@@
