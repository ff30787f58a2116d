import JvmDerived
import JvmDerived.Pilot.@@N@@Statement
import JvmDerived.Pilot.@@N@@Code
set_option linter.unusedVariables false
set_option linter.unusedSimpArgs false
namespace Jvm.Pilot.@@N@@
open Jvm Jvm.ClassFile Sem Op Lib Jvm.Free Jvm.Stand Jvm.LawKit Jvm.RoadKit Bundle Jvm.Pilot.@@N@@.Jvm.D
section Own
variable {p : Program} {l : Launch} {e : Env} {R : Room} {s : State} {m : MethodId} {args : Array Value} {below : List Frame} {meth : Method} {c : Code} {T : State} {locs : List Loc} {cells slots : Nat}
/-- from S0 the run ends as Q says, within the frame of k cells and n slots -/
def own_Go (p : Program) (e : Env) (below : List Frame) (s : State) (Q : Option Value → Heap → List Loc → Prop) (k n : Nat) (S0 : State) : Prop :=
  ∃ U o, Steps p.tables e below S0 U ∧ U.status = .running ∧ Ended U below o ∧ ∃ v L, o = .returned v ∧ Q v U.heap L ∧ FrameEnd s o U L k n
variable {Q : Option Value → Heap → List Loc → Prop} {K N : Nat} {S0 S1 : State}
theorem own_step (h : ∀ t, Steps p.tables e below S1 t → Steps p.tables e below S0 t) (G : own_Go p e below s Q K N S1) : own_Go p e below s Q K N S0 := by
  obtain ⟨U, o, h1, r⟩ := G
  exact ⟨U, o, h _ h1, r⟩
theorem own_start {g g' : JFrame} (q : g = g') (G : own_Go p e below s Q K N (T.setTop g')) : own_Go p e below s Q K N (T.setTop g) := q ▸ G
theorem own_end (X : Stand p l e R s m args below meth c T locs cells slots) {v : Option Value} (hv : meth.sig.returnType = none → v = none) (hlk : meth.locks = false) (hq : Q v T.heap locs) (hk : cells ≤ K) (hn : slots ≤ N)
    (go : ∀ fs, (∀ (f : JFrame) (acts : List Action), f.method = m → f.locked = none → f.entered = [] → (doReturn e (T.setTop f) acts v).1 = T.setFrames fs) → Steps p.tables e below S0 (T.setFrames fs)) : own_Go p e below s Q K N S0 := by
  obtain ⟨fs, hr, hrun, hended, hW, hsame⟩ := X.leave (v := v) hv hlk
  exact ⟨_, _, go fs hr, hrun, hended, _, _, rfl, hq, ⟨_, rfl⟩, hW, hsame.mono hk hn⟩
theorem own_retN (X : Stand p l e R s m args below meth c T locs cells slots) (hx : p.tables.exec = Jvm.exec) (hlk : meth.locks = false) {pc : Nat} {Ls : Array Slot} {z : Int32} {t : FieldType} {rest : List Value} (hret : meth.sig.returnType = some t) (ht : t = .boolean ∨ t = .byte ∨ t = .char ∨ t = .short)
    (hd : decode c.code pc = .ok (.ireturn, 1)) (hq : Q (some (.int (nar t z))) T.heap locs) (hk : cells ≤ K) (hn : slots ≤ N) : own_Go p e below s Q K N (T.setTop (mkF m pc Ls (.int z :: rest))) :=
  own_end X (fun h => by rw [hret] at h; cases h) hlk hq hk hn fun fs hr => retN X hx hret ht hd hr
theorem own_retI (X : Stand p l e R s m args below meth c T locs cells slots) (hx : p.tables.exec = Jvm.exec) (hlk : meth.locks = false) {pc : Nat} {Ls : Array Slot} {z : Int32} {rest : List Value} (hret : meth.sig.returnType = some .int)
    (hd : decode c.code pc = .ok (.ireturn, 1)) (hq : Q (some (.int z)) T.heap locs) (hk : cells ≤ K) (hn : slots ≤ N) : own_Go p e below s Q K N (T.setTop (mkF m pc Ls (.int z :: rest))) :=
  own_end X (fun h => by rw [hret] at h; cases h) hlk hq hk hn fun fs hr => retOut X hx hret rfl (Or.inl ⟨rfl, Or.inl rfl, _, rfl⟩) hd hr
theorem own_retJ (X : Stand p l e R s m args below meth c T locs cells slots) (hx : p.tables.exec = Jvm.exec) (hlk : meth.locks = false) {pc : Nat} {Ls : Array Slot} {z : Int64} {rest : List Value} (hret : meth.sig.returnType = some .long)
    (hd : decode c.code pc = .ok (.lreturn, 1)) (hq : Q (some (.long z)) T.heap locs) (hk : cells ≤ K) (hn : slots ≤ N) : own_Go p e below s Q K N (T.setTop (mkF m pc Ls (.long z :: rest))) :=
  own_end X (fun h => by rw [hret] at h; cases h) hlk hq hk hn fun fs hr => retOut X hx hret rfl (Or.inr (Or.inl ⟨rfl, rfl, _, rfl⟩)) hd hr
theorem own_retA (X : Stand p l e R s m args below meth c T locs cells slots) (hx : p.tables.exec = Jvm.exec) (hlk : meth.locks = false) {pc : Nat} {Ls : Array Slot} {w : Value} {t : FieldType} {rest : List Value} (hret : meth.sig.returnType = some t) (ht : t.isReference = true) (hw : w.isRef = true)
    (hd : decode c.code pc = .ok (.areturn, 1)) (hq : Q (some w) T.heap locs) (hk : cells ≤ K) (hn : slots ≤ N) : own_Go p e below s Q K N (T.setTop (mkF m pc Ls (w :: rest))) :=
  own_end X (fun h => by rw [hret] at h; cases h) hlk hq hk hn fun fs hr => retOut X hx hret (by cases t <;> first | (cases ht; done) | (cases w <;> rfl)) (Or.inr (Or.inr (Or.inr (Or.inr ⟨rfl, ht, hw⟩)))) hd hr
theorem own_retV (X : Stand p l e R s m args below meth c T locs cells slots) (hx : p.tables.exec = Jvm.exec) (hlk : meth.locks = false) {pc : Nat} {Ls : Array Slot} (hret : meth.sig.returnType = none)
    (hd : decode c.code pc = .ok (.return_, 1)) (hq : Q none T.heap locs) (hk : cells ≤ K) (hn : slots ≤ N) : own_Go p e below s Q K N (T.setTop (mkF m pc Ls [])) :=
  own_end X (fun _ => rfl) hlk hq hk hn fun fs hr => X.returnOut hx hret hd hr
theorem own_Sta_keep {Z : State} {h h' : Heap} {ws : List Addr} {C n d : String} {w : Value} (Kp : Keep h h' ws) (F : Sta Z h C n d w) (q : ∀ a ∈ ws, ∀ cell : Cell, h[a]? = some cell → cell.vm.isStatics = false) : Sta Z h' C n d w := by
  obtain ⟨cf, i, k, f, st, cell, h1, h2, h3, h4, h5, h6, h7⟩ := F
  exact ⟨cf, i, k, f, st, cell, h1, h2, h3, h4, Kp.2.1 _ _ h5 (fun hm => by rw [q _ hm _ h5] at h6; cases h6), h6, h7⟩
theorem g_iload_n (X : Stand p l e R s m args below meth c T locs cells slots) (hx : p.tables.exec = Jvm.exec) {pc : Nat} (pc' : Nat) {Ls : Array Slot} {k : Fin 4} {v : Int32} {st : List Value} (hd : decode c.code pc = .ok (.iload_n k, 1)) (hl : Ls[k.val]? = some (.val (.int v))) (hp : pc + 1 = pc') (G : own_Go p e below s Q K N (T.setTop (mkF m pc' Ls (.int v :: st)))) : own_Go p e below s Q K N (T.setTop (mkF m pc Ls (st))) := by
  subst hp; exact own_step (fun _ k => XS.iloadN X.here hx rfl hd hl k) G
theorem g_iload (X : Stand p l e R s m args below meth c T locs cells slots) (hx : p.tables.exec = Jvm.exec) {pc : Nat} (pc' : Nat) {Ls : Array Slot} {k : Nat} {v : Int32} {st : List Value} (hd : decode c.code pc = .ok (.iload k, 2)) (hl : Ls[k]? = some (.val (.int v))) (hp : pc + 2 = pc') (G : own_Go p e below s Q K N (T.setTop (mkF m pc' Ls (.int v :: st)))) : own_Go p e below s Q K N (T.setTop (mkF m pc Ls (st))) := by
  subst hp; exact own_step (fun _ k => XS.iload X.here hx rfl hd hl k) G
theorem g_istore_n (X : Stand p l e R s m args below meth c T locs cells slots) (hx : p.tables.exec = Jvm.exec) {pc : Nat} (pc' : Nat) {Ls : Array Slot} {k : Fin 4} {v : Int32} {st : List Value} {l' : Array Slot} (hd : decode c.code pc = .ok (.istore_n k, 1)) (hl : storeLocals Ls k.val (.int v) = some l') (hp : pc + 1 = pc') (G : own_Go p e below s Q K N (T.setTop (mkF m pc' l' (st)))) : own_Go p e below s Q K N (T.setTop (mkF m pc Ls (.int v :: st))) := by
  subst hp; exact own_step (fun _ k => XS.istoreN X.here hx rfl hd rfl hl k) G
theorem g_istore (X : Stand p l e R s m args below meth c T locs cells slots) (hx : p.tables.exec = Jvm.exec) {pc : Nat} (pc' : Nat) {Ls : Array Slot} {k : Nat} {v : Int32} {st : List Value} {l' : Array Slot} (hd : decode c.code pc = .ok (.istore k, 2)) (hl : storeLocals Ls k (.int v) = some l') (hp : pc + 2 = pc') (G : own_Go p e below s Q K N (T.setTop (mkF m pc' l' (st)))) : own_Go p e below s Q K N (T.setTop (mkF m pc Ls (.int v :: st))) := by
  subst hp; exact own_step (fun _ k => XS.istore X.here hx rfl hd rfl hl k) G
theorem g_lload_n (X : Stand p l e R s m args below meth c T locs cells slots) (hx : p.tables.exec = Jvm.exec) {pc : Nat} (pc' : Nat) {Ls : Array Slot} {k : Fin 4} {v : Int64} {st : List Value} (hd : decode c.code pc = .ok (.lload_n k, 1)) (hl : Ls[k.val]? = some (.val (.long v))) (hp : pc + 1 = pc') (G : own_Go p e below s Q K N (T.setTop (mkF m pc' Ls (.long v :: st)))) : own_Go p e below s Q K N (T.setTop (mkF m pc Ls (st))) := by
  subst hp; exact own_step (fun _ k => XS.lloadN X.here hx rfl hd hl k) G
theorem g_lload (X : Stand p l e R s m args below meth c T locs cells slots) (hx : p.tables.exec = Jvm.exec) {pc : Nat} (pc' : Nat) {Ls : Array Slot} {k : Nat} {v : Int64} {st : List Value} (hd : decode c.code pc = .ok (.lload k, 2)) (hl : Ls[k]? = some (.val (.long v))) (hp : pc + 2 = pc') (G : own_Go p e below s Q K N (T.setTop (mkF m pc' Ls (.long v :: st)))) : own_Go p e below s Q K N (T.setTop (mkF m pc Ls (st))) := by
  subst hp; exact own_step (fun _ k => XS.lload X.here hx rfl hd hl k) G
theorem g_lstore_n (X : Stand p l e R s m args below meth c T locs cells slots) (hx : p.tables.exec = Jvm.exec) {pc : Nat} (pc' : Nat) {Ls : Array Slot} {k : Fin 4} {v : Int64} {st : List Value} {l' : Array Slot} (hd : decode c.code pc = .ok (.lstore_n k, 1)) (hl : storeLocals Ls k.val (.long v) = some l') (hp : pc + 1 = pc') (G : own_Go p e below s Q K N (T.setTop (mkF m pc' l' (st)))) : own_Go p e below s Q K N (T.setTop (mkF m pc Ls (.long v :: st))) := by
  subst hp; exact own_step (fun _ k => XS.lstoreN X.here hx rfl hd rfl hl k) G
theorem g_lstore (X : Stand p l e R s m args below meth c T locs cells slots) (hx : p.tables.exec = Jvm.exec) {pc : Nat} (pc' : Nat) {Ls : Array Slot} {k : Nat} {v : Int64} {st : List Value} {l' : Array Slot} (hd : decode c.code pc = .ok (.lstore k, 2)) (hl : storeLocals Ls k (.long v) = some l') (hp : pc + 2 = pc') (G : own_Go p e below s Q K N (T.setTop (mkF m pc' l' (st)))) : own_Go p e below s Q K N (T.setTop (mkF m pc Ls (.long v :: st))) := by
  subst hp; exact own_step (fun _ k => XS.lstore X.here hx rfl hd rfl hl k) G
theorem g_aload_n (X : Stand p l e R s m args below meth c T locs cells slots) (hx : p.tables.exec = Jvm.exec) {pc : Nat} (pc' : Nat) {Ls : Array Slot} {k : Fin 4} {v : Value} {st : List Value} (hd : decode c.code pc = .ok (.aload_n k, 1)) (hl : Ls[k.val]? = some (.val v)) (hv : v.isRef = true) (hp : pc + 1 = pc') (G : own_Go p e below s Q K N (T.setTop (mkF m pc' Ls (v :: st)))) : own_Go p e below s Q K N (T.setTop (mkF m pc Ls (st))) := by
  subst hp; exact own_step (fun _ k => XS.aloadN X.here hx rfl hd hl hv k) G
theorem g_aload (X : Stand p l e R s m args below meth c T locs cells slots) (hx : p.tables.exec = Jvm.exec) {pc : Nat} (pc' : Nat) {Ls : Array Slot} {k : Nat} {v : Value} {st : List Value} (hd : decode c.code pc = .ok (.aload k, 2)) (hl : Ls[k]? = some (.val v)) (hv : v.isRef = true) (hp : pc + 2 = pc') (G : own_Go p e below s Q K N (T.setTop (mkF m pc' Ls (v :: st)))) : own_Go p e below s Q K N (T.setTop (mkF m pc Ls (st))) := by
  subst hp; exact own_step (fun _ k => XS.aload X.here hx rfl hd hl hv k) G
theorem g_astore_n (X : Stand p l e R s m args below meth c T locs cells slots) (hx : p.tables.exec = Jvm.exec) {pc : Nat} (pc' : Nat) {Ls : Array Slot} {k : Fin 4} {v : Value} {st : List Value} {l' : Array Slot} (hd : decode c.code pc = .ok (.astore_n k, 1)) (hv : v.isRef = true) (hl : storeLocals Ls k.val v = some l') (hp : pc + 1 = pc') (G : own_Go p e below s Q K N (T.setTop (mkF m pc' l' (st)))) : own_Go p e below s Q K N (T.setTop (mkF m pc Ls (v :: st))) := by
  subst hp; exact own_step (fun _ k => XS.astoreN X.here hx rfl hd rfl hv hl k) G
theorem g_astore (X : Stand p l e R s m args below meth c T locs cells slots) (hx : p.tables.exec = Jvm.exec) {pc : Nat} (pc' : Nat) {Ls : Array Slot} {k : Nat} {v : Value} {st : List Value} {l' : Array Slot} (hd : decode c.code pc = .ok (.astore k, 2)) (hv : v.isRef = true) (hl : storeLocals Ls k v = some l') (hp : pc + 2 = pc') (G : own_Go p e below s Q K N (T.setTop (mkF m pc' l' (st)))) : own_Go p e below s Q K N (T.setTop (mkF m pc Ls (v :: st))) := by
  subst hp; exact own_step (fun _ k => XS.astore X.here hx rfl hd rfl hv hl k) G
theorem g_iconst (X : Stand p l e R s m args below meth c T locs cells slots) (hx : p.tables.exec = Jvm.exec) {pc : Nat} (pc' : Nat) {Ls : Array Slot} {i : Int} {st : List Value} (hd : decode c.code pc = .ok (.iconst i, 1)) (z : Int32) (hz : Int32.ofInt i = z) (hp : pc + 1 = pc') (G : own_Go p e below s Q K N (T.setTop (mkF m pc' Ls (.int z :: st)))) : own_Go p e below s Q K N (T.setTop (mkF m pc Ls st)) := by
  subst hp hz; exact own_step (fun _ k => XS.iconst X.here hx rfl hd k) G
theorem g_bipush (X : Stand p l e R s m args below meth c T locs cells slots) (hx : p.tables.exec = Jvm.exec) {pc : Nat} (pc' : Nat) {Ls : Array Slot} {i : Int} {st : List Value} (hd : decode c.code pc = .ok (.bipush i, 2)) (z : Int32) (hz : (Int8.ofInt i).toInt32 = z) (hp : pc + 2 = pc') (G : own_Go p e below s Q K N (T.setTop (mkF m pc' Ls (.int z :: st)))) : own_Go p e below s Q K N (T.setTop (mkF m pc Ls st)) := by
  subst hp hz; exact own_step (fun _ k => XS.bipush X.here hx rfl hd k) G
theorem g_sipush (X : Stand p l e R s m args below meth c T locs cells slots) (hx : p.tables.exec = Jvm.exec) {pc : Nat} (pc' : Nat) {Ls : Array Slot} {i : Int} {st : List Value} (hd : decode c.code pc = .ok (.sipush i, 3)) (z : Int32) (hz : (Int16.ofInt i).toInt32 = z) (hp : pc + 3 = pc') (G : own_Go p e below s Q K N (T.setTop (mkF m pc' Ls (.int z :: st)))) : own_Go p e below s Q K N (T.setTop (mkF m pc Ls st)) := by
  subst hp hz; exact own_step (fun _ k => XS.sipush X.here hx rfl hd k) G
theorem g_lconst (X : Stand p l e R s m args below meth c T locs cells slots) (hx : p.tables.exec = Jvm.exec) {pc : Nat} (pc' : Nat) {Ls : Array Slot} {i : Fin 2} {st : List Value} (hd : decode c.code pc = .ok (.lconst i, 1)) (z : Int64) (hz : Int64.ofNat i.val = z) (hp : pc + 1 = pc') (G : own_Go p e below s Q K N (T.setTop (mkF m pc' Ls (.long z :: st)))) : own_Go p e below s Q K N (T.setTop (mkF m pc Ls st)) := by
  subst hp hz; exact own_step (fun _ k => XS.lconst X.here hx rfl hd k) G
theorem g_aconst_null (X : Stand p l e R s m args below meth c T locs cells slots) (hx : p.tables.exec = Jvm.exec) {pc : Nat} (pc' : Nat) {Ls : Array Slot} {st : List Value} (hd : decode c.code pc = .ok (.aconst_null, 1))  (hp : pc + 1 = pc') (G : own_Go p e below s Q K N (T.setTop (mkF m pc' Ls (.null :: st)))) : own_Go p e below s Q K N (T.setTop (mkF m pc Ls (st))) := by
  subst hp; exact own_step (fun _ k => XS.aconstNull X.here hx rfl hd k) G
theorem g_iadd (X : Stand p l e R s m args below meth c T locs cells slots) (hx : p.tables.exec = Jvm.exec) {pc : Nat} (pc' : Nat) {Ls : Array Slot} {x y : Int32} {st : List Value} (hd : decode c.code pc = .ok (.iadd, 1))  (hp : pc + 1 = pc') (G : own_Go p e below s Q K N (T.setTop (mkF m pc' Ls (.int (x + y) :: st)))) : own_Go p e below s Q K N (T.setTop (mkF m pc Ls (.int y :: .int x :: st))) := by
  subst hp; exact own_step (fun _ k => XS.iadd X.here hx rfl hd rfl k) G
theorem g_ladd (X : Stand p l e R s m args below meth c T locs cells slots) (hx : p.tables.exec = Jvm.exec) {pc : Nat} (pc' : Nat) {Ls : Array Slot} {x y : Int64} {st : List Value} (hd : decode c.code pc = .ok (.ladd, 1))  (hp : pc + 1 = pc') (G : own_Go p e below s Q K N (T.setTop (mkF m pc' Ls (.long (x + y) :: st)))) : own_Go p e below s Q K N (T.setTop (mkF m pc Ls (.long y :: .long x :: st))) := by
  subst hp; exact own_step (fun _ k => XS.ladd X.here hx rfl hd rfl k) G
theorem g_isub (X : Stand p l e R s m args below meth c T locs cells slots) (hx : p.tables.exec = Jvm.exec) {pc : Nat} (pc' : Nat) {Ls : Array Slot} {x y : Int32} {st : List Value} (hd : decode c.code pc = .ok (.isub, 1))  (hp : pc + 1 = pc') (G : own_Go p e below s Q K N (T.setTop (mkF m pc' Ls (.int (x - y) :: st)))) : own_Go p e below s Q K N (T.setTop (mkF m pc Ls (.int y :: .int x :: st))) := by
  subst hp; exact own_step (fun _ k => XS.isub X.here hx rfl hd rfl k) G
theorem g_lsub (X : Stand p l e R s m args below meth c T locs cells slots) (hx : p.tables.exec = Jvm.exec) {pc : Nat} (pc' : Nat) {Ls : Array Slot} {x y : Int64} {st : List Value} (hd : decode c.code pc = .ok (.lsub, 1))  (hp : pc + 1 = pc') (G : own_Go p e below s Q K N (T.setTop (mkF m pc' Ls (.long (x - y) :: st)))) : own_Go p e below s Q K N (T.setTop (mkF m pc Ls (.long y :: .long x :: st))) := by
  subst hp; exact own_step (fun _ k => XS.lsub X.here hx rfl hd rfl k) G
theorem g_imul (X : Stand p l e R s m args below meth c T locs cells slots) (hx : p.tables.exec = Jvm.exec) {pc : Nat} (pc' : Nat) {Ls : Array Slot} {x y : Int32} {st : List Value} (hd : decode c.code pc = .ok (.imul, 1))  (hp : pc + 1 = pc') (G : own_Go p e below s Q K N (T.setTop (mkF m pc' Ls (.int (x * y) :: st)))) : own_Go p e below s Q K N (T.setTop (mkF m pc Ls (.int y :: .int x :: st))) := by
  subst hp; exact own_step (fun _ k => XS.imul X.here hx rfl hd rfl k) G
theorem g_lmul (X : Stand p l e R s m args below meth c T locs cells slots) (hx : p.tables.exec = Jvm.exec) {pc : Nat} (pc' : Nat) {Ls : Array Slot} {x y : Int64} {st : List Value} (hd : decode c.code pc = .ok (.lmul, 1))  (hp : pc + 1 = pc') (G : own_Go p e below s Q K N (T.setTop (mkF m pc' Ls (.long (x * y) :: st)))) : own_Go p e below s Q K N (T.setTop (mkF m pc Ls (.long y :: .long x :: st))) := by
  subst hp; exact own_step (fun _ k => XS.lmul X.here hx rfl hd rfl k) G
theorem g_iand (X : Stand p l e R s m args below meth c T locs cells slots) (hx : p.tables.exec = Jvm.exec) {pc : Nat} (pc' : Nat) {Ls : Array Slot} {x y : Int32} {st : List Value} (hd : decode c.code pc = .ok (.iand, 1))  (hp : pc + 1 = pc') (G : own_Go p e below s Q K N (T.setTop (mkF m pc' Ls (.int (x &&& y) :: st)))) : own_Go p e below s Q K N (T.setTop (mkF m pc Ls (.int y :: .int x :: st))) := by
  subst hp; exact own_step (fun _ k => XS.iand X.here hx rfl hd rfl k) G
theorem g_land (X : Stand p l e R s m args below meth c T locs cells slots) (hx : p.tables.exec = Jvm.exec) {pc : Nat} (pc' : Nat) {Ls : Array Slot} {x y : Int64} {st : List Value} (hd : decode c.code pc = .ok (.land, 1))  (hp : pc + 1 = pc') (G : own_Go p e below s Q K N (T.setTop (mkF m pc' Ls (.long (x &&& y) :: st)))) : own_Go p e below s Q K N (T.setTop (mkF m pc Ls (.long y :: .long x :: st))) := by
  subst hp; exact own_step (fun _ k => XS.land X.here hx rfl hd rfl k) G
theorem g_ior (X : Stand p l e R s m args below meth c T locs cells slots) (hx : p.tables.exec = Jvm.exec) {pc : Nat} (pc' : Nat) {Ls : Array Slot} {x y : Int32} {st : List Value} (hd : decode c.code pc = .ok (.ior, 1))  (hp : pc + 1 = pc') (G : own_Go p e below s Q K N (T.setTop (mkF m pc' Ls (.int (x ||| y) :: st)))) : own_Go p e below s Q K N (T.setTop (mkF m pc Ls (.int y :: .int x :: st))) := by
  subst hp; exact own_step (fun _ k => XS.ior X.here hx rfl hd rfl k) G
theorem g_lor (X : Stand p l e R s m args below meth c T locs cells slots) (hx : p.tables.exec = Jvm.exec) {pc : Nat} (pc' : Nat) {Ls : Array Slot} {x y : Int64} {st : List Value} (hd : decode c.code pc = .ok (.lor, 1))  (hp : pc + 1 = pc') (G : own_Go p e below s Q K N (T.setTop (mkF m pc' Ls (.long (x ||| y) :: st)))) : own_Go p e below s Q K N (T.setTop (mkF m pc Ls (.long y :: .long x :: st))) := by
  subst hp; exact own_step (fun _ k => XS.lor X.here hx rfl hd rfl k) G
theorem g_ixor (X : Stand p l e R s m args below meth c T locs cells slots) (hx : p.tables.exec = Jvm.exec) {pc : Nat} (pc' : Nat) {Ls : Array Slot} {x y : Int32} {st : List Value} (hd : decode c.code pc = .ok (.ixor, 1))  (hp : pc + 1 = pc') (G : own_Go p e below s Q K N (T.setTop (mkF m pc' Ls (.int (x ^^^ y) :: st)))) : own_Go p e below s Q K N (T.setTop (mkF m pc Ls (.int y :: .int x :: st))) := by
  subst hp; exact own_step (fun _ k => XS.ixor X.here hx rfl hd rfl k) G
theorem g_lxor (X : Stand p l e R s m args below meth c T locs cells slots) (hx : p.tables.exec = Jvm.exec) {pc : Nat} (pc' : Nat) {Ls : Array Slot} {x y : Int64} {st : List Value} (hd : decode c.code pc = .ok (.lxor, 1))  (hp : pc + 1 = pc') (G : own_Go p e below s Q K N (T.setTop (mkF m pc' Ls (.long (x ^^^ y) :: st)))) : own_Go p e below s Q K N (T.setTop (mkF m pc Ls (.long y :: .long x :: st))) := by
  subst hp; exact own_step (fun _ k => XS.lxor X.here hx rfl hd rfl k) G
theorem g_ineg (X : Stand p l e R s m args below meth c T locs cells slots) (hx : p.tables.exec = Jvm.exec) {pc : Nat} (pc' : Nat) {Ls : Array Slot} {x : Int32} {st : List Value} (hd : decode c.code pc = .ok (.ineg, 1))  (hp : pc + 1 = pc') (G : own_Go p e below s Q K N (T.setTop (mkF m pc' Ls (.int (-x) :: st)))) : own_Go p e below s Q K N (T.setTop (mkF m pc Ls (.int x :: st))) := by
  subst hp; exact own_step (fun _ k => XS.ineg X.here hx rfl hd rfl k) G
theorem g_lneg (X : Stand p l e R s m args below meth c T locs cells slots) (hx : p.tables.exec = Jvm.exec) {pc : Nat} (pc' : Nat) {Ls : Array Slot} {x : Int64} {st : List Value} (hd : decode c.code pc = .ok (.lneg, 1))  (hp : pc + 1 = pc') (G : own_Go p e below s Q K N (T.setTop (mkF m pc' Ls (.long (-x) :: st)))) : own_Go p e below s Q K N (T.setTop (mkF m pc Ls (.long x :: st))) := by
  subst hp; exact own_step (fun _ k => XS.lneg X.here hx rfl hd rfl k) G
theorem g_i2l (X : Stand p l e R s m args below meth c T locs cells slots) (hx : p.tables.exec = Jvm.exec) {pc : Nat} (pc' : Nat) {Ls : Array Slot} {x : Int32} {st : List Value} (hd : decode c.code pc = .ok (.i2l, 1))  (hp : pc + 1 = pc') (G : own_Go p e below s Q K N (T.setTop (mkF m pc' Ls (.long (x.toInt64) :: st)))) : own_Go p e below s Q K N (T.setTop (mkF m pc Ls (.int x :: st))) := by
  subst hp; exact own_step (fun _ k => XS.i2l X.here hx rfl hd rfl k) G
theorem g_l2i (X : Stand p l e R s m args below meth c T locs cells slots) (hx : p.tables.exec = Jvm.exec) {pc : Nat} (pc' : Nat) {Ls : Array Slot} {x : Int64} {st : List Value} (hd : decode c.code pc = .ok (.l2i, 1))  (hp : pc + 1 = pc') (G : own_Go p e below s Q K N (T.setTop (mkF m pc' Ls (.int (x.toInt32) :: st)))) : own_Go p e below s Q K N (T.setTop (mkF m pc Ls (.long x :: st))) := by
  subst hp; exact own_step (fun _ k => XS.l2i X.here hx rfl hd rfl k) G
theorem g_i2b (X : Stand p l e R s m args below meth c T locs cells slots) (hx : p.tables.exec = Jvm.exec) {pc : Nat} (pc' : Nat) {Ls : Array Slot} {x : Int32} {st : List Value} (hd : decode c.code pc = .ok (.i2b, 1))  (hp : pc + 1 = pc') (G : own_Go p e below s Q K N (T.setTop (mkF m pc' Ls (.int (x.toInt8.toInt32) :: st)))) : own_Go p e below s Q K N (T.setTop (mkF m pc Ls (.int x :: st))) := by
  subst hp; exact own_step (fun _ k => XS.i2b X.here hx rfl hd rfl k) G
theorem g_i2s (X : Stand p l e R s m args below meth c T locs cells slots) (hx : p.tables.exec = Jvm.exec) {pc : Nat} (pc' : Nat) {Ls : Array Slot} {x : Int32} {st : List Value} (hd : decode c.code pc = .ok (.i2s, 1))  (hp : pc + 1 = pc') (G : own_Go p e below s Q K N (T.setTop (mkF m pc' Ls (.int (x.toInt16.toInt32) :: st)))) : own_Go p e below s Q K N (T.setTop (mkF m pc Ls (.int x :: st))) := by
  subst hp; exact own_step (fun _ k => XS.i2s X.here hx rfl hd rfl k) G
theorem g_i2c (X : Stand p l e R s m args below meth c T locs cells slots) (hx : p.tables.exec = Jvm.exec) {pc : Nat} (pc' : Nat) {Ls : Array Slot} {x : Int32} {st : List Value} (hd : decode c.code pc = .ok (.i2c, 1))  (hp : pc + 1 = pc') (G : own_Go p e below s Q K N (T.setTop (mkF m pc' Ls (.int (x.toUInt32.toUInt16.toUInt32.toInt32) :: st)))) : own_Go p e below s Q K N (T.setTop (mkF m pc Ls (.int x :: st))) := by
  subst hp; exact own_step (fun _ k => XS.i2c X.here hx rfl hd rfl k) G
theorem g_ishl (X : Stand p l e R s m args below meth c T locs cells slots) (hx : p.tables.exec = Jvm.exec) {pc : Nat} (pc' : Nat) {Ls : Array Slot} {x : Int32} {y : Int32} {st : List Value} (hd : decode c.code pc = .ok (.ishl, 1))  (hp : pc + 1 = pc') (G : own_Go p e below s Q K N (T.setTop (mkF m pc' Ls (.int (x <<< (y &&& 31)) :: st)))) : own_Go p e below s Q K N (T.setTop (mkF m pc Ls (.int y :: .int x :: st))) := by
  subst hp; exact own_step (fun _ k => XS.ishl X.here hx rfl hd rfl k) G
theorem g_ishr (X : Stand p l e R s m args below meth c T locs cells slots) (hx : p.tables.exec = Jvm.exec) {pc : Nat} (pc' : Nat) {Ls : Array Slot} {x : Int32} {y : Int32} {st : List Value} (hd : decode c.code pc = .ok (.ishr, 1))  (hp : pc + 1 = pc') (G : own_Go p e below s Q K N (T.setTop (mkF m pc' Ls (.int (x >>> (y &&& 31)) :: st)))) : own_Go p e below s Q K N (T.setTop (mkF m pc Ls (.int y :: .int x :: st))) := by
  subst hp; exact own_step (fun _ k => XS.ishr X.here hx rfl hd rfl k) G
theorem g_iushr (X : Stand p l e R s m args below meth c T locs cells slots) (hx : p.tables.exec = Jvm.exec) {pc : Nat} (pc' : Nat) {Ls : Array Slot} {x : Int32} {y : Int32} {st : List Value} (hd : decode c.code pc = .ok (.iushr, 1))  (hp : pc + 1 = pc') (G : own_Go p e below s Q K N (T.setTop (mkF m pc' Ls (.int ((x.toUInt32 >>> (y &&& 31).toUInt32).toInt32) :: st)))) : own_Go p e below s Q K N (T.setTop (mkF m pc Ls (.int y :: .int x :: st))) := by
  subst hp; exact own_step (fun _ k => XS.iushr X.here hx rfl hd rfl k) G
theorem g_lshl (X : Stand p l e R s m args below meth c T locs cells slots) (hx : p.tables.exec = Jvm.exec) {pc : Nat} (pc' : Nat) {Ls : Array Slot} {x : Int64} {y : Int32} {st : List Value} (hd : decode c.code pc = .ok (.lshl, 1))  (hp : pc + 1 = pc') (G : own_Go p e below s Q K N (T.setTop (mkF m pc' Ls (.long (x <<< (y &&& 0x3f).toInt64) :: st)))) : own_Go p e below s Q K N (T.setTop (mkF m pc Ls (.int y :: .long x :: st))) := by
  subst hp; exact own_step (fun _ k => XS.lshl X.here hx rfl hd rfl k) G
theorem g_lshr (X : Stand p l e R s m args below meth c T locs cells slots) (hx : p.tables.exec = Jvm.exec) {pc : Nat} (pc' : Nat) {Ls : Array Slot} {x : Int64} {y : Int32} {st : List Value} (hd : decode c.code pc = .ok (.lshr, 1))  (hp : pc + 1 = pc') (G : own_Go p e below s Q K N (T.setTop (mkF m pc' Ls (.long (x >>> (y &&& 0x3f).toInt64) :: st)))) : own_Go p e below s Q K N (T.setTop (mkF m pc Ls (.int y :: .long x :: st))) := by
  subst hp; exact own_step (fun _ k => XS.lshr X.here hx rfl hd rfl k) G
theorem g_lushr (X : Stand p l e R s m args below meth c T locs cells slots) (hx : p.tables.exec = Jvm.exec) {pc : Nat} (pc' : Nat) {Ls : Array Slot} {x : Int64} {y : Int32} {st : List Value} (hd : decode c.code pc = .ok (.lushr, 1))  (hp : pc + 1 = pc') (G : own_Go p e below s Q K N (T.setTop (mkF m pc' Ls (.long ((x.toUInt64 >>> (y &&& 0x3f).toInt64.toUInt64).toInt64) :: st)))) : own_Go p e below s Q K N (T.setTop (mkF m pc Ls (.int y :: .long x :: st))) := by
  subst hp; exact own_step (fun _ k => XS.lushr X.here hx rfl hd rfl k) G
theorem g_lcmp (X : Stand p l e R s m args below meth c T locs cells slots) (hx : p.tables.exec = Jvm.exec) {pc : Nat} (pc' : Nat) {Ls : Array Slot} {x y : Int64} {st : List Value} (hd : decode c.code pc = .ok (.lcmp, 1))  (hp : pc + 1 = pc') (G : own_Go p e below s Q K N (T.setTop (mkF m pc' Ls (.int (lcmpW x y) :: st)))) : own_Go p e below s Q K N (T.setTop (mkF m pc Ls (.long y :: .long x :: st))) := by
  subst hp; exact own_step (fun _ k => XS.lcmp X.here hx rfl hd rfl k) G
theorem g_idiv (X : Stand p l e R s m args below meth c T locs cells slots) (hx : p.tables.exec = Jvm.exec) {pc : Nat} (pc' : Nat) {Ls : Array Slot} {x y : Int32} {st : List Value} (hd : decode c.code pc = .ok (.idiv, 1)) (hp : pc + 1 = pc') (hy : y ≠ 0) (G : own_Go p e below s Q K N (T.setTop (mkF m pc' Ls (.int (x / y) :: st)))) : own_Go p e below s Q K N (T.setTop (mkF m pc Ls (.int y :: .int x :: st))) := by
  subst hp; exact own_step (fun _ k => XS.idiv X.here hx rfl hd rfl hy k) G
theorem g_ldiv (X : Stand p l e R s m args below meth c T locs cells slots) (hx : p.tables.exec = Jvm.exec) {pc : Nat} (pc' : Nat) {Ls : Array Slot} {x y : Int64} {st : List Value} (hd : decode c.code pc = .ok (.ldiv, 1)) (hp : pc + 1 = pc') (hy : y ≠ 0) (G : own_Go p e below s Q K N (T.setTop (mkF m pc' Ls (.long (x / y) :: st)))) : own_Go p e below s Q K N (T.setTop (mkF m pc Ls (.long y :: .long x :: st))) := by
  subst hp; exact own_step (fun _ k => XS.ldiv X.here hx rfl hd rfl hy k) G
theorem g_irem (X : Stand p l e R s m args below meth c T locs cells slots) (hx : p.tables.exec = Jvm.exec) {pc : Nat} (pc' : Nat) {Ls : Array Slot} {x y : Int32} {st : List Value} (hd : decode c.code pc = .ok (.irem, 1)) (hp : pc + 1 = pc') (hy : y ≠ 0) (G : own_Go p e below s Q K N (T.setTop (mkF m pc' Ls (.int (x % y) :: st)))) : own_Go p e below s Q K N (T.setTop (mkF m pc Ls (.int y :: .int x :: st))) := by
  subst hp; exact own_step (fun _ k => iremM X hx rfl hd rfl hy k) G
theorem g_lrem (X : Stand p l e R s m args below meth c T locs cells slots) (hx : p.tables.exec = Jvm.exec) {pc : Nat} (pc' : Nat) {Ls : Array Slot} {x y : Int64} {st : List Value} (hd : decode c.code pc = .ok (.lrem, 1)) (hp : pc + 1 = pc') (hy : y ≠ 0) (G : own_Go p e below s Q K N (T.setTop (mkF m pc' Ls (.long (x % y) :: st)))) : own_Go p e below s Q K N (T.setTop (mkF m pc Ls (.long y :: .long x :: st))) := by
  subst hp; rw [← lrem_mod] at G; exact own_step (fun _ k => XS.lrem X.here hx rfl hd rfl hy k) G
theorem g_iinc (X : Stand p l e R s m args below meth c T locs cells slots) (hx : p.tables.exec = Jvm.exec) {pc : Nat} (pc' : Nat) {Ls : Array Slot} {k : Nat} {cst : Int} {x z : Int32} {l' : Array Slot} {st : List Value} (hd : decode c.code pc = .ok (.iinc k cst, 3)) (hl : Ls[k]? = some (.val (.int x))) (hz : x + Int32.ofInt cst = z) (hl' : storeLocals Ls k (.int z) = some l') (hp : pc + 3 = pc') (G : own_Go p e below s Q K N (T.setTop (mkF m pc' l' st))) : own_Go p e below s Q K N (T.setTop (mkF m pc Ls st)) := by
  subst hp hz; exact own_step (fun _ k => XS.iinc X.here hx rfl hd hl hl' k) G
theorem g_dup (X : Stand p l e R s m args below meth c T locs cells slots) (hx : p.tables.exec = Jvm.exec) {pc : Nat} (pc' : Nat) {Ls : Array Slot} {x : Value} {st : List Value} (hd : decode c.code pc = .ok (.dup, 1)) (hc : x.category = 1) (hp : pc + 1 = pc') (G : own_Go p e below s Q K N (T.setTop (mkF m pc' Ls (x :: x :: st)))) : own_Go p e below s Q K N (T.setTop (mkF m pc Ls (x :: st))) := by
  subst hp; exact own_step (fun _ k => XS.dup X.here hx rfl hd rfl hc k) G
theorem g_pop (X : Stand p l e R s m args below meth c T locs cells slots) (hx : p.tables.exec = Jvm.exec) {pc : Nat} (pc' : Nat) {Ls : Array Slot} {x : Value} {st : List Value} (hd : decode c.code pc = .ok (.pop, 1)) (hc : x.category = 1) (hp : pc + 1 = pc') (G : own_Go p e below s Q K N (T.setTop (mkF m pc' Ls (st)))) : own_Go p e below s Q K N (T.setTop (mkF m pc Ls (x :: st))) := by
  subst hp; exact own_step (fun _ k => XS.pop X.here hx rfl hd rfl hc k) G
theorem g_dup_x1 (X : Stand p l e R s m args below meth c T locs cells slots) (hx : p.tables.exec = Jvm.exec) {pc : Nat} (pc' : Nat) {Ls : Array Slot} {x y : Value} {st : List Value} (hd : decode c.code pc = .ok (.dup_x1, 1)) (hc : x.category = 1) (hc' : y.category = 1) (hp : pc + 1 = pc') (G : own_Go p e below s Q K N (T.setTop (mkF m pc' Ls (x :: y :: x :: st)))) : own_Go p e below s Q K N (T.setTop (mkF m pc Ls (x :: y :: st))) := by
  subst hp; exact own_step (fun _ k => XS.dupX1 X.here hx rfl hd rfl hc hc' k) G
theorem g_dup2 (X : Stand p l e R s m args below meth c T locs cells slots) (hx : p.tables.exec = Jvm.exec) {pc : Nat} (pc' : Nat) {Ls : Array Slot} {x y : Value} {st : List Value} (hd : decode c.code pc = .ok (.dup2, 1)) (hc : x.category = 1) (hc' : y.category = 1) (hp : pc + 1 = pc') (G : own_Go p e below s Q K N (T.setTop (mkF m pc' Ls (x :: y :: x :: y :: st)))) : own_Go p e below s Q K N (T.setTop (mkF m pc Ls (x :: y :: st))) := by
  subst hp; exact own_step (fun _ k => XT.dup2 X.here hx rfl hd rfl hc hc' k) G
theorem g_dup2L (X : Stand p l e R s m args below meth c T locs cells slots) (hx : p.tables.exec = Jvm.exec) {pc : Nat} (pc' : Nat) {Ls : Array Slot} {x : Int64} {st : List Value} (hd : decode c.code pc = .ok (.dup2, 1))  (hp : pc + 1 = pc') (G : own_Go p e below s Q K N (T.setTop (mkF m pc' Ls (.long x :: .long x :: st)))) : own_Go p e below s Q K N (T.setTop (mkF m pc Ls (.long x :: st))) := by
  subst hp; exact own_step (fun _ k => XT.dup2L X.here hx rfl hd rfl k) G
theorem g_goto (X : Stand p l e R s m args below meth c T locs cells slots) (hx : p.tables.exec = Jvm.exec) {pc : Nat} (pc' : Nat) {Ls : Array Slot} {o : Int} {st : List Value} (hd : decode c.code pc = .ok (.goto o, 3)) (ho : 0 ≤ (pc : Int) + o) (hp : ((pc : Int) + o).toNat = pc') (G : own_Go p e below s Q K N (T.setTop (mkF m pc' Ls st))) : own_Go p e below s Q K N (T.setTop (mkF m pc Ls st)) :=
  own_step (fun _ k => XS.goto X.here hx rfl rfl hd ho hp k) G
theorem g_ifYes (X : Stand p l e R s m args below meth c T locs cells slots) (hx : p.tables.exec = Jvm.exec) {pc : Nat} (pc' : Nat) {Ls : Array Slot} {cd : ClassFile.Cond} {x : Int32} {o : Int} {st : List Value} (hd : decode c.code pc = .ok (.ifCond cd o, 3)) (hc : ifCond.holds cd x = true) (ho : 0 ≤ (pc : Int) + o) (hp : ((pc : Int) + o).toNat = pc') (G : own_Go p e below s Q K N (T.setTop (mkF m pc' Ls st))) : own_Go p e below s Q K N (T.setTop (mkF m pc Ls (.int x :: st))) :=
  own_step (fun _ k => XS.ifYes X.here hx rfl rfl hd rfl hc ho hp k) G
theorem g_ifNo (X : Stand p l e R s m args below meth c T locs cells slots) (hx : p.tables.exec = Jvm.exec) {pc : Nat} (pc' : Nat) {Ls : Array Slot} {cd : ClassFile.Cond} {x : Int32} {o : Int} {st : List Value} (hd : decode c.code pc = .ok (.ifCond cd o, 3)) (hc : ifCond.holds cd x = false) (hp : pc + 3 = pc') (G : own_Go p e below s Q K N (T.setTop (mkF m pc' Ls st))) : own_Go p e below s Q K N (T.setTop (mkF m pc Ls (.int x :: st))) := by
  subst hp; exact own_step (fun _ k => XS.ifNo X.here hx rfl hd rfl hc k) G
theorem g_icmpYes (X : Stand p l e R s m args below meth c T locs cells slots) (hx : p.tables.exec = Jvm.exec) {pc : Nat} (pc' : Nat) {Ls : Array Slot} {cd : ClassFile.Cond} {x y : Int32} {o : Int} {st : List Value} (hd : decode c.code pc = .ok (.if_icmp cd o, 3)) (hc : if_icmp.holds cd x y = true) (ho : 0 ≤ (pc : Int) + o) (hp : ((pc : Int) + o).toNat = pc') (G : own_Go p e below s Q K N (T.setTop (mkF m pc' Ls st))) : own_Go p e below s Q K N (T.setTop (mkF m pc Ls (.int y :: .int x :: st))) :=
  own_step (fun _ k => XS.icmpYes X.here hx rfl rfl hd rfl hc ho hp k) G
theorem g_icmpNo (X : Stand p l e R s m args below meth c T locs cells slots) (hx : p.tables.exec = Jvm.exec) {pc : Nat} (pc' : Nat) {Ls : Array Slot} {cd : ClassFile.Cond} {x y : Int32} {o : Int} {st : List Value} (hd : decode c.code pc = .ok (.if_icmp cd o, 3)) (hc : if_icmp.holds cd x y = false) (hp : pc + 3 = pc') (G : own_Go p e below s Q K N (T.setTop (mkF m pc' Ls st))) : own_Go p e below s Q K N (T.setTop (mkF m pc Ls (.int y :: .int x :: st))) := by
  subst hp; exact own_step (fun _ k => XS.icmpNo X.here hx rfl hd rfl hc k) G
theorem g_ifnullYes (X : Stand p l e R s m args below meth c T locs cells slots) (hx : p.tables.exec = Jvm.exec) {pc : Nat} (pc' : Nat) {Ls : Array Slot} {o : Int} {st : List Value} (hd : decode c.code pc = .ok (.ifnull o, 3)) (ho : 0 ≤ (pc : Int) + o) (hp : ((pc : Int) + o).toNat = pc') (G : own_Go p e below s Q K N (T.setTop (mkF m pc' Ls st))) : own_Go p e below s Q K N (T.setTop (mkF m pc Ls (.null :: st))) :=
  own_step (fun _ k => XS.ifnullYes X.here hx rfl rfl hd rfl ho hp k) G
theorem g_ifnullNo (X : Stand p l e R s m args below meth c T locs cells slots) (hx : p.tables.exec = Jvm.exec) {pc : Nat} (pc' : Nat) {Ls : Array Slot} {b : Addr} {o : Int} {st : List Value} (hd : decode c.code pc = .ok (.ifnull o, 3)) (hp : pc + 3 = pc') (G : own_Go p e below s Q K N (T.setTop (mkF m pc' Ls st))) : own_Go p e below s Q K N (T.setTop (mkF m pc Ls (.ref b :: st))) := by
  subst hp; exact own_step (fun _ k => XS.ifnullNo X.here hx rfl hd rfl k) G
theorem g_ifnonnullYes (X : Stand p l e R s m args below meth c T locs cells slots) (hx : p.tables.exec = Jvm.exec) {pc : Nat} (pc' : Nat) {Ls : Array Slot} {b : Addr} {o : Int} {st : List Value} (hd : decode c.code pc = .ok (.ifnonnull o, 3)) (ho : 0 ≤ (pc : Int) + o) (hp : ((pc : Int) + o).toNat = pc') (G : own_Go p e below s Q K N (T.setTop (mkF m pc' Ls st))) : own_Go p e below s Q K N (T.setTop (mkF m pc Ls (.ref b :: st))) :=
  own_step (fun _ k => XS.ifnonnullYes X.here hx rfl rfl hd rfl ho hp k) G
theorem g_ifnonnullNo (X : Stand p l e R s m args below meth c T locs cells slots) (hx : p.tables.exec = Jvm.exec) {pc : Nat} (pc' : Nat) {Ls : Array Slot} {o : Int} {st : List Value} (hd : decode c.code pc = .ok (.ifnonnull o, 3)) (hp : pc + 3 = pc') (G : own_Go p e below s Q K N (T.setTop (mkF m pc' Ls st))) : own_Go p e below s Q K N (T.setTop (mkF m pc Ls (.null :: st))) := by
  subst hp; exact own_step (fun _ k => XS.ifnonnullNo X.here hx rfl hd rfl k) G
theorem g_acmp (X : Stand p l e R s m args below meth c T locs cells slots) (hx : p.tables.exec = Jvm.exec) {pc : Nat} {Ls : Array Slot} {cd : ACond} {x y : Value} {o : Int} {st : List Value} {same : Bool} (pc' : Nat) (hd : decode c.code pc = .ok (.if_acmp cd o, 3)) (h1 : x.isRef = true) (h2 : y.isRef = true) (hq : decide (x = y) = same) (ho : 0 ≤ (pc : Int) + o) (hp : pc' = if acV cd same = true then ((pc : Int) + o).toNat else pc + 3) (G : own_Go p e below s Q K N (T.setTop (mkF m pc' Ls st))) : own_Go p e below s Q K N (T.setTop (mkF m pc Ls (y :: x :: st))) :=
  own_step (fun _ k => Jvm.RoadKit.acmp X hx rfl h1 h2 rfl hd rfl hq ho hp k) G
theorem g_ldc (X : Stand p l e R s m args below meth c T locs cells slots) (hx : p.tables.exec = Jvm.exec) {own : String} (hown : s.vm.findClass own = some m.cls) {pc : Nat} (pc' : Nat) {Ls : Array Slot} {i : Nat} {z : Int32} {st : List Value} (hw : (Jvm.Cond.constant own i z).before args s = true) (hd : decode c.code pc = .ok (.ldc i, 2)) (hp : pc + 2 = pc') (G : own_Go p e below s Q K N (T.setTop (mkF m pc' Ls (.int z :: st)))) : own_Go p e below s Q K N (T.setTop (mkF m pc Ls st)) := by
  subst hp; exact own_step (fun _ k => X.ldcInt hx hown hw (g := mkF m pc Ls st) rfl hd _ k) G
theorem g_ldc_w (X : Stand p l e R s m args below meth c T locs cells slots) (hx : p.tables.exec = Jvm.exec) {own : String} (hown : s.vm.findClass own = some m.cls) {pc : Nat} (pc' : Nat) {Ls : Array Slot} {i : Nat} {z : Int32} {st : List Value} (hw : (Jvm.Cond.constant own i z).before args s = true) (hd : decode c.code pc = .ok (.ldc_w i, 3)) (hp : pc + 3 = pc') (G : own_Go p e below s Q K N (T.setTop (mkF m pc' Ls (.int z :: st)))) : own_Go p e below s Q K N (T.setTop (mkF m pc Ls st)) := by
  subst hp; exact own_step (fun _ k => X.ldcwInt hx hown hw (g := mkF m pc Ls st) rfl hd _ k) G
theorem g_ldc2_w (X : Stand p l e R s m args below meth c T locs cells slots) (hx : p.tables.exec = Jvm.exec) {own : String} (hown : s.vm.findClass own = some m.cls) {pc : Nat} (pc' : Nat) {Ls : Array Slot} {i : Nat} {z : Int64} {st : List Value} (hw : (Jvm.Cond.constantLong own i z).before args s = true) (hd : decode c.code pc = .ok (.ldc2_w i, 3)) (hp : pc + 3 = pc') (G : own_Go p e below s Q K N (T.setTop (mkF m pc' Ls (.long z :: st)))) : own_Go p e below s Q K N (T.setTop (mkF m pc Ls st)) := by
  subst hp; exact own_step (fun _ k => X.ldc2Long hx hown hw (g := mkF m pc Ls st) rfl hd _ k) G
theorem g_tswIn (X : Stand p l e R s m args below meth c T locs cells slots) (hx : p.tables.exec = Jvm.exec) {pc : Nat} (pc' : Nat) {Ls : Array Slot} {dflt low high : Int} {offs : Array Int} {len : Nat} {o : Int} {i : Int32} {st : List Value} (hd : decode c.code pc = .ok (.tableswitch dflt low high offs, len)) (hin : ¬ (i.toInt < low ∨ i.toInt > high)) (hoff : offs[(i.toInt - low).toNat]? = some o) (ho : 0 ≤ (pc : Int) + o) (hp : ((pc : Int) + o).toNat = pc') (G : own_Go p e below s Q K N (T.setTop (mkF m pc' Ls st))) : own_Go p e below s Q K N (T.setTop (mkF m pc Ls (.int i :: st))) :=
  own_step (fun _ k => XS.tswIn X.here hx rfl rfl hd rfl hin hoff ho hp k) G
theorem g_tswOut (X : Stand p l e R s m args below meth c T locs cells slots) (hx : p.tables.exec = Jvm.exec) {pc : Nat} (pc' : Nat) {Ls : Array Slot} {dflt low high : Int} {offs : Array Int} {len : Nat} {i : Int32} {st : List Value} (hd : decode c.code pc = .ok (.tableswitch dflt low high offs, len)) (hout : i.toInt < low ∨ i.toInt > high) (ho : 0 ≤ (pc : Int) + dflt) (hp : ((pc : Int) + dflt).toNat = pc') (G : own_Go p e below s Q K N (T.setTop (mkF m pc' Ls st))) : own_Go p e below s Q K N (T.setTop (mkF m pc Ls (.int i :: st))) :=
  own_step (fun _ k => XS.tswOut X.here hx rfl rfl hd rfl hout ho hp k) G
theorem own_ii_eq_t {x y : Int32} (h : x = y) : if_icmp.holds .eq x y = true := XT.ii_eq_t h
theorem own_i0_eq_t {x : Int32} (h : x = 0) : ifCond.holds .eq x = true := XT.i0_eq_t h
theorem own_ll_eq_t {x y : Int64} (h : x = y) : ifCond.holds .eq (lcmpW x y) = true := XT.ll_eq_t h
theorem own_ii_eq_f {x y : Int32} (h : ¬ (x = y)) : if_icmp.holds .eq x y = false := XT.ii_eq_f h
theorem own_i0_eq_f {x : Int32} (h : ¬ (x = 0)) : ifCond.holds .eq x = false := XT.i0_eq_f h
theorem own_ll_eq_f {x y : Int64} (h : ¬ (x = y)) : ifCond.holds .eq (lcmpW x y) = false := XT.ll_eq_f h
theorem own_ii_ne_t {x y : Int32} (h : ¬ (x = y)) : if_icmp.holds .ne x y = true := XT.ii_ne_t h
theorem own_i0_ne_t {x : Int32} (h : ¬ (x = 0)) : ifCond.holds .ne x = true := XT.i0_ne_t h
theorem own_ll_ne_t {x y : Int64} (h : ¬ (x = y)) : ifCond.holds .ne (lcmpW x y) = true := XT.ll_ne_t h
theorem own_ii_ne_f {x y : Int32} (h : x = y) : if_icmp.holds .ne x y = false := XT.ii_ne_f h
theorem own_i0_ne_f {x : Int32} (h : x = 0) : ifCond.holds .ne x = false := XT.i0_ne_f h
theorem own_ll_ne_f {x y : Int64} (h : x = y) : ifCond.holds .ne (lcmpW x y) = false := XT.ll_ne_f h
theorem own_ii_lt_t {x y : Int32} (h : x < y) : if_icmp.holds .lt x y = true := XT.ii_lt_t h
theorem own_i0_lt_t {x : Int32} (h : x < 0) : ifCond.holds .lt x = true := XT.i0_lt_t h
theorem own_ll_lt_t {x y : Int64} (h : x < y) : ifCond.holds .lt (lcmpW x y) = true := XT.ll_lt_t h
theorem own_ii_lt_f {x y : Int32} (h : ¬ (x < y)) : if_icmp.holds .lt x y = false := XT.ii_lt_f h
theorem own_i0_lt_f {x : Int32} (h : ¬ (x < 0)) : ifCond.holds .lt x = false := XT.i0_lt_f h
theorem own_ll_lt_f {x y : Int64} (h : ¬ (x < y)) : ifCond.holds .lt (lcmpW x y) = false := XT.ll_lt_f h
theorem own_ii_ge_t {x y : Int32} (h : ¬ (x < y)) : if_icmp.holds .ge x y = true := XT.ii_ge_t h
theorem own_i0_ge_t {x : Int32} (h : ¬ (x < 0)) : ifCond.holds .ge x = true := XT.i0_ge_t h
theorem own_ll_ge_t {x y : Int64} (h : ¬ (x < y)) : ifCond.holds .ge (lcmpW x y) = true := XT.ll_ge_t h
theorem own_ii_ge_f {x y : Int32} (h : x < y) : if_icmp.holds .ge x y = false := XT.ii_ge_f h
theorem own_i0_ge_f {x : Int32} (h : x < 0) : ifCond.holds .ge x = false := XT.i0_ge_f h
theorem own_ll_ge_f {x y : Int64} (h : x < y) : ifCond.holds .ge (lcmpW x y) = false := XT.ll_ge_f h
theorem own_ii_gt_t {x y : Int32} (h : y < x) : if_icmp.holds .gt x y = true := XT.ii_gt_t h
theorem own_i0_gt_t {x : Int32} (h : 0 < x) : ifCond.holds .gt x = true := XT.i0_gt_t h
theorem own_ll_gt_t {x y : Int64} (h : y < x) : ifCond.holds .gt (lcmpW x y) = true := XT.ll_gt_t h
theorem own_ii_gt_f {x y : Int32} (h : ¬ (y < x)) : if_icmp.holds .gt x y = false := XT.ii_gt_f h
theorem own_i0_gt_f {x : Int32} (h : ¬ (0 < x)) : ifCond.holds .gt x = false := XT.i0_gt_f h
theorem own_ll_gt_f {x y : Int64} (h : ¬ (y < x)) : ifCond.holds .gt (lcmpW x y) = false := XT.ll_gt_f h
theorem own_ii_le_t {x y : Int32} (h : ¬ (y < x)) : if_icmp.holds .le x y = true := XT.ii_le_t h
theorem own_i0_le_t {x : Int32} (h : ¬ (0 < x)) : ifCond.holds .le x = true := XT.i0_le_t h
theorem own_ll_le_t {x y : Int64} (h : ¬ (y < x)) : ifCond.holds .le (lcmpW x y) = true := XT.ll_le_t h
theorem own_ii_le_f {x y : Int32} (h : y < x) : if_icmp.holds .le x y = false := XT.ii_le_f h
theorem own_i0_le_f {x : Int32} (h : 0 < x) : ifCond.holds .le x = false := XT.i0_le_f h
theorem own_ll_le_f {x y : Int64} (h : y < x) : ifCond.holds .le (lcmpW x y) = false := XT.ll_le_f h
theorem own_getF (X : Stand p l e R s m args below meth c T locs cells slots) (hx : p.tables.exec = Jvm.exec) {Z : State} {a0 : Array Value} {h : Heap} (hZ : Z.Warmed39 s.vm) {own : String} (hown : s.vm.findClass own = some m.cls) {R0 O n d host : String} {index : Nat} (w : (Jvm.Cond.fieldLink own index R0 n d).before a0 Z = true ∨ (Jvm.Cond.fieldLinkNest own index R0 n d host).before a0 Z = true) (via : Via Z R0 O n d) (eT : T.heap = h) {a : Addr} {v : Value} (F : Fld Z h a O n d v) {pc : Nat} (pc' : Nat) {Ls : Array Slot} {rest : List Value} (hd : decode c.code pc = .ok (.getfield index, 3)) (hp : pc + 3 = pc') (k : ∀ T', Stand p l e R s m args below meth c T' locs cells slots → T'.heap = h → own_Go p e below s Q K N (T'.setTop (mkF m pc' Ls (v :: rest)))) : own_Go p e below s Q K N (T.setTop (mkF m pc Ls (.ref a :: rest))) := by
  subst hp
  obtain ⟨T', X', e', st⟩ := getF X hx hZ hown w via eT F (g := mkF m pc Ls (.ref a :: rest)) rfl rfl hd
  exact own_step st (k T' X' e')
theorem own_getS (X : Stand p l e R s m args below meth c T locs cells slots) (hx : p.tables.exec = Jvm.exec) {Z : State} {a0 : Array Value} {h : Heap} (hZ : Z.Warmed39 s.vm) {own : String} (hown : s.vm.findClass own = some m.cls) {R0 O n d host : String} {index : Nat} (w : (Jvm.Cond.fieldLink own index R0 n d).before a0 Z = true ∨ (Jvm.Cond.fieldLinkNest own index R0 n d host).before a0 Z = true) (via : Via Z R0 O n d) (eT : T.heap = h) {v : Value} (F : Sta Z h O n d v) {pc : Nat} (pc' : Nat) {Ls : Array Slot} {rest : List Value} (hd : decode c.code pc = .ok (.getstatic index, 3)) (hp : pc + 3 = pc') (k : ∀ T', Stand p l e R s m args below meth c T' locs cells slots → T'.heap = h → own_Go p e below s Q K N (T'.setTop (mkF m pc' Ls (v :: rest)))) : own_Go p e below s Q K N (T.setTop (mkF m pc Ls rest)) := by
  subst hp
  obtain ⟨T', X', e', st⟩ := getS2 X hx hZ hown w via eT F (g := mkF m pc Ls rest) rfl hd
  exact own_step st (k T' X' e')
theorem own_putF (X : Stand p l e R s m args below meth c T locs cells slots) (hx : p.tables.exec = Jvm.exec) {Z : State} {a0 : Array Value} {h : Heap} (hZ : Z.Warmed39 s.vm) {own : String} (hown : s.vm.findClass own = some m.cls) {R0 O n d host : String} {index : Nat} (w : (Jvm.Cond.fieldLink own index R0 n d).before a0 Z = true ∨ (Jvm.Cond.fieldLinkNest own index R0 n d host).before a0 Z = true) (via : Via Z R0 O n d) (eT : T.heap = h) {a : Addr} {v old : Value} (F : Fld Z h a O n d old) {C : String} {kk : Nat} {ty : FieldType} (E : Exa Z h a C) (L : (Jvm.Cond.lays C O n d).before a0 Z = true ∨ ((Jvm.Cond.laysFinal C O n d).before a0 Z = true ∧ own = O ∧ meth.name = "<init>")) (wi : (Jvm.Cond.instantiable C kk).before a0 Z = true) (hty : parseFieldDescriptor d = some ty) (hn : narrow ty v = v) (hf : fits ty v = true) {pc : Nat} (pc' : Nat) {Ls : Array Slot} {rest : List Value} (hd : decode c.code pc = .ok (.putfield index, 3)) (hp : pc + 3 = pc') (k : ∀ T' h', Stand p l e R s m args below meth c T' (locs ++ [⟨a, Jvm.RoadKit.slotOf Z O n d⟩]) cells slots → T'.heap = h' → Wr h h' a (Jvm.RoadKit.slotOf Z O n d) v → own_Go p e below s Q K N (T'.setTop (mkF m pc' Ls rest))) : own_Go p e below s Q K N (T.setTop (mkF m pc Ls (v :: .ref a :: rest))) := by
  subst hp
  obtain ⟨T', h', X', e', W', st⟩ := putF X hx hZ hown w via eT F E L wi hty hn hf (g := mkF m pc Ls (v :: .ref a :: rest)) rfl rfl hd
  exact own_step st (k T' h' X' e' W')
theorem own_putFN (X : Stand p l e R s m args below meth c T locs cells slots) (hx : p.tables.exec = Jvm.exec) {Z : State} {a0 : Array Value} {h : Heap} (hZ : Z.Warmed39 s.vm) {own : String} (hown : s.vm.findClass own = some m.cls) {R0 O n d : String} {index : Nat} (w : (Jvm.Cond.fieldLink own index R0 n d).before a0 Z = true) (via : Via Z R0 O n d) (eT : T.heap = h) {a : Addr} {v old : Value} (v' : Value) (F : Fld Z h a O n d old) {C : String} {kk : Nat} {ty : FieldType} (E : Exa Z h a C) (L : (Jvm.Cond.lays C O n d).before a0 Z = true ∨ ((Jvm.Cond.laysFinal C O n d).before a0 Z = true ∧ own = O ∧ meth.name = "<init>")) (wi : (Jvm.Cond.instantiable C kk).before a0 Z = true) (hty : parseFieldDescriptor d = some ty) (hn : narrow ty v = v') (hf : fits ty v' = true) {pc : Nat} (pc' : Nat) {Ls : Array Slot} {rest : List Value} (hd : decode c.code pc = .ok (.putfield index, 3)) (hp : pc + 3 = pc') (k : ∀ T' h', Stand p l e R s m args below meth c T' (locs ++ [⟨a, Jvm.RoadKit.slotOf Z O n d⟩]) cells slots → T'.heap = h' → Wr h h' a (Jvm.RoadKit.slotOf Z O n d) v' → own_Go p e below s Q K N (T'.setTop (mkF m pc' Ls rest))) : own_Go p e below s Q K N (T.setTop (mkF m pc Ls (v :: .ref a :: rest))) := by
  subst hp
  obtain ⟨T', h', X', e', W', st⟩ := putFN X hx hZ hown w via eT F E L wi hty hn hf (g := mkF m pc Ls (v :: .ref a :: rest)) rfl rfl hd
  exact own_step st (k T' h' X' e' W')
theorem own_newO (X : Stand p l e R s m args below meth c T locs cells slots) (hx : p.tables.exec = Jvm.exec) {Z : State} {a0 : Array Value} {h : Heap} (hZ : Z.Warmed39 s.vm) {own : String} (hown : s.vm.findClass own = some m.cls) {C : String} {index n : Nat} (w : (Jvm.Cond.classLink own index C).before a0 Z = true) (wi : (Jvm.Cond.instantiable C n).before a0 Z = true) (wz : (Jvm.Cond.initialized C).before a0 Z = true) (eT : T.heap = h) {pc : Nat} (pc' : Nat) {Ls : Array Slot} {rest : List Value} (hd : decode c.code pc = .ok (.new index, 3)) (hp : pc + 3 = pc') (hc : cells + 1 ≤ R.cells) (hl : slots + n ≤ R.slots)
    (k : ∀ T' h' b, Stand p l e R s m args below meth c T' locs (cells + 1) (slots + n) → T'.heap = h' → b = h.size → Ext h h' → Exa Z h' b C → (∀ {O nm d : String} {ty : FieldType}, Laid Z a0 C O nm d → parseFieldDescriptor d = some ty → Fld Z h' b O nm d (defaultValue ty)) → own_Go p e below s Q K N (T'.setTop (mkF m pc' Ls (.ref b :: rest)))) : own_Go p e below s Q K N (T.setTop (mkF m pc Ls rest)) := by
  subst hp
  obtain ⟨T', h', X', e', E', A', D', -, st⟩ := newO X hx hZ hown w wi wz eT (g := mkF m pc Ls rest) rfl hd hc hl
  exact own_step st (k T' h' _ X' e' rfl E' A' D')
theorem own_newP (X : Stand p l e R s m args below meth c T locs cells slots) (hx : p.tables.exec = Jvm.exec) {Z : State} {a0 : Array Value} {h : Heap} (hZ : Z.Warmed39 s.vm) {aty : ArrayType} (w : (Jvm.Cond.arrayClass (newarray.typeOf aty)).before a0 Z = true) (eT : T.heap = h) {n : Int32} {pc : Nat} (pc' : Nat) {Ls : Array Slot} {rest : List Value} (hd : decode c.code pc = .ok (.newarray aty, 2)) (hp : pc + 2 = pc') (hn : ¬ n < 0) (cap : Nat) (hcap : n.toNatClampNeg ≤ cap) (hb : cap * 8 ≤ 536870912) (hc : cells + 1 ≤ R.cells) (hl : slots + cap ≤ R.slots)
    (k : ∀ T' h' cA b, Stand p l e R s m args below meth c T' locs (cells + 1) (slots + cap) → T'.heap = h' → b = h.size → Ext h h' → Arr Z h' b (newA cA (newarray.typeOf aty) n) (newarray.typeOf aty) → own_Go p e below s Q K N (T'.setTop (mkF m pc' Ls (.ref b :: rest)))) : own_Go p e below s Q K N (T.setTop (mkF m pc Ls (.int n :: rest))) := by
  subst hp
  obtain ⟨T', h', cA, X', e', E', A', st⟩ := newP X hx hZ w eT (g := mkF m pc Ls (.int n :: rest)) rfl hd rfl hn hcap hb hc hl
  exact own_step st (k T' h' cA _ X' e' rfl E' A')
theorem own_newR (X : Stand p l e R s m args below meth c T locs cells slots) (hx : p.tables.exec = Jvm.exec) {Z : State} {a0 : Array Value} {h : Heap} (hZ : Z.Warmed39 s.vm) {own : String} (hown : s.vm.findClass own = some m.cls) {C : String} {index : Nat} (w1 : (Jvm.Cond.classLink own index C).before a0 Z = true) (w2 : (Jvm.Cond.arrayOver (.object C)).before a0 Z = true) (eT : T.heap = h) {n : Int32} {pc : Nat} (pc' : Nat) {Ls : Array Slot} {rest : List Value} (hd : decode c.code pc = .ok (.anewarray index, 3)) (hp : pc + 3 = pc') (hn : ¬ n < 0) (cap : Nat) (hcap : n.toNatClampNeg ≤ cap) (hb : cap * 8 ≤ 536870912) (hc : cells + 1 ≤ R.cells) (hl : slots + cap ≤ R.slots)
    (k : ∀ T' h' cA b, Stand p l e R s m args below meth c T' locs (cells + 1) (slots + cap) → T'.heap = h' → b = h.size → Ext h h' → Arr Z h' b (newA cA (.object C) n) (.object C) → Ovr Z cA C → own_Go p e below s Q K N (T'.setTop (mkF m pc' Ls (.ref b :: rest)))) : own_Go p e below s Q K N (T.setTop (mkF m pc Ls (.int n :: rest))) := by
  subst hp
  obtain ⟨T', h', cA, X', e', E', A', O', st⟩ := newR X hx hZ hown w1 w2 eT (g := mkF m pc Ls (.int n :: rest)) rfl hd rfl hn hcap hb hc hl
  exact own_step st (k T' h' cA _ X' e' rfl E' A' O')
theorem own_stI (X : Stand p l e R s m args below meth c T locs cells slots) (hx : p.tables.exec = Jvm.exec) {Z : State} {h : Heap} (hZ : Z.Warmed39 s.vm) (eT : T.heap = h) {a : Addr} {cl : Cell} (A : Arr Z h a cl .int) {j : Int32} {x : Int32} (hj : ¬ (j < 0 ∨ cl.slots.size ≤ j.toNatClampNeg)) {pc : Nat} (pc' : Nat) {Ls : Array Slot} {rest : List Value} (hd : decode c.code pc = .ok (.iastore, 1)) (hp : pc + 1 = pc') (k : ∀ T' h', Stand p l e R s m args below meth c T' (locs ++ [⟨a, j.toNatClampNeg⟩]) cells slots → T'.heap = h' → Wr h h' a j.toNatClampNeg (.int x) → own_Go p e below s Q K N (T'.setTop (mkF m pc' Ls rest))) : own_Go p e below s Q K N (T.setTop (mkF m pc Ls (.int x :: .int j :: .ref a :: rest))) := by
  subst hp
  obtain ⟨T', h', X', e', W', st⟩ := stI X hx hZ eT A hj (g := mkF m pc Ls (.int x :: .int j :: .ref a :: rest)) rfl rfl hd
  exact own_step st (k T' h' X' e' W')
theorem own_stC (X : Stand p l e R s m args below meth c T locs cells slots) (hx : p.tables.exec = Jvm.exec) {Z : State} {h : Heap} (hZ : Z.Warmed39 s.vm) (eT : T.heap = h) {a : Addr} {cl : Cell} (A : Arr Z h a cl .char) {j : Int32} {x : Int32} (hj : ¬ (j < 0 ∨ cl.slots.size ≤ j.toNatClampNeg)) {pc : Nat} (pc' : Nat) {Ls : Array Slot} {rest : List Value} (hd : decode c.code pc = .ok (.castore, 1)) (hp : pc + 1 = pc') (k : ∀ T' h', Stand p l e R s m args below meth c T' (locs ++ [⟨a, j.toNatClampNeg⟩]) cells slots → T'.heap = h' → Wr h h' a j.toNatClampNeg (.int (nar .char x)) → own_Go p e below s Q K N (T'.setTop (mkF m pc' Ls rest))) : own_Go p e below s Q K N (T.setTop (mkF m pc Ls (.int x :: .int j :: .ref a :: rest))) := by
  subst hp
  obtain ⟨T', h', X', e', W', st⟩ := stC X hx hZ eT A hj (g := mkF m pc Ls (.int x :: .int j :: .ref a :: rest)) rfl rfl hd
  exact own_step st (k T' h' X' e' W')
theorem own_stZ (X : Stand p l e R s m args below meth c T locs cells slots) (hx : p.tables.exec = Jvm.exec) {Z : State} {h : Heap} (hZ : Z.Warmed39 s.vm) (eT : T.heap = h) {a : Addr} {cl : Cell} (A : Arr Z h a cl .boolean) {j : Int32} {x : Int32} (hj : ¬ (j < 0 ∨ cl.slots.size ≤ j.toNatClampNeg)) {pc : Nat} (pc' : Nat) {Ls : Array Slot} {rest : List Value} (hd : decode c.code pc = .ok (.bastore, 1)) (hp : pc + 1 = pc') (k : ∀ T' h', Stand p l e R s m args below meth c T' (locs ++ [⟨a, j.toNatClampNeg⟩]) cells slots → T'.heap = h' → Wr h h' a j.toNatClampNeg (.int (nar .boolean x)) → own_Go p e below s Q K N (T'.setTop (mkF m pc' Ls rest))) : own_Go p e below s Q K N (T.setTop (mkF m pc Ls (.int x :: .int j :: .ref a :: rest))) := by
  subst hp
  obtain ⟨T', h', X', e', W', st⟩ := stZ X hx hZ eT A hj (g := mkF m pc Ls (.int x :: .int j :: .ref a :: rest)) rfl rfl hd
  exact own_step st (k T' h' X' e' W')
theorem own_stB (X : Stand p l e R s m args below meth c T locs cells slots) (hx : p.tables.exec = Jvm.exec) {Z : State} {h : Heap} (hZ : Z.Warmed39 s.vm) (eT : T.heap = h) {a : Addr} {cl : Cell} (A : Arr Z h a cl .byte) {j : Int32} {x : Int32} (hj : ¬ (j < 0 ∨ cl.slots.size ≤ j.toNatClampNeg)) {pc : Nat} (pc' : Nat) {Ls : Array Slot} {rest : List Value} (hd : decode c.code pc = .ok (.bastore, 1)) (hp : pc + 1 = pc') (k : ∀ T' h', Stand p l e R s m args below meth c T' (locs ++ [⟨a, j.toNatClampNeg⟩]) cells slots → T'.heap = h' → Wr h h' a j.toNatClampNeg (.int (nar .byte x)) → own_Go p e below s Q K N (T'.setTop (mkF m pc' Ls rest))) : own_Go p e below s Q K N (T.setTop (mkF m pc Ls (.int x :: .int j :: .ref a :: rest))) := by
  subst hp
  obtain ⟨T', h', X', e', W', st⟩ := stB X hx hZ eT A hj (g := mkF m pc Ls (.int x :: .int j :: .ref a :: rest)) rfl rfl hd
  exact own_step st (k T' h' X' e' W')
theorem own_stS (X : Stand p l e R s m args below meth c T locs cells slots) (hx : p.tables.exec = Jvm.exec) {Z : State} {h : Heap} (hZ : Z.Warmed39 s.vm) (eT : T.heap = h) {a : Addr} {cl : Cell} (A : Arr Z h a cl .short) {j : Int32} {x : Int32} (hj : ¬ (j < 0 ∨ cl.slots.size ≤ j.toNatClampNeg)) {pc : Nat} (pc' : Nat) {Ls : Array Slot} {rest : List Value} (hd : decode c.code pc = .ok (.sastore, 1)) (hp : pc + 1 = pc') (k : ∀ T' h', Stand p l e R s m args below meth c T' (locs ++ [⟨a, j.toNatClampNeg⟩]) cells slots → T'.heap = h' → Wr h h' a j.toNatClampNeg (.int (nar .short x)) → own_Go p e below s Q K N (T'.setTop (mkF m pc' Ls rest))) : own_Go p e below s Q K N (T.setTop (mkF m pc Ls (.int x :: .int j :: .ref a :: rest))) := by
  subst hp
  obtain ⟨T', h', X', e', W', st⟩ := stS X hx hZ eT A hj (g := mkF m pc Ls (.int x :: .int j :: .ref a :: rest)) rfl rfl hd
  exact own_step st (k T' h' X' e' W')
theorem own_stJ (X : Stand p l e R s m args below meth c T locs cells slots) (hx : p.tables.exec = Jvm.exec) {Z : State} {h : Heap} (hZ : Z.Warmed39 s.vm) (eT : T.heap = h) {a : Addr} {cl : Cell} (A : Arr Z h a cl .long) {j : Int32} {x : Int64} (hj : ¬ (j < 0 ∨ cl.slots.size ≤ j.toNatClampNeg)) {pc : Nat} (pc' : Nat) {Ls : Array Slot} {rest : List Value} (hd : decode c.code pc = .ok (.lastore, 1)) (hp : pc + 1 = pc') (k : ∀ T' h', Stand p l e R s m args below meth c T' (locs ++ [⟨a, j.toNatClampNeg⟩]) cells slots → T'.heap = h' → Wr h h' a j.toNatClampNeg (.long x) → own_Go p e below s Q K N (T'.setTop (mkF m pc' Ls rest))) : own_Go p e below s Q K N (T.setTop (mkF m pc Ls (.long x :: .int j :: .ref a :: rest))) := by
  subst hp
  obtain ⟨T', h', X', e', W', st⟩ := stJ X hx hZ eT A hj (g := mkF m pc Ls (.long x :: .int j :: .ref a :: rest)) rfl rfl hd
  exact own_step st (k T' h' X' e' W')
theorem own_stR (X : Stand p l e R s m args below meth c T locs cells slots) (hx : p.tables.exec = Jvm.exec) {Z : State} {h : Heap} (hZ : Z.Warmed39 s.vm) (eT : T.heap = h) {a : Addr} {cl : Cell} {ty : FieldType} (A : Arr Z h a cl ty) {j : Int32} {v : Value} (hj : ¬ (j < 0 ∨ cl.slots.size ≤ j.toNatClampNeg)) (hty : ty.isReference = true) (F : Sto Z h a v) {pc : Nat} (pc' : Nat) {Ls : Array Slot} {rest : List Value} (hd : decode c.code pc = .ok (.aastore, 1)) (hp : pc + 1 = pc') (k : ∀ T' h', Stand p l e R s m args below meth c T' (locs ++ [⟨a, j.toNatClampNeg⟩]) cells slots → T'.heap = h' → Wr h h' a j.toNatClampNeg v → own_Go p e below s Q K N (T'.setTop (mkF m pc' Ls rest))) : own_Go p e below s Q K N (T.setTop (mkF m pc Ls (v :: .int j :: .ref a :: rest))) := by
  subst hp
  obtain ⟨T', h', X', e', W', st⟩ := stR X hx hZ eT A hj hty F (g := mkF m pc Ls (v :: .int j :: .ref a :: rest)) rfl rfl hd
  exact own_step st (k T' h' X' e' W')
theorem own_iaload (X : Stand p l e R s m args below meth c T locs cells slots) (hx : p.tables.exec = Jvm.exec) {Z : State} {h : Heap} (hZ : Z.Warmed39 s.vm) (eT : T.heap = h) {a : Addr} {cl : Cell} (A : Arr Z h a cl .int) {j : Int32} {v : Value} (hj : ¬ (j < 0 ∨ cl.slots.size ≤ j.toNatClampNeg)) (hv : cl.slots[j.toNatClampNeg]? = some v) {pc : Nat} (pc' : Nat) {Ls : Array Slot} {rest : List Value} (hd : decode c.code pc = .ok (.iaload, 1)) (hp : pc + 1 = pc') (G : own_Go p e below s Q K N (T.setTop (mkF m pc' Ls (v :: rest)))) : own_Go p e below s Q K N (T.setTop (mkF m pc Ls (.int j :: .ref a :: rest))) := by
  subst hp eT
  exact own_step (X.iaload hx (j := j) (v := v) A.1 (State.isArrayOf_alike hZ.alike A.2.1) A.2.2 hj hv (g := mkF m pc Ls (.int j :: .ref a :: rest)) rfl rfl hd) G
theorem own_caload (X : Stand p l e R s m args below meth c T locs cells slots) (hx : p.tables.exec = Jvm.exec) {Z : State} {h : Heap} (hZ : Z.Warmed39 s.vm) (eT : T.heap = h) {a : Addr} {cl : Cell} (A : Arr Z h a cl .char) {j : Int32} {v : Value} (hj : ¬ (j < 0 ∨ cl.slots.size ≤ j.toNatClampNeg)) (hv : cl.slots[j.toNatClampNeg]? = some v) {pc : Nat} (pc' : Nat) {Ls : Array Slot} {rest : List Value} (hd : decode c.code pc = .ok (.caload, 1)) (hp : pc + 1 = pc') (G : own_Go p e below s Q K N (T.setTop (mkF m pc' Ls (v :: rest)))) : own_Go p e below s Q K N (T.setTop (mkF m pc Ls (.int j :: .ref a :: rest))) := by
  subst hp eT
  exact own_step (X.caload hx (j := j) (v := v) A.1 (State.isArrayOf_alike hZ.alike A.2.1) A.2.2 hj hv (g := mkF m pc Ls (.int j :: .ref a :: rest)) rfl rfl hd) G
theorem own_laload (X : Stand p l e R s m args below meth c T locs cells slots) (hx : p.tables.exec = Jvm.exec) {Z : State} {h : Heap} (hZ : Z.Warmed39 s.vm) (eT : T.heap = h) {a : Addr} {cl : Cell} (A : Arr Z h a cl .long) {j : Int32} {v : Value} (hj : ¬ (j < 0 ∨ cl.slots.size ≤ j.toNatClampNeg)) (hv : cl.slots[j.toNatClampNeg]? = some v) {pc : Nat} (pc' : Nat) {Ls : Array Slot} {rest : List Value} (hd : decode c.code pc = .ok (.laload, 1)) (hp : pc + 1 = pc') (G : own_Go p e below s Q K N (T.setTop (mkF m pc' Ls (v :: rest)))) : own_Go p e below s Q K N (T.setTop (mkF m pc Ls (.int j :: .ref a :: rest))) := by
  subst hp eT
  exact own_step (X.laload hx (j := j) (v := v) A.1 (State.isArrayOf_alike hZ.alike A.2.1) A.2.2 hj hv (g := mkF m pc Ls (.int j :: .ref a :: rest)) rfl rfl hd) G
theorem own_baloadB (X : Stand p l e R s m args below meth c T locs cells slots) (hx : p.tables.exec = Jvm.exec) {Z : State} {h : Heap} (hZ : Z.Warmed39 s.vm) (eT : T.heap = h) {a : Addr} {cl : Cell} (A : Arr Z h a cl .byte) {j : Int32} {v : Value} (hj : ¬ (j < 0 ∨ cl.slots.size ≤ j.toNatClampNeg)) (hv : cl.slots[j.toNatClampNeg]? = some v) {pc : Nat} (pc' : Nat) {Ls : Array Slot} {rest : List Value} (hd : decode c.code pc = .ok (.baload, 1)) (hp : pc + 1 = pc') (G : own_Go p e below s Q K N (T.setTop (mkF m pc' Ls (v :: rest)))) : own_Go p e below s Q K N (T.setTop (mkF m pc Ls (.int j :: .ref a :: rest))) := by
  subst hp eT
  exact own_step (X.baloadBytes hx (j := j) (v := v) A.1 (State.isArrayOf_alike hZ.alike A.2.1) A.2.2 hj hv (g := mkF m pc Ls (.int j :: .ref a :: rest)) rfl rfl hd) G
theorem own_baloadZ (X : Stand p l e R s m args below meth c T locs cells slots) (hx : p.tables.exec = Jvm.exec) {Z : State} {h : Heap} (hZ : Z.Warmed39 s.vm) (eT : T.heap = h) {a : Addr} {cl : Cell} (A : Arr Z h a cl .boolean) {j : Int32} {v : Value} (hj : ¬ (j < 0 ∨ cl.slots.size ≤ j.toNatClampNeg)) (hv : cl.slots[j.toNatClampNeg]? = some v) {pc : Nat} (pc' : Nat) {Ls : Array Slot} {rest : List Value} (hd : decode c.code pc = .ok (.baload, 1)) (hp : pc + 1 = pc') (G : own_Go p e below s Q K N (T.setTop (mkF m pc' Ls (v :: rest)))) : own_Go p e below s Q K N (T.setTop (mkF m pc Ls (.int j :: .ref a :: rest))) := by
  subst hp eT
  exact own_step (X.baloadBooleans hx (j := j) (v := v) A.1 (State.isArrayOf_alike hZ.alike A.2.1) A.2.2 hj hv (g := mkF m pc Ls (.int j :: .ref a :: rest)) rfl rfl hd) G
theorem own_aaload (X : Stand p l e R s m args below meth c T locs cells slots) (hx : p.tables.exec = Jvm.exec) {Z : State} {h : Heap} (hZ : Z.Warmed39 s.vm) (eT : T.heap = h) {a : Addr} {cl : Cell} {ty : FieldType} (hty : ty.isReference = true) (A : Arr Z h a cl ty) {j : Int32} {v : Value} (hj : ¬ (j < 0 ∨ cl.slots.size ≤ j.toNatClampNeg)) (hv : cl.slots[j.toNatClampNeg]? = some v) {pc : Nat} (pc' : Nat) {Ls : Array Slot} {rest : List Value} (hd : decode c.code pc = .ok (.aaload, 1)) (hp : pc + 1 = pc') (G : own_Go p e below s Q K N (T.setTop (mkF m pc' Ls (v :: rest)))) : own_Go p e below s Q K N (T.setTop (mkF m pc Ls (.int j :: .ref a :: rest))) := by
  subst hp eT
  exact own_step (X.aaload hx (j := j) (v := v) A.1 (State.isArrayOf_alike hZ.alike A.2.1) hty A.2.2 hj hv (g := mkF m pc Ls (.int j :: .ref a :: rest)) rfl rfl hd) G
theorem own_arraylength (X : Stand p l e R s m args below meth c T locs cells slots) (hx : p.tables.exec = Jvm.exec) {Z : State} {h : Heap} (hZ : Z.Warmed39 s.vm) (eT : T.heap = h) {a : Addr} {cl : Cell} {ty : FieldType} (A : Arr Z h a cl ty) {z : Int32} (hz : cl.slots.size = z.toNatClampNeg) (h0 : ¬ z < 0) {pc : Nat} (pc' : Nat) {Ls : Array Slot} {rest : List Value} (hd : decode c.code pc = .ok (.arraylength, 1)) (hp : pc + 1 = pc') (G : own_Go p e below s Q K N (T.setTop (mkF m pc' Ls (.int z :: rest)))) : own_Go p e below s Q K N (T.setTop (mkF m pc Ls (.ref a :: rest))) := by
  subst hp eT
  refine own_step (X.arraylength hx A.1 (State.isArrayOf_alike hZ.alike A.2.1) (g := mkF m pc Ls (.ref a :: rest)) rfl rfl hd) ?_
  rw [len_of hz h0]
  exact G
theorem own_initO (X : Stand p l e R s m args below meth c T locs cells slots) (hx : p.tables.exec = Jvm.exec) {Z : State} {a0 : Array Value} {h : Heap} (hZ : Z.Warmed39 s.vm) {own : String} (hown : s.vm.findClass own = some m.cls) {idx : Nat} (w1 : (Jvm.Cond.methodLink own idx Lib.objectInit).before a0 Z = true) (w2 : (Jvm.Cond.instanceMethod Lib.objectInit).before a0 Z = true) (w3 : (Jvm.Cond.code Lib.objectInit ⟨#[0xb1]⟩ 1 none).before a0 Z = true) (eT : T.heap = h) {a : Addr} {pc : Nat} (pc' : Nat) {Ls : Array Slot} {rest : List Value} (hsize : Ls.size = c.maxLocals) (hd : decode c.code pc = .ok (.invokespecial idx, 3)) (hp : pc + 3 = pc') (hf : 1 ≤ R.frames) (W : Nat) (hW : (rest.map fun v => v.category).sum = W) (hl : W + 12 ≤ R.locals) (k : ∀ T', Stand p l e R s m args below meth c T' locs cells slots → T'.heap = h → own_Go p e below s Q K N (T'.setTop (mkF m pc' Ls rest))) : own_Go p e below s Q K N (T.setTop (mkF m pc Ls (.ref a :: rest))) := by
  subst hp
  obtain ⟨T', X', e', st⟩ := initO X hx hZ hown w1 w2 w3 eT (g := mkF m pc Ls (.ref a :: rest)) rfl hsize rfl hd hf (W := W) (by show 2 * 0 + _ ≤ _; omega) hl
  exact own_step st (k T' X' e')
theorem own_callS (X : Stand p l e R s m args below meth c T locs cells slots) (hx : p.tables.exec = Jvm.exec) {Z : State} {a0 : Array Value} {h : Heap} (hZ : Z.Warmed39 s.vm) {own : String} (hown : s.vm.findClass own = some m.cls) {index : Nat} {y : MethodName} {bytes : ByteArray} {maxL : Nat} {ret : Option FieldType} {rm : Room} {as' : Array Value} {Q' : Option Value → Heap → List Loc → Prop} (w1 : (Jvm.Cond.methodLink own index y).before a0 Z = true) (w2 : (Jvm.Cond.static y).before a0 Z = true) (hy : y.cls ≠ "java/lang/invoke/MethodHandle" ∧ y.cls ≠ "java/lang/invoke/VarHandle") (hM : MetFree l y (head1 [Jvm.Cond.code y bytes maxL ret] rm) (fun a U => a = as' ∧ Z.Warmed39 U.vm ∧ U.heap = h) (fun _ _ _ _ _ => True) (fun _ U o U' => ∃ v L, o = .returned v ∧ Q' v U'.heap L ∧ FrameEnd U o U' L rm.cells rm.slots)) (wc : (Jvm.Cond.code y bytes maxL ret).before a0 Z = true) (wz : (Jvm.Cond.initialized y.cls).before a0 Z = true) (eT : T.heap = h) (W : Nat) (hf : rm.frames + 1 ≤ R.frames) (hl : W + (maxL + 11) + rm.locals ≤ R.locals) (hc : cells + rm.cells ≤ R.cells) (hs : slots + rm.slots ≤ R.slots) (argsL rest : List Value) (has : argsL.toArray = as') {ps : List FieldType} {rr : Option FieldType} (hpd : parseMethodDescriptor y.desc = some ⟨ps, rr⟩) (hlen : argsL.length = ps.length) {pc : Nat} (pc' : Nat) {Ls : Array Slot} {stk : List Value} (hstk : stk = argsL.reverse ++ rest) (hsize : Ls.size = c.maxLocals) (hW : (rest.map fun v => v.category).sum = W) (hd : decode c.code pc = .ok (.invokestatic index, 3)) (hp : pc + 3 = pc') (k : ∀ T' v L, Stand p l e R s m args below meth c T' (locs ++ L) (cells + rm.cells) (slots + rm.slots) → Q' v T'.heap L → own_Go p e below s Q K N (T'.setTop (mkF m pc' Ls (v.toList ++ rest)))) : own_Go p e below s Q K N (T.setTop (mkF m pc Ls stk)) := by
  subst hp hstk
  obtain ⟨v', _, ⟨T', L', k', n'⟩, -, X', ⟨Lc', hQ', l', y', z'⟩, st'⟩ := Jvm.LawKit.callS X hx (y := y) hown (mvT hZ w1) (mvT hZ w2) (mvT hZ wz) (mvT hZ wc) hy (backOf (W := W) hM hZ wc wz hf hl) (g := mkF m pc Ls (argsL.reverse ++ rest)) rfl hsize (argsL := argsL) (rest := rest) (lenOf hpd hlen) rfl (by show 2 * 0 + _ ≤ _; omega) hd (fun _ _ => ⟨has, eT, hc, hs⟩)
  dsimp only [Pt.U, Pt.locs, Pt.cells, Pt.slots] at X' l' y' z' st' hQ'
  subst l' y' z'
  exact own_step (fun t kk => st' _ kk) (k T' v' _ X' hQ')
theorem own_callI (X : Stand p l e R s m args below meth c T locs cells slots) (hx : p.tables.exec = Jvm.exec) {Z : State} {a0 : Array Value} {h : Heap} (hZ : Z.Warmed39 s.vm) {own : String} (hown : s.vm.findClass own = some m.cls) {index : Nat} {y : MethodName} {bytes : ByteArray} {maxL : Nat} {rm : Room} {as' : Array Value} {Q' : Option Value → Heap → List Loc → Prop} (hy1 : y.name = "<init>") (w1 : (Jvm.Cond.methodLink own index y).before a0 Z = true) (w2 : (Jvm.Cond.instanceMethod y).before a0 Z = true) (hy : y.cls ≠ "java/lang/invoke/MethodHandle" ∧ y.cls ≠ "java/lang/invoke/VarHandle") (hM : MetFree l y (head1 [Jvm.Cond.code y bytes maxL none] rm) (fun a U => a = as' ∧ Z.Warmed39 U.vm ∧ U.heap = h) (fun _ _ _ _ _ => True) (fun _ U o U' => ∃ v L, o = .returned v ∧ Q' v U'.heap L ∧ FrameEnd U o U' L rm.cells rm.slots)) (wc : (Jvm.Cond.code y bytes maxL none).before a0 Z = true) (wz : (Jvm.Cond.initialized y.cls).before a0 Z = true) (eT : T.heap = h) (W : Nat) (hf : rm.frames + 1 ≤ R.frames) (hl : W + (maxL + 11) + rm.locals ≤ R.locals) (hc : cells + rm.cells ≤ R.cells) (hs : slots + rm.slots ≤ R.slots) (a : Addr) (argsL rest : List Value) (has : (.ref a :: argsL).toArray = as') {ps : List FieldType} {rr : Option FieldType} (hpd : parseMethodDescriptor y.desc = some ⟨ps, rr⟩) (hlen : argsL.length = ps.length) {pc : Nat} (pc' : Nat) {Ls : Array Slot} {stk : List Value} (hstk : stk = argsL.reverse ++ .ref a :: rest) (hsize : Ls.size = c.maxLocals) (hW : (rest.map fun v => v.category).sum = W) (hd : decode c.code pc = .ok (.invokespecial index, 3)) (hp : pc + 3 = pc') (k : ∀ T' v L, Stand p l e R s m args below meth c T' (locs ++ L) (cells + rm.cells) (slots + rm.slots) → Q' v T'.heap L → own_Go p e below s Q K N (T'.setTop (mkF m pc' Ls (v.toList ++ rest)))) : own_Go p e below s Q K N (T.setTop (mkF m pc Ls stk)) := by
  subst hp hstk
  obtain ⟨v', _, ⟨T', L', k', n'⟩, -, X', ⟨Lc', hQ', l', y', z'⟩, st'⟩ := X.specialBack hx (y := y) hy1 hown (mvT hZ w1) (mvT hZ w2) (mvT hZ wc) hy (backOf (W := W) hM hZ wc wz hf hl) (g := mkF m pc Ls (argsL.reverse ++ .ref a :: rest)) rfl hsize (Steps.refl _) (a := a) (argsL := argsL) (rest := rest) (lenOf hpd hlen) rfl (by show 2 * 0 + _ ≤ _; omega) hd (fun _ _ => ⟨has, eT, hc, hs⟩)
  dsimp only [Pt.U, Pt.locs, Pt.cells, Pt.slots] at X' l' y' z' st' hQ'
  subst l' y' z'
  exact own_step (fun t kk => st'.trans kk) (k T' v' _ X' hQ')
theorem own_callV (X : Stand p l e R s m args below meth c T locs cells slots) (hx : p.tables.exec = Jvm.exec) {Z : State} {a0 : Array Value} {h : Heap} (hZ : Z.Warmed39 s.vm) {own : String} (hown : s.vm.findClass own = some m.cls) {C : String} {index : Nat} {y z : MethodName} {bytes : ByteArray} {maxL : Nat} {ret : Option FieldType} {rm : Room} {as' : Array Value} {Q' : Option Value → Heap → List Loc → Prop} (w1 : (Jvm.Cond.methodLink own index y).before a0 Z = true) (w2 : (Jvm.Cond.declares y).before a0 Z = true) (hnf : NotFace s y) (w3 : (Jvm.Cond.selects C y z).before a0 Z = true) (w4 : (Jvm.Cond.instanceMethod z).before a0 Z = true) (hy : y.cls ≠ "java/lang/invoke/MethodHandle" ∧ y.cls ≠ "java/lang/invoke/VarHandle") (hM : MetFree l z (head1 [Jvm.Cond.code z bytes maxL ret] rm) (fun a U => a = as' ∧ Z.Warmed39 U.vm ∧ U.heap = h) (fun _ _ _ _ _ => True) (fun _ U o U' => ∃ v L, o = .returned v ∧ Q' v U'.heap L ∧ FrameEnd U o U' L rm.cells rm.slots)) (wc : (Jvm.Cond.code z bytes maxL ret).before a0 Z = true) (wz : (Jvm.Cond.initialized z.cls).before a0 Z = true) (eT : T.heap = h) (W : Nat) (hf : rm.frames + 1 ≤ R.frames) (hl : W + (maxL + 11) + rm.locals ≤ R.locals) (hc : cells + rm.cells ≤ R.cells) (hs : slots + rm.slots ≤ R.slots) {a : Addr} (E : Exa Z h a C) (argsL rest : List Value) (has : (.ref a :: argsL).toArray = as') {ps : List FieldType} {rr : Option FieldType} (hpd : parseMethodDescriptor y.desc = some ⟨ps, rr⟩) (hlen : argsL.length = ps.length) {pc : Nat} (pc' : Nat) {Ls : Array Slot} {stk : List Value} (hstk : stk = argsL.reverse ++ .ref a :: rest) (hsize : Ls.size = c.maxLocals) (hW : (rest.map fun v => v.category).sum = W) (hd : decode c.code pc = .ok (.invokevirtual index, 3)) (hp : pc + 3 = pc') (k : ∀ T' v L, Stand p l e R s m args below meth c T' (locs ++ L) (cells + rm.cells) (slots + rm.slots) → Q' v T'.heap L → own_Go p e below s Q K N (T'.setTop (mkF m pc' Ls (v.toList ++ rest)))) : own_Go p e below s Q K N (T.setTop (mkF m pc Ls stk)) := by
  subst hp hstk
  obtain ⟨cq, kq, qa, qb, qc⟩ := isOf hZ eT E
  obtain ⟨v', _, ⟨T', L', k', n'⟩, -, X', ⟨Lc', hQ', l', y', z'⟩, st'⟩ := X.virtualBack hx (y := y) (z := z) hown (mvT hZ w1) (mvT hZ w2) hnf (mvT hZ w3) (mvT hZ w4) hy (backOf (W := W) hM hZ wc wz hf hl) qa qc (g := mkF m pc Ls (argsL.reverse ++ .ref a :: rest)) rfl hsize (Steps.refl _) (argsL := argsL) (rest := rest) (lenOf hpd hlen) rfl (by show 2 * 0 + _ ≤ _; omega) hd (fun _ _ => ⟨has, eT, hc, hs⟩)
  dsimp only [Pt.U, Pt.locs, Pt.cells, Pt.slots] at X' l' y' z' st' hQ'
  subst l' y' z'
  exact own_step (fun t kk => st'.trans kk) (k T' v' _ X' hQ')
theorem own_callU (X : Stand p l e R s m args below meth c T locs cells slots) (hx : p.tables.exec = Jvm.exec) {Z : State} {a0 : Array Value} {h : Heap} (hZ : Z.Warmed39 s.vm) {own : String} (hown : s.vm.findClass own = some m.cls) {C owner : String} {index : Nat} {y z : MethodName} {bytes : ByteArray} {maxL : Nat} {ret : Option FieldType} {rm : Room} {as' : Array Value} {Q' : Option Value → Heap → List Loc → Prop} (w1 : (Jvm.Cond.methodLink own index y).before a0 Z = true) (w5 : (Jvm.Cond.sameMethod y.cls owner y.name y.desc).before a0 Z = true) (w2 : (Jvm.Cond.declares ⟨owner, y.name, y.desc⟩).before a0 Z = true) (ho : owner ≠ "java/lang/invoke/MethodHandle" ∧ owner ≠ "java/lang/invoke/VarHandle") (w3 : (Jvm.Cond.selects C y z).before a0 Z = true) (w4 : (Jvm.Cond.instanceMethod z).before a0 Z = true) (hM : MetFree l z (head1 [Jvm.Cond.code z bytes maxL ret] rm) (fun a U => a = as' ∧ Z.Warmed39 U.vm ∧ U.heap = h) (fun _ _ _ _ _ => True) (fun _ U o U' => ∃ v L, o = .returned v ∧ Q' v U'.heap L ∧ FrameEnd U o U' L rm.cells rm.slots)) (wc : (Jvm.Cond.code z bytes maxL ret).before a0 Z = true) (wz : (Jvm.Cond.initialized z.cls).before a0 Z = true) (eT : T.heap = h) (W : Nat) (hf : rm.frames + 1 ≤ R.frames) (hl : W + (maxL + 11) + rm.locals ≤ R.locals) (hc : cells + rm.cells ≤ R.cells) (hs : slots + rm.slots ≤ R.slots) {a : Addr} (E : Exa Z h a C) (argsL rest : List Value) (has : (.ref a :: argsL).toArray = as') {ps : List FieldType} {rr : Option FieldType} (hpd : parseMethodDescriptor y.desc = some ⟨ps, rr⟩) (hlen : argsL.length = ps.length) {pc : Nat} (pc' : Nat) {Ls : Array Slot} {stk : List Value} (hstk : stk = argsL.reverse ++ .ref a :: rest) (hsize : Ls.size = c.maxLocals) (hW : (rest.map fun v => v.category).sum = W) (hd : decode c.code pc = .ok (.invokevirtual index, 3)) (hp : pc + 3 = pc') (k : ∀ T' v L, Stand p l e R s m args below meth c T' (locs ++ L) (cells + rm.cells) (slots + rm.slots) → Q' v T'.heap L → own_Go p e below s Q K N (T'.setTop (mkF m pc' Ls (v.toList ++ rest)))) : own_Go p e below s Q K N (T.setTop (mkF m pc Ls stk)) := by
  subst hp hstk
  obtain ⟨cq, kq, qa, qb, qc⟩ := isOf hZ eT E
  obtain ⟨v', _, ⟨T', L', k', n'⟩, -, X', ⟨Lc', hQ', l', y', z'⟩, st'⟩ := X.virtualBackUp hx (owner := owner) (x := y) (y := z) hown (mvT hZ w1) (mvT hZ w5) (mvT hZ w2) ho (mvT hZ w3) (mvT hZ w4) (backOf (W := W) hM hZ wc wz hf hl) qa qc (g := mkF m pc Ls (argsL.reverse ++ .ref a :: rest)) rfl hsize (Steps.refl _) (argsL := argsL) (rest := rest) (lenOf hpd hlen) rfl (by show 2 * 0 + _ ≤ _; omega) hd (fun _ _ => ⟨has, eT, hc, hs⟩)
  dsimp only [Pt.U, Pt.locs, Pt.cells, Pt.slots] at X' l' y' z' st' hQ'
  subst l' y' z'
  exact own_step (fun t kk => st'.trans kk) (k T' v' _ X' hQ')
theorem own_nf {C : String} {y : MethodName} {Z : State} {a0 : Array Value} (hZ : Z.Warmed39 s.vm) (w : (Jvm.Cond.selects C y y).before a0 Z = true) : NotFace s y := notFace_of_selects (args := #[]) (mvT hZ w)
theorem own_selfsel {K : String} {y y' : MethodName} (w : (Jvm.Cond.selects K y' y').before args s = true) (hK : y'.cls = y.cls) (hp : s.PrivateAt y) (hi : (Jvm.Cond.instanceMethod y).before args s = true) (hy : y.cls ≠ "java/lang/invoke/MethodHandle" ∧ y.cls ≠ "java/lang/invoke/VarHandle") : (Jvm.Cond.selects y.cls y y).before args s = true := by
  obtain ⟨c2, r2, m2, -, -, q3, -, kP, hkP, hkPi⟩ := Cond.selects_spec w
  exact selects_self_of_private (by rw [← hK]; exact findClass_of_methodNamed q3) hkP hkPi hp hi hy
theorem own_callP (X : Stand p l e R s m args below meth c T locs cells slots) (hx : p.tables.exec = Jvm.exec) {Z : State} {a0 : Array Value} {h : Heap} (hZ : Z.Warmed39 s.vm) {own : String} (hown : s.vm.findClass own = some m.cls) {C K' : String} {index : Nat} {y y' : MethodName} {bytes : ByteArray} {maxL : Nat} {ret : Option FieldType} {rm : Room} {as' : Array Value} {Q' : Option Value → Heap → List Loc → Prop} (w1 : (Jvm.Cond.methodLink own index y).before a0 Z = true) (w2 : (Jvm.Cond.instanceMethod y).before a0 Z = true) (w3 : (Jvm.Cond.selects K' y' y').before a0 Z = true) (hK : y'.cls = y.cls) (w4 : (Jvm.Cond.privateMethod y).before a0 Z = true) (hy : y.cls ≠ "java/lang/invoke/MethodHandle" ∧ y.cls ≠ "java/lang/invoke/VarHandle") (hM : MetFree l y (head1 [Jvm.Cond.code y bytes maxL ret] rm) (fun a U => a = as' ∧ Z.Warmed39 U.vm ∧ U.heap = h) (fun _ _ _ _ _ => True) (fun _ U o U' => ∃ v L, o = .returned v ∧ Q' v U'.heap L ∧ FrameEnd U o U' L rm.cells rm.slots)) (wc : (Jvm.Cond.code y bytes maxL ret).before a0 Z = true) (wz : (Jvm.Cond.initialized y.cls).before a0 Z = true) (eT : T.heap = h) (W : Nat) (hf : rm.frames + 1 ≤ R.frames) (hl : W + (maxL + 11) + rm.locals ≤ R.locals) (hc : cells + rm.cells ≤ R.cells) (hs : slots + rm.slots ≤ R.slots) {a : Addr} (E : Exa Z h a C) (argsL rest : List Value) (has : (.ref a :: argsL).toArray = as') {ps : List FieldType} {rr : Option FieldType} (hpd : parseMethodDescriptor y.desc = some ⟨ps, rr⟩) (hlen : argsL.length = ps.length) {pc : Nat} (pc' : Nat) {Ls : Array Slot} {stk : List Value} (hstk : stk = argsL.reverse ++ .ref a :: rest) (hsize : Ls.size = c.maxLocals) (hW : (rest.map fun v => v.category).sum = W) (hd : decode c.code pc = .ok (.invokevirtual index, 3)) (hp : pc + 3 = pc') (k : ∀ T' v L, Stand p l e R s m args below meth c T' (locs ++ L) (cells + rm.cells) (slots + rm.slots) → Q' v T'.heap L → own_Go p e below s Q K N (T'.setTop (mkF m pc' Ls (v.toList ++ rest)))) : own_Go p e below s Q K N (T.setTop (mkF m pc Ls stk)) := by
  subst hp hstk
  obtain ⟨cq, qa, qb⟩ := E.cell
  have hpr := Cond.privateMethod_at (mvP hZ w4 (args := args))
  obtain ⟨v', _, ⟨T', L', k', n'⟩, -, X', ⟨Lc', hQ', l', y', z'⟩, st'⟩ := X.privateBack hx (y := y) hown (mvT hZ w1) (mvT hZ w2) (own_selfsel (mvT hZ w3) hK hpr (mvT hZ w2) hy) hpr (mvT hZ wc) hy (backOf (W := W) hM hZ wc wz hf hl) (g := mkF m pc Ls (argsL.reverse ++ .ref a :: rest)) rfl hsize (Steps.refl _) (a := a) (by rw [eT]; exact qa) qb (argsL := argsL) (rest := rest) (lenOf hpd hlen) rfl (by show 2 * 0 + _ ≤ _; omega) hd (fun _ _ => ⟨has, eT, hc, hs⟩)
  dsimp only [Pt.U, Pt.locs, Pt.cells, Pt.slots] at X' l' y' z' st' hQ'
  subst l' y' z'
  exact own_step (fun t kk => st'.trans kk) (k T' v' _ X' hQ')
theorem own_cpA (X : Stand p l e R s m args below meth c T locs cells slots) (hx : p.tables.exec = Jvm.exec) {Z : State} {a0 : Array Value} {h : Heap} (hZ : Z.Warmed39 s.vm) {own : String} (hown : s.vm.findClass own = some m.cls) {index : Nat} (w1 : (Jvm.Cond.methodLink own index Jvm.Stand.acN).before a0 Z = true) (w2 : (Jvm.Cond.native Jvm.Stand.acN).before a0 Z = true) (w3 : (Jvm.Cond.static Jvm.Stand.acN).before a0 Z = true) (w4 : (Jvm.Cond.initialized "java/lang/System").before a0 Z = true) (eT : T.heap = h)
    {a b : Addr} {k k' : ClassId} {ty ty' : FieldType} {z z' sp dp nn : Int32} {vs vd : List Value} {dv dd : Value} (us : List Value) (A : Arv Z h a k ty z vs dv) (B : Arv Z h b k' ty' z' vd dd) (hty : (ty = ty' ∧ refKind ty = false) ∨ (refKind ty = true ∧ refKind ty' = true ∧ StoL Z h b us))
    (h1 : ¬ sp < 0) (h2 : ¬ dp < 0) (h3 : ¬ nn < 0) (h4 : sp.toNatClampNeg + nn.toNatClampNeg ≤ z.toNatClampNeg) (h5 : dp.toNatClampNeg + nn.toNatClampNeg ≤ z'.toNatClampNeg) (hus : us = (List.range nn.toNatClampNeg).map fun i => vs.getD (sp.toNatClampNeg + i) dv) (hl : dp.toNatClampNeg + nn.toNatClampNeg ≤ vd.length) {n0 : Nat} (Nf : Fr n0 locs) (ge : n0 ≤ b)
    {pc : Nat} (pc' : Nat) {Ls : Array Slot} {rest : List Value} (hsize : Ls.size = c.maxLocals) (hd : decode c.code pc = .ok (.invokestatic index, 3)) (hp : pc + 3 = pc') (hf : 1 ≤ R.frames) (W : Nat) (hW : (rest.map fun v => v.category).sum = W) (hlo : W + (nativeFrameWords "java/lang/System" "arraycopy" 5 + 11) ≤ R.locals)
    (kk : ∀ T' h' L, Stand p l e R s m args below meth c T' L cells slots → T'.heap = h' → Fr n0 L → Keep h h' [b] → Arv Z h' b k' ty' z' (vd.take dp.toNatClampNeg ++ us ++ vd.drop (dp.toNatClampNeg + nn.toNatClampNeg)) dd → own_Go p e below s Q K N (T'.setTop (mkF m pc' Ls rest))) : own_Go p e below s Q K N (T.setTop (mkF m pc Ls (.int nn :: .int dp :: .ref b :: .int sp :: .ref a :: rest))) := by
  subst hp
  obtain ⟨T', h', L', X', e', N', K', B', st⟩ := cpA X hx hZ hown w1 w2 w3 w4 eT A B hty h1 h2 h3 h4 h5 hus hl Nf ge (g := mkF m pc Ls (.int nn :: .int dp :: .ref b :: .int sp :: .ref a :: rest)) rfl hsize rfl hd hf (W := W) (by show 2 * 0 + _ ≤ _; omega) hlo
  exact own_step st (kk T' h' L' X' e' N' K' B')
theorem own_plainE {Z : State} {h : Heap} {a : Addr} {C : String} (E : Exa Z h a C) : ∀ cell : Cell, h[a]? = some cell → cell.vm.isStatics = false := fun cell hc => by
  obtain ⟨c', k', h1, -, -, h2, -⟩ := E
  cases h1.symm.trans hc; exact h2
theorem own_plainA {Z : State} {h : Heap} {a : Addr} {k : ClassId} {ty : FieldType} {z : Int32} {vs : List Value} {dv : Value} (V : Arv Z h a k ty z vs dv) : ∀ cell : Cell, h[a]? = some cell → cell.vm.isStatics = false := fun cell hc => by
  obtain ⟨c', A, -⟩ := V
  cases A.1.symm.trans hc; exact A.plain
theorem own_castY (X : Stand p l e R s m args below meth c T locs cells slots) (hx : p.tables.exec = Jvm.exec) {Z : State} {a0 : Array Value} {h : Heap} (hZ : Z.Warmed39 s.vm) {own : String} (hown : s.vm.findClass own = some m.cls) {K' : String} {index : Nat} (w : (Jvm.Cond.classLink own index K').before a0 Z = true) (eT : T.heap = h) {a : Addr} (F : Ins Z h a K' true) {pc : Nat} (pc' : Nat) {Ls : Array Slot} {rest : List Value} (hd : decode c.code pc = .ok (.checkcast index, 3)) (hp : pc + 3 = pc') (k : ∀ T', Stand p l e R s m args below meth c T' locs cells slots → T'.heap = h → own_Go p e below s Q K N (T'.setTop (mkF m pc' Ls (.ref a :: rest)))) : own_Go p e below s Q K N (T.setTop (mkF m pc Ls (.ref a :: rest))) := by
  subst hp
  obtain ⟨T', X', e', st⟩ := castY X hx hZ hown w eT F (g := mkF m pc Ls (.ref a :: rest)) rfl rfl hd
  exact own_step st (k T' X' e')
theorem own_instY (X : Stand p l e R s m args below meth c T locs cells slots) (hx : p.tables.exec = Jvm.exec) {Z : State} {a0 : Array Value} {h : Heap} (hZ : Z.Warmed39 s.vm) {own : String} (hown : s.vm.findClass own = some m.cls) {K' : String} {index : Nat} (w : (Jvm.Cond.classLink own index K').before a0 Z = true) (eT : T.heap = h) {a : Addr} (F : Ins Z h a K' true) {pc : Nat} (pc' : Nat) {Ls : Array Slot} {rest : List Value} (hd : decode c.code pc = .ok (.instanceof index, 3)) (hp : pc + 3 = pc') (k : ∀ T', Stand p l e R s m args below meth c T' locs cells slots → T'.heap = h → own_Go p e below s Q K N (T'.setTop (mkF m pc' Ls (.int 1 :: rest)))) : own_Go p e below s Q K N (T.setTop (mkF m pc Ls (.ref a :: rest))) := by
  subst hp
  obtain ⟨T', X', e', st⟩ := instY X hx hZ hown w eT F (g := mkF m pc Ls (.ref a :: rest)) rfl rfl hd
  exact own_step st (k T' X' e')
theorem own_instNo (X : Stand p l e R s m args below meth c T locs cells slots) (hx : p.tables.exec = Jvm.exec) {Z : State} {a0 : Array Value} {h : Heap} (hZ : Z.Warmed39 s.vm) {own : String} (hown : s.vm.findClass own = some m.cls) {K' : String} {index : Nat} (w : (Jvm.Cond.classLink own index K').before a0 Z = true) (eT : T.heap = h) {a : Addr} {C : String} (E : Exa Z h a C) (F : ∃ c t, Z.vm.findClass C = some c ∧ Z.vm.findClass K' = some t ∧ Z.vm.assignable c t = false) {pc : Nat} (pc' : Nat) {Ls : Array Slot} {rest : List Value} (hd : decode c.code pc = .ok (.instanceof index, 3)) (hp : pc + 3 = pc') (k : ∀ T', Stand p l e R s m args below meth c T' locs cells slots → T'.heap = h → own_Go p e below s Q K N (T'.setTop (mkF m pc' Ls (.int 0 :: rest)))) : own_Go p e below s Q K N (T.setTop (mkF m pc Ls (.ref a :: rest))) := by
  subst hp
  obtain ⟨T', X', e', st⟩ := instNo X hx hZ hown w eT E F (g := mkF m pc Ls (.ref a :: rest)) rfl rfl hd
  exact own_step st (k T' X' e')
theorem own_instNull (X : Stand p l e R s m args below meth c T locs cells slots) (hx : p.tables.exec = Jvm.exec) {index : Nat} {pc : Nat} (pc' : Nat) {Ls : Array Slot} {rest : List Value} (hd : decode c.code pc = .ok (.instanceof index, 3)) (hp : pc + 3 = pc') (G : own_Go p e below s Q K N (T.setTop (mkF m pc' Ls (.int 0 :: rest)))) : own_Go p e below s Q K N (T.setTop (mkF m pc Ls (.null :: rest))) := by
  subst hp
  exact own_step (X.instanceofNull hx (g := mkF m pc Ls (.null :: rest)) rfl rfl hd) G
theorem own_irr (x : Int32) : ¬ x < x := by rw [Int32.lt_iff_toInt_lt]; omega
theorem own_fldV {Z : State} {h : Heap} {a : Addr} {C n d : String} {v w : Value} (F : Fld Z h a C n d v) (q : v = w) : Fld Z h a C n d w := q ▸ F
theorem own_arvL {Z : State} {h : Heap} {a : Addr} {k : ClassId} {ty : FieldType} {z : Int32} {vs ws : List Value} {dv : Value} (F : Arv Z h a k ty z vs dv) (q : ws = vs) : Arv Z h a k ty z ws dv := q ▸ F
end Own
theorem own_rb {z w : Int32} (h : z = w) (hz : nar .boolean z = z := by decide) : (some (Value.int (nar .boolean z)) : Option Value) = some (.int w) := by rw [hz, h]
theorem own_pos (x : Int32) : ¬ ((x &&& (2147483647 : Int32)) < (0 : Int32)) := by
  rw [Int32.lt_iff_toInt_lt]
  have := (c_and x 2147483647 (by decide)).1
  have h0 : (0 : Int32).toInt = 0 := rfl
  omega
def own_eq (a b c d : Int32) : Int32 := if a = c then (if b = d then 1 else 0) else 0
theorem own_NSroot {Z : State} {a0 : Array Value} {O K : String} {n : Nat} (w : (Jvm.Cond.noSuperclass O).before a0 Z = true) (wk : (Jvm.Cond.instantiable K n).before a0 Z = true) (hn : O ≠ K) : NS Z O K := by
  obtain ⟨c, k, h1, h2, h3, -, -⟩ := Cond.noSuperclass_spec w
  obtain ⟨t, k', g1, -⟩ := Cond.instantiable_spec wk
  have ne := ids_ne h1 g1 hn
  refine ⟨c, t, h1, g1, fun fuel => ?_⟩
  match fuel with
  | 0 => rfl
  | f + 1 => simp [Vm.isSubclassAux, ne, h2, h3]
theorem own_NSno {Z : State} {a0 : Array Value} {C S K : String} {n : Nat} (w : (Jvm.Cond.superclass C S).before a0 Z = true) (wk : (Jvm.Cond.instantiable K n).before a0 Z = true) (q : NS Z C K) (hn : C ≠ K) : ∃ c t, Z.vm.findClass C = some c ∧ Z.vm.findClass K = some t ∧ Z.vm.assignable c t = false := by
  obtain ⟨c, t, h0, g0, n3⟩ := q
  obtain ⟨p, k, kp, h1, h2, h3, h4, h5, -, h7⟩ := Cond.superclass_spec h0 w
  obtain ⟨t', k', g1, g2, g5, g6, -, -⟩ := Cond.instantiable_spec wk
  cases g0.symm.trans g1
  have ne := ids_ne h0 g0 hn
  have g7 : k'.isInterface = false := by
    cases hk : k'.isInterface
    · rfl
    · rw [hk] at g6; cases g6
  refine ⟨c, t, h0, g0, ?_⟩
  show Z.vm.assignableAux (255 + 1) c t = false
  simp [Vm.assignableAux, ne, h2, g2, h5, g5, g7, Vm.isSubclass, n3]
theorem own_in {x : Int32} {n : Nat} (hs : n = 256) (h1 : ¬ (x < (-128 : Int32))) (h2 : ¬ ((127 : Int32) < x)) : ¬ ((x + (128 : Int32)) < 0 ∨ n ≤ (x + (128 : Int32)).toNatClampNeg) := by
  rw [Int32.lt_iff_toInt_lt] at h1 h2
  have a := c_iadd x 128
  have r := rng32 (x + 128)
  have k1 : (-128 : Int32).toInt = -128 := rfl
  have k2 : (127 : Int32).toInt = 127 := rfl
  have k3 : (128 : Int32).toInt = 128 := rfl
  have k4 : (0 : Int32).toInt = 0 := rfl
  rw [Int32.lt_iff_toInt_lt]
  have e : (x + (128 : Int32)).toNatClampNeg = (x + (128 : Int32)).toInt.toNat := rfl
  omega
theorem own_inL {x : Int64} {n : Nat} (hs : n = 256) (h1 : ¬ (x < (-128 : Int64))) (h2 : ¬ ((127 : Int64) < x)) : ¬ (((x.toInt32) + (128 : Int32)) < 0 ∨ n ≤ ((x.toInt32) + (128 : Int32)).toNatClampNeg) := by
  rw [Int64.lt_iff_toInt_lt] at h1 h2
  have b := c_l2i x
  have a := c_iadd x.toInt32 128
  have r0 := rng32 x.toInt32
  have r := rng32 (x.toInt32 + 128)
  have k1 : (-128 : Int64).toInt = -128 := rfl
  have k2 : (127 : Int64).toInt = 127 := rfl
  have k3 : (128 : Int32).toInt = 128 := rfl
  have k4 : (0 : Int32).toInt = 0 := rfl
  rw [Int32.lt_iff_toInt_lt]
  have e : (x.toInt32 + (128 : Int32)).toNatClampNeg = (x.toInt32 + (128 : Int32)).toInt.toNat := rfl
  omega
theorem own_bxs {Z : State} {a : Addr} {c : Cell} {K d : String} {val : Int32 → Value} (B : Bxs Z a c K d 256 val) : c.slots.size = 256 := B.2.1
theorem d_prog_64_method_2_0 : decode prog_64_method_2_code 0 = .ok (.aload_n 0, 1) := by decide +kernel
theorem d_prog_64_method_2_1 : decode prog_64_method_2_code 1 = .ok (.invokespecial 10, 3) := by decide +kernel
theorem d_prog_64_method_2_4 : decode prog_64_method_2_code 4 = .ok (.iload_n 1, 1) := by decide +kernel
theorem d_prog_64_method_2_5 : decode prog_64_method_2_code 5 = .ok (.ifCond .lt 7, 3) := by decide +kernel
theorem d_prog_64_method_2_8 : decode prog_64_method_2_code 8 = .ok (.iload_n 2, 1) := by decide +kernel
theorem d_prog_64_method_2_9 : decode prog_64_method_2_code 9 = .ok (.ifCond .ge 34, 3) := by decide +kernel
theorem d_prog_64_method_2_43 : decode prog_64_method_2_code 43 = .ok (.aload_n 0, 1) := by decide +kernel
theorem d_prog_64_method_2_44 : decode prog_64_method_2_code 44 = .ok (.iload_n 1, 1) := by decide +kernel
theorem d_prog_64_method_2_45 : decode prog_64_method_2_code 45 = .ok (.putfield 32, 3) := by decide +kernel
theorem d_prog_64_method_2_48 : decode prog_64_method_2_code 48 = .ok (.aload_n 0, 1) := by decide +kernel
theorem d_prog_64_method_2_49 : decode prog_64_method_2_code 49 = .ok (.iload_n 2, 1) := by decide +kernel
theorem d_prog_64_method_2_50 : decode prog_64_method_2_code 50 = .ok (.putfield 36, 3) := by decide +kernel
theorem d_prog_64_method_2_53 : decode prog_64_method_2_code 53 = .ok (.return_, 1) := by decide +kernel
theorem ef_0 (m : MethodId) (x0 : Addr) (x1 : Int32) (x2 : Int32) : entryFrame m #[(.ref x0), (.int x1), (.int x2)] 3 = mkF m 0 #[.val (.ref x0), .val (.int x1), .val (.int x2)] [] := by first | (simp [entryFrame, mkF, argsToLocals, Value.category]; done) | rfl
theorem pn_0 : plainName "com/example/statement_mapper/statementmapper/service/RowBounds" = true := by first | (simp [plainName, overriddenIn]; done) | decide +kernel
def Q_init (Z : State) (o : Addr) (x : Int32) (y : Int32) (h0 : Heap) (n0 : Nat) (v : Option Value) (h : Heap) (L : List Loc) : Prop := v = none ∧ Fr n0 L ∧ Keep h0 h [o] ∧ Fld Z h o "com/example/statement_mapper/statementmapper/service/RowBounds" "offset" "I" (.int x) ∧ Fld Z h o "com/example/statement_mapper/statementmapper/service/RowBounds" "limit" "I" (.int y)
set_option maxRecDepth 65536 in
set_option maxHeartbeats 40000000 in
theorem rm_init (l : Launch) (Z : State) (a0 : Array Value) (hw : ∀ d ∈ tables_1, d.before a0 Z = true) (ws : List Jvm.Cond) (o : Addr) (x : Int32) (y : Int32) (h0 : Heap) (n0 : Nat) (Z0 : n0 ≤ h0.size) (E_o : Exa Z h0 o "com/example/statement_mapper/statementmapper/service/RowBounds") (F_o_offset : Fld Z h0 o "com/example/statement_mapper/statementmapper/service/RowBounds" "offset" "I" (.int (0 : Int32))) (F_o_limit : Fld Z h0 o "com/example/statement_mapper/statementmapper/service/RowBounds" "limit" "I" (.int (0 : Int32))) (g_o : n0 ≤ o) (hx0 : ¬ (x < (0 : Int32))) (hy0 : ¬ (y < (0 : Int32))) :
    MetFree l (⟨"com/example/statement_mapper/statementmapper/service/RowBounds", "<init>", "(II)V"⟩ : MethodName) (head1 (Jvm.Cond.code (⟨"com/example/statement_mapper/statementmapper/service/RowBounds", "<init>", "(II)V"⟩ : MethodName) prog_64_method_2_code 3 none :: ws) ({ frames := 1, cells := 0, slots := 0, locals := 12 } : Room)) (fun aA U => aA = #[(.ref o), (.int x), (.int y)] ∧ Z.Warmed39 U.vm ∧ U.heap = h0) (fun _ _ _ _ _ => True) (fun _ U oO U' => ∃ vV LL, oO = .returned vV ∧ Q_init Z o x y h0 n0 vV U'.heap LL ∧ FrameEnd U oO U' LL ({ frames := 1, cells := 0, slots := 0, locals := 12 } : Room).cells ({ frames := 1, cells := 0, slots := 0, locals := 12 } : Room).slots) := by
  refine MetFree.of_bodySF (plainFor_of_name pn_0) hisR ?_
  intro p e s m args below meth c s₁ Bd hml0 hP hK
  obtain ⟨rfl, hZ, hh⟩ := hP
  have hx := Bd.exec
  have hby := Bd.bytes
  have hml : c.maxLocals = 3 := hml0
  have hown : s.vm.findClass "com/example/statement_mapper/statementmapper/service/RowBounds" = some m.cls := findClass_of_methodNamed Bd.named
  have hnm := (name_of_methodNamed Bd.named Bd.method).1
  have X0 : Stand p l e ({ frames := 1, cells := 0, slots := 0, locals := 12 } : Room) s m #[(.ref o), (.int x), (.int y)] below meth c s₁ [] 0 0 := Stand.of_body Bd
  have e0 : s₁.heap = h0 := by rw [← hh, Bd.state]; rfl
  have N0 := Fr.nil n0
  have hret := Bd.returns
  have hlk : meth.locks = false := Bd.notSynchronized
  refine own_start (ef_0 m o x y) ?_
  show own_Go p e below s (Q_init Z o x y h0 n0) ({ frames := 1, cells := 0, slots := 0, locals := 12 } : Room).cells ({ frames := 1, cells := 0, slots := 0, locals := 12 } : Room).slots (s₁.setTop (mkF m 0 #[.val (.ref o), .val (.int x), .val (.int y)] []))
  refine g_aload_n X0 hx 1 (hb hby d_prog_64_method_2_0) rfl rfl rfl ?_
  refine own_initO X0 hx hZ hown (hw _ (List.mem_of_getElem? (i := 7) rfl)) (hw _ (List.mem_of_getElem? (i := 8) rfl)) (hw _ (List.mem_of_getElem? (i := 9) rfl)) e0 4 (by rw [hml]; rfl) (hb hby d_prog_64_method_2_1) rfl (by decide) 0 rfl (by decide) fun T1 X1 e1 => ?_
  refine g_iload_n X1 hx 5 (hb hby d_prog_64_method_2_4) rfl rfl ?_
  refine g_ifNo X1 hx 8 (hb hby d_prog_64_method_2_5) (own_i0_lt_f hx0) rfl ?_
  refine g_iload_n X1 hx 9 (hb hby d_prog_64_method_2_8) rfl rfl ?_
  refine g_ifYes X1 hx 43 (hb hby d_prog_64_method_2_9) (own_i0_ge_t hy0) (by decide) (by decide) ?_
  refine g_aload_n X1 hx 44 (hb hby d_prog_64_method_2_43) rfl rfl rfl ?_
  refine g_iload_n X1 hx 45 (hb hby d_prog_64_method_2_44) rfl rfl ?_
  refine own_putF X1 hx hZ hown (host := "") (Or.inl (hw _ (List.mem_of_getElem? (i := 10) rfl))) Via.refl e1 F_o_offset E_o (Or.inr ⟨(hw _ (List.mem_of_getElem? (i := 11) rfl)), rfl, hnm⟩) (hw _ (List.mem_of_getElem? (i := 2) rfl)) (ty := .int) (by decide) rfl rfl 48 (hb hby d_prog_64_method_2_45) rfl fun T4 h4 X4 e4 W4 => ?_
  have f4 : Fld Z h4 o "com/example/statement_mapper/statementmapper/service/RowBounds" "offset" "I" (.int x) := Fld.same W4 F_o_offset
  have N4 := Fr.snoc X4 N0 g_o
  have z5 : n0 ≤ h4.size := (Nat.le_trans Z0 (Keep.of_wr W4).1)
  have K6 : Keep h0 h4 [o] := (Keep.refl h0 [o]).wr W4 (Or.inl (List.mem_of_getElem? (i := 0) rfl))
  refine g_aload_n X4 hx 49 (hb hby d_prog_64_method_2_48) rfl rfl rfl ?_
  refine g_iload_n X4 hx 50 (hb hby d_prog_64_method_2_49) rfl rfl ?_
  have f7 : Exa Z h4 o "com/example/statement_mapper/statementmapper/service/RowBounds" := (Exa.wr W4 E_o)
  have f8 : Fld Z h4 o "com/example/statement_mapper/statementmapper/service/RowBounds" "limit" "I" (.int (0 : Int32)) := (Fld.other W4 F_o_limit (Or.inr (slot_ne (Or.inr (hw _ (List.mem_of_getElem? (i := 13) rfl))) (Or.inr (hw _ (List.mem_of_getElem? (i := 11) rfl))) (by decide) (t := .int) (t' := .int) (by decide) (by decide))))
  refine own_putF X4 hx hZ hown (host := "") (Or.inl (hw _ (List.mem_of_getElem? (i := 12) rfl))) Via.refl e4 f8 f7 (Or.inr ⟨(hw _ (List.mem_of_getElem? (i := 13) rfl)), rfl, hnm⟩) (hw _ (List.mem_of_getElem? (i := 2) rfl)) (ty := .int) (by decide) rfl rfl 53 (hb hby d_prog_64_method_2_50) rfl fun T9 h9 X9 e9 W9 => ?_
  have f9 : Fld Z h9 o "com/example/statement_mapper/statementmapper/service/RowBounds" "limit" "I" (.int y) := Fld.same W9 f8
  have N9 := Fr.snoc X9 N4 g_o
  have z10 : n0 ≤ h9.size := (Nat.le_trans z5 (Keep.of_wr W9).1)
  have K11 : Keep h0 h9 [o] := K6.wr W9 (Or.inl (List.mem_of_getElem? (i := 0) rfl))
  have f12 : Fld Z h9 o "com/example/statement_mapper/statementmapper/service/RowBounds" "offset" "I" (.int x) := (Fld.other W9 f4 (Or.inr (slot_ne (Or.inr (hw _ (List.mem_of_getElem? (i := 11) rfl))) (Or.inr (hw _ (List.mem_of_getElem? (i := 13) rfl))) (by decide) (t := .int) (t' := .int) (by decide) (by decide))))
  refine own_retV X9 hx hlk hret (hb hby d_prog_64_method_2_53) ?_ (by decide) (by decide)
  rw [e9]
  exact ⟨rfl, N9, K11, f12, f9⟩
theorem d_prog_64_method_5_0 : decode prog_64_method_5_code 0 = .ok (.aload_n 1, 1) := by decide +kernel
theorem d_prog_64_method_5_1 : decode prog_64_method_5_code 1 = .ok (.instanceof 3, 3) := by decide +kernel
theorem d_prog_64_method_5_4 : decode prog_64_method_5_code 4 = .ok (.ifCond .eq 34, 3) := by decide +kernel
theorem d_prog_64_method_5_7 : decode prog_64_method_5_code 7 = .ok (.aload_n 1, 1) := by decide +kernel
theorem d_prog_64_method_5_8 : decode prog_64_method_5_code 8 = .ok (.checkcast 3, 3) := by decide +kernel
theorem d_prog_64_method_5_11 : decode prog_64_method_5_code 11 = .ok (.astore_n 2, 1) := by decide +kernel
theorem d_prog_64_method_5_12 : decode prog_64_method_5_code 12 = .ok (.aload_n 0, 1) := by decide +kernel
theorem d_prog_64_method_5_13 : decode prog_64_method_5_code 13 = .ok (.getfield 32, 3) := by decide +kernel
theorem d_prog_64_method_5_16 : decode prog_64_method_5_code 16 = .ok (.aload_n 2, 1) := by decide +kernel
theorem d_prog_64_method_5_17 : decode prog_64_method_5_code 17 = .ok (.getfield 32, 3) := by decide +kernel
theorem d_prog_64_method_5_20 : decode prog_64_method_5_code 20 = .ok (.if_icmp .ne 18, 3) := by decide +kernel
theorem d_prog_64_method_5_23 : decode prog_64_method_5_code 23 = .ok (.aload_n 0, 1) := by decide +kernel
theorem d_prog_64_method_5_24 : decode prog_64_method_5_code 24 = .ok (.getfield 36, 3) := by decide +kernel
theorem d_prog_64_method_5_27 : decode prog_64_method_5_code 27 = .ok (.aload_n 2, 1) := by decide +kernel
theorem d_prog_64_method_5_28 : decode prog_64_method_5_code 28 = .ok (.getfield 36, 3) := by decide +kernel
theorem d_prog_64_method_5_31 : decode prog_64_method_5_code 31 = .ok (.if_icmp .ne 7, 3) := by decide +kernel
theorem d_prog_64_method_5_34 : decode prog_64_method_5_code 34 = .ok (.iconst 1, 1) := by decide +kernel
theorem d_prog_64_method_5_35 : decode prog_64_method_5_code 35 = .ok (.goto 4, 3) := by decide +kernel
theorem d_prog_64_method_5_39 : decode prog_64_method_5_code 39 = .ok (.ireturn, 1) := by decide +kernel
theorem d_prog_64_method_5_38 : decode prog_64_method_5_code 38 = .ok (.iconst 0, 1) := by decide +kernel
theorem ef_1 (m : MethodId) (x0 : Addr) (x1 : Addr) : entryFrame m #[(.ref x0), (.ref x1)] 3 = mkF m 0 #[.val (.ref x0), .val (.ref x1), .unset] [] := by first | (simp [entryFrame, mkF, argsToLocals, Value.category]; done) | rfl
def Q_eq (Z : State) (o : Addr) (w : Addr) (x1 : Int32) (y1 : Int32) (x2 : Int32) (y2 : Int32) (h0 : Heap) (n0 : Nat) (v : Option Value) (h : Heap) (L : List Loc) : Prop := v = some (.int (own_eq x1 y1 x2 y2)) ∧ Fr n0 L ∧ h = h0
set_option maxRecDepth 65536 in
set_option maxHeartbeats 40000000 in
theorem rm_eq (l : Launch) (Z : State) (a0 : Array Value) (hw : ∀ d ∈ tables_1, d.before a0 Z = true) (ws : List Jvm.Cond) (o : Addr) (w : Addr) (x1 : Int32) (y1 : Int32) (x2 : Int32) (y2 : Int32) (h0 : Heap) (n0 : Nat) (Z0 : n0 ≤ h0.size) (E_w : Exa Z h0 w "com/example/statement_mapper/statementmapper/service/RowBounds") (F_o_offset : Fld Z h0 o "com/example/statement_mapper/statementmapper/service/RowBounds" "offset" "I" (.int x1)) (F_o_limit : Fld Z h0 o "com/example/statement_mapper/statementmapper/service/RowBounds" "limit" "I" (.int y1)) (F_w_offset : Fld Z h0 w "com/example/statement_mapper/statementmapper/service/RowBounds" "offset" "I" (.int x2)) (F_w_limit : Fld Z h0 w "com/example/statement_mapper/statementmapper/service/RowBounds" "limit" "I" (.int y2)) :
    MetFree l (⟨"com/example/statement_mapper/statementmapper/service/RowBounds", "equals", "(Ljava/lang/Object;)Z"⟩ : MethodName) (head1 (Jvm.Cond.code (⟨"com/example/statement_mapper/statementmapper/service/RowBounds", "equals", "(Ljava/lang/Object;)Z"⟩ : MethodName) prog_64_method_5_code 3 (some .boolean) :: ws) ({ frames := 0, cells := 0, slots := 0, locals := 0 } : Room)) (fun aA U => aA = #[(.ref o), (.ref w)] ∧ Z.Warmed39 U.vm ∧ U.heap = h0) (fun _ _ _ _ _ => True) (fun _ U oO U' => ∃ vV LL, oO = .returned vV ∧ Q_eq Z o w x1 y1 x2 y2 h0 n0 vV U'.heap LL ∧ FrameEnd U oO U' LL ({ frames := 0, cells := 0, slots := 0, locals := 0 } : Room).cells ({ frames := 0, cells := 0, slots := 0, locals := 0 } : Room).slots) := by
  refine MetFree.of_bodySF (plainFor_of_name pn_0) hisR ?_
  intro p e s m args below meth c s₁ Bd hml0 hP hK
  obtain ⟨rfl, hZ, hh⟩ := hP
  have hx := Bd.exec
  have hby := Bd.bytes
  have hml : c.maxLocals = 3 := hml0
  have hown : s.vm.findClass "com/example/statement_mapper/statementmapper/service/RowBounds" = some m.cls := findClass_of_methodNamed Bd.named
  have hnm := (name_of_methodNamed Bd.named Bd.method).1
  have X0 : Stand p l e ({ frames := 0, cells := 0, slots := 0, locals := 0 } : Room) s m #[(.ref o), (.ref w)] below meth c s₁ [] 0 0 := Stand.of_body Bd
  have e0 : s₁.heap = h0 := by rw [← hh, Bd.state]; rfl
  have N0 := Fr.nil n0
  have hret := Bd.returns
  have hlk : meth.locks = false := Bd.notSynchronized
  refine own_start (ef_1 m o w) ?_
  show own_Go p e below s (Q_eq Z o w x1 y1 x2 y2 h0 n0) ({ frames := 0, cells := 0, slots := 0, locals := 0 } : Room).cells ({ frames := 0, cells := 0, slots := 0, locals := 0 } : Room).slots (s₁.setTop (mkF m 0 #[.val (.ref o), .val (.ref w), .unset] []))
  refine g_aload_n X0 hx 1 (hb hby d_prog_64_method_5_0) rfl rfl rfl ?_
  refine own_instY X0 hx hZ hown (hw _ (List.mem_of_getElem? (i := 19) rfl)) e0 (Ins.self E_w) 4 (hb hby d_prog_64_method_5_1) rfl fun T13 X13 e13 => ?_
  refine g_ifNo X13 hx 7 (hb hby d_prog_64_method_5_4) (own_i0_eq_f (by decide)) rfl ?_
  refine g_aload_n X13 hx 8 (hb hby d_prog_64_method_5_7) rfl rfl rfl ?_
  refine own_castY X13 hx hZ hown (hw _ (List.mem_of_getElem? (i := 19) rfl)) e13 (Ins.self E_w) 11 (hb hby d_prog_64_method_5_8) rfl fun T14 X14 e14 => ?_
  refine g_astore_n X14 hx 12 (hb hby d_prog_64_method_5_11) rfl (l' := #[.val (.ref o), .val (.ref w), .val (.ref w)]) rfl rfl ?_
  refine g_aload_n X14 hx 13 (hb hby d_prog_64_method_5_12) rfl rfl rfl ?_
  refine own_getF X14 hx hZ hown (host := "") (Or.inl (hw _ (List.mem_of_getElem? (i := 10) rfl))) Via.refl e14 F_o_offset 16 (hb hby d_prog_64_method_5_13) rfl fun T15 X15 e15 => ?_
  refine g_aload_n X15 hx 17 (hb hby d_prog_64_method_5_16) rfl rfl rfl ?_
  refine own_getF X15 hx hZ hown (host := "") (Or.inl (hw _ (List.mem_of_getElem? (i := 10) rfl))) Via.refl e15 F_w_offset 20 (hb hby d_prog_64_method_5_17) rfl fun T16 X16 e16 => ?_
  by_cases c17 : x1 = x2
  · refine g_icmpNo X16 hx 23 (hb hby d_prog_64_method_5_20) (own_ii_ne_f c17) rfl ?_
    refine g_aload_n X16 hx 24 (hb hby d_prog_64_method_5_23) rfl rfl rfl ?_
    refine own_getF X16 hx hZ hown (host := "") (Or.inl (hw _ (List.mem_of_getElem? (i := 12) rfl))) Via.refl e16 F_o_limit 27 (hb hby d_prog_64_method_5_24) rfl fun T18 X18 e18 => ?_
    refine g_aload_n X18 hx 28 (hb hby d_prog_64_method_5_27) rfl rfl rfl ?_
    refine own_getF X18 hx hZ hown (host := "") (Or.inl (hw _ (List.mem_of_getElem? (i := 12) rfl))) Via.refl e18 F_w_limit 31 (hb hby d_prog_64_method_5_28) rfl fun T19 X19 e19 => ?_
    by_cases c20 : y1 = y2
    · refine g_icmpNo X19 hx 34 (hb hby d_prog_64_method_5_31) (own_ii_ne_f c20) rfl ?_
      refine g_iconst X19 hx 35 (hb hby d_prog_64_method_5_34) (1 : Int32) rfl rfl ?_
      refine g_goto X19 hx 39 (hb hby d_prog_64_method_5_35) (by decide) (by decide) ?_
      refine own_retN X19 hx hlk (t := .boolean) hret (by simp) (hb hby d_prog_64_method_5_39) ?_ (by decide) (by decide)
      rw [e19]
      exact ⟨(own_rb (by simp [own_eq, c17, c20])), N0, rfl⟩
    · refine g_icmpYes X19 hx 38 (hb hby d_prog_64_method_5_31) (own_ii_ne_t c20) (by decide) (by decide) ?_
      refine g_iconst X19 hx 39 (hb hby d_prog_64_method_5_38) (0 : Int32) rfl rfl ?_
      refine own_retN X19 hx hlk (t := .boolean) hret (by simp) (hb hby d_prog_64_method_5_39) ?_ (by decide) (by decide)
      rw [e19]
      exact ⟨(own_rb (by simp [own_eq, c17, c20])), N0, rfl⟩
  · refine g_icmpYes X16 hx 38 (hb hby d_prog_64_method_5_20) (own_ii_ne_t c17) (by decide) (by decide) ?_
    refine g_iconst X16 hx 39 (hb hby d_prog_64_method_5_38) (0 : Int32) rfl rfl ?_
    refine own_retN X16 hx hlk (t := .boolean) hret (by simp) (hb hby d_prog_64_method_5_39) ?_ (by decide) (by decide)
    rw [e16]
    exact ⟨(own_rb (by simp [own_eq, c17])), N0, rfl⟩
def Q_eqself (Z : State) (o : Addr) (x1 : Int32) (y1 : Int32) (h0 : Heap) (n0 : Nat) (v : Option Value) (h : Heap) (L : List Loc) : Prop := v = some (.int (1 : Int32)) ∧ Fr n0 L ∧ h = h0
set_option maxRecDepth 65536 in
set_option maxHeartbeats 40000000 in
theorem rm_eqself (l : Launch) (Z : State) (a0 : Array Value) (hw : ∀ d ∈ tables_1, d.before a0 Z = true) (ws : List Jvm.Cond) (o : Addr) (x1 : Int32) (y1 : Int32) (h0 : Heap) (n0 : Nat) (Z0 : n0 ≤ h0.size) (E_o : Exa Z h0 o "com/example/statement_mapper/statementmapper/service/RowBounds") (F_o_offset : Fld Z h0 o "com/example/statement_mapper/statementmapper/service/RowBounds" "offset" "I" (.int x1)) (F_o_limit : Fld Z h0 o "com/example/statement_mapper/statementmapper/service/RowBounds" "limit" "I" (.int y1)) :
    MetFree l (⟨"com/example/statement_mapper/statementmapper/service/RowBounds", "equals", "(Ljava/lang/Object;)Z"⟩ : MethodName) (head1 (Jvm.Cond.code (⟨"com/example/statement_mapper/statementmapper/service/RowBounds", "equals", "(Ljava/lang/Object;)Z"⟩ : MethodName) prog_64_method_5_code 3 (some .boolean) :: ws) ({ frames := 0, cells := 0, slots := 0, locals := 0 } : Room)) (fun aA U => aA = #[(.ref o), (.ref o)] ∧ Z.Warmed39 U.vm ∧ U.heap = h0) (fun _ _ _ _ _ => True) (fun _ U oO U' => ∃ vV LL, oO = .returned vV ∧ Q_eqself Z o x1 y1 h0 n0 vV U'.heap LL ∧ FrameEnd U oO U' LL ({ frames := 0, cells := 0, slots := 0, locals := 0 } : Room).cells ({ frames := 0, cells := 0, slots := 0, locals := 0 } : Room).slots) := by
  refine MetFree.of_bodySF (plainFor_of_name pn_0) hisR ?_
  intro p e s m args below meth c s₁ Bd hml0 hP hK
  obtain ⟨rfl, hZ, hh⟩ := hP
  have hx := Bd.exec
  have hby := Bd.bytes
  have hml : c.maxLocals = 3 := hml0
  have hown : s.vm.findClass "com/example/statement_mapper/statementmapper/service/RowBounds" = some m.cls := findClass_of_methodNamed Bd.named
  have hnm := (name_of_methodNamed Bd.named Bd.method).1
  have X0 : Stand p l e ({ frames := 0, cells := 0, slots := 0, locals := 0 } : Room) s m #[(.ref o), (.ref o)] below meth c s₁ [] 0 0 := Stand.of_body Bd
  have e0 : s₁.heap = h0 := by rw [← hh, Bd.state]; rfl
  have N0 := Fr.nil n0
  have hret := Bd.returns
  have hlk : meth.locks = false := Bd.notSynchronized
  refine own_start (ef_1 m o o) ?_
  show own_Go p e below s (Q_eqself Z o x1 y1 h0 n0) ({ frames := 0, cells := 0, slots := 0, locals := 0 } : Room).cells ({ frames := 0, cells := 0, slots := 0, locals := 0 } : Room).slots (s₁.setTop (mkF m 0 #[.val (.ref o), .val (.ref o), .unset] []))
  refine g_aload_n X0 hx 1 (hb hby d_prog_64_method_5_0) rfl rfl rfl ?_
  refine own_instY X0 hx hZ hown (hw _ (List.mem_of_getElem? (i := 19) rfl)) e0 (Ins.self E_o) 4 (hb hby d_prog_64_method_5_1) rfl fun T21 X21 e21 => ?_
  refine g_ifNo X21 hx 7 (hb hby d_prog_64_method_5_4) (own_i0_eq_f (by decide)) rfl ?_
  refine g_aload_n X21 hx 8 (hb hby d_prog_64_method_5_7) rfl rfl rfl ?_
  refine own_castY X21 hx hZ hown (hw _ (List.mem_of_getElem? (i := 19) rfl)) e21 (Ins.self E_o) 11 (hb hby d_prog_64_method_5_8) rfl fun T22 X22 e22 => ?_
  refine g_astore_n X22 hx 12 (hb hby d_prog_64_method_5_11) rfl (l' := #[.val (.ref o), .val (.ref o), .val (.ref o)]) rfl rfl ?_
  refine g_aload_n X22 hx 13 (hb hby d_prog_64_method_5_12) rfl rfl rfl ?_
  refine own_getF X22 hx hZ hown (host := "") (Or.inl (hw _ (List.mem_of_getElem? (i := 10) rfl))) Via.refl e22 F_o_offset 16 (hb hby d_prog_64_method_5_13) rfl fun T23 X23 e23 => ?_
  refine g_aload_n X23 hx 17 (hb hby d_prog_64_method_5_16) rfl rfl rfl ?_
  refine own_getF X23 hx hZ hown (host := "") (Or.inl (hw _ (List.mem_of_getElem? (i := 10) rfl))) Via.refl e23 F_o_offset 20 (hb hby d_prog_64_method_5_17) rfl fun T24 X24 e24 => ?_
  refine g_icmpNo X24 hx 23 (hb hby d_prog_64_method_5_20) (own_ii_ne_f rfl) rfl ?_
  refine g_aload_n X24 hx 24 (hb hby d_prog_64_method_5_23) rfl rfl rfl ?_
  refine own_getF X24 hx hZ hown (host := "") (Or.inl (hw _ (List.mem_of_getElem? (i := 12) rfl))) Via.refl e24 F_o_limit 27 (hb hby d_prog_64_method_5_24) rfl fun T25 X25 e25 => ?_
  refine g_aload_n X25 hx 28 (hb hby d_prog_64_method_5_27) rfl rfl rfl ?_
  refine own_getF X25 hx hZ hown (host := "") (Or.inl (hw _ (List.mem_of_getElem? (i := 12) rfl))) Via.refl e25 F_o_limit 31 (hb hby d_prog_64_method_5_28) rfl fun T26 X26 e26 => ?_
  refine g_icmpNo X26 hx 34 (hb hby d_prog_64_method_5_31) (own_ii_ne_f rfl) rfl ?_
  refine g_iconst X26 hx 35 (hb hby d_prog_64_method_5_34) (1 : Int32) rfl rfl ?_
  refine g_goto X26 hx 39 (hb hby d_prog_64_method_5_35) (by decide) (by decide) ?_
  refine own_retN X26 hx hlk (t := .boolean) hret (by simp) (hb hby d_prog_64_method_5_39) ?_ (by decide) (by decide)
  rw [e26]
  exact ⟨(own_rb rfl), N0, rfl⟩
theorem ef_2 (m : MethodId) (x0 : Addr) : entryFrame m #[(.ref x0), .null] 3 = mkF m 0 #[.val (.ref x0), .val .null, .unset] [] := by first | (simp [entryFrame, mkF, argsToLocals, Value.category]; done) | rfl
def Q_eqnull (Z : State) (o : Addr) (h0 : Heap) (n0 : Nat) (v : Option Value) (h : Heap) (L : List Loc) : Prop := v = some (.int (0 : Int32)) ∧ Fr n0 L ∧ h = h0
set_option maxRecDepth 65536 in
set_option maxHeartbeats 40000000 in
theorem rm_eqnull (l : Launch) (Z : State) (a0 : Array Value) (hw : ∀ d ∈ tables_1, d.before a0 Z = true) (ws : List Jvm.Cond) (o : Addr) (h0 : Heap) (n0 : Nat) (Z0 : n0 ≤ h0.size) :
    MetFree l (⟨"com/example/statement_mapper/statementmapper/service/RowBounds", "equals", "(Ljava/lang/Object;)Z"⟩ : MethodName) (head1 (Jvm.Cond.code (⟨"com/example/statement_mapper/statementmapper/service/RowBounds", "equals", "(Ljava/lang/Object;)Z"⟩ : MethodName) prog_64_method_5_code 3 (some .boolean) :: ws) ({ frames := 0, cells := 0, slots := 0, locals := 0 } : Room)) (fun aA U => aA = #[(.ref o), .null] ∧ Z.Warmed39 U.vm ∧ U.heap = h0) (fun _ _ _ _ _ => True) (fun _ U oO U' => ∃ vV LL, oO = .returned vV ∧ Q_eqnull Z o h0 n0 vV U'.heap LL ∧ FrameEnd U oO U' LL ({ frames := 0, cells := 0, slots := 0, locals := 0 } : Room).cells ({ frames := 0, cells := 0, slots := 0, locals := 0 } : Room).slots) := by
  refine MetFree.of_bodySF (plainFor_of_name pn_0) hisR ?_
  intro p e s m args below meth c s₁ Bd hml0 hP hK
  obtain ⟨rfl, hZ, hh⟩ := hP
  have hx := Bd.exec
  have hby := Bd.bytes
  have hml : c.maxLocals = 3 := hml0
  have hown : s.vm.findClass "com/example/statement_mapper/statementmapper/service/RowBounds" = some m.cls := findClass_of_methodNamed Bd.named
  have hnm := (name_of_methodNamed Bd.named Bd.method).1
  have X0 : Stand p l e ({ frames := 0, cells := 0, slots := 0, locals := 0 } : Room) s m #[(.ref o), .null] below meth c s₁ [] 0 0 := Stand.of_body Bd
  have e0 : s₁.heap = h0 := by rw [← hh, Bd.state]; rfl
  have N0 := Fr.nil n0
  have hret := Bd.returns
  have hlk : meth.locks = false := Bd.notSynchronized
  refine own_start (ef_2 m o) ?_
  show own_Go p e below s (Q_eqnull Z o h0 n0) ({ frames := 0, cells := 0, slots := 0, locals := 0 } : Room).cells ({ frames := 0, cells := 0, slots := 0, locals := 0 } : Room).slots (s₁.setTop (mkF m 0 #[.val (.ref o), .val .null, .unset] []))
  refine g_aload_n X0 hx 1 (hb hby d_prog_64_method_5_0) rfl rfl rfl ?_
  refine own_instNull X0 hx 4 (hb hby d_prog_64_method_5_1) rfl ?_
  refine g_ifYes X0 hx 38 (hb hby d_prog_64_method_5_4) (own_i0_eq_t (by decide)) (by decide) (by decide) ?_
  refine g_iconst X0 hx 39 (hb hby d_prog_64_method_5_38) (0 : Int32) rfl rfl ?_
  refine own_retN X0 hx hlk (t := .boolean) hret (by simp) (hb hby d_prog_64_method_5_39) ?_ (by decide) (by decide)
  rw [e0]
  exact ⟨(own_rb rfl), N0, rfl⟩
def Q_eqno0 (Z : State) (o : Addr) (w : Addr) (h0 : Heap) (n0 : Nat) (v : Option Value) (h : Heap) (L : List Loc) : Prop := v = some (.int (0 : Int32)) ∧ Fr n0 L ∧ h = h0
set_option maxRecDepth 65536 in
set_option maxHeartbeats 40000000 in
theorem rm_eqno0 (l : Launch) (Z : State) (a0 : Array Value) (hw : ∀ d ∈ tables_1, d.before a0 Z = true) (ws : List Jvm.Cond) (o : Addr) (w : Addr) (h0 : Heap) (n0 : Nat) (Z0 : n0 ≤ h0.size) (E_w : Exa Z h0 w "java/lang/Integer") :
    MetFree l (⟨"com/example/statement_mapper/statementmapper/service/RowBounds", "equals", "(Ljava/lang/Object;)Z"⟩ : MethodName) (head1 (Jvm.Cond.code (⟨"com/example/statement_mapper/statementmapper/service/RowBounds", "equals", "(Ljava/lang/Object;)Z"⟩ : MethodName) prog_64_method_5_code 3 (some .boolean) :: ws) ({ frames := 0, cells := 0, slots := 0, locals := 0 } : Room)) (fun aA U => aA = #[(.ref o), (.ref w)] ∧ Z.Warmed39 U.vm ∧ U.heap = h0) (fun _ _ _ _ _ => True) (fun _ U oO U' => ∃ vV LL, oO = .returned vV ∧ Q_eqno0 Z o w h0 n0 vV U'.heap LL ∧ FrameEnd U oO U' LL ({ frames := 0, cells := 0, slots := 0, locals := 0 } : Room).cells ({ frames := 0, cells := 0, slots := 0, locals := 0 } : Room).slots) := by
  refine MetFree.of_bodySF (plainFor_of_name pn_0) hisR ?_
  intro p e s m args below meth c s₁ Bd hml0 hP hK
  obtain ⟨rfl, hZ, hh⟩ := hP
  have hx := Bd.exec
  have hby := Bd.bytes
  have hml : c.maxLocals = 3 := hml0
  have hown : s.vm.findClass "com/example/statement_mapper/statementmapper/service/RowBounds" = some m.cls := findClass_of_methodNamed Bd.named
  have hnm := (name_of_methodNamed Bd.named Bd.method).1
  have X0 : Stand p l e ({ frames := 0, cells := 0, slots := 0, locals := 0 } : Room) s m #[(.ref o), (.ref w)] below meth c s₁ [] 0 0 := Stand.of_body Bd
  have e0 : s₁.heap = h0 := by rw [← hh, Bd.state]; rfl
  have N0 := Fr.nil n0
  have hret := Bd.returns
  have hlk : meth.locks = false := Bd.notSynchronized
  refine own_start (ef_1 m o w) ?_
  show own_Go p e below s (Q_eqno0 Z o w h0 n0) ({ frames := 0, cells := 0, slots := 0, locals := 0 } : Room).cells ({ frames := 0, cells := 0, slots := 0, locals := 0 } : Room).slots (s₁.setTop (mkF m 0 #[.val (.ref o), .val (.ref w), .unset] []))
  refine g_aload_n X0 hx 1 (hb hby d_prog_64_method_5_0) rfl rfl rfl ?_
  refine own_instNo X0 hx hZ hown (hw _ (List.mem_of_getElem? (i := 19) rfl)) e0 E_w (own_NSno (hw _ (List.mem_of_getElem? (i := 28) rfl)) (hw _ (List.mem_of_getElem? (i := 2) rfl)) (NS.step (hw _ (List.mem_of_getElem? (i := 28) rfl)) (NS.step (hw _ (List.mem_of_getElem? (i := 29) rfl)) (own_NSroot (hw _ (List.mem_of_getElem? (i := 30) rfl)) (hw _ (List.mem_of_getElem? (i := 2) rfl)) (by decide)) (by decide)) (by decide)) (by decide)) 4 (hb hby d_prog_64_method_5_1) rfl fun T28 X28 e28 => ?_
  refine g_ifYes X28 hx 38 (hb hby d_prog_64_method_5_4) (own_i0_eq_t (by decide)) (by decide) (by decide) ?_
  refine g_iconst X28 hx 39 (hb hby d_prog_64_method_5_38) (0 : Int32) rfl rfl ?_
  refine own_retN X28 hx hlk (t := .boolean) hret (by simp) (hb hby d_prog_64_method_5_39) ?_ (by decide) (by decide)
  rw [e28]
  exact ⟨(own_rb rfl), N0, rfl⟩
def Q_eqno1 (Z : State) (o : Addr) (w : Addr) (h0 : Heap) (n0 : Nat) (v : Option Value) (h : Heap) (L : List Loc) : Prop := v = some (.int (0 : Int32)) ∧ Fr n0 L ∧ h = h0
set_option maxRecDepth 65536 in
set_option maxHeartbeats 40000000 in
theorem rm_eqno1 (l : Launch) (Z : State) (a0 : Array Value) (hw : ∀ d ∈ tables_1, d.before a0 Z = true) (ws : List Jvm.Cond) (o : Addr) (w : Addr) (h0 : Heap) (n0 : Nat) (Z0 : n0 ≤ h0.size) (E_w : Exa Z h0 w "java/lang/Long") :
    MetFree l (⟨"com/example/statement_mapper/statementmapper/service/RowBounds", "equals", "(Ljava/lang/Object;)Z"⟩ : MethodName) (head1 (Jvm.Cond.code (⟨"com/example/statement_mapper/statementmapper/service/RowBounds", "equals", "(Ljava/lang/Object;)Z"⟩ : MethodName) prog_64_method_5_code 3 (some .boolean) :: ws) ({ frames := 0, cells := 0, slots := 0, locals := 0 } : Room)) (fun aA U => aA = #[(.ref o), (.ref w)] ∧ Z.Warmed39 U.vm ∧ U.heap = h0) (fun _ _ _ _ _ => True) (fun _ U oO U' => ∃ vV LL, oO = .returned vV ∧ Q_eqno1 Z o w h0 n0 vV U'.heap LL ∧ FrameEnd U oO U' LL ({ frames := 0, cells := 0, slots := 0, locals := 0 } : Room).cells ({ frames := 0, cells := 0, slots := 0, locals := 0 } : Room).slots) := by
  refine MetFree.of_bodySF (plainFor_of_name pn_0) hisR ?_
  intro p e s m args below meth c s₁ Bd hml0 hP hK
  obtain ⟨rfl, hZ, hh⟩ := hP
  have hx := Bd.exec
  have hby := Bd.bytes
  have hml : c.maxLocals = 3 := hml0
  have hown : s.vm.findClass "com/example/statement_mapper/statementmapper/service/RowBounds" = some m.cls := findClass_of_methodNamed Bd.named
  have hnm := (name_of_methodNamed Bd.named Bd.method).1
  have X0 : Stand p l e ({ frames := 0, cells := 0, slots := 0, locals := 0 } : Room) s m #[(.ref o), (.ref w)] below meth c s₁ [] 0 0 := Stand.of_body Bd
  have e0 : s₁.heap = h0 := by rw [← hh, Bd.state]; rfl
  have N0 := Fr.nil n0
  have hret := Bd.returns
  have hlk : meth.locks = false := Bd.notSynchronized
  refine own_start (ef_1 m o w) ?_
  show own_Go p e below s (Q_eqno1 Z o w h0 n0) ({ frames := 0, cells := 0, slots := 0, locals := 0 } : Room).cells ({ frames := 0, cells := 0, slots := 0, locals := 0 } : Room).slots (s₁.setTop (mkF m 0 #[.val (.ref o), .val (.ref w), .unset] []))
  refine g_aload_n X0 hx 1 (hb hby d_prog_64_method_5_0) rfl rfl rfl ?_
  refine own_instNo X0 hx hZ hown (hw _ (List.mem_of_getElem? (i := 19) rfl)) e0 E_w (own_NSno (hw _ (List.mem_of_getElem? (i := 52) rfl)) (hw _ (List.mem_of_getElem? (i := 2) rfl)) (NS.step (hw _ (List.mem_of_getElem? (i := 52) rfl)) (NS.step (hw _ (List.mem_of_getElem? (i := 29) rfl)) (own_NSroot (hw _ (List.mem_of_getElem? (i := 30) rfl)) (hw _ (List.mem_of_getElem? (i := 2) rfl)) (by decide)) (by decide)) (by decide)) (by decide)) 4 (hb hby d_prog_64_method_5_1) rfl fun T29 X29 e29 => ?_
  refine g_ifYes X29 hx 38 (hb hby d_prog_64_method_5_4) (own_i0_eq_t (by decide)) (by decide) (by decide) ?_
  refine g_iconst X29 hx 39 (hb hby d_prog_64_method_5_38) (0 : Int32) rfl rfl ?_
  refine own_retN X29 hx hlk (t := .boolean) hret (by simp) (hb hby d_prog_64_method_5_39) ?_ (by decide) (by decide)
  rw [e29]
  exact ⟨(own_rb rfl), N0, rfl⟩
def Q_eqno2 (Z : State) (o : Addr) (w : Addr) (h0 : Heap) (n0 : Nat) (v : Option Value) (h : Heap) (L : List Loc) : Prop := v = some (.int (0 : Int32)) ∧ Fr n0 L ∧ h = h0
set_option maxRecDepth 65536 in
set_option maxHeartbeats 40000000 in
theorem rm_eqno2 (l : Launch) (Z : State) (a0 : Array Value) (hw : ∀ d ∈ tables_1, d.before a0 Z = true) (ws : List Jvm.Cond) (o : Addr) (w : Addr) (h0 : Heap) (n0 : Nat) (Z0 : n0 ≤ h0.size) (E_w : Exa Z h0 w "java/util/ArrayList") :
    MetFree l (⟨"com/example/statement_mapper/statementmapper/service/RowBounds", "equals", "(Ljava/lang/Object;)Z"⟩ : MethodName) (head1 (Jvm.Cond.code (⟨"com/example/statement_mapper/statementmapper/service/RowBounds", "equals", "(Ljava/lang/Object;)Z"⟩ : MethodName) prog_64_method_5_code 3 (some .boolean) :: ws) ({ frames := 0, cells := 0, slots := 0, locals := 0 } : Room)) (fun aA U => aA = #[(.ref o), (.ref w)] ∧ Z.Warmed39 U.vm ∧ U.heap = h0) (fun _ _ _ _ _ => True) (fun _ U oO U' => ∃ vV LL, oO = .returned vV ∧ Q_eqno2 Z o w h0 n0 vV U'.heap LL ∧ FrameEnd U oO U' LL ({ frames := 0, cells := 0, slots := 0, locals := 0 } : Room).cells ({ frames := 0, cells := 0, slots := 0, locals := 0 } : Room).slots) := by
  refine MetFree.of_bodySF (plainFor_of_name pn_0) hisR ?_
  intro p e s m args below meth c s₁ Bd hml0 hP hK
  obtain ⟨rfl, hZ, hh⟩ := hP
  have hx := Bd.exec
  have hby := Bd.bytes
  have hml : c.maxLocals = 3 := hml0
  have hown : s.vm.findClass "com/example/statement_mapper/statementmapper/service/RowBounds" = some m.cls := findClass_of_methodNamed Bd.named
  have hnm := (name_of_methodNamed Bd.named Bd.method).1
  have X0 : Stand p l e ({ frames := 0, cells := 0, slots := 0, locals := 0 } : Room) s m #[(.ref o), (.ref w)] below meth c s₁ [] 0 0 := Stand.of_body Bd
  have e0 : s₁.heap = h0 := by rw [← hh, Bd.state]; rfl
  have N0 := Fr.nil n0
  have hret := Bd.returns
  have hlk : meth.locks = false := Bd.notSynchronized
  refine own_start (ef_1 m o w) ?_
  show own_Go p e below s (Q_eqno2 Z o w h0 n0) ({ frames := 0, cells := 0, slots := 0, locals := 0 } : Room).cells ({ frames := 0, cells := 0, slots := 0, locals := 0 } : Room).slots (s₁.setTop (mkF m 0 #[.val (.ref o), .val (.ref w), .unset] []))
  refine g_aload_n X0 hx 1 (hb hby d_prog_64_method_5_0) rfl rfl rfl ?_
  refine own_instNo X0 hx hZ hown (hw _ (List.mem_of_getElem? (i := 19) rfl)) e0 E_w (own_NSno (hw _ (List.mem_of_getElem? (i := 77) rfl)) (hw _ (List.mem_of_getElem? (i := 2) rfl)) (NS.step (hw _ (List.mem_of_getElem? (i := 77) rfl)) (NS.step (hw _ (List.mem_of_getElem? (i := 78) rfl)) (NS.step (hw _ (List.mem_of_getElem? (i := 79) rfl)) (own_NSroot (hw _ (List.mem_of_getElem? (i := 30) rfl)) (hw _ (List.mem_of_getElem? (i := 2) rfl)) (by decide)) (by decide)) (by decide)) (by decide)) (by decide)) 4 (hb hby d_prog_64_method_5_1) rfl fun T30 X30 e30 => ?_
  refine g_ifYes X30 hx 38 (hb hby d_prog_64_method_5_4) (own_i0_eq_t (by decide)) (by decide) (by decide) ?_
  refine g_iconst X30 hx 39 (hb hby d_prog_64_method_5_38) (0 : Int32) rfl rfl ?_
  refine own_retN X30 hx hlk (t := .boolean) hret (by simp) (hb hby d_prog_64_method_5_39) ?_ (by decide) (by decide)
  rw [e30]
  exact ⟨(own_rb rfl), N0, rfl⟩
theorem d_jdk_18_method_1_0 : decode jdk_18_method_1_code 0 = .ok (.aload_n 0, 1) := by decide +kernel
theorem d_jdk_18_method_1_1 : decode jdk_18_method_1_code 1 = .ok (.invokespecial 1, 3) := by decide +kernel
theorem d_jdk_18_method_1_4 : decode jdk_18_method_1_code 4 = .ok (.return_, 1) := by decide +kernel
theorem ef_3 (m : MethodId) (x0 : Addr) : entryFrame m #[(.ref x0)] 1 = mkF m 0 #[.val (.ref x0)] [] := by first | (simp [entryFrame, mkF, argsToLocals, Value.category]; done) | rfl
theorem pn_1 : plainName "java/lang/Number" = true := by first | (simp [plainName, overriddenIn]; done) | decide +kernel
def Q_numb (Z : State) (o : Addr) (h0 : Heap) (n0 : Nat) (v : Option Value) (h : Heap) (L : List Loc) : Prop := v = none ∧ Fr n0 L ∧ h = h0
set_option maxRecDepth 65536 in
set_option maxHeartbeats 40000000 in
theorem rm_numb (l : Launch) (Z : State) (a0 : Array Value) (hw : ∀ d ∈ tables_1, d.before a0 Z = true) (ws : List Jvm.Cond) (o : Addr) (h0 : Heap) (n0 : Nat) (Z0 : n0 ≤ h0.size) :
    MetFree l (⟨"java/lang/Number", "<init>", "()V"⟩ : MethodName) (head1 (Jvm.Cond.code (⟨"java/lang/Number", "<init>", "()V"⟩ : MethodName) jdk_18_method_1_code 1 none :: ws) ({ frames := 1, cells := 0, slots := 0, locals := 12 } : Room)) (fun aA U => aA = #[(.ref o)] ∧ Z.Warmed39 U.vm ∧ U.heap = h0) (fun _ _ _ _ _ => True) (fun _ U oO U' => ∃ vV LL, oO = .returned vV ∧ Q_numb Z o h0 n0 vV U'.heap LL ∧ FrameEnd U oO U' LL ({ frames := 1, cells := 0, slots := 0, locals := 12 } : Room).cells ({ frames := 1, cells := 0, slots := 0, locals := 12 } : Room).slots) := by
  refine MetFree.of_bodySF (plainFor_of_name pn_1) hisR ?_
  intro p e s m args below meth c s₁ Bd hml0 hP hK
  obtain ⟨rfl, hZ, hh⟩ := hP
  have hx := Bd.exec
  have hby := Bd.bytes
  have hml : c.maxLocals = 1 := hml0
  have hown : s.vm.findClass "java/lang/Number" = some m.cls := findClass_of_methodNamed Bd.named
  have hnm := (name_of_methodNamed Bd.named Bd.method).1
  have X0 : Stand p l e ({ frames := 1, cells := 0, slots := 0, locals := 12 } : Room) s m #[(.ref o)] below meth c s₁ [] 0 0 := Stand.of_body Bd
  have e0 : s₁.heap = h0 := by rw [← hh, Bd.state]; rfl
  have N0 := Fr.nil n0
  have hret := Bd.returns
  have hlk : meth.locks = false := Bd.notSynchronized
  refine own_start (ef_3 m o) ?_
  show own_Go p e below s (Q_numb Z o h0 n0) ({ frames := 1, cells := 0, slots := 0, locals := 12 } : Room).cells ({ frames := 1, cells := 0, slots := 0, locals := 12 } : Room).slots (s₁.setTop (mkF m 0 #[.val (.ref o)] []))
  refine g_aload_n X0 hx 1 (hb hby d_jdk_18_method_1_0) rfl rfl rfl ?_
  refine own_initO X0 hx hZ hown (hw _ (List.mem_of_getElem? (i := 49) rfl)) (hw _ (List.mem_of_getElem? (i := 8) rfl)) (hw _ (List.mem_of_getElem? (i := 9) rfl)) e0 4 (by rw [hml]; rfl) (hb hby d_jdk_18_method_1_1) rfl (by decide) 0 rfl (by decide) fun T31 X31 e31 => ?_
  refine own_retV X31 hx hlk hret (hb hby d_jdk_18_method_1_4) ?_ (by decide) (by decide)
  rw [e31]
  exact ⟨rfl, N0, rfl⟩
theorem d_jdk_33_method_23_0 : decode jdk_33_method_23_code 0 = .ok (.aload_n 0, 1) := by decide +kernel
theorem d_jdk_33_method_23_1 : decode jdk_33_method_23_code 1 = .ok (.invokespecial 202, 3) := by decide +kernel
theorem pd_0 : parseMethodDescriptor "()V" = some ⟨[], none⟩ := by decide +kernel
theorem d_jdk_33_method_23_4 : decode jdk_33_method_23_code 4 = .ok (.aload_n 0, 1) := by decide +kernel
theorem d_jdk_33_method_23_5 : decode jdk_33_method_23_code 5 = .ok (.iload_n 1, 1) := by decide +kernel
theorem d_jdk_33_method_23_6 : decode jdk_33_method_23_code 6 = .ok (.putfield 205, 3) := by decide +kernel
theorem d_jdk_33_method_23_9 : decode jdk_33_method_23_code 9 = .ok (.return_, 1) := by decide +kernel
theorem ef_4 (m : MethodId) (x0 : Addr) (x1 : Int32) : entryFrame m #[(.ref x0), (.int x1)] 2 = mkF m 0 #[.val (.ref x0), .val (.int x1)] [] := by first | (simp [entryFrame, mkF, argsToLocals, Value.category]; done) | rfl
theorem pn_2 : plainName "java/lang/Integer" = true := by first | (simp [plainName, overriddenIn]; done) | decide +kernel
def Q_boxI (Z : State) (o : Addr) (x : Int32) (h0 : Heap) (n0 : Nat) (v : Option Value) (h : Heap) (L : List Loc) : Prop := v = none ∧ Fr n0 L ∧ Keep h0 h [o] ∧ Fld Z h o "java/lang/Integer" "value" "I" (.int x)
set_option maxRecDepth 65536 in
set_option maxHeartbeats 40000000 in
theorem rm_boxI (l : Launch) (Z : State) (a0 : Array Value) (hw : ∀ d ∈ tables_1, d.before a0 Z = true) (ws : List Jvm.Cond) (o : Addr) (x : Int32) (h0 : Heap) (n0 : Nat) (Z0 : n0 ≤ h0.size) (E_o : Exa Z h0 o "java/lang/Integer") (F_o_value : Fld Z h0 o "java/lang/Integer" "value" "I" (.int (0 : Int32))) (g_o : n0 ≤ o) :
    MetFree l (⟨"java/lang/Integer", "<init>", "(I)V"⟩ : MethodName) (head1 (Jvm.Cond.code (⟨"java/lang/Integer", "<init>", "(I)V"⟩ : MethodName) jdk_33_method_23_code 2 none :: ws) ({ frames := 2, cells := 0, slots := 0, locals := 24 } : Room)) (fun aA U => aA = #[(.ref o), (.int x)] ∧ Z.Warmed39 U.vm ∧ U.heap = h0) (fun _ _ _ _ _ => True) (fun _ U oO U' => ∃ vV LL, oO = .returned vV ∧ Q_boxI Z o x h0 n0 vV U'.heap LL ∧ FrameEnd U oO U' LL ({ frames := 2, cells := 0, slots := 0, locals := 24 } : Room).cells ({ frames := 2, cells := 0, slots := 0, locals := 24 } : Room).slots) := by
  refine MetFree.of_bodySF (plainFor_of_name pn_2) hisR ?_
  intro p e s m args below meth c s₁ Bd hml0 hP hK
  obtain ⟨rfl, hZ, hh⟩ := hP
  have hx := Bd.exec
  have hby := Bd.bytes
  have hml : c.maxLocals = 2 := hml0
  have hown : s.vm.findClass "java/lang/Integer" = some m.cls := findClass_of_methodNamed Bd.named
  have hnm := (name_of_methodNamed Bd.named Bd.method).1
  have X0 : Stand p l e ({ frames := 2, cells := 0, slots := 0, locals := 24 } : Room) s m #[(.ref o), (.int x)] below meth c s₁ [] 0 0 := Stand.of_body Bd
  have e0 : s₁.heap = h0 := by rw [← hh, Bd.state]; rfl
  have N0 := Fr.nil n0
  have hret := Bd.returns
  have hlk : meth.locks = false := Bd.notSynchronized
  refine own_start (ef_4 m o x) ?_
  show own_Go p e below s (Q_boxI Z o x h0 n0) ({ frames := 2, cells := 0, slots := 0, locals := 24 } : Room).cells ({ frames := 2, cells := 0, slots := 0, locals := 24 } : Room).slots (s₁.setTop (mkF m 0 #[.val (.ref o), .val (.int x)] []))
  refine g_aload_n X0 hx 1 (hb hby d_jdk_33_method_23_0) rfl rfl rfl ?_
  refine own_callI X0 hx hZ hown rfl (hw _ (List.mem_of_getElem? (i := 86) rfl)) (hw _ (List.mem_of_getElem? (i := 44) rfl)) (by decide) (rm_numb l Z a0 hw [] o h0 n0 Z0 ) (hw _ (List.mem_of_getElem? (i := 48) rfl)) (hw _ (List.mem_of_getElem? (i := 47) rfl)) e0 0 (by decide) (by decide) (by decide) (by decide) o [] [] rfl pd_0 rfl 4 rfl (by rw [hml]; rfl) rfl (hb hby d_jdk_33_method_23_1) rfl fun T32 v32 L32 X32 hQ32 => ?_
  obtain ⟨rfl, Nq32, e32⟩ := hQ32
  have N32 := Fr.app N0 Nq32
  show own_Go p e below s _ _ _ (T32.setTop (mkF m 4 _ []))
  refine g_aload_n X32 hx 5 (hb hby d_jdk_33_method_23_4) rfl rfl rfl ?_
  refine g_iload_n X32 hx 6 (hb hby d_jdk_33_method_23_5) rfl rfl ?_
  refine own_putF X32 hx hZ hown (host := "") (Or.inl (hw _ (List.mem_of_getElem? (i := 88) rfl))) Via.refl e32 F_o_value E_o (Or.inr ⟨(hw _ (List.mem_of_getElem? (i := 89) rfl)), rfl, hnm⟩) (hw _ (List.mem_of_getElem? (i := 81) rfl)) (ty := .int) (by decide) rfl rfl 9 (hb hby d_jdk_33_method_23_6) rfl fun T33 h33 X33 e33 W33 => ?_
  have f33 : Fld Z h33 o "java/lang/Integer" "value" "I" (.int x) := Fld.same W33 F_o_value
  have N33 := Fr.snoc X33 N32 g_o
  have z34 : n0 ≤ h33.size := (Nat.le_trans Z0 (Keep.of_wr W33).1)
  have K35 : Keep h0 h33 [o] := (Keep.refl h0 [o]).wr W33 (Or.inl (List.mem_of_getElem? (i := 0) rfl))
  refine own_retV X33 hx hlk hret (hb hby d_jdk_33_method_23_9) ?_ (by decide) (by decide)
  rw [e33]
  exact ⟨rfl, N33, K35, f33⟩
theorem d_jdk_35_method_26_0 : decode jdk_35_method_26_code 0 = .ok (.aload_n 0, 1) := by decide +kernel
theorem d_jdk_35_method_26_1 : decode jdk_35_method_26_code 1 = .ok (.invokespecial 270, 3) := by decide +kernel
theorem d_jdk_35_method_26_4 : decode jdk_35_method_26_code 4 = .ok (.aload_n 0, 1) := by decide +kernel
theorem d_jdk_35_method_26_5 : decode jdk_35_method_26_code 5 = .ok (.lload_n 1, 1) := by decide +kernel
theorem d_jdk_35_method_26_6 : decode jdk_35_method_26_code 6 = .ok (.putfield 273, 3) := by decide +kernel
theorem d_jdk_35_method_26_9 : decode jdk_35_method_26_code 9 = .ok (.return_, 1) := by decide +kernel
theorem ef_5 (m : MethodId) (x0 : Addr) (x1 : Int64) : entryFrame m #[(.ref x0), (.long x1)] 3 = mkF m 0 #[.val (.ref x0), .val (.long x1), .second] [] := by first | (simp [entryFrame, mkF, argsToLocals, Value.category]; done) | rfl
theorem pn_3 : plainName "java/lang/Long" = true := by first | (simp [plainName, overriddenIn]; done) | decide +kernel
def Q_boxJ (Z : State) (o : Addr) (x : Int64) (h0 : Heap) (n0 : Nat) (v : Option Value) (h : Heap) (L : List Loc) : Prop := v = none ∧ Fr n0 L ∧ Keep h0 h [o] ∧ Fld Z h o "java/lang/Long" "value" "J" (.long x)
set_option maxRecDepth 65536 in
set_option maxHeartbeats 40000000 in
theorem rm_boxJ (l : Launch) (Z : State) (a0 : Array Value) (hw : ∀ d ∈ tables_1, d.before a0 Z = true) (ws : List Jvm.Cond) (o : Addr) (x : Int64) (h0 : Heap) (n0 : Nat) (Z0 : n0 ≤ h0.size) (E_o : Exa Z h0 o "java/lang/Long") (F_o_value : Fld Z h0 o "java/lang/Long" "value" "J" (.long (0 : Int64))) (g_o : n0 ≤ o) :
    MetFree l (⟨"java/lang/Long", "<init>", "(J)V"⟩ : MethodName) (head1 (Jvm.Cond.code (⟨"java/lang/Long", "<init>", "(J)V"⟩ : MethodName) jdk_35_method_26_code 3 none :: ws) ({ frames := 2, cells := 0, slots := 0, locals := 24 } : Room)) (fun aA U => aA = #[(.ref o), (.long x)] ∧ Z.Warmed39 U.vm ∧ U.heap = h0) (fun _ _ _ _ _ => True) (fun _ U oO U' => ∃ vV LL, oO = .returned vV ∧ Q_boxJ Z o x h0 n0 vV U'.heap LL ∧ FrameEnd U oO U' LL ({ frames := 2, cells := 0, slots := 0, locals := 24 } : Room).cells ({ frames := 2, cells := 0, slots := 0, locals := 24 } : Room).slots) := by
  refine MetFree.of_bodySF (plainFor_of_name pn_3) hisR ?_
  intro p e s m args below meth c s₁ Bd hml0 hP hK
  obtain ⟨rfl, hZ, hh⟩ := hP
  have hx := Bd.exec
  have hby := Bd.bytes
  have hml : c.maxLocals = 3 := hml0
  have hown : s.vm.findClass "java/lang/Long" = some m.cls := findClass_of_methodNamed Bd.named
  have hnm := (name_of_methodNamed Bd.named Bd.method).1
  have X0 : Stand p l e ({ frames := 2, cells := 0, slots := 0, locals := 24 } : Room) s m #[(.ref o), (.long x)] below meth c s₁ [] 0 0 := Stand.of_body Bd
  have e0 : s₁.heap = h0 := by rw [← hh, Bd.state]; rfl
  have N0 := Fr.nil n0
  have hret := Bd.returns
  have hlk : meth.locks = false := Bd.notSynchronized
  refine own_start (ef_5 m o x) ?_
  show own_Go p e below s (Q_boxJ Z o x h0 n0) ({ frames := 2, cells := 0, slots := 0, locals := 24 } : Room).cells ({ frames := 2, cells := 0, slots := 0, locals := 24 } : Room).slots (s₁.setTop (mkF m 0 #[.val (.ref o), .val (.long x), .second] []))
  refine g_aload_n X0 hx 1 (hb hby d_jdk_35_method_26_0) rfl rfl rfl ?_
  refine own_callI X0 hx hZ hown rfl (hw _ (List.mem_of_getElem? (i := 43) rfl)) (hw _ (List.mem_of_getElem? (i := 44) rfl)) (by decide) (rm_numb l Z a0 hw [] o h0 n0 Z0 ) (hw _ (List.mem_of_getElem? (i := 48) rfl)) (hw _ (List.mem_of_getElem? (i := 47) rfl)) e0 0 (by decide) (by decide) (by decide) (by decide) o [] [] rfl pd_0 rfl 4 rfl (by rw [hml]; rfl) rfl (hb hby d_jdk_35_method_26_1) rfl fun T36 v36 L36 X36 hQ36 => ?_
  obtain ⟨rfl, Nq36, e36⟩ := hQ36
  have N36 := Fr.app N0 Nq36
  show own_Go p e below s _ _ _ (T36.setTop (mkF m 4 _ []))
  refine g_aload_n X36 hx 5 (hb hby d_jdk_35_method_26_4) rfl rfl rfl ?_
  refine g_lload_n X36 hx 6 (hb hby d_jdk_35_method_26_5) rfl rfl ?_
  refine own_putF X36 hx hZ hown (host := "") (Or.inl (hw _ (List.mem_of_getElem? (i := 50) rfl))) Via.refl e36 F_o_value E_o (Or.inr ⟨(hw _ (List.mem_of_getElem? (i := 51) rfl)), rfl, hnm⟩) (hw _ (List.mem_of_getElem? (i := 38) rfl)) (ty := .long) (by decide) rfl rfl 9 (hb hby d_jdk_35_method_26_6) rfl fun T37 h37 X37 e37 W37 => ?_
  have f37 : Fld Z h37 o "java/lang/Long" "value" "J" (.long x) := Fld.same W37 F_o_value
  have N37 := Fr.snoc X37 N36 g_o
  have z38 : n0 ≤ h37.size := (Nat.le_trans Z0 (Keep.of_wr W37).1)
  have K39 : Keep h0 h37 [o] := (Keep.refl h0 [o]).wr W37 (Or.inl (List.mem_of_getElem? (i := 0) rfl))
  refine own_retV X37 hx hlk hret (hb hby d_jdk_35_method_26_9) ?_ (by decide) (by decide)
  rw [e37]
  exact ⟨rfl, N37, K39, f37⟩
theorem d_jdk_33_method_22_0 : decode jdk_33_method_22_code 0 = .ok (.iload_n 0, 1) := by decide +kernel
theorem d_jdk_33_method_22_1 : decode jdk_33_method_22_code 1 = .ok (.bipush (-128), 2) := by decide +kernel
theorem d_jdk_33_method_22_3 : decode jdk_33_method_22_code 3 = .ok (.if_icmp .lt 20, 3) := by decide +kernel
theorem d_jdk_33_method_22_23 : decode jdk_33_method_22_code 23 = .ok (.new 1, 3) := by decide +kernel
theorem d_jdk_33_method_22_26 : decode jdk_33_method_22_code 26 = .ok (.dup, 1) := by decide +kernel
theorem d_jdk_33_method_22_27 : decode jdk_33_method_22_code 27 = .ok (.iload_n 0, 1) := by decide +kernel
theorem d_jdk_33_method_22_28 : decode jdk_33_method_22_code 28 = .ok (.invokespecial 199, 3) := by decide +kernel
theorem pd_1 : parseMethodDescriptor "(I)V" = some ⟨[.int], none⟩ := by decide +kernel
theorem d_jdk_33_method_22_31 : decode jdk_33_method_22_code 31 = .ok (.areturn, 1) := by decide +kernel
theorem d_jdk_33_method_22_6 : decode jdk_33_method_22_code 6 = .ok (.iload_n 0, 1) := by decide +kernel
theorem d_jdk_33_method_22_7 : decode jdk_33_method_22_code 7 = .ok (.getstatic 191, 3) := by decide +kernel
theorem d_jdk_33_method_22_10 : decode jdk_33_method_22_code 10 = .ok (.if_icmp .gt 13, 3) := by decide +kernel
theorem d_jdk_33_method_22_13 : decode jdk_33_method_22_code 13 = .ok (.getstatic 195, 3) := by decide +kernel
theorem d_jdk_33_method_22_16 : decode jdk_33_method_22_code 16 = .ok (.iload_n 0, 1) := by decide +kernel
theorem d_jdk_33_method_22_17 : decode jdk_33_method_22_code 17 = .ok (.sipush 128, 3) := by decide +kernel
theorem d_jdk_33_method_22_20 : decode jdk_33_method_22_code 20 = .ok (.iadd, 1) := by decide +kernel
theorem d_jdk_33_method_22_21 : decode jdk_33_method_22_code 21 = .ok (.aaload, 1) := by decide +kernel
theorem d_jdk_33_method_22_22 : decode jdk_33_method_22_code 22 = .ok (.areturn, 1) := by decide +kernel
theorem ef_6 (m : MethodId) (x0 : Int32) : entryFrame m #[(.int x0)] 1 = mkF m 0 #[.val (.int x0)] [] := by first | (simp [entryFrame, mkF, argsToLocals, Value.category]; done) | rfl
def Q_voI (Z : State) (x : Int32) (ca : Addr) (cl : Cell) (vf : Int32 → Value) (h0 : Heap) (n0 : Nat) (v : Option Value) (h : Heap) (L : List Loc) : Prop := ∃ r : Addr, v = some (.ref r) ∧ Fr n0 L ∧ Keep h0 h [] ∧ Exa Z h r "java/lang/Integer"
set_option maxRecDepth 65536 in
set_option maxHeartbeats 40000000 in
theorem rm_voI (l : Launch) (Z : State) (a0 : Array Value) (hw : ∀ d ∈ tables_1, d.before a0 Z = true) (ws : List Jvm.Cond) (x : Int32) (ca : Addr) (cl : Cell) (vf : Int32 → Value) (h0 : Heap) (n0 : Nat) (Z0 : n0 ≤ h0.size) (S_high : Sta Z h0 "java/lang/Integer$IntegerCache" "high" "I" (.int (127 : Int32))) (S_cache : Sta Z h0 "java/lang/Integer$IntegerCache" "cache" "[Ljava/lang/Integer;" (.ref ca)) (B_cache : Bxs Z ca cl "java/lang/Integer" "I" 256 vf) (Kz : Keep Z.heap h0 []) :
    MetFree l (⟨"java/lang/Integer", "valueOf", "(I)Ljava/lang/Integer;"⟩ : MethodName) (head1 (Jvm.Cond.code (⟨"java/lang/Integer", "valueOf", "(I)Ljava/lang/Integer;"⟩ : MethodName) jdk_33_method_22_code 1 (some (.object "java/lang/Integer")) :: ws) ({ frames := 3, cells := 1, slots := 1, locals := 38 } : Room)) (fun aA U => aA = #[(.int x)] ∧ Z.Warmed39 U.vm ∧ U.heap = h0) (fun _ _ _ _ _ => True) (fun _ U oO U' => ∃ vV LL, oO = .returned vV ∧ Q_voI Z x ca cl vf h0 n0 vV U'.heap LL ∧ FrameEnd U oO U' LL ({ frames := 3, cells := 1, slots := 1, locals := 38 } : Room).cells ({ frames := 3, cells := 1, slots := 1, locals := 38 } : Room).slots) := by
  refine MetFree.of_bodySF (plainFor_of_name pn_2) hisR ?_
  intro p e s m args below meth c s₁ Bd hml0 hP hK
  obtain ⟨rfl, hZ, hh⟩ := hP
  have hx := Bd.exec
  have hby := Bd.bytes
  have hml : c.maxLocals = 1 := hml0
  have hown : s.vm.findClass "java/lang/Integer" = some m.cls := findClass_of_methodNamed Bd.named
  have hnm := (name_of_methodNamed Bd.named Bd.method).1
  have X0 : Stand p l e ({ frames := 3, cells := 1, slots := 1, locals := 38 } : Room) s m #[(.int x)] below meth c s₁ [] 0 0 := Stand.of_body Bd
  have e0 : s₁.heap = h0 := by rw [← hh, Bd.state]; rfl
  have N0 := Fr.nil n0
  have hret := Bd.returns
  have hlk : meth.locks = false := Bd.notSynchronized
  refine own_start (ef_6 m x) ?_
  show own_Go p e below s (Q_voI Z x ca cl vf h0 n0) ({ frames := 3, cells := 1, slots := 1, locals := 38 } : Room).cells ({ frames := 3, cells := 1, slots := 1, locals := 38 } : Room).slots (s₁.setTop (mkF m 0 #[.val (.int x)] []))
  refine g_iload_n X0 hx 1 (hb hby d_jdk_33_method_22_0) rfl rfl ?_
  refine g_bipush X0 hx 3 (hb hby d_jdk_33_method_22_1) (-128 : Int32) rfl rfl ?_
  by_cases c40 : x < (-128 : Int32)
  · refine g_icmpYes X0 hx 23 (hb hby d_jdk_33_method_22_3) (own_ii_lt_t c40) (by decide) (by decide) ?_
    refine own_newO X0 hx hZ hown (hw _ (List.mem_of_getElem? (i := 80) rfl)) (hw _ (List.mem_of_getElem? (i := 81) rfl)) (hw _ (List.mem_of_getElem? (i := 23) rfl)) e0 26 (hb hby d_jdk_33_method_22_23) rfl (by decide) (by decide) fun T41 h41 b41 X41 e41 g41 E41 A41 D41 => ?_
    have g_b41 : n0 ≤ b41 := Nat.le_trans Z0 (Nat.le_of_eq g41.symm)
    have sz_b41 : h0.size ≤ b41 := Nat.le_trans (Keep.refl h0 []).1 (Nat.le_of_eq g41.symm)
    have K42 : Keep h0 h41 [] := (Keep.refl h0 []).ext E41
    have z43 : n0 ≤ h41.size := (Nat.le_trans Z0 E41.1)
    have f44 : Fld Z h41 b41 "java/lang/Integer" "value" "I" (.int (0 : Int32)) := D41 (Or.inr (hw _ (List.mem_of_getElem? (i := 89) rfl))) (ty := .int) (by decide)
    refine g_dup X41 hx 27 (hb hby d_jdk_33_method_22_26) rfl rfl ?_
    refine g_iload_n X41 hx 28 (hb hby d_jdk_33_method_22_27) rfl rfl ?_
    refine own_callI X41 hx hZ hown rfl (hw _ (List.mem_of_getElem? (i := 82) rfl)) (hw _ (List.mem_of_getElem? (i := 83) rfl)) (by decide) (rm_boxI l Z a0 hw [] b41 x h41 n0 z43 A41 f44 g_b41) (hw _ (List.mem_of_getElem? (i := 85) rfl)) (hw _ (List.mem_of_getElem? (i := 23) rfl)) e41 1 (by decide) (by decide) (by decide) (by decide) b41 [(.int x)] [(.ref b41)] rfl pd_1 rfl 31 rfl (by rw [hml]; rfl) rfl (hb hby d_jdk_33_method_22_28) rfl fun T45 v45 L45 X45 hQ45 => ?_
    obtain ⟨rfl, Nq45, Kq45, f45_0⟩ := hQ45
    have N45 := Fr.app N0 Nq45
    have K46 : Keep h0 T45.heap [] := K42.trans Kq45 (allS (Or.inr sz_b41) all0)
    have z47 : n0 ≤ T45.heap.size := (Nat.le_trans z43 Kq45.1)
    show own_Go p e below s _ _ _ (T45.setTop (mkF m 31 _ [(.ref b41)]))
    have f48 : Exa Z T45.heap b41 "java/lang/Integer" := (A41.keep Kq45)
    refine own_retA X45 hx hlk hret rfl rfl (hb hby d_jdk_33_method_22_31) ?_ (by decide) (by decide)
    exact ⟨b41, rfl, N45, K46, f48⟩
  · refine g_icmpNo X0 hx 6 (hb hby d_jdk_33_method_22_3) (own_ii_lt_f c40) rfl ?_
    refine g_iload_n X0 hx 7 (hb hby d_jdk_33_method_22_6) rfl rfl ?_
    refine own_getS X0 hx hZ hown (host := "") (Or.inl (hw _ (List.mem_of_getElem? (i := 25) rfl))) Via.refl e0 S_high 10 (hb hby d_jdk_33_method_22_7) rfl fun T49 X49 e49 => ?_
    by_cases c50 : (127 : Int32) < x
    · refine g_icmpYes X49 hx 23 (hb hby d_jdk_33_method_22_10) (own_ii_gt_t c50) (by decide) (by decide) ?_
      refine own_newO X49 hx hZ hown (hw _ (List.mem_of_getElem? (i := 80) rfl)) (hw _ (List.mem_of_getElem? (i := 81) rfl)) (hw _ (List.mem_of_getElem? (i := 23) rfl)) e49 26 (hb hby d_jdk_33_method_22_23) rfl (by decide) (by decide) fun T51 h51 b51 X51 e51 g51 E51 A51 D51 => ?_
      have g_b51 : n0 ≤ b51 := Nat.le_trans Z0 (Nat.le_of_eq g51.symm)
      have sz_b51 : h0.size ≤ b51 := Nat.le_trans (Keep.refl h0 []).1 (Nat.le_of_eq g51.symm)
      have K52 : Keep h0 h51 [] := (Keep.refl h0 []).ext E51
      have z53 : n0 ≤ h51.size := (Nat.le_trans Z0 E51.1)
      have f54 : Fld Z h51 b51 "java/lang/Integer" "value" "I" (.int (0 : Int32)) := D51 (Or.inr (hw _ (List.mem_of_getElem? (i := 89) rfl))) (ty := .int) (by decide)
      refine g_dup X51 hx 27 (hb hby d_jdk_33_method_22_26) rfl rfl ?_
      refine g_iload_n X51 hx 28 (hb hby d_jdk_33_method_22_27) rfl rfl ?_
      refine own_callI X51 hx hZ hown rfl (hw _ (List.mem_of_getElem? (i := 82) rfl)) (hw _ (List.mem_of_getElem? (i := 83) rfl)) (by decide) (rm_boxI l Z a0 hw [] b51 x h51 n0 z53 A51 f54 g_b51) (hw _ (List.mem_of_getElem? (i := 85) rfl)) (hw _ (List.mem_of_getElem? (i := 23) rfl)) e51 1 (by decide) (by decide) (by decide) (by decide) b51 [(.int x)] [(.ref b51)] rfl pd_1 rfl 31 rfl (by rw [hml]; rfl) rfl (hb hby d_jdk_33_method_22_28) rfl fun T55 v55 L55 X55 hQ55 => ?_
      obtain ⟨rfl, Nq55, Kq55, f55_0⟩ := hQ55
      have N55 := Fr.app N0 Nq55
      have K56 : Keep h0 T55.heap [] := K52.trans Kq55 (allS (Or.inr sz_b51) all0)
      have z57 : n0 ≤ T55.heap.size := (Nat.le_trans z53 Kq55.1)
      show own_Go p e below s _ _ _ (T55.setTop (mkF m 31 _ [(.ref b51)]))
      have f58 : Exa Z T55.heap b51 "java/lang/Integer" := (A51.keep Kq55)
      refine own_retA X55 hx hlk hret rfl rfl (hb hby d_jdk_33_method_22_31) ?_ (by decide) (by decide)
      exact ⟨b51, rfl, N55, K56, f58⟩
    · refine g_icmpNo X49 hx 13 (hb hby d_jdk_33_method_22_10) (own_ii_gt_f c50) rfl ?_
      refine own_getS X49 hx hZ hown (host := "") (Or.inl (hw _ (List.mem_of_getElem? (i := 27) rfl))) Via.refl e49 S_cache 16 (hb hby d_jdk_33_method_22_13) rfl fun T59 X59 e59 => ?_
      refine g_iload_n X59 hx 17 (hb hby d_jdk_33_method_22_16) rfl rfl ?_
      refine g_sipush X59 hx 20 (hb hby d_jdk_33_method_22_17) (128 : Int32) rfl rfl ?_
      refine g_iadd X59 hx 21 (hb hby d_jdk_33_method_22_20) rfl ?_
      have hj := own_in (own_bxs B_cache) c40 c50
      obtain ⟨rr, hr, Er, -⟩ := B_cache.2.2.2 _ hj
      refine own_aaload X59 hx hZ e59 rfl (⟨Kz.2.1 _ _ B_cache.1.1 nin0, B_cache.1.2⟩ : Arr Z h0 ca cl (.object "java/lang/Integer")) (v := .ref rr) hj hr 22 (hb hby d_jdk_33_method_22_21) rfl ?_
      refine own_retA X59 hx hlk hret rfl rfl (hb hby d_jdk_33_method_22_22) ?_ (by decide) (by decide)
      rw [e59]
      exact ⟨rr, rfl, N0, (Keep.refl h0 []), (Er.keep Kz)⟩
theorem d_jdk_35_method_24_0 : decode jdk_35_method_24_code 0 = .ok (.sipush 128, 3) := by decide +kernel
theorem d_jdk_35_method_24_3 : decode jdk_35_method_24_code 3 = .ok (.istore_n 2, 1) := by decide +kernel
theorem d_jdk_35_method_24_4 : decode jdk_35_method_24_code 4 = .ok (.lload_n 0, 1) := by decide +kernel
theorem d_jdk_35_method_24_5 : decode jdk_35_method_24_code 5 = .ok (.ldc2_w 230, 3) := by decide +kernel
theorem d_jdk_35_method_24_8 : decode jdk_35_method_24_code 8 = .ok (.lcmp, 1) := by decide +kernel
theorem d_jdk_35_method_24_9 : decode jdk_35_method_24_code 9 = .ok (.ifCond .lt 22, 3) := by decide +kernel
theorem d_jdk_35_method_24_31 : decode jdk_35_method_24_code 31 = .ok (.new 1, 3) := by decide +kernel
theorem d_jdk_35_method_24_34 : decode jdk_35_method_24_code 34 = .ok (.dup, 1) := by decide +kernel
theorem d_jdk_35_method_24_35 : decode jdk_35_method_24_code 35 = .ok (.lload_n 0, 1) := by decide +kernel
theorem d_jdk_35_method_24_36 : decode jdk_35_method_24_code 36 = .ok (.invokespecial 240, 3) := by decide +kernel
theorem pd_2 : parseMethodDescriptor "(J)V" = some ⟨[.long], none⟩ := by decide +kernel
theorem d_jdk_35_method_24_39 : decode jdk_35_method_24_code 39 = .ok (.areturn, 1) := by decide +kernel
theorem d_jdk_35_method_24_12 : decode jdk_35_method_24_code 12 = .ok (.lload_n 0, 1) := by decide +kernel
theorem d_jdk_35_method_24_13 : decode jdk_35_method_24_code 13 = .ok (.ldc2_w 232, 3) := by decide +kernel
theorem d_jdk_35_method_24_16 : decode jdk_35_method_24_code 16 = .ok (.lcmp, 1) := by decide +kernel
theorem d_jdk_35_method_24_17 : decode jdk_35_method_24_code 17 = .ok (.ifCond .gt 14, 3) := by decide +kernel
theorem d_jdk_35_method_24_20 : decode jdk_35_method_24_code 20 = .ok (.getstatic 234, 3) := by decide +kernel
theorem d_jdk_35_method_24_23 : decode jdk_35_method_24_code 23 = .ok (.lload_n 0, 1) := by decide +kernel
theorem d_jdk_35_method_24_24 : decode jdk_35_method_24_code 24 = .ok (.l2i, 1) := by decide +kernel
theorem d_jdk_35_method_24_25 : decode jdk_35_method_24_code 25 = .ok (.sipush 128, 3) := by decide +kernel
theorem d_jdk_35_method_24_28 : decode jdk_35_method_24_code 28 = .ok (.iadd, 1) := by decide +kernel
theorem d_jdk_35_method_24_29 : decode jdk_35_method_24_code 29 = .ok (.aaload, 1) := by decide +kernel
theorem d_jdk_35_method_24_30 : decode jdk_35_method_24_code 30 = .ok (.areturn, 1) := by decide +kernel
theorem ef_7 (m : MethodId) (x0 : Int64) : entryFrame m #[(.long x0)] 3 = mkF m 0 #[.val (.long x0), .second, .unset] [] := by first | (simp [entryFrame, mkF, argsToLocals, Value.category]; done) | rfl
def Q_voJ (Z : State) (x : Int64) (ca : Addr) (cl : Cell) (vf : Int32 → Value) (h0 : Heap) (n0 : Nat) (v : Option Value) (h : Heap) (L : List Loc) : Prop := ∃ r : Addr, v = some (.ref r) ∧ Fr n0 L ∧ Keep h0 h [] ∧ Exa Z h r "java/lang/Long"
set_option maxRecDepth 65536 in
set_option maxHeartbeats 40000000 in
theorem rm_voJ (l : Launch) (Z : State) (a0 : Array Value) (hw : ∀ d ∈ tables_1, d.before a0 Z = true) (ws : List Jvm.Cond) (x : Int64) (ca : Addr) (cl : Cell) (vf : Int32 → Value) (h0 : Heap) (n0 : Nat) (Z0 : n0 ≤ h0.size) (S_cache : Sta Z h0 "java/lang/Long$LongCache" "cache" "[Ljava/lang/Long;" (.ref ca)) (B_cache : Bxs Z ca cl "java/lang/Long" "J" 256 vf) (Kz : Keep Z.heap h0 []) :
    MetFree l (⟨"java/lang/Long", "valueOf", "(J)Ljava/lang/Long;"⟩ : MethodName) (head1 (Jvm.Cond.code (⟨"java/lang/Long", "valueOf", "(J)Ljava/lang/Long;"⟩ : MethodName) jdk_35_method_24_code 3 (some (.object "java/lang/Long")) :: ws) ({ frames := 3, cells := 1, slots := 1, locals := 39 } : Room)) (fun aA U => aA = #[(.long x)] ∧ Z.Warmed39 U.vm ∧ U.heap = h0) (fun _ _ _ _ _ => True) (fun _ U oO U' => ∃ vV LL, oO = .returned vV ∧ Q_voJ Z x ca cl vf h0 n0 vV U'.heap LL ∧ FrameEnd U oO U' LL ({ frames := 3, cells := 1, slots := 1, locals := 39 } : Room).cells ({ frames := 3, cells := 1, slots := 1, locals := 39 } : Room).slots) := by
  refine MetFree.of_bodySF (plainFor_of_name pn_3) hisR ?_
  intro p e s m args below meth c s₁ Bd hml0 hP hK
  obtain ⟨rfl, hZ, hh⟩ := hP
  have hx := Bd.exec
  have hby := Bd.bytes
  have hml : c.maxLocals = 3 := hml0
  have hown : s.vm.findClass "java/lang/Long" = some m.cls := findClass_of_methodNamed Bd.named
  have hnm := (name_of_methodNamed Bd.named Bd.method).1
  have X0 : Stand p l e ({ frames := 3, cells := 1, slots := 1, locals := 39 } : Room) s m #[(.long x)] below meth c s₁ [] 0 0 := Stand.of_body Bd
  have e0 : s₁.heap = h0 := by rw [← hh, Bd.state]; rfl
  have N0 := Fr.nil n0
  have hret := Bd.returns
  have hlk : meth.locks = false := Bd.notSynchronized
  refine own_start (ef_7 m x) ?_
  show own_Go p e below s (Q_voJ Z x ca cl vf h0 n0) ({ frames := 3, cells := 1, slots := 1, locals := 39 } : Room).cells ({ frames := 3, cells := 1, slots := 1, locals := 39 } : Room).slots (s₁.setTop (mkF m 0 #[.val (.long x), .second, .unset] []))
  refine g_sipush X0 hx 3 (hb hby d_jdk_35_method_24_0) (128 : Int32) rfl rfl ?_
  refine g_istore_n X0 hx 4 (hb hby d_jdk_35_method_24_3) (l' := #[.val (.long x), .second, .val (.int (128 : Int32))]) rfl rfl ?_
  refine g_lload_n X0 hx 5 (hb hby d_jdk_35_method_24_4) rfl rfl ?_
  refine g_ldc2_w X0 hx hown 8 (z := (-128 : Int64)) (mvT hZ (hw _ (List.mem_of_getElem? (i := 35) rfl))) (hb hby d_jdk_35_method_24_5) rfl ?_
  refine g_lcmp X0 hx 9 (hb hby d_jdk_35_method_24_8) rfl ?_
  by_cases c60 : x < (-128 : Int64)
  · refine g_ifYes X0 hx 31 (hb hby d_jdk_35_method_24_9) (own_ll_lt_t c60) (by decide) (by decide) ?_
    refine own_newO X0 hx hZ hown (hw _ (List.mem_of_getElem? (i := 37) rfl)) (hw _ (List.mem_of_getElem? (i := 38) rfl)) (hw _ (List.mem_of_getElem? (i := 33) rfl)) e0 34 (hb hby d_jdk_35_method_24_31) rfl (by decide) (by decide) fun T61 h61 b61 X61 e61 g61 E61 A61 D61 => ?_
    have g_b61 : n0 ≤ b61 := Nat.le_trans Z0 (Nat.le_of_eq g61.symm)
    have sz_b61 : h0.size ≤ b61 := Nat.le_trans (Keep.refl h0 []).1 (Nat.le_of_eq g61.symm)
    have K62 : Keep h0 h61 [] := (Keep.refl h0 []).ext E61
    have z63 : n0 ≤ h61.size := (Nat.le_trans Z0 E61.1)
    have f64 : Fld Z h61 b61 "java/lang/Long" "value" "J" (.long (0 : Int64)) := D61 (Or.inr (hw _ (List.mem_of_getElem? (i := 51) rfl))) (ty := .long) (by decide)
    refine g_dup X61 hx 35 (hb hby d_jdk_35_method_24_34) rfl rfl ?_
    refine g_lload_n X61 hx 36 (hb hby d_jdk_35_method_24_35) rfl rfl ?_
    refine own_callI X61 hx hZ hown rfl (hw _ (List.mem_of_getElem? (i := 39) rfl)) (hw _ (List.mem_of_getElem? (i := 40) rfl)) (by decide) (rm_boxJ l Z a0 hw [] b61 x h61 n0 z63 A61 f64 g_b61) (hw _ (List.mem_of_getElem? (i := 42) rfl)) (hw _ (List.mem_of_getElem? (i := 33) rfl)) e61 1 (by decide) (by decide) (by decide) (by decide) b61 [(.long x)] [(.ref b61)] rfl pd_2 rfl 39 rfl (by rw [hml]; rfl) rfl (hb hby d_jdk_35_method_24_36) rfl fun T65 v65 L65 X65 hQ65 => ?_
    obtain ⟨rfl, Nq65, Kq65, f65_0⟩ := hQ65
    have N65 := Fr.app N0 Nq65
    have K66 : Keep h0 T65.heap [] := K62.trans Kq65 (allS (Or.inr sz_b61) all0)
    have z67 : n0 ≤ T65.heap.size := (Nat.le_trans z63 Kq65.1)
    show own_Go p e below s _ _ _ (T65.setTop (mkF m 39 _ [(.ref b61)]))
    have f68 : Exa Z T65.heap b61 "java/lang/Long" := (A61.keep Kq65)
    refine own_retA X65 hx hlk hret rfl rfl (hb hby d_jdk_35_method_24_39) ?_ (by decide) (by decide)
    exact ⟨b61, rfl, N65, K66, f68⟩
  · refine g_ifNo X0 hx 12 (hb hby d_jdk_35_method_24_9) (own_ll_lt_f c60) rfl ?_
    refine g_lload_n X0 hx 13 (hb hby d_jdk_35_method_24_12) rfl rfl ?_
    refine g_ldc2_w X0 hx hown 16 (z := (127 : Int64)) (mvT hZ (hw _ (List.mem_of_getElem? (i := 36) rfl))) (hb hby d_jdk_35_method_24_13) rfl ?_
    refine g_lcmp X0 hx 17 (hb hby d_jdk_35_method_24_16) rfl ?_
    by_cases c69 : (127 : Int64) < x
    · refine g_ifYes X0 hx 31 (hb hby d_jdk_35_method_24_17) (own_ll_gt_t c69) (by decide) (by decide) ?_
      refine own_newO X0 hx hZ hown (hw _ (List.mem_of_getElem? (i := 37) rfl)) (hw _ (List.mem_of_getElem? (i := 38) rfl)) (hw _ (List.mem_of_getElem? (i := 33) rfl)) e0 34 (hb hby d_jdk_35_method_24_31) rfl (by decide) (by decide) fun T70 h70 b70 X70 e70 g70 E70 A70 D70 => ?_
      have g_b70 : n0 ≤ b70 := Nat.le_trans Z0 (Nat.le_of_eq g70.symm)
      have sz_b70 : h0.size ≤ b70 := Nat.le_trans (Keep.refl h0 []).1 (Nat.le_of_eq g70.symm)
      have K71 : Keep h0 h70 [] := (Keep.refl h0 []).ext E70
      have z72 : n0 ≤ h70.size := (Nat.le_trans Z0 E70.1)
      have f73 : Fld Z h70 b70 "java/lang/Long" "value" "J" (.long (0 : Int64)) := D70 (Or.inr (hw _ (List.mem_of_getElem? (i := 51) rfl))) (ty := .long) (by decide)
      refine g_dup X70 hx 35 (hb hby d_jdk_35_method_24_34) rfl rfl ?_
      refine g_lload_n X70 hx 36 (hb hby d_jdk_35_method_24_35) rfl rfl ?_
      refine own_callI X70 hx hZ hown rfl (hw _ (List.mem_of_getElem? (i := 39) rfl)) (hw _ (List.mem_of_getElem? (i := 40) rfl)) (by decide) (rm_boxJ l Z a0 hw [] b70 x h70 n0 z72 A70 f73 g_b70) (hw _ (List.mem_of_getElem? (i := 42) rfl)) (hw _ (List.mem_of_getElem? (i := 33) rfl)) e70 1 (by decide) (by decide) (by decide) (by decide) b70 [(.long x)] [(.ref b70)] rfl pd_2 rfl 39 rfl (by rw [hml]; rfl) rfl (hb hby d_jdk_35_method_24_36) rfl fun T74 v74 L74 X74 hQ74 => ?_
      obtain ⟨rfl, Nq74, Kq74, f74_0⟩ := hQ74
      have N74 := Fr.app N0 Nq74
      have K75 : Keep h0 T74.heap [] := K71.trans Kq74 (allS (Or.inr sz_b70) all0)
      have z76 : n0 ≤ T74.heap.size := (Nat.le_trans z72 Kq74.1)
      show own_Go p e below s _ _ _ (T74.setTop (mkF m 39 _ [(.ref b70)]))
      have f77 : Exa Z T74.heap b70 "java/lang/Long" := (A70.keep Kq74)
      refine own_retA X74 hx hlk hret rfl rfl (hb hby d_jdk_35_method_24_39) ?_ (by decide) (by decide)
      exact ⟨b70, rfl, N74, K75, f77⟩
    · refine g_ifNo X0 hx 20 (hb hby d_jdk_35_method_24_17) (own_ll_gt_f c69) rfl ?_
      refine own_getS X0 hx hZ hown (host := "") (Or.inl (hw _ (List.mem_of_getElem? (i := 90) rfl))) Via.refl e0 S_cache 23 (hb hby d_jdk_35_method_24_20) rfl fun T78 X78 e78 => ?_
      refine g_lload_n X78 hx 24 (hb hby d_jdk_35_method_24_23) rfl rfl ?_
      refine g_l2i X78 hx 25 (hb hby d_jdk_35_method_24_24) rfl ?_
      refine g_sipush X78 hx 28 (hb hby d_jdk_35_method_24_25) (128 : Int32) rfl rfl ?_
      refine g_iadd X78 hx 29 (hb hby d_jdk_35_method_24_28) rfl ?_
      have hj := own_inL (own_bxs B_cache) c60 c69
      obtain ⟨rr, hr, Er, -⟩ := B_cache.2.2.2 _ hj
      refine own_aaload X78 hx hZ e78 rfl (⟨Kz.2.1 _ _ B_cache.1.1 nin0, B_cache.1.2⟩ : Arr Z h0 ca cl (.object "java/lang/Long")) (v := .ref rr) hj hr 30 (hb hby d_jdk_35_method_24_29) rfl ?_
      refine own_retA X78 hx hlk hret rfl rfl (hb hby d_jdk_35_method_24_30) ?_ (by decide) (by decide)
      rw [e78]
      exact ⟨rr, rfl, N0, (Keep.refl h0 []), (Er.keep Kz)⟩
theorem d_jdk_22_method_1_0 : decode jdk_22_method_1_code 0 = .ok (.aload_n 0, 1) := by decide +kernel
theorem d_jdk_22_method_1_1 : decode jdk_22_method_1_code 1 = .ok (.invokespecial 1, 3) := by decide +kernel
theorem d_jdk_22_method_1_4 : decode jdk_22_method_1_code 4 = .ok (.return_, 1) := by decide +kernel
theorem pn_4 : plainName "java/util/AbstractCollection" = true := by first | (simp [plainName, overriddenIn]; done) | decide +kernel
def Q_acol (Z : State) (o : Addr) (h0 : Heap) (n0 : Nat) (v : Option Value) (h : Heap) (L : List Loc) : Prop := v = none ∧ Fr n0 L ∧ h = h0
set_option maxRecDepth 65536 in
set_option maxHeartbeats 40000000 in
theorem rm_acol (l : Launch) (Z : State) (a0 : Array Value) (hw : ∀ d ∈ tables_1, d.before a0 Z = true) (ws : List Jvm.Cond) (o : Addr) (h0 : Heap) (n0 : Nat) (Z0 : n0 ≤ h0.size) :
    MetFree l (⟨"java/util/AbstractCollection", "<init>", "()V"⟩ : MethodName) (head1 (Jvm.Cond.code (⟨"java/util/AbstractCollection", "<init>", "()V"⟩ : MethodName) jdk_22_method_1_code 1 none :: ws) ({ frames := 1, cells := 0, slots := 0, locals := 12 } : Room)) (fun aA U => aA = #[(.ref o)] ∧ Z.Warmed39 U.vm ∧ U.heap = h0) (fun _ _ _ _ _ => True) (fun _ U oO U' => ∃ vV LL, oO = .returned vV ∧ Q_acol Z o h0 n0 vV U'.heap LL ∧ FrameEnd U oO U' LL ({ frames := 1, cells := 0, slots := 0, locals := 12 } : Room).cells ({ frames := 1, cells := 0, slots := 0, locals := 12 } : Room).slots) := by
  refine MetFree.of_bodySF (plainFor_of_name pn_4) hisR ?_
  intro p e s m args below meth c s₁ Bd hml0 hP hK
  obtain ⟨rfl, hZ, hh⟩ := hP
  have hx := Bd.exec
  have hby := Bd.bytes
  have hml : c.maxLocals = 1 := hml0
  have hown : s.vm.findClass "java/util/AbstractCollection" = some m.cls := findClass_of_methodNamed Bd.named
  have hnm := (name_of_methodNamed Bd.named Bd.method).1
  have X0 : Stand p l e ({ frames := 1, cells := 0, slots := 0, locals := 12 } : Room) s m #[(.ref o)] below meth c s₁ [] 0 0 := Stand.of_body Bd
  have e0 : s₁.heap = h0 := by rw [← hh, Bd.state]; rfl
  have N0 := Fr.nil n0
  have hret := Bd.returns
  have hlk : meth.locks = false := Bd.notSynchronized
  refine own_start (ef_3 m o) ?_
  show own_Go p e below s (Q_acol Z o h0 n0) ({ frames := 1, cells := 0, slots := 0, locals := 12 } : Room).cells ({ frames := 1, cells := 0, slots := 0, locals := 12 } : Room).slots (s₁.setTop (mkF m 0 #[.val (.ref o)] []))
  refine g_aload_n X0 hx 1 (hb hby d_jdk_22_method_1_0) rfl rfl rfl ?_
  refine own_initO X0 hx hZ hown (hw _ (List.mem_of_getElem? (i := 71) rfl)) (hw _ (List.mem_of_getElem? (i := 8) rfl)) (hw _ (List.mem_of_getElem? (i := 9) rfl)) e0 4 (by rw [hml]; rfl) (hb hby d_jdk_22_method_1_1) rfl (by decide) 0 rfl (by decide) fun T79 X79 e79 => ?_
  refine own_retV X79 hx hlk hret (hb hby d_jdk_22_method_1_4) ?_ (by decide) (by decide)
  rw [e79]
  exact ⟨rfl, N0, rfl⟩
theorem d_jdk_39_method_1_0 : decode jdk_39_method_1_code 0 = .ok (.aload_n 0, 1) := by decide +kernel
theorem d_jdk_39_method_1_1 : decode jdk_39_method_1_code 1 = .ok (.invokespecial 1, 3) := by decide +kernel
theorem d_jdk_39_method_1_4 : decode jdk_39_method_1_code 4 = .ok (.aload_n 0, 1) := by decide +kernel
theorem d_jdk_39_method_1_5 : decode jdk_39_method_1_code 5 = .ok (.iconst 0, 1) := by decide +kernel
theorem d_jdk_39_method_1_6 : decode jdk_39_method_1_code 6 = .ok (.putfield 7, 3) := by decide +kernel
theorem d_jdk_39_method_1_9 : decode jdk_39_method_1_code 9 = .ok (.return_, 1) := by decide +kernel
theorem pn_5 : plainName "java/util/AbstractList" = true := by first | (simp [plainName, overriddenIn]; done) | decide +kernel
def Q_alist (Z : State) (o : Addr) (h0 : Heap) (n0 : Nat) (v : Option Value) (h : Heap) (L : List Loc) : Prop := v = none ∧ Fr n0 L ∧ Keep h0 h [o] ∧ Fld Z h o "java/util/AbstractList" "modCount" "I" (.int (0 : Int32)) ∧ Fld Z h o "java/util/ArrayList" "elementData" "[Ljava/lang/Object;" .null
set_option maxRecDepth 65536 in
set_option maxHeartbeats 40000000 in
theorem rm_alist (l : Launch) (Z : State) (a0 : Array Value) (hw : ∀ d ∈ tables_1, d.before a0 Z = true) (ws : List Jvm.Cond) (o : Addr) (h0 : Heap) (n0 : Nat) (Z0 : n0 ≤ h0.size) (E_o : Exa Z h0 o "java/util/ArrayList") (F_o_modCount : Fld Z h0 o "java/util/AbstractList" "modCount" "I" (.int (0 : Int32))) (F_o_elementData : Fld Z h0 o "java/util/ArrayList" "elementData" "[Ljava/lang/Object;" .null) (g_o : n0 ≤ o) :
    MetFree l (⟨"java/util/AbstractList", "<init>", "()V"⟩ : MethodName) (head1 (Jvm.Cond.code (⟨"java/util/AbstractList", "<init>", "()V"⟩ : MethodName) jdk_39_method_1_code 1 none :: ws) ({ frames := 2, cells := 0, slots := 0, locals := 24 } : Room)) (fun aA U => aA = #[(.ref o)] ∧ Z.Warmed39 U.vm ∧ U.heap = h0) (fun _ _ _ _ _ => True) (fun _ U oO U' => ∃ vV LL, oO = .returned vV ∧ Q_alist Z o h0 n0 vV U'.heap LL ∧ FrameEnd U oO U' LL ({ frames := 2, cells := 0, slots := 0, locals := 24 } : Room).cells ({ frames := 2, cells := 0, slots := 0, locals := 24 } : Room).slots) := by
  refine MetFree.of_bodySF (plainFor_of_name pn_5) hisR ?_
  intro p e s m args below meth c s₁ Bd hml0 hP hK
  obtain ⟨rfl, hZ, hh⟩ := hP
  have hx := Bd.exec
  have hby := Bd.bytes
  have hml : c.maxLocals = 1 := hml0
  have hown : s.vm.findClass "java/util/AbstractList" = some m.cls := findClass_of_methodNamed Bd.named
  have hnm := (name_of_methodNamed Bd.named Bd.method).1
  have X0 : Stand p l e ({ frames := 2, cells := 0, slots := 0, locals := 24 } : Room) s m #[(.ref o)] below meth c s₁ [] 0 0 := Stand.of_body Bd
  have e0 : s₁.heap = h0 := by rw [← hh, Bd.state]; rfl
  have N0 := Fr.nil n0
  have hret := Bd.returns
  have hlk : meth.locks = false := Bd.notSynchronized
  refine own_start (ef_3 m o) ?_
  show own_Go p e below s (Q_alist Z o h0 n0) ({ frames := 2, cells := 0, slots := 0, locals := 24 } : Room).cells ({ frames := 2, cells := 0, slots := 0, locals := 24 } : Room).slots (s₁.setTop (mkF m 0 #[.val (.ref o)] []))
  refine g_aload_n X0 hx 1 (hb hby d_jdk_39_method_1_0) rfl rfl rfl ?_
  refine own_callI X0 hx hZ hown rfl (hw _ (List.mem_of_getElem? (i := 65) rfl)) (hw _ (List.mem_of_getElem? (i := 66) rfl)) (by decide) (rm_acol l Z a0 hw [] o h0 n0 Z0 ) (hw _ (List.mem_of_getElem? (i := 70) rfl)) (hw _ (List.mem_of_getElem? (i := 69) rfl)) e0 0 (by decide) (by decide) (by decide) (by decide) o [] [] rfl pd_0 rfl 4 rfl (by rw [hml]; rfl) rfl (hb hby d_jdk_39_method_1_1) rfl fun T80 v80 L80 X80 hQ80 => ?_
  obtain ⟨rfl, Nq80, e80⟩ := hQ80
  have N80 := Fr.app N0 Nq80
  show own_Go p e below s _ _ _ (T80.setTop (mkF m 4 _ []))
  refine g_aload_n X80 hx 5 (hb hby d_jdk_39_method_1_4) rfl rfl rfl ?_
  refine g_iconst X80 hx 6 (hb hby d_jdk_39_method_1_5) (0 : Int32) rfl rfl ?_
  refine own_putF X80 hx hZ hown (host := "") (Or.inl (hw _ (List.mem_of_getElem? (i := 72) rfl))) Via.refl e80 F_o_modCount E_o (Or.inl (hw _ (List.mem_of_getElem? (i := 73) rfl))) (hw _ (List.mem_of_getElem? (i := 54) rfl)) (ty := .int) (by decide) rfl rfl 9 (hb hby d_jdk_39_method_1_6) rfl fun T81 h81 X81 e81 W81 => ?_
  have f81 : Fld Z h81 o "java/util/AbstractList" "modCount" "I" (.int (0 : Int32)) := Fld.same W81 F_o_modCount
  have N81 := Fr.snoc X81 N80 g_o
  have z82 : n0 ≤ h81.size := (Nat.le_trans Z0 (Keep.of_wr W81).1)
  have K83 : Keep h0 h81 [o] := (Keep.refl h0 [o]).wr W81 (Or.inl (List.mem_of_getElem? (i := 0) rfl))
  have f84 : Fld Z h81 o "java/util/ArrayList" "elementData" "[Ljava/lang/Object;" .null := (Fld.other W81 F_o_elementData (Or.inr (slot_ne (Or.inl (hw _ (List.mem_of_getElem? (i := 76) rfl))) (Or.inl (hw _ (List.mem_of_getElem? (i := 73) rfl))) (by decide) (t := (.array (.object "java/lang/Object"))) (t' := .int) (by decide) (by decide))))
  refine own_retV X81 hx hlk hret (hb hby d_jdk_39_method_1_9) ?_ (by decide) (by decide)
  rw [e81]
  exact ⟨rfl, N81, K83, f81, f84⟩
theorem d_jdk_38_method_2_0 : decode jdk_38_method_2_code 0 = .ok (.aload_n 0, 1) := by decide +kernel
theorem d_jdk_38_method_2_1 : decode jdk_38_method_2_code 1 = .ok (.invokespecial 1, 3) := by decide +kernel
theorem d_jdk_38_method_2_4 : decode jdk_38_method_2_code 4 = .ok (.aload_n 0, 1) := by decide +kernel
theorem d_jdk_38_method_2_5 : decode jdk_38_method_2_code 5 = .ok (.getstatic 39, 3) := by decide +kernel
theorem d_jdk_38_method_2_8 : decode jdk_38_method_2_code 8 = .ok (.putfield 9, 3) := by decide +kernel
theorem d_jdk_38_method_2_11 : decode jdk_38_method_2_code 11 = .ok (.return_, 1) := by decide +kernel
theorem pn_6 : plainName "java/util/ArrayList" = true := by first | (simp [plainName, overriddenIn]; done) | decide +kernel
def Q_arlist (Z : State) (o : Addr) (dd : Addr) (h0 : Heap) (n0 : Nat) (v : Option Value) (h : Heap) (L : List Loc) : Prop := v = none ∧ Fr n0 L ∧ Keep h0 h [o] ∧ Fld Z h o "java/util/AbstractList" "modCount" "I" (.int (0 : Int32)) ∧ Fld Z h o "java/util/ArrayList" "elementData" "[Ljava/lang/Object;" (.ref dd)
set_option maxRecDepth 65536 in
set_option maxHeartbeats 40000000 in
theorem rm_arlist (l : Launch) (Z : State) (a0 : Array Value) (hw : ∀ d ∈ tables_1, d.before a0 Z = true) (ws : List Jvm.Cond) (o : Addr) (dd : Addr) (h0 : Heap) (n0 : Nat) (Z0 : n0 ≤ h0.size) (E_o : Exa Z h0 o "java/util/ArrayList") (F_o_modCount : Fld Z h0 o "java/util/AbstractList" "modCount" "I" (.int (0 : Int32))) (F_o_elementData : Fld Z h0 o "java/util/ArrayList" "elementData" "[Ljava/lang/Object;" .null) (S_DEFAULTCAPACITY_EMPTY_ELEMENTDATA : Sta Z h0 "java/util/ArrayList" "DEFAULTCAPACITY_EMPTY_ELEMENTDATA" "[Ljava/lang/Object;" (.ref dd)) (g_o : n0 ≤ o) :
    MetFree l (⟨"java/util/ArrayList", "<init>", "()V"⟩ : MethodName) (head1 (Jvm.Cond.code (⟨"java/util/ArrayList", "<init>", "()V"⟩ : MethodName) jdk_38_method_2_code 1 none :: ws) ({ frames := 3, cells := 0, slots := 0, locals := 36 } : Room)) (fun aA U => aA = #[(.ref o)] ∧ Z.Warmed39 U.vm ∧ U.heap = h0) (fun _ _ _ _ _ => True) (fun _ U oO U' => ∃ vV LL, oO = .returned vV ∧ Q_arlist Z o dd h0 n0 vV U'.heap LL ∧ FrameEnd U oO U' LL ({ frames := 3, cells := 0, slots := 0, locals := 36 } : Room).cells ({ frames := 3, cells := 0, slots := 0, locals := 36 } : Room).slots) := by
  refine MetFree.of_bodySF (plainFor_of_name pn_6) hisR ?_
  intro p e s m args below meth c s₁ Bd hml0 hP hK
  obtain ⟨rfl, hZ, hh⟩ := hP
  have hx := Bd.exec
  have hby := Bd.bytes
  have hml : c.maxLocals = 1 := hml0
  have hown : s.vm.findClass "java/util/ArrayList" = some m.cls := findClass_of_methodNamed Bd.named
  have hnm := (name_of_methodNamed Bd.named Bd.method).1
  have X0 : Stand p l e ({ frames := 3, cells := 0, slots := 0, locals := 36 } : Room) s m #[(.ref o)] below meth c s₁ [] 0 0 := Stand.of_body Bd
  have e0 : s₁.heap = h0 := by rw [← hh, Bd.state]; rfl
  have N0 := Fr.nil n0
  have hret := Bd.returns
  have hlk : meth.locks = false := Bd.notSynchronized
  refine own_start (ef_3 m o) ?_
  show own_Go p e below s (Q_arlist Z o dd h0 n0) ({ frames := 3, cells := 0, slots := 0, locals := 36 } : Room).cells ({ frames := 3, cells := 0, slots := 0, locals := 36 } : Room).slots (s₁.setTop (mkF m 0 #[.val (.ref o)] []))
  refine g_aload_n X0 hx 1 (hb hby d_jdk_38_method_2_0) rfl rfl rfl ?_
  refine own_callI X0 hx hZ hown rfl (hw _ (List.mem_of_getElem? (i := 59) rfl)) (hw _ (List.mem_of_getElem? (i := 60) rfl)) (by decide) (rm_alist l Z a0 hw [] o h0 n0 Z0 E_o F_o_modCount F_o_elementData g_o) (hw _ (List.mem_of_getElem? (i := 64) rfl)) (hw _ (List.mem_of_getElem? (i := 63) rfl)) e0 0 (by decide) (by decide) (by decide) (by decide) o [] [] rfl pd_0 rfl 4 rfl (by rw [hml]; rfl) rfl (hb hby d_jdk_38_method_2_1) rfl fun T85 v85 L85 X85 hQ85 => ?_
  obtain ⟨rfl, Nq85, Kq85, f85_0, f85_1⟩ := hQ85
  have N85 := Fr.app N0 Nq85
  have K86 : Keep h0 T85.heap [o] := (Keep.refl h0 [o]).trans Kq85 (allS (Or.inl (List.mem_of_getElem? (i := 0) rfl)) all0)
  have z87 : n0 ≤ T85.heap.size := (Nat.le_trans Z0 Kq85.1)
  show own_Go p e below s _ _ _ (T85.setTop (mkF m 4 _ []))
  refine g_aload_n X85 hx 5 (hb hby d_jdk_38_method_2_4) rfl rfl rfl ?_
  have f88 : Sta Z T85.heap "java/util/ArrayList" "DEFAULTCAPACITY_EMPTY_ELEMENTDATA" "[Ljava/lang/Object;" (.ref dd) := (own_Sta_keep Kq85 S_DEFAULTCAPACITY_EMPTY_ELEMENTDATA (allS (own_plainE E_o) all0))
  refine own_getS X85 hx hZ hown (host := "") (Or.inl (hw _ (List.mem_of_getElem? (i := 74) rfl))) Via.refl rfl f88 8 (hb hby d_jdk_38_method_2_5) rfl fun T89 X89 e89 => ?_
  have f90 : Exa Z T85.heap o "java/util/ArrayList" := (E_o.keep Kq85)
  refine own_putF X89 hx hZ hown (host := "") (Or.inl (hw _ (List.mem_of_getElem? (i := 75) rfl))) Via.refl e89 f85_1 f90 (Or.inl (hw _ (List.mem_of_getElem? (i := 76) rfl))) (hw _ (List.mem_of_getElem? (i := 54) rfl)) (ty := (.array (.object "java/lang/Object"))) (by decide) rfl rfl 11 (hb hby d_jdk_38_method_2_8) rfl fun T91 h91 X91 e91 W91 => ?_
  have f91 : Fld Z h91 o "java/util/ArrayList" "elementData" "[Ljava/lang/Object;" (.ref dd) := Fld.same W91 f85_1
  have N91 := Fr.snoc X91 N85 g_o
  have z92 : n0 ≤ h91.size := (Nat.le_trans z87 (Keep.of_wr W91).1)
  have K93 : Keep h0 h91 [o] := K86.wr W91 (Or.inl (List.mem_of_getElem? (i := 0) rfl))
  have f94 : Fld Z h91 o "java/util/AbstractList" "modCount" "I" (.int (0 : Int32)) := (Fld.other W91 f85_0 (Or.inr (slot_ne (Or.inl (hw _ (List.mem_of_getElem? (i := 73) rfl))) (Or.inl (hw _ (List.mem_of_getElem? (i := 76) rfl))) (by decide) (t := .int) (t' := (.array (.object "java/lang/Object"))) (by decide) (by decide))))
  refine own_retV X91 hx hlk hret (hb hby d_jdk_38_method_2_11) ?_ (by decide) (by decide)
  rw [e91]
  exact ⟨rfl, N91, K93, f94, f91⟩
theorem pd_3 : parseMethodDescriptor "(II)V" = some ⟨[.int, .int], none⟩ := by decide +kernel
theorem pd_4 : parseMethodDescriptor "(Ljava/lang/Object;)Z" = some ⟨[(.object "java/lang/Object")], some .boolean⟩ := by decide +kernel
theorem pd_5 : parseMethodDescriptor "(I)Ljava/lang/Integer;" = some ⟨[.int], some (.object "java/lang/Integer")⟩ := by decide +kernel
theorem pd_6 : parseMethodDescriptor "(J)Ljava/lang/Long;" = some ⟨[.long], some (.object "java/lang/Long")⟩ := by decide +kernel
theorem ef_8 (m : MethodId) (x0 : Int32) (x1 : Int32) (x2 : Int32) (x3 : Int32) (x4 : Int32) : entryFrame m #[(.int x0), (.int x1), (.int x2), (.int x3), (.int x4)] maxLocals = mkF m 0 #[.val (.int x0), .val (.int x1), .val (.int x2), .val (.int x3), .val (.int x4), .unset, .unset, .unset, .unset, .unset, .unset, .unset, .unset, .unset] [] := by first | (simp [entryFrame, mkF, argsToLocals, Value.category, maxLocals]; done) | rfl
theorem pn_7 : plainName "com/example/statement_mapper/statementmapper/service/RowBoundsEqualsPinLaw" = true := by first | (simp [plainName, overriddenIn]; done) | decide +kernel
def Q_law (Z : State) (p0 p1 p2 p3 p4 : Int32) (caI caJ dd : Addr) (clI clJ : Cell) (vfI vfJ : Int32 → Value) (h0 : Heap) (n0 : Nat) (v : Option Value) (h : Heap) (L : List Loc) : Prop := v = some (.int 1) ∧ Fr n0 L
set_option maxRecDepth 65536 in
set_option maxHeartbeats 40000000 in
theorem rm_law (l : Launch) (Z : State) (a0 : Array Value) (hw : ∀ d ∈ tables_1, d.before a0 Z = true) (ws : List Jvm.Cond) (p0 p1 p2 p3 p4 : Int32) (caI caJ dd : Addr) (clI clJ : Cell) (vfI vfJ : Int32 → Value) (h0 : Heap) (n0 : Nat) (Z0 : n0 ≤ h0.size) (S_high : Sta Z h0 "java/lang/Integer$IntegerCache" "high" "I" (.int (127 : Int32))) (S_cI : Sta Z h0 "java/lang/Integer$IntegerCache" "cache" "[Ljava/lang/Integer;" (.ref caI)) (S_cJ : Sta Z h0 "java/lang/Long$LongCache" "cache" "[Ljava/lang/Long;" (.ref caJ)) (S_dd : Sta Z h0 "java/util/ArrayList" "DEFAULTCAPACITY_EMPTY_ELEMENTDATA" "[Ljava/lang/Object;" (.ref dd)) (B_I : Bxs Z caI clI "java/lang/Integer" "I" 256 vfI) (B_J : Bxs Z caJ clJ "java/lang/Long" "J" 256 vfJ) (Kz : Keep Z.heap h0 []) :
    MetFree l x (head1 (Jvm.Cond.code x code maxLocals ret :: ws) room_1) (fun aA U => aA = #[(.int p0), (.int p1), (.int p2), (.int p3), (.int p4)] ∧ Z.Warmed39 U.vm ∧ U.heap = h0) (fun _ _ _ _ _ => True) (fun _ U oO U' => ∃ vV LL, oO = .returned vV ∧ Q_law Z p0 p1 p2 p3 p4 caI caJ dd clI clJ vfI vfJ h0 n0 vV U'.heap LL ∧ FrameEnd U oO U' LL room_1.cells room_1.slots) := by
  refine MetFree.of_bodySF (plainFor_of_name pn_7) hisR ?_
  intro p e s m args below meth c s₁ Bd hml0 hP hK
  obtain ⟨rfl, hZ, hh⟩ := hP
  have hx := Bd.exec
  have hby := Bd.bytes
  have hml : c.maxLocals = 14 := hml0
  have hown : s.vm.findClass "com/example/statement_mapper/statementmapper/service/RowBoundsEqualsPinLaw" = some m.cls := findClass_of_methodNamed Bd.named
  have hnm := (name_of_methodNamed Bd.named Bd.method).1
  have X0 : Stand p l e room_1 s m #[(.int p0), (.int p1), (.int p2), (.int p3), (.int p4)] below meth c s₁ [] 0 0 := Stand.of_body Bd
  have e0 : s₁.heap = h0 := by rw [← hh, Bd.state]; rfl
  have N0 := Fr.nil n0
  have hret := Bd.returns
  have hlk : meth.locks = false := Bd.notSynchronized
  refine own_start (ef_8 m p0 p1 p2 p3 p4) ?_
  show own_Go p e below s (Q_law Z p0 p1 p2 p3 p4 caI caJ dd clI clJ vfI vfJ h0 n0) room_1.cells room_1.slots (s₁.setTop (mkF m 0 #[.val (.int p0), .val (.int p1), .val (.int p2), .val (.int p3), .val (.int p4), .unset, .unset, .unset, .unset, .unset, .unset, .unset, .unset, .unset] []))
  refine g_iload_n X0 hx 1 (hb hby at_0) rfl rfl ?_
  refine g_ldc X0 hx hown 3 (z := (2147483647 : Int32)) (mvT hZ (hw _ (List.mem_of_getElem? (i := 0) rfl))) (hb hby at_1) rfl ?_
  refine g_iand X0 hx 4 (hb hby at_3) rfl ?_
  refine g_istore X0 hx 6 (hb hby at_4) (l' := #[.val (.int p0), .val (.int p1), .val (.int p2), .val (.int p3), .val (.int p4), .val (.int (p0 &&& (2147483647 : Int32))), .unset, .unset, .unset, .unset, .unset, .unset, .unset, .unset]) rfl rfl ?_
  refine g_iload_n X0 hx 7 (hb hby at_6) rfl rfl ?_
  refine g_ldc X0 hx hown 9 (z := (2147483647 : Int32)) (mvT hZ (hw _ (List.mem_of_getElem? (i := 0) rfl))) (hb hby at_7) rfl ?_
  refine g_iand X0 hx 10 (hb hby at_9) rfl ?_
  refine g_istore X0 hx 12 (hb hby at_10) (l' := #[.val (.int p0), .val (.int p1), .val (.int p2), .val (.int p3), .val (.int p4), .val (.int (p0 &&& (2147483647 : Int32))), .val (.int (p1 &&& (2147483647 : Int32))), .unset, .unset, .unset, .unset, .unset, .unset, .unset]) rfl rfl ?_
  refine g_iload X0 hx 14 (hb hby at_12) rfl rfl ?_
  refine g_iconst X0 hx 15 (hb hby at_14) (1 : Int32) rfl rfl ?_
  refine g_iand X0 hx 16 (hb hby at_15) rfl ?_
  by_cases c95 : (p4 &&& (1 : Int32)) = (0 : Int32)
  · refine g_ifYes X0 hx 24 (hb hby at_16) (own_i0_eq_t c95) (by decide) (by decide) ?_
    refine g_iload_n X0 hx 25 (hb hby at_24) rfl rfl ?_
    refine g_ldc X0 hx hown 27 (z := (2147483647 : Int32)) (mvT hZ (hw _ (List.mem_of_getElem? (i := 0) rfl))) (hb hby at_25) rfl ?_
    refine g_iand X0 hx 28 (hb hby at_27) rfl ?_
    refine g_istore X0 hx 30 (hb hby at_28) (l' := #[.val (.int p0), .val (.int p1), .val (.int p2), .val (.int p3), .val (.int p4), .val (.int (p0 &&& (2147483647 : Int32))), .val (.int (p1 &&& (2147483647 : Int32))), .val (.int (p2 &&& (2147483647 : Int32))), .unset, .unset, .unset, .unset, .unset, .unset]) rfl rfl ?_
    refine g_iload X0 hx 32 (hb hby at_30) rfl rfl ?_
    refine g_iconst X0 hx 33 (hb hby at_32) (2 : Int32) rfl rfl ?_
    refine g_iand X0 hx 34 (hb hby at_33) rfl ?_
    by_cases c96 : (p4 &&& (2 : Int32)) = (0 : Int32)
    · refine g_ifYes X0 hx 42 (hb hby at_34) (own_i0_eq_t c96) (by decide) (by decide) ?_
      refine g_iload_n X0 hx 43 (hb hby at_42) rfl rfl ?_
      refine g_ldc X0 hx hown 45 (z := (2147483647 : Int32)) (mvT hZ (hw _ (List.mem_of_getElem? (i := 0) rfl))) (hb hby at_43) rfl ?_
      refine g_iand X0 hx 46 (hb hby at_45) rfl ?_
      refine g_istore X0 hx 48 (hb hby at_46) (l' := #[.val (.int p0), .val (.int p1), .val (.int p2), .val (.int p3), .val (.int p4), .val (.int (p0 &&& (2147483647 : Int32))), .val (.int (p1 &&& (2147483647 : Int32))), .val (.int (p2 &&& (2147483647 : Int32))), .val (.int (p3 &&& (2147483647 : Int32))), .unset, .unset, .unset, .unset, .unset]) rfl rfl ?_
      refine own_newO X0 hx hZ hown (hw _ (List.mem_of_getElem? (i := 1) rfl)) (hw _ (List.mem_of_getElem? (i := 2) rfl)) (hw _ (List.mem_of_getElem? (i := 3) rfl)) e0 51 (hb hby at_48) rfl (by decide) (by decide) fun T97 h97 b97 X97 e97 g97 E97 A97 D97 => ?_
      have g_b97 : n0 ≤ b97 := Nat.le_trans Z0 (Nat.le_of_eq g97.symm)
      have sz_b97 : h0.size ≤ b97 := Nat.le_trans (Keep.refl h0 []).1 (Nat.le_of_eq g97.symm)
      have K98 : Keep h0 h97 [] := (Keep.refl h0 []).ext E97
      have z99 : n0 ≤ h97.size := (Nat.le_trans Z0 E97.1)
      have f100 : Fld Z h97 b97 "com/example/statement_mapper/statementmapper/service/RowBounds" "offset" "I" (.int (0 : Int32)) := D97 (Or.inr (hw _ (List.mem_of_getElem? (i := 11) rfl))) (ty := .int) (by decide)
      have f101 : Fld Z h97 b97 "com/example/statement_mapper/statementmapper/service/RowBounds" "limit" "I" (.int (0 : Int32)) := D97 (Or.inr (hw _ (List.mem_of_getElem? (i := 13) rfl))) (ty := .int) (by decide)
      refine g_dup X97 hx 52 (hb hby at_51) rfl rfl ?_
      refine g_iload X97 hx 54 (hb hby at_52) rfl rfl ?_
      refine g_iload X97 hx 56 (hb hby at_54) rfl rfl ?_
      refine own_callI X97 hx hZ hown rfl (hw _ (List.mem_of_getElem? (i := 4) rfl)) (hw _ (List.mem_of_getElem? (i := 5) rfl)) (by decide) (rm_init l Z a0 hw [] b97 (p0 &&& (2147483647 : Int32)) (p1 &&& (2147483647 : Int32)) h97 n0 z99 A97 f100 f101 g_b97 (own_pos _) (own_pos _)) (hw _ (List.mem_of_getElem? (i := 6) rfl)) (hw _ (List.mem_of_getElem? (i := 3) rfl)) e97 1 (by decide) (by decide) (by decide) (by decide) b97 [(.int (p0 &&& (2147483647 : Int32))), (.int (p1 &&& (2147483647 : Int32)))] [(.ref b97)] rfl pd_3 rfl 59 rfl (by rw [hml]; rfl) rfl (hb hby at_56) rfl fun T102 v102 L102 X102 hQ102 => ?_
      obtain ⟨rfl, Nq102, Kq102, f102_0, f102_1⟩ := hQ102
      have N102 := Fr.app N0 Nq102
      have K103 : Keep h0 T102.heap [] := K98.trans Kq102 (allS (Or.inr sz_b97) all0)
      have z104 : n0 ≤ T102.heap.size := (Nat.le_trans z99 Kq102.1)
      show own_Go p e below s _ _ _ (T102.setTop (mkF m 59 _ [(.ref b97)]))
      refine g_astore X102 hx 61 (hb hby at_59) rfl (l' := #[.val (.int p0), .val (.int p1), .val (.int p2), .val (.int p3), .val (.int p4), .val (.int (p0 &&& (2147483647 : Int32))), .val (.int (p1 &&& (2147483647 : Int32))), .val (.int (p2 &&& (2147483647 : Int32))), .val (.int (p3 &&& (2147483647 : Int32))), .val (.ref b97), .unset, .unset, .unset, .unset]) rfl rfl ?_
      refine own_newO X102 hx hZ hown (hw _ (List.mem_of_getElem? (i := 1) rfl)) (hw _ (List.mem_of_getElem? (i := 2) rfl)) (hw _ (List.mem_of_getElem? (i := 3) rfl)) rfl 64 (hb hby at_61) rfl (by decide) (by decide) fun T105 h105 b105 X105 e105 g105 E105 A105 D105 => ?_
      have f106 : Exa Z T102.heap b97 "com/example/statement_mapper/statementmapper/service/RowBounds" := (A97.keep Kq102)
      have ne107 : b97 ≠ b105 := Nat.ne_of_lt (Nat.lt_of_lt_of_le f106.lt (Nat.le_of_eq g105.symm))
      have g_b105 : n0 ≤ b105 := Nat.le_trans z104 (Nat.le_of_eq g105.symm)
      have sz_b105 : h0.size ≤ b105 := Nat.le_trans K103.1 (Nat.le_of_eq g105.symm)
      have K108 : Keep h0 h105 [] := K103.ext E105
      have z109 : n0 ≤ h105.size := (Nat.le_trans z104 E105.1)
      have f110 : Fld Z h105 b105 "com/example/statement_mapper/statementmapper/service/RowBounds" "offset" "I" (.int (0 : Int32)) := D105 (Or.inr (hw _ (List.mem_of_getElem? (i := 11) rfl))) (ty := .int) (by decide)
      have f111 : Fld Z h105 b105 "com/example/statement_mapper/statementmapper/service/RowBounds" "limit" "I" (.int (0 : Int32)) := D105 (Or.inr (hw _ (List.mem_of_getElem? (i := 13) rfl))) (ty := .int) (by decide)
      refine g_dup X105 hx 65 (hb hby at_64) rfl rfl ?_
      refine g_iload X105 hx 67 (hb hby at_65) rfl rfl ?_
      refine g_iload X105 hx 69 (hb hby at_67) rfl rfl ?_
      refine own_callI X105 hx hZ hown rfl (hw _ (List.mem_of_getElem? (i := 4) rfl)) (hw _ (List.mem_of_getElem? (i := 5) rfl)) (by decide) (rm_init l Z a0 hw [] b105 (p2 &&& (2147483647 : Int32)) (p3 &&& (2147483647 : Int32)) h105 n0 z109 A105 f110 f111 g_b105 (own_pos _) (own_pos _)) (hw _ (List.mem_of_getElem? (i := 6) rfl)) (hw _ (List.mem_of_getElem? (i := 3) rfl)) e105 1 (by decide) (by decide) (by decide) (by decide) b105 [(.int (p2 &&& (2147483647 : Int32))), (.int (p3 &&& (2147483647 : Int32)))] [(.ref b105)] rfl pd_3 rfl 72 rfl (by rw [hml]; rfl) rfl (hb hby at_69) rfl fun T112 v112 L112 X112 hQ112 => ?_
      obtain ⟨rfl, Nq112, Kq112, f112_0, f112_1⟩ := hQ112
      have N112 := Fr.app N102 Nq112
      have K113 : Keep h0 T112.heap [] := K108.trans Kq112 (allS (Or.inr sz_b105) all0)
      have z114 : n0 ≤ T112.heap.size := (Nat.le_trans z109 Kq112.1)
      show own_Go p e below s _ _ _ (T112.setTop (mkF m 72 _ [(.ref b105)]))
      refine g_astore X112 hx 74 (hb hby at_72) rfl (l' := #[.val (.int p0), .val (.int p1), .val (.int p2), .val (.int p3), .val (.int p4), .val (.int (p0 &&& (2147483647 : Int32))), .val (.int (p1 &&& (2147483647 : Int32))), .val (.int (p2 &&& (2147483647 : Int32))), .val (.int (p3 &&& (2147483647 : Int32))), .val (.ref b97), .val (.ref b105), .unset, .unset, .unset]) rfl rfl ?_
      refine g_iload X112 hx 76 (hb hby at_74) rfl rfl ?_
      refine g_iload X112 hx 78 (hb hby at_76) rfl rfl ?_
      by_cases c115 : (p0 &&& (2147483647 : Int32)) = (p2 &&& (2147483647 : Int32))
      · refine g_icmpNo X112 hx 81 (hb hby at_78) (own_ii_ne_f c115) rfl ?_
        refine g_iload X112 hx 83 (hb hby at_81) rfl rfl ?_
        refine g_iload X112 hx 85 (hb hby at_83) rfl rfl ?_
        by_cases c116 : (p1 &&& (2147483647 : Int32)) = (p3 &&& (2147483647 : Int32))
        · refine g_icmpNo X112 hx 88 (hb hby at_85) (own_ii_ne_f c116) rfl ?_
          refine g_iconst X112 hx 89 (hb hby at_88) (1 : Int32) rfl rfl ?_
          refine g_goto X112 hx 93 (hb hby at_89) (by decide) (by decide) ?_
          refine g_istore X112 hx 95 (hb hby at_93) (l' := #[.val (.int p0), .val (.int p1), .val (.int p2), .val (.int p3), .val (.int p4), .val (.int (p0 &&& (2147483647 : Int32))), .val (.int (p1 &&& (2147483647 : Int32))), .val (.int (p2 &&& (2147483647 : Int32))), .val (.int (p3 &&& (2147483647 : Int32))), .val (.ref b97), .val (.ref b105), .val (.int (1 : Int32)), .unset, .unset]) rfl rfl ?_
          refine g_aload X112 hx 97 (hb hby at_95) rfl rfl rfl ?_
          refine g_aload X112 hx 99 (hb hby at_97) rfl rfl rfl ?_
          have f118 : Exa Z T112.heap b105 "com/example/statement_mapper/statementmapper/service/RowBounds" := (A105.keep Kq112)
          have f119 : Fld Z T112.heap b97 "com/example/statement_mapper/statementmapper/service/RowBounds" "offset" "I" (.int (p0 &&& (2147483647 : Int32))) := ((Fld.ext E105 f102_0).keep Kq112 (ninS ne107 nin0))
          have f120 : Fld Z T112.heap b97 "com/example/statement_mapper/statementmapper/service/RowBounds" "limit" "I" (.int (p1 &&& (2147483647 : Int32))) := ((Fld.ext E105 f102_1).keep Kq112 (ninS ne107 nin0))
          have f121 : Exa Z T112.heap b97 "com/example/statement_mapper/statementmapper/service/RowBounds" := ((Exa.ext E105 f106).keep Kq112)
          refine own_callV X112 hx hZ hown (hw _ (List.mem_of_getElem? (i := 14) rfl)) (hw _ (List.mem_of_getElem? (i := 15) rfl)) (own_nf hZ (hw _ (List.mem_of_getElem? (i := 17) rfl))) (hw _ (List.mem_of_getElem? (i := 17) rfl)) (hw _ (List.mem_of_getElem? (i := 16) rfl)) (by decide) (rm_eq l Z a0 hw [] b97 b105 (p0 &&& (2147483647 : Int32)) (p1 &&& (2147483647 : Int32)) (p2 &&& (2147483647 : Int32)) (p3 &&& (2147483647 : Int32)) T112.heap n0 z114 f118 f119 f120 f112_0 f112_1) (hw _ (List.mem_of_getElem? (i := 18) rfl)) (hw _ (List.mem_of_getElem? (i := 3) rfl)) rfl 0 (by decide) (by decide) (by decide) (by decide) f121 [(.ref b105)] [] rfl pd_4 rfl 102 rfl (by rw [hml]; rfl) rfl (hb hby at_99) rfl fun T117 v117 L117 X117 hQ117 => ?_
          obtain ⟨rfl, Nq117, e117⟩ := hQ117
          have N117 := Fr.app N112 Nq117
          show own_Go p e below s _ _ _ (T117.setTop (mkF m 102 _ [(.int (own_eq (p0 &&& (2147483647 : Int32)) (p1 &&& (2147483647 : Int32)) (p2 &&& (2147483647 : Int32)) (p3 &&& (2147483647 : Int32))))]))
          refine g_iload X117 hx 104 (hb hby at_102) rfl rfl ?_
          have c122 : (own_eq (p0 &&& (2147483647 : Int32)) (p1 &&& (2147483647 : Int32)) (p2 &&& (2147483647 : Int32)) (p3 &&& (2147483647 : Int32))) = (1 : Int32) := by simp [own_eq, c95, c96, c115, c116]
          refine g_icmpYes X117 hx 109 (hb hby at_104) (own_ii_eq_t c122) (by decide) (by decide) ?_
          refine g_aload X117 hx 111 (hb hby at_109) rfl rfl rfl ?_
          refine g_aload X117 hx 113 (hb hby at_111) rfl rfl rfl ?_
          refine own_callV X117 hx hZ hown (hw _ (List.mem_of_getElem? (i := 14) rfl)) (hw _ (List.mem_of_getElem? (i := 15) rfl)) (own_nf hZ (hw _ (List.mem_of_getElem? (i := 17) rfl))) (hw _ (List.mem_of_getElem? (i := 17) rfl)) (hw _ (List.mem_of_getElem? (i := 16) rfl)) (by decide) (rm_eq l Z a0 hw [] b105 b97 (p2 &&& (2147483647 : Int32)) (p3 &&& (2147483647 : Int32)) (p0 &&& (2147483647 : Int32)) (p1 &&& (2147483647 : Int32)) T112.heap n0 z114 f121 f112_0 f112_1 f119 f120) (hw _ (List.mem_of_getElem? (i := 18) rfl)) (hw _ (List.mem_of_getElem? (i := 3) rfl)) e117 0 (by decide) (by decide) (by decide) (by decide) f118 [(.ref b97)] [] rfl pd_4 rfl 116 rfl (by rw [hml]; rfl) rfl (hb hby at_113) rfl fun T123 v123 L123 X123 hQ123 => ?_
          obtain ⟨rfl, Nq123, e123⟩ := hQ123
          have N123 := Fr.app N117 Nq123
          show own_Go p e below s _ _ _ (T123.setTop (mkF m 116 _ [(.int (own_eq (p2 &&& (2147483647 : Int32)) (p3 &&& (2147483647 : Int32)) (p0 &&& (2147483647 : Int32)) (p1 &&& (2147483647 : Int32))))]))
          refine g_iload X123 hx 118 (hb hby at_116) rfl rfl ?_
          have c124 : (own_eq (p2 &&& (2147483647 : Int32)) (p3 &&& (2147483647 : Int32)) (p0 &&& (2147483647 : Int32)) (p1 &&& (2147483647 : Int32))) = (1 : Int32) := by simp [own_eq, c95, c96, c115, c116, c122]
          refine g_icmpYes X123 hx 123 (hb hby at_118) (own_ii_eq_t c124) (by decide) (by decide) ?_
          refine g_aload X123 hx 125 (hb hby at_123) rfl rfl rfl ?_
          refine g_aload X123 hx 127 (hb hby at_125) rfl rfl rfl ?_
          refine own_callV X123 hx hZ hown (hw _ (List.mem_of_getElem? (i := 14) rfl)) (hw _ (List.mem_of_getElem? (i := 15) rfl)) (own_nf hZ (hw _ (List.mem_of_getElem? (i := 17) rfl))) (hw _ (List.mem_of_getElem? (i := 17) rfl)) (hw _ (List.mem_of_getElem? (i := 16) rfl)) (by decide) (rm_eqself l Z a0 hw [] b97 (p0 &&& (2147483647 : Int32)) (p1 &&& (2147483647 : Int32)) T112.heap n0 z114 f121 f119 f120) (hw _ (List.mem_of_getElem? (i := 18) rfl)) (hw _ (List.mem_of_getElem? (i := 3) rfl)) e123 0 (by decide) (by decide) (by decide) (by decide) f121 [(.ref b97)] [] rfl pd_4 rfl 130 rfl (by rw [hml]; rfl) rfl (hb hby at_127) rfl fun T125 v125 L125 X125 hQ125 => ?_
          obtain ⟨rfl, Nq125, e125⟩ := hQ125
          have N125 := Fr.app N123 Nq125
          show own_Go p e below s _ _ _ (T125.setTop (mkF m 130 _ [(.int (1 : Int32))]))
          refine g_ifYes X125 hx 135 (hb hby at_130) (own_i0_ne_t (by decide)) (by decide) (by decide) ?_
          refine g_iload X125 hx 137 (hb hby at_135) rfl rfl ?_
          refine g_iconst X125 hx 138 (hb hby at_137) (2 : Int32) rfl rfl ?_
          refine g_iushr X125 hx 139 (hb hby at_138) rfl ?_
          refine g_iconst X125 hx 140 (hb hby at_139) (3 : Int32) rfl rfl ?_
          refine g_iand X125 hx 141 (hb hby at_140) rfl ?_
          refine g_istore X125 hx 143 (hb hby at_141) (l' := #[.val (.int p0), .val (.int p1), .val (.int p2), .val (.int p3), .val (.int p4), .val (.int (p0 &&& (2147483647 : Int32))), .val (.int (p1 &&& (2147483647 : Int32))), .val (.int (p2 &&& (2147483647 : Int32))), .val (.int (p3 &&& (2147483647 : Int32))), .val (.ref b97), .val (.ref b105), .val (.int (1 : Int32)), .val (.int (((p4.toUInt32 >>> ((2 : Int32) &&& 31).toUInt32).toInt32) &&& (3 : Int32))), .unset]) rfl rfl ?_
          refine g_iload X125 hx 145 (hb hby at_143) rfl rfl ?_
          by_cases c126 : (((p4.toUInt32 >>> ((2 : Int32) &&& 31).toUInt32).toInt32) &&& (3 : Int32)) = (0 : Int32)
          · refine g_ifNo X125 hx 148 (hb hby at_145) (own_i0_ne_f c126) rfl ?_
            refine g_aconst_null X125 hx 149 (hb hby at_148) rfl ?_
            refine g_astore X125 hx 151 (hb hby at_149) rfl (l' := #[.val (.int p0), .val (.int p1), .val (.int p2), .val (.int p3), .val (.int p4), .val (.int (p0 &&& (2147483647 : Int32))), .val (.int (p1 &&& (2147483647 : Int32))), .val (.int (p2 &&& (2147483647 : Int32))), .val (.int (p3 &&& (2147483647 : Int32))), .val (.ref b97), .val (.ref b105), .val (.int (1 : Int32)), .val (.int (((p4.toUInt32 >>> ((2 : Int32) &&& 31).toUInt32).toInt32) &&& (3 : Int32))), .val .null]) rfl rfl ?_
            refine g_goto X125 hx 196 (hb hby at_151) (by decide) (by decide) ?_
            refine g_aload X125 hx 198 (hb hby at_196) rfl rfl rfl ?_
            refine g_aload X125 hx 200 (hb hby at_198) rfl rfl rfl ?_
            refine own_callV X125 hx hZ hown (hw _ (List.mem_of_getElem? (i := 14) rfl)) (hw _ (List.mem_of_getElem? (i := 15) rfl)) (own_nf hZ (hw _ (List.mem_of_getElem? (i := 17) rfl))) (hw _ (List.mem_of_getElem? (i := 17) rfl)) (hw _ (List.mem_of_getElem? (i := 16) rfl)) (by decide) (rm_eqnull l Z a0 hw [] b97 T112.heap n0 z114 ) (hw _ (List.mem_of_getElem? (i := 18) rfl)) (hw _ (List.mem_of_getElem? (i := 3) rfl)) e125 0 (by decide) (by decide) (by decide) (by decide) f121 [.null] [] rfl pd_4 rfl 203 rfl (by rw [hml]; rfl) rfl (hb hby at_200) rfl fun T127 v127 L127 X127 hQ127 => ?_
            obtain ⟨rfl, Nq127, e127⟩ := hQ127
            have N127 := Fr.app N125 Nq127
            show own_Go p e below s _ _ _ (T127.setTop (mkF m 203 _ [(.int (0 : Int32))]))
            refine g_ifNo X127 hx 206 (hb hby at_203) (own_i0_ne_f (by decide)) rfl ?_
            refine g_iconst X127 hx 207 (hb hby at_206) (1 : Int32) rfl rfl ?_
            refine g_goto X127 hx 211 (hb hby at_207) (by decide) (by decide) ?_
            refine own_retN X127 hx hlk (t := .boolean) hret (by simp) (hb hby at_211) ?_ (by decide) (by decide)
            rw [e127]
            exact ⟨rfl, N127⟩
          · refine g_ifYes X125 hx 154 (hb hby at_145) (own_i0_ne_t c126) (by decide) (by decide) ?_
            refine g_iload X125 hx 156 (hb hby at_154) rfl rfl ?_
            refine g_iconst X125 hx 157 (hb hby at_156) (1 : Int32) rfl rfl ?_
            by_cases c128 : (((p4.toUInt32 >>> ((2 : Int32) &&& 31).toUInt32).toInt32) &&& (3 : Int32)) = (1 : Int32)
            · refine g_icmpNo X125 hx 160 (hb hby at_157) (own_ii_ne_f c128) rfl ?_
              refine g_iload X125 hx 162 (hb hby at_160) rfl rfl ?_
              have f130 : Sta Z T112.heap "java/lang/Integer$IntegerCache" "high" "I" (.int (127 : Int32)) := (own_Sta_keep K113 S_high all0)
              have f131 : Sta Z T112.heap "java/lang/Integer$IntegerCache" "cache" "[Ljava/lang/Integer;" (.ref caI) := (own_Sta_keep K113 S_cI all0)
              refine own_callS X125 hx hZ hown (hw _ (List.mem_of_getElem? (i := 21) rfl)) (hw _ (List.mem_of_getElem? (i := 22) rfl)) (by decide) (rm_voI l Z a0 hw [] (p0 &&& (2147483647 : Int32)) caI clI vfI T112.heap n0 z114 f130 f131 B_I (Kz.trans K113 all0)) (hw _ (List.mem_of_getElem? (i := 24) rfl)) (hw _ (List.mem_of_getElem? (i := 23) rfl)) e125 0 (by decide) (by decide) (by decide) (by decide) [(.int (p0 &&& (2147483647 : Int32)))] [] rfl pd_5 rfl 165 rfl (by rw [hml]; rfl) rfl (hb hby at_162) rfl fun T129 v129 L129 X129 hQ129 => ?_
              obtain ⟨r129, rfl, Nq129, Kq129, Er129⟩ := hQ129
              have N129 := Fr.app N125 Nq129
              have K132 : Keep h0 T129.heap [] := K113.trans Kq129 all0
              have z133 : n0 ≤ T129.heap.size := (Nat.le_trans z114 Kq129.1)
              show own_Go p e below s _ _ _ (T129.setTop (mkF m 165 _ [(.ref r129)]))
              refine g_astore X129 hx 167 (hb hby at_165) rfl (l' := #[.val (.int p0), .val (.int p1), .val (.int p2), .val (.int p3), .val (.int p4), .val (.int (p0 &&& (2147483647 : Int32))), .val (.int (p1 &&& (2147483647 : Int32))), .val (.int (p2 &&& (2147483647 : Int32))), .val (.int (p3 &&& (2147483647 : Int32))), .val (.ref b97), .val (.ref b105), .val (.int (1 : Int32)), .val (.int (((p4.toUInt32 >>> ((2 : Int32) &&& 31).toUInt32).toInt32) &&& (3 : Int32))), .val (.ref r129)]) rfl rfl ?_
              refine g_goto X129 hx 196 (hb hby at_167) (by decide) (by decide) ?_
              refine g_aload X129 hx 198 (hb hby at_196) rfl rfl rfl ?_
              refine g_aload X129 hx 200 (hb hby at_198) rfl rfl rfl ?_
              have f135 : Exa Z T129.heap b97 "com/example/statement_mapper/statementmapper/service/RowBounds" := (f121.keep Kq129)
              refine own_callV X129 hx hZ hown (hw _ (List.mem_of_getElem? (i := 14) rfl)) (hw _ (List.mem_of_getElem? (i := 15) rfl)) (own_nf hZ (hw _ (List.mem_of_getElem? (i := 17) rfl))) (hw _ (List.mem_of_getElem? (i := 17) rfl)) (hw _ (List.mem_of_getElem? (i := 16) rfl)) (by decide) (rm_eqno0 l Z a0 hw [] b97 r129 T129.heap n0 z133 Er129) (hw _ (List.mem_of_getElem? (i := 18) rfl)) (hw _ (List.mem_of_getElem? (i := 3) rfl)) rfl 0 (by decide) (by decide) (by decide) (by decide) f135 [(.ref r129)] [] rfl pd_4 rfl 203 rfl (by rw [hml]; rfl) rfl (hb hby at_200) rfl fun T134 v134 L134 X134 hQ134 => ?_
              obtain ⟨rfl, Nq134, e134⟩ := hQ134
              have N134 := Fr.app N129 Nq134
              show own_Go p e below s _ _ _ (T134.setTop (mkF m 203 _ [(.int (0 : Int32))]))
              refine g_ifNo X134 hx 206 (hb hby at_203) (own_i0_ne_f (by decide)) rfl ?_
              refine g_iconst X134 hx 207 (hb hby at_206) (1 : Int32) rfl rfl ?_
              refine g_goto X134 hx 211 (hb hby at_207) (by decide) (by decide) ?_
              refine own_retN X134 hx hlk (t := .boolean) hret (by simp) (hb hby at_211) ?_ (by decide) (by decide)
              rw [e134]
              exact ⟨rfl, N134⟩
            · refine g_icmpYes X125 hx 170 (hb hby at_157) (own_ii_ne_t c128) (by decide) (by decide) ?_
              refine g_iload X125 hx 172 (hb hby at_170) rfl rfl ?_
              refine g_iconst X125 hx 173 (hb hby at_172) (2 : Int32) rfl rfl ?_
              by_cases c136 : (((p4.toUInt32 >>> ((2 : Int32) &&& 31).toUInt32).toInt32) &&& (3 : Int32)) = (2 : Int32)
              · refine g_icmpNo X125 hx 176 (hb hby at_173) (own_ii_ne_f c136) rfl ?_
                refine g_iload X125 hx 178 (hb hby at_176) rfl rfl ?_
                refine g_i2l X125 hx 179 (hb hby at_178) rfl ?_
                have f138 : Sta Z T112.heap "java/lang/Long$LongCache" "cache" "[Ljava/lang/Long;" (.ref caJ) := (own_Sta_keep K113 S_cJ all0)
                refine own_callS X125 hx hZ hown (hw _ (List.mem_of_getElem? (i := 31) rfl)) (hw _ (List.mem_of_getElem? (i := 32) rfl)) (by decide) (rm_voJ l Z a0 hw [] ((p1 &&& (2147483647 : Int32)).toInt64) caJ clJ vfJ T112.heap n0 z114 f138 B_J (Kz.trans K113 all0)) (hw _ (List.mem_of_getElem? (i := 34) rfl)) (hw _ (List.mem_of_getElem? (i := 33) rfl)) e125 0 (by decide) (by decide) (by decide) (by decide) [(.long ((p1 &&& (2147483647 : Int32)).toInt64))] [] rfl pd_6 rfl 182 rfl (by rw [hml]; rfl) rfl (hb hby at_179) rfl fun T137 v137 L137 X137 hQ137 => ?_
                obtain ⟨r137, rfl, Nq137, Kq137, Er137⟩ := hQ137
                have N137 := Fr.app N125 Nq137
                have K139 : Keep h0 T137.heap [] := K113.trans Kq137 all0
                have z140 : n0 ≤ T137.heap.size := (Nat.le_trans z114 Kq137.1)
                show own_Go p e below s _ _ _ (T137.setTop (mkF m 182 _ [(.ref r137)]))
                refine g_astore X137 hx 184 (hb hby at_182) rfl (l' := #[.val (.int p0), .val (.int p1), .val (.int p2), .val (.int p3), .val (.int p4), .val (.int (p0 &&& (2147483647 : Int32))), .val (.int (p1 &&& (2147483647 : Int32))), .val (.int (p2 &&& (2147483647 : Int32))), .val (.int (p3 &&& (2147483647 : Int32))), .val (.ref b97), .val (.ref b105), .val (.int (1 : Int32)), .val (.int (((p4.toUInt32 >>> ((2 : Int32) &&& 31).toUInt32).toInt32) &&& (3 : Int32))), .val (.ref r137)]) rfl rfl ?_
                refine g_goto X137 hx 196 (hb hby at_184) (by decide) (by decide) ?_
                refine g_aload X137 hx 198 (hb hby at_196) rfl rfl rfl ?_
                refine g_aload X137 hx 200 (hb hby at_198) rfl rfl rfl ?_
                have f142 : Exa Z T137.heap b97 "com/example/statement_mapper/statementmapper/service/RowBounds" := (f121.keep Kq137)
                refine own_callV X137 hx hZ hown (hw _ (List.mem_of_getElem? (i := 14) rfl)) (hw _ (List.mem_of_getElem? (i := 15) rfl)) (own_nf hZ (hw _ (List.mem_of_getElem? (i := 17) rfl))) (hw _ (List.mem_of_getElem? (i := 17) rfl)) (hw _ (List.mem_of_getElem? (i := 16) rfl)) (by decide) (rm_eqno1 l Z a0 hw [] b97 r137 T137.heap n0 z140 Er137) (hw _ (List.mem_of_getElem? (i := 18) rfl)) (hw _ (List.mem_of_getElem? (i := 3) rfl)) rfl 0 (by decide) (by decide) (by decide) (by decide) f142 [(.ref r137)] [] rfl pd_4 rfl 203 rfl (by rw [hml]; rfl) rfl (hb hby at_200) rfl fun T141 v141 L141 X141 hQ141 => ?_
                obtain ⟨rfl, Nq141, e141⟩ := hQ141
                have N141 := Fr.app N137 Nq141
                show own_Go p e below s _ _ _ (T141.setTop (mkF m 203 _ [(.int (0 : Int32))]))
                refine g_ifNo X141 hx 206 (hb hby at_203) (own_i0_ne_f (by decide)) rfl ?_
                refine g_iconst X141 hx 207 (hb hby at_206) (1 : Int32) rfl rfl ?_
                refine g_goto X141 hx 211 (hb hby at_207) (by decide) (by decide) ?_
                refine own_retN X141 hx hlk (t := .boolean) hret (by simp) (hb hby at_211) ?_ (by decide) (by decide)
                rw [e141]
                exact ⟨rfl, N141⟩
              · refine g_icmpYes X125 hx 187 (hb hby at_173) (own_ii_ne_t c136) (by decide) (by decide) ?_
                refine own_newO X125 hx hZ hown (hw _ (List.mem_of_getElem? (i := 53) rfl)) (hw _ (List.mem_of_getElem? (i := 54) rfl)) (hw _ (List.mem_of_getElem? (i := 55) rfl)) e125 190 (hb hby at_187) rfl (by decide) (by decide) fun T143 h143 b143 X143 e143 g143 E143 A143 D143 => ?_
                have ne144 : b97 ≠ b143 := Nat.ne_of_lt (Nat.lt_of_lt_of_le f121.lt (Nat.le_of_eq g143.symm))
                have ne145 : b105 ≠ b143 := Nat.ne_of_lt (Nat.lt_of_lt_of_le f118.lt (Nat.le_of_eq g143.symm))
                have g_b143 : n0 ≤ b143 := Nat.le_trans z114 (Nat.le_of_eq g143.symm)
                have sz_b143 : h0.size ≤ b143 := Nat.le_trans K113.1 (Nat.le_of_eq g143.symm)
                have K146 : Keep h0 h143 [] := K113.ext E143
                have z147 : n0 ≤ h143.size := (Nat.le_trans z114 E143.1)
                have f148 : Fld Z h143 b143 "java/util/AbstractList" "modCount" "I" (.int (0 : Int32)) := D143 (Or.inl (hw _ (List.mem_of_getElem? (i := 73) rfl))) (ty := .int) (by decide)
                have f149 : Fld Z h143 b143 "java/util/ArrayList" "elementData" "[Ljava/lang/Object;" .null := D143 (Or.inl (hw _ (List.mem_of_getElem? (i := 76) rfl))) (ty := (.array (.object "java/lang/Object"))) (by decide)
                refine g_dup X143 hx 191 (hb hby at_190) rfl rfl ?_
                have f151 : Sta Z h143 "java/util/ArrayList" "DEFAULTCAPACITY_EMPTY_ELEMENTDATA" "[Ljava/lang/Object;" (.ref dd) := (own_Sta_keep K146 S_dd all0)
                refine own_callI X143 hx hZ hown rfl (hw _ (List.mem_of_getElem? (i := 56) rfl)) (hw _ (List.mem_of_getElem? (i := 57) rfl)) (by decide) (rm_arlist l Z a0 hw [] b143 dd h143 n0 z147 A143 f148 f149 f151 g_b143) (hw _ (List.mem_of_getElem? (i := 58) rfl)) (hw _ (List.mem_of_getElem? (i := 55) rfl)) e143 1 (by decide) (by decide) (by decide) (by decide) b143 [] [(.ref b143)] rfl pd_0 rfl 194 rfl (by rw [hml]; rfl) rfl (hb hby at_191) rfl fun T150 v150 L150 X150 hQ150 => ?_
                obtain ⟨rfl, Nq150, Kq150, f150_0, f150_1⟩ := hQ150
                have N150 := Fr.app N125 Nq150
                have K152 : Keep h0 T150.heap [] := K146.trans Kq150 (allS (Or.inr sz_b143) all0)
                have z153 : n0 ≤ T150.heap.size := (Nat.le_trans z147 Kq150.1)
                show own_Go p e below s _ _ _ (T150.setTop (mkF m 194 _ [(.ref b143)]))
                refine g_astore X150 hx 196 (hb hby at_194) rfl (l' := #[.val (.int p0), .val (.int p1), .val (.int p2), .val (.int p3), .val (.int p4), .val (.int (p0 &&& (2147483647 : Int32))), .val (.int (p1 &&& (2147483647 : Int32))), .val (.int (p2 &&& (2147483647 : Int32))), .val (.int (p3 &&& (2147483647 : Int32))), .val (.ref b97), .val (.ref b105), .val (.int (1 : Int32)), .val (.int (((p4.toUInt32 >>> ((2 : Int32) &&& 31).toUInt32).toInt32) &&& (3 : Int32))), .val (.ref b143)]) rfl rfl ?_
                refine g_aload X150 hx 198 (hb hby at_196) rfl rfl rfl ?_
                refine g_aload X150 hx 200 (hb hby at_198) rfl rfl rfl ?_
                have f155 : Exa Z T150.heap b143 "java/util/ArrayList" := (A143.keep Kq150)
                have f156 : Exa Z T150.heap b97 "com/example/statement_mapper/statementmapper/service/RowBounds" := ((Exa.ext E143 f121).keep Kq150)
                refine own_callV X150 hx hZ hown (hw _ (List.mem_of_getElem? (i := 14) rfl)) (hw _ (List.mem_of_getElem? (i := 15) rfl)) (own_nf hZ (hw _ (List.mem_of_getElem? (i := 17) rfl))) (hw _ (List.mem_of_getElem? (i := 17) rfl)) (hw _ (List.mem_of_getElem? (i := 16) rfl)) (by decide) (rm_eqno2 l Z a0 hw [] b97 b143 T150.heap n0 z153 f155) (hw _ (List.mem_of_getElem? (i := 18) rfl)) (hw _ (List.mem_of_getElem? (i := 3) rfl)) rfl 0 (by decide) (by decide) (by decide) (by decide) f156 [(.ref b143)] [] rfl pd_4 rfl 203 rfl (by rw [hml]; rfl) rfl (hb hby at_200) rfl fun T154 v154 L154 X154 hQ154 => ?_
                obtain ⟨rfl, Nq154, e154⟩ := hQ154
                have N154 := Fr.app N150 Nq154
                show own_Go p e below s _ _ _ (T154.setTop (mkF m 203 _ [(.int (0 : Int32))]))
                refine g_ifNo X154 hx 206 (hb hby at_203) (own_i0_ne_f (by decide)) rfl ?_
                refine g_iconst X154 hx 207 (hb hby at_206) (1 : Int32) rfl rfl ?_
                refine g_goto X154 hx 211 (hb hby at_207) (by decide) (by decide) ?_
                refine own_retN X154 hx hlk (t := .boolean) hret (by simp) (hb hby at_211) ?_ (by decide) (by decide)
                rw [e154]
                exact ⟨rfl, N154⟩
        · refine g_icmpYes X112 hx 92 (hb hby at_85) (own_ii_ne_t c116) (by decide) (by decide) ?_
          refine g_iconst X112 hx 93 (hb hby at_92) (0 : Int32) rfl rfl ?_
          refine g_istore X112 hx 95 (hb hby at_93) (l' := #[.val (.int p0), .val (.int p1), .val (.int p2), .val (.int p3), .val (.int p4), .val (.int (p0 &&& (2147483647 : Int32))), .val (.int (p1 &&& (2147483647 : Int32))), .val (.int (p2 &&& (2147483647 : Int32))), .val (.int (p3 &&& (2147483647 : Int32))), .val (.ref b97), .val (.ref b105), .val (.int (0 : Int32)), .unset, .unset]) rfl rfl ?_
          refine g_aload X112 hx 97 (hb hby at_95) rfl rfl rfl ?_
          refine g_aload X112 hx 99 (hb hby at_97) rfl rfl rfl ?_
          have f158 : Exa Z T112.heap b105 "com/example/statement_mapper/statementmapper/service/RowBounds" := (A105.keep Kq112)
          have f159 : Fld Z T112.heap b97 "com/example/statement_mapper/statementmapper/service/RowBounds" "offset" "I" (.int (p0 &&& (2147483647 : Int32))) := ((Fld.ext E105 f102_0).keep Kq112 (ninS ne107 nin0))
          have f160 : Fld Z T112.heap b97 "com/example/statement_mapper/statementmapper/service/RowBounds" "limit" "I" (.int (p1 &&& (2147483647 : Int32))) := ((Fld.ext E105 f102_1).keep Kq112 (ninS ne107 nin0))
          have f161 : Exa Z T112.heap b97 "com/example/statement_mapper/statementmapper/service/RowBounds" := ((Exa.ext E105 f106).keep Kq112)
          refine own_callV X112 hx hZ hown (hw _ (List.mem_of_getElem? (i := 14) rfl)) (hw _ (List.mem_of_getElem? (i := 15) rfl)) (own_nf hZ (hw _ (List.mem_of_getElem? (i := 17) rfl))) (hw _ (List.mem_of_getElem? (i := 17) rfl)) (hw _ (List.mem_of_getElem? (i := 16) rfl)) (by decide) (rm_eq l Z a0 hw [] b97 b105 (p0 &&& (2147483647 : Int32)) (p1 &&& (2147483647 : Int32)) (p2 &&& (2147483647 : Int32)) (p3 &&& (2147483647 : Int32)) T112.heap n0 z114 f158 f159 f160 f112_0 f112_1) (hw _ (List.mem_of_getElem? (i := 18) rfl)) (hw _ (List.mem_of_getElem? (i := 3) rfl)) rfl 0 (by decide) (by decide) (by decide) (by decide) f161 [(.ref b105)] [] rfl pd_4 rfl 102 rfl (by rw [hml]; rfl) rfl (hb hby at_99) rfl fun T157 v157 L157 X157 hQ157 => ?_
          obtain ⟨rfl, Nq157, e157⟩ := hQ157
          have N157 := Fr.app N112 Nq157
          show own_Go p e below s _ _ _ (T157.setTop (mkF m 102 _ [(.int (own_eq (p0 &&& (2147483647 : Int32)) (p1 &&& (2147483647 : Int32)) (p2 &&& (2147483647 : Int32)) (p3 &&& (2147483647 : Int32))))]))
          refine g_iload X157 hx 104 (hb hby at_102) rfl rfl ?_
          have c162 : (own_eq (p0 &&& (2147483647 : Int32)) (p1 &&& (2147483647 : Int32)) (p2 &&& (2147483647 : Int32)) (p3 &&& (2147483647 : Int32))) = (0 : Int32) := by simp [own_eq, c95, c96, c115, c116, (Ne.symm c116)]
          refine g_icmpYes X157 hx 109 (hb hby at_104) (own_ii_eq_t c162) (by decide) (by decide) ?_
          refine g_aload X157 hx 111 (hb hby at_109) rfl rfl rfl ?_
          refine g_aload X157 hx 113 (hb hby at_111) rfl rfl rfl ?_
          refine own_callV X157 hx hZ hown (hw _ (List.mem_of_getElem? (i := 14) rfl)) (hw _ (List.mem_of_getElem? (i := 15) rfl)) (own_nf hZ (hw _ (List.mem_of_getElem? (i := 17) rfl))) (hw _ (List.mem_of_getElem? (i := 17) rfl)) (hw _ (List.mem_of_getElem? (i := 16) rfl)) (by decide) (rm_eq l Z a0 hw [] b105 b97 (p2 &&& (2147483647 : Int32)) (p3 &&& (2147483647 : Int32)) (p0 &&& (2147483647 : Int32)) (p1 &&& (2147483647 : Int32)) T112.heap n0 z114 f161 f112_0 f112_1 f159 f160) (hw _ (List.mem_of_getElem? (i := 18) rfl)) (hw _ (List.mem_of_getElem? (i := 3) rfl)) e157 0 (by decide) (by decide) (by decide) (by decide) f158 [(.ref b97)] [] rfl pd_4 rfl 116 rfl (by rw [hml]; rfl) rfl (hb hby at_113) rfl fun T163 v163 L163 X163 hQ163 => ?_
          obtain ⟨rfl, Nq163, e163⟩ := hQ163
          have N163 := Fr.app N157 Nq163
          show own_Go p e below s _ _ _ (T163.setTop (mkF m 116 _ [(.int (own_eq (p2 &&& (2147483647 : Int32)) (p3 &&& (2147483647 : Int32)) (p0 &&& (2147483647 : Int32)) (p1 &&& (2147483647 : Int32))))]))
          refine g_iload X163 hx 118 (hb hby at_116) rfl rfl ?_
          have c164 : (own_eq (p2 &&& (2147483647 : Int32)) (p3 &&& (2147483647 : Int32)) (p0 &&& (2147483647 : Int32)) (p1 &&& (2147483647 : Int32))) = (0 : Int32) := by simp [own_eq, c95, c96, c115, c116, (Ne.symm c116), c162]
          refine g_icmpYes X163 hx 123 (hb hby at_118) (own_ii_eq_t c164) (by decide) (by decide) ?_
          refine g_aload X163 hx 125 (hb hby at_123) rfl rfl rfl ?_
          refine g_aload X163 hx 127 (hb hby at_125) rfl rfl rfl ?_
          refine own_callV X163 hx hZ hown (hw _ (List.mem_of_getElem? (i := 14) rfl)) (hw _ (List.mem_of_getElem? (i := 15) rfl)) (own_nf hZ (hw _ (List.mem_of_getElem? (i := 17) rfl))) (hw _ (List.mem_of_getElem? (i := 17) rfl)) (hw _ (List.mem_of_getElem? (i := 16) rfl)) (by decide) (rm_eqself l Z a0 hw [] b97 (p0 &&& (2147483647 : Int32)) (p1 &&& (2147483647 : Int32)) T112.heap n0 z114 f161 f159 f160) (hw _ (List.mem_of_getElem? (i := 18) rfl)) (hw _ (List.mem_of_getElem? (i := 3) rfl)) e163 0 (by decide) (by decide) (by decide) (by decide) f161 [(.ref b97)] [] rfl pd_4 rfl 130 rfl (by rw [hml]; rfl) rfl (hb hby at_127) rfl fun T165 v165 L165 X165 hQ165 => ?_
          obtain ⟨rfl, Nq165, e165⟩ := hQ165
          have N165 := Fr.app N163 Nq165
          show own_Go p e below s _ _ _ (T165.setTop (mkF m 130 _ [(.int (1 : Int32))]))
          refine g_ifYes X165 hx 135 (hb hby at_130) (own_i0_ne_t (by decide)) (by decide) (by decide) ?_
          refine g_iload X165 hx 137 (hb hby at_135) rfl rfl ?_
          refine g_iconst X165 hx 138 (hb hby at_137) (2 : Int32) rfl rfl ?_
          refine g_iushr X165 hx 139 (hb hby at_138) rfl ?_
          refine g_iconst X165 hx 140 (hb hby at_139) (3 : Int32) rfl rfl ?_
          refine g_iand X165 hx 141 (hb hby at_140) rfl ?_
          refine g_istore X165 hx 143 (hb hby at_141) (l' := #[.val (.int p0), .val (.int p1), .val (.int p2), .val (.int p3), .val (.int p4), .val (.int (p0 &&& (2147483647 : Int32))), .val (.int (p1 &&& (2147483647 : Int32))), .val (.int (p2 &&& (2147483647 : Int32))), .val (.int (p3 &&& (2147483647 : Int32))), .val (.ref b97), .val (.ref b105), .val (.int (0 : Int32)), .val (.int (((p4.toUInt32 >>> ((2 : Int32) &&& 31).toUInt32).toInt32) &&& (3 : Int32))), .unset]) rfl rfl ?_
          refine g_iload X165 hx 145 (hb hby at_143) rfl rfl ?_
          by_cases c166 : (((p4.toUInt32 >>> ((2 : Int32) &&& 31).toUInt32).toInt32) &&& (3 : Int32)) = (0 : Int32)
          · refine g_ifNo X165 hx 148 (hb hby at_145) (own_i0_ne_f c166) rfl ?_
            refine g_aconst_null X165 hx 149 (hb hby at_148) rfl ?_
            refine g_astore X165 hx 151 (hb hby at_149) rfl (l' := #[.val (.int p0), .val (.int p1), .val (.int p2), .val (.int p3), .val (.int p4), .val (.int (p0 &&& (2147483647 : Int32))), .val (.int (p1 &&& (2147483647 : Int32))), .val (.int (p2 &&& (2147483647 : Int32))), .val (.int (p3 &&& (2147483647 : Int32))), .val (.ref b97), .val (.ref b105), .val (.int (0 : Int32)), .val (.int (((p4.toUInt32 >>> ((2 : Int32) &&& 31).toUInt32).toInt32) &&& (3 : Int32))), .val .null]) rfl rfl ?_
            refine g_goto X165 hx 196 (hb hby at_151) (by decide) (by decide) ?_
            refine g_aload X165 hx 198 (hb hby at_196) rfl rfl rfl ?_
            refine g_aload X165 hx 200 (hb hby at_198) rfl rfl rfl ?_
            refine own_callV X165 hx hZ hown (hw _ (List.mem_of_getElem? (i := 14) rfl)) (hw _ (List.mem_of_getElem? (i := 15) rfl)) (own_nf hZ (hw _ (List.mem_of_getElem? (i := 17) rfl))) (hw _ (List.mem_of_getElem? (i := 17) rfl)) (hw _ (List.mem_of_getElem? (i := 16) rfl)) (by decide) (rm_eqnull l Z a0 hw [] b97 T112.heap n0 z114 ) (hw _ (List.mem_of_getElem? (i := 18) rfl)) (hw _ (List.mem_of_getElem? (i := 3) rfl)) e165 0 (by decide) (by decide) (by decide) (by decide) f161 [.null] [] rfl pd_4 rfl 203 rfl (by rw [hml]; rfl) rfl (hb hby at_200) rfl fun T167 v167 L167 X167 hQ167 => ?_
            obtain ⟨rfl, Nq167, e167⟩ := hQ167
            have N167 := Fr.app N165 Nq167
            show own_Go p e below s _ _ _ (T167.setTop (mkF m 203 _ [(.int (0 : Int32))]))
            refine g_ifNo X167 hx 206 (hb hby at_203) (own_i0_ne_f (by decide)) rfl ?_
            refine g_iconst X167 hx 207 (hb hby at_206) (1 : Int32) rfl rfl ?_
            refine g_goto X167 hx 211 (hb hby at_207) (by decide) (by decide) ?_
            refine own_retN X167 hx hlk (t := .boolean) hret (by simp) (hb hby at_211) ?_ (by decide) (by decide)
            rw [e167]
            exact ⟨rfl, N167⟩
          · refine g_ifYes X165 hx 154 (hb hby at_145) (own_i0_ne_t c166) (by decide) (by decide) ?_
            refine g_iload X165 hx 156 (hb hby at_154) rfl rfl ?_
            refine g_iconst X165 hx 157 (hb hby at_156) (1 : Int32) rfl rfl ?_
            by_cases c168 : (((p4.toUInt32 >>> ((2 : Int32) &&& 31).toUInt32).toInt32) &&& (3 : Int32)) = (1 : Int32)
            · refine g_icmpNo X165 hx 160 (hb hby at_157) (own_ii_ne_f c168) rfl ?_
              refine g_iload X165 hx 162 (hb hby at_160) rfl rfl ?_
              have f170 : Sta Z T112.heap "java/lang/Integer$IntegerCache" "high" "I" (.int (127 : Int32)) := (own_Sta_keep K113 S_high all0)
              have f171 : Sta Z T112.heap "java/lang/Integer$IntegerCache" "cache" "[Ljava/lang/Integer;" (.ref caI) := (own_Sta_keep K113 S_cI all0)
              refine own_callS X165 hx hZ hown (hw _ (List.mem_of_getElem? (i := 21) rfl)) (hw _ (List.mem_of_getElem? (i := 22) rfl)) (by decide) (rm_voI l Z a0 hw [] (p0 &&& (2147483647 : Int32)) caI clI vfI T112.heap n0 z114 f170 f171 B_I (Kz.trans K113 all0)) (hw _ (List.mem_of_getElem? (i := 24) rfl)) (hw _ (List.mem_of_getElem? (i := 23) rfl)) e165 0 (by decide) (by decide) (by decide) (by decide) [(.int (p0 &&& (2147483647 : Int32)))] [] rfl pd_5 rfl 165 rfl (by rw [hml]; rfl) rfl (hb hby at_162) rfl fun T169 v169 L169 X169 hQ169 => ?_
              obtain ⟨r169, rfl, Nq169, Kq169, Er169⟩ := hQ169
              have N169 := Fr.app N165 Nq169
              have K172 : Keep h0 T169.heap [] := K113.trans Kq169 all0
              have z173 : n0 ≤ T169.heap.size := (Nat.le_trans z114 Kq169.1)
              show own_Go p e below s _ _ _ (T169.setTop (mkF m 165 _ [(.ref r169)]))
              refine g_astore X169 hx 167 (hb hby at_165) rfl (l' := #[.val (.int p0), .val (.int p1), .val (.int p2), .val (.int p3), .val (.int p4), .val (.int (p0 &&& (2147483647 : Int32))), .val (.int (p1 &&& (2147483647 : Int32))), .val (.int (p2 &&& (2147483647 : Int32))), .val (.int (p3 &&& (2147483647 : Int32))), .val (.ref b97), .val (.ref b105), .val (.int (0 : Int32)), .val (.int (((p4.toUInt32 >>> ((2 : Int32) &&& 31).toUInt32).toInt32) &&& (3 : Int32))), .val (.ref r169)]) rfl rfl ?_
              refine g_goto X169 hx 196 (hb hby at_167) (by decide) (by decide) ?_
              refine g_aload X169 hx 198 (hb hby at_196) rfl rfl rfl ?_
              refine g_aload X169 hx 200 (hb hby at_198) rfl rfl rfl ?_
              have f175 : Exa Z T169.heap b97 "com/example/statement_mapper/statementmapper/service/RowBounds" := (f161.keep Kq169)
              refine own_callV X169 hx hZ hown (hw _ (List.mem_of_getElem? (i := 14) rfl)) (hw _ (List.mem_of_getElem? (i := 15) rfl)) (own_nf hZ (hw _ (List.mem_of_getElem? (i := 17) rfl))) (hw _ (List.mem_of_getElem? (i := 17) rfl)) (hw _ (List.mem_of_getElem? (i := 16) rfl)) (by decide) (rm_eqno0 l Z a0 hw [] b97 r169 T169.heap n0 z173 Er169) (hw _ (List.mem_of_getElem? (i := 18) rfl)) (hw _ (List.mem_of_getElem? (i := 3) rfl)) rfl 0 (by decide) (by decide) (by decide) (by decide) f175 [(.ref r169)] [] rfl pd_4 rfl 203 rfl (by rw [hml]; rfl) rfl (hb hby at_200) rfl fun T174 v174 L174 X174 hQ174 => ?_
              obtain ⟨rfl, Nq174, e174⟩ := hQ174
              have N174 := Fr.app N169 Nq174
              show own_Go p e below s _ _ _ (T174.setTop (mkF m 203 _ [(.int (0 : Int32))]))
              refine g_ifNo X174 hx 206 (hb hby at_203) (own_i0_ne_f (by decide)) rfl ?_
              refine g_iconst X174 hx 207 (hb hby at_206) (1 : Int32) rfl rfl ?_
              refine g_goto X174 hx 211 (hb hby at_207) (by decide) (by decide) ?_
              refine own_retN X174 hx hlk (t := .boolean) hret (by simp) (hb hby at_211) ?_ (by decide) (by decide)
              rw [e174]
              exact ⟨rfl, N174⟩
            · refine g_icmpYes X165 hx 170 (hb hby at_157) (own_ii_ne_t c168) (by decide) (by decide) ?_
              refine g_iload X165 hx 172 (hb hby at_170) rfl rfl ?_
              refine g_iconst X165 hx 173 (hb hby at_172) (2 : Int32) rfl rfl ?_
              by_cases c176 : (((p4.toUInt32 >>> ((2 : Int32) &&& 31).toUInt32).toInt32) &&& (3 : Int32)) = (2 : Int32)
              · refine g_icmpNo X165 hx 176 (hb hby at_173) (own_ii_ne_f c176) rfl ?_
                refine g_iload X165 hx 178 (hb hby at_176) rfl rfl ?_
                refine g_i2l X165 hx 179 (hb hby at_178) rfl ?_
                have f178 : Sta Z T112.heap "java/lang/Long$LongCache" "cache" "[Ljava/lang/Long;" (.ref caJ) := (own_Sta_keep K113 S_cJ all0)
                refine own_callS X165 hx hZ hown (hw _ (List.mem_of_getElem? (i := 31) rfl)) (hw _ (List.mem_of_getElem? (i := 32) rfl)) (by decide) (rm_voJ l Z a0 hw [] ((p1 &&& (2147483647 : Int32)).toInt64) caJ clJ vfJ T112.heap n0 z114 f178 B_J (Kz.trans K113 all0)) (hw _ (List.mem_of_getElem? (i := 34) rfl)) (hw _ (List.mem_of_getElem? (i := 33) rfl)) e165 0 (by decide) (by decide) (by decide) (by decide) [(.long ((p1 &&& (2147483647 : Int32)).toInt64))] [] rfl pd_6 rfl 182 rfl (by rw [hml]; rfl) rfl (hb hby at_179) rfl fun T177 v177 L177 X177 hQ177 => ?_
                obtain ⟨r177, rfl, Nq177, Kq177, Er177⟩ := hQ177
                have N177 := Fr.app N165 Nq177
                have K179 : Keep h0 T177.heap [] := K113.trans Kq177 all0
                have z180 : n0 ≤ T177.heap.size := (Nat.le_trans z114 Kq177.1)
                show own_Go p e below s _ _ _ (T177.setTop (mkF m 182 _ [(.ref r177)]))
                refine g_astore X177 hx 184 (hb hby at_182) rfl (l' := #[.val (.int p0), .val (.int p1), .val (.int p2), .val (.int p3), .val (.int p4), .val (.int (p0 &&& (2147483647 : Int32))), .val (.int (p1 &&& (2147483647 : Int32))), .val (.int (p2 &&& (2147483647 : Int32))), .val (.int (p3 &&& (2147483647 : Int32))), .val (.ref b97), .val (.ref b105), .val (.int (0 : Int32)), .val (.int (((p4.toUInt32 >>> ((2 : Int32) &&& 31).toUInt32).toInt32) &&& (3 : Int32))), .val (.ref r177)]) rfl rfl ?_
                refine g_goto X177 hx 196 (hb hby at_184) (by decide) (by decide) ?_
                refine g_aload X177 hx 198 (hb hby at_196) rfl rfl rfl ?_
                refine g_aload X177 hx 200 (hb hby at_198) rfl rfl rfl ?_
                have f182 : Exa Z T177.heap b97 "com/example/statement_mapper/statementmapper/service/RowBounds" := (f161.keep Kq177)
                refine own_callV X177 hx hZ hown (hw _ (List.mem_of_getElem? (i := 14) rfl)) (hw _ (List.mem_of_getElem? (i := 15) rfl)) (own_nf hZ (hw _ (List.mem_of_getElem? (i := 17) rfl))) (hw _ (List.mem_of_getElem? (i := 17) rfl)) (hw _ (List.mem_of_getElem? (i := 16) rfl)) (by decide) (rm_eqno1 l Z a0 hw [] b97 r177 T177.heap n0 z180 Er177) (hw _ (List.mem_of_getElem? (i := 18) rfl)) (hw _ (List.mem_of_getElem? (i := 3) rfl)) rfl 0 (by decide) (by decide) (by decide) (by decide) f182 [(.ref r177)] [] rfl pd_4 rfl 203 rfl (by rw [hml]; rfl) rfl (hb hby at_200) rfl fun T181 v181 L181 X181 hQ181 => ?_
                obtain ⟨rfl, Nq181, e181⟩ := hQ181
                have N181 := Fr.app N177 Nq181
                show own_Go p e below s _ _ _ (T181.setTop (mkF m 203 _ [(.int (0 : Int32))]))
                refine g_ifNo X181 hx 206 (hb hby at_203) (own_i0_ne_f (by decide)) rfl ?_
                refine g_iconst X181 hx 207 (hb hby at_206) (1 : Int32) rfl rfl ?_
                refine g_goto X181 hx 211 (hb hby at_207) (by decide) (by decide) ?_
                refine own_retN X181 hx hlk (t := .boolean) hret (by simp) (hb hby at_211) ?_ (by decide) (by decide)
                rw [e181]
                exact ⟨rfl, N181⟩
              · refine g_icmpYes X165 hx 187 (hb hby at_173) (own_ii_ne_t c176) (by decide) (by decide) ?_
                refine own_newO X165 hx hZ hown (hw _ (List.mem_of_getElem? (i := 53) rfl)) (hw _ (List.mem_of_getElem? (i := 54) rfl)) (hw _ (List.mem_of_getElem? (i := 55) rfl)) e165 190 (hb hby at_187) rfl (by decide) (by decide) fun T183 h183 b183 X183 e183 g183 E183 A183 D183 => ?_
                have ne184 : b97 ≠ b183 := Nat.ne_of_lt (Nat.lt_of_lt_of_le f161.lt (Nat.le_of_eq g183.symm))
                have ne185 : b105 ≠ b183 := Nat.ne_of_lt (Nat.lt_of_lt_of_le f158.lt (Nat.le_of_eq g183.symm))
                have g_b183 : n0 ≤ b183 := Nat.le_trans z114 (Nat.le_of_eq g183.symm)
                have sz_b183 : h0.size ≤ b183 := Nat.le_trans K113.1 (Nat.le_of_eq g183.symm)
                have K186 : Keep h0 h183 [] := K113.ext E183
                have z187 : n0 ≤ h183.size := (Nat.le_trans z114 E183.1)
                have f188 : Fld Z h183 b183 "java/util/AbstractList" "modCount" "I" (.int (0 : Int32)) := D183 (Or.inl (hw _ (List.mem_of_getElem? (i := 73) rfl))) (ty := .int) (by decide)
                have f189 : Fld Z h183 b183 "java/util/ArrayList" "elementData" "[Ljava/lang/Object;" .null := D183 (Or.inl (hw _ (List.mem_of_getElem? (i := 76) rfl))) (ty := (.array (.object "java/lang/Object"))) (by decide)
                refine g_dup X183 hx 191 (hb hby at_190) rfl rfl ?_
                have f191 : Sta Z h183 "java/util/ArrayList" "DEFAULTCAPACITY_EMPTY_ELEMENTDATA" "[Ljava/lang/Object;" (.ref dd) := (own_Sta_keep K186 S_dd all0)
                refine own_callI X183 hx hZ hown rfl (hw _ (List.mem_of_getElem? (i := 56) rfl)) (hw _ (List.mem_of_getElem? (i := 57) rfl)) (by decide) (rm_arlist l Z a0 hw [] b183 dd h183 n0 z187 A183 f188 f189 f191 g_b183) (hw _ (List.mem_of_getElem? (i := 58) rfl)) (hw _ (List.mem_of_getElem? (i := 55) rfl)) e183 1 (by decide) (by decide) (by decide) (by decide) b183 [] [(.ref b183)] rfl pd_0 rfl 194 rfl (by rw [hml]; rfl) rfl (hb hby at_191) rfl fun T190 v190 L190 X190 hQ190 => ?_
                obtain ⟨rfl, Nq190, Kq190, f190_0, f190_1⟩ := hQ190
                have N190 := Fr.app N165 Nq190
                have K192 : Keep h0 T190.heap [] := K186.trans Kq190 (allS (Or.inr sz_b183) all0)
                have z193 : n0 ≤ T190.heap.size := (Nat.le_trans z187 Kq190.1)
                show own_Go p e below s _ _ _ (T190.setTop (mkF m 194 _ [(.ref b183)]))
                refine g_astore X190 hx 196 (hb hby at_194) rfl (l' := #[.val (.int p0), .val (.int p1), .val (.int p2), .val (.int p3), .val (.int p4), .val (.int (p0 &&& (2147483647 : Int32))), .val (.int (p1 &&& (2147483647 : Int32))), .val (.int (p2 &&& (2147483647 : Int32))), .val (.int (p3 &&& (2147483647 : Int32))), .val (.ref b97), .val (.ref b105), .val (.int (0 : Int32)), .val (.int (((p4.toUInt32 >>> ((2 : Int32) &&& 31).toUInt32).toInt32) &&& (3 : Int32))), .val (.ref b183)]) rfl rfl ?_
                refine g_aload X190 hx 198 (hb hby at_196) rfl rfl rfl ?_
                refine g_aload X190 hx 200 (hb hby at_198) rfl rfl rfl ?_
                have f195 : Exa Z T190.heap b183 "java/util/ArrayList" := (A183.keep Kq190)
                have f196 : Exa Z T190.heap b97 "com/example/statement_mapper/statementmapper/service/RowBounds" := ((Exa.ext E183 f161).keep Kq190)
                refine own_callV X190 hx hZ hown (hw _ (List.mem_of_getElem? (i := 14) rfl)) (hw _ (List.mem_of_getElem? (i := 15) rfl)) (own_nf hZ (hw _ (List.mem_of_getElem? (i := 17) rfl))) (hw _ (List.mem_of_getElem? (i := 17) rfl)) (hw _ (List.mem_of_getElem? (i := 16) rfl)) (by decide) (rm_eqno2 l Z a0 hw [] b97 b183 T190.heap n0 z193 f195) (hw _ (List.mem_of_getElem? (i := 18) rfl)) (hw _ (List.mem_of_getElem? (i := 3) rfl)) rfl 0 (by decide) (by decide) (by decide) (by decide) f196 [(.ref b183)] [] rfl pd_4 rfl 203 rfl (by rw [hml]; rfl) rfl (hb hby at_200) rfl fun T194 v194 L194 X194 hQ194 => ?_
                obtain ⟨rfl, Nq194, e194⟩ := hQ194
                have N194 := Fr.app N190 Nq194
                show own_Go p e below s _ _ _ (T194.setTop (mkF m 203 _ [(.int (0 : Int32))]))
                refine g_ifNo X194 hx 206 (hb hby at_203) (own_i0_ne_f (by decide)) rfl ?_
                refine g_iconst X194 hx 207 (hb hby at_206) (1 : Int32) rfl rfl ?_
                refine g_goto X194 hx 211 (hb hby at_207) (by decide) (by decide) ?_
                refine own_retN X194 hx hlk (t := .boolean) hret (by simp) (hb hby at_211) ?_ (by decide) (by decide)
                rw [e194]
                exact ⟨rfl, N194⟩
      · refine g_icmpYes X112 hx 92 (hb hby at_78) (own_ii_ne_t c115) (by decide) (by decide) ?_
        refine g_iconst X112 hx 93 (hb hby at_92) (0 : Int32) rfl rfl ?_
        refine g_istore X112 hx 95 (hb hby at_93) (l' := #[.val (.int p0), .val (.int p1), .val (.int p2), .val (.int p3), .val (.int p4), .val (.int (p0 &&& (2147483647 : Int32))), .val (.int (p1 &&& (2147483647 : Int32))), .val (.int (p2 &&& (2147483647 : Int32))), .val (.int (p3 &&& (2147483647 : Int32))), .val (.ref b97), .val (.ref b105), .val (.int (0 : Int32)), .unset, .unset]) rfl rfl ?_
        refine g_aload X112 hx 97 (hb hby at_95) rfl rfl rfl ?_
        refine g_aload X112 hx 99 (hb hby at_97) rfl rfl rfl ?_
        have f198 : Exa Z T112.heap b105 "com/example/statement_mapper/statementmapper/service/RowBounds" := (A105.keep Kq112)
        have f199 : Fld Z T112.heap b97 "com/example/statement_mapper/statementmapper/service/RowBounds" "offset" "I" (.int (p0 &&& (2147483647 : Int32))) := ((Fld.ext E105 f102_0).keep Kq112 (ninS ne107 nin0))
        have f200 : Fld Z T112.heap b97 "com/example/statement_mapper/statementmapper/service/RowBounds" "limit" "I" (.int (p1 &&& (2147483647 : Int32))) := ((Fld.ext E105 f102_1).keep Kq112 (ninS ne107 nin0))
        have f201 : Exa Z T112.heap b97 "com/example/statement_mapper/statementmapper/service/RowBounds" := ((Exa.ext E105 f106).keep Kq112)
        refine own_callV X112 hx hZ hown (hw _ (List.mem_of_getElem? (i := 14) rfl)) (hw _ (List.mem_of_getElem? (i := 15) rfl)) (own_nf hZ (hw _ (List.mem_of_getElem? (i := 17) rfl))) (hw _ (List.mem_of_getElem? (i := 17) rfl)) (hw _ (List.mem_of_getElem? (i := 16) rfl)) (by decide) (rm_eq l Z a0 hw [] b97 b105 (p0 &&& (2147483647 : Int32)) (p1 &&& (2147483647 : Int32)) (p2 &&& (2147483647 : Int32)) (p3 &&& (2147483647 : Int32)) T112.heap n0 z114 f198 f199 f200 f112_0 f112_1) (hw _ (List.mem_of_getElem? (i := 18) rfl)) (hw _ (List.mem_of_getElem? (i := 3) rfl)) rfl 0 (by decide) (by decide) (by decide) (by decide) f201 [(.ref b105)] [] rfl pd_4 rfl 102 rfl (by rw [hml]; rfl) rfl (hb hby at_99) rfl fun T197 v197 L197 X197 hQ197 => ?_
        obtain ⟨rfl, Nq197, e197⟩ := hQ197
        have N197 := Fr.app N112 Nq197
        show own_Go p e below s _ _ _ (T197.setTop (mkF m 102 _ [(.int (own_eq (p0 &&& (2147483647 : Int32)) (p1 &&& (2147483647 : Int32)) (p2 &&& (2147483647 : Int32)) (p3 &&& (2147483647 : Int32))))]))
        refine g_iload X197 hx 104 (hb hby at_102) rfl rfl ?_
        have c202 : (own_eq (p0 &&& (2147483647 : Int32)) (p1 &&& (2147483647 : Int32)) (p2 &&& (2147483647 : Int32)) (p3 &&& (2147483647 : Int32))) = (0 : Int32) := by simp [own_eq, c95, c96, c115, (Ne.symm c115)]
        refine g_icmpYes X197 hx 109 (hb hby at_104) (own_ii_eq_t c202) (by decide) (by decide) ?_
        refine g_aload X197 hx 111 (hb hby at_109) rfl rfl rfl ?_
        refine g_aload X197 hx 113 (hb hby at_111) rfl rfl rfl ?_
        refine own_callV X197 hx hZ hown (hw _ (List.mem_of_getElem? (i := 14) rfl)) (hw _ (List.mem_of_getElem? (i := 15) rfl)) (own_nf hZ (hw _ (List.mem_of_getElem? (i := 17) rfl))) (hw _ (List.mem_of_getElem? (i := 17) rfl)) (hw _ (List.mem_of_getElem? (i := 16) rfl)) (by decide) (rm_eq l Z a0 hw [] b105 b97 (p2 &&& (2147483647 : Int32)) (p3 &&& (2147483647 : Int32)) (p0 &&& (2147483647 : Int32)) (p1 &&& (2147483647 : Int32)) T112.heap n0 z114 f201 f112_0 f112_1 f199 f200) (hw _ (List.mem_of_getElem? (i := 18) rfl)) (hw _ (List.mem_of_getElem? (i := 3) rfl)) e197 0 (by decide) (by decide) (by decide) (by decide) f198 [(.ref b97)] [] rfl pd_4 rfl 116 rfl (by rw [hml]; rfl) rfl (hb hby at_113) rfl fun T203 v203 L203 X203 hQ203 => ?_
        obtain ⟨rfl, Nq203, e203⟩ := hQ203
        have N203 := Fr.app N197 Nq203
        show own_Go p e below s _ _ _ (T203.setTop (mkF m 116 _ [(.int (own_eq (p2 &&& (2147483647 : Int32)) (p3 &&& (2147483647 : Int32)) (p0 &&& (2147483647 : Int32)) (p1 &&& (2147483647 : Int32))))]))
        refine g_iload X203 hx 118 (hb hby at_116) rfl rfl ?_
        have c204 : (own_eq (p2 &&& (2147483647 : Int32)) (p3 &&& (2147483647 : Int32)) (p0 &&& (2147483647 : Int32)) (p1 &&& (2147483647 : Int32))) = (0 : Int32) := by simp [own_eq, c95, c96, c115, (Ne.symm c115), c202]
        refine g_icmpYes X203 hx 123 (hb hby at_118) (own_ii_eq_t c204) (by decide) (by decide) ?_
        refine g_aload X203 hx 125 (hb hby at_123) rfl rfl rfl ?_
        refine g_aload X203 hx 127 (hb hby at_125) rfl rfl rfl ?_
        refine own_callV X203 hx hZ hown (hw _ (List.mem_of_getElem? (i := 14) rfl)) (hw _ (List.mem_of_getElem? (i := 15) rfl)) (own_nf hZ (hw _ (List.mem_of_getElem? (i := 17) rfl))) (hw _ (List.mem_of_getElem? (i := 17) rfl)) (hw _ (List.mem_of_getElem? (i := 16) rfl)) (by decide) (rm_eqself l Z a0 hw [] b97 (p0 &&& (2147483647 : Int32)) (p1 &&& (2147483647 : Int32)) T112.heap n0 z114 f201 f199 f200) (hw _ (List.mem_of_getElem? (i := 18) rfl)) (hw _ (List.mem_of_getElem? (i := 3) rfl)) e203 0 (by decide) (by decide) (by decide) (by decide) f201 [(.ref b97)] [] rfl pd_4 rfl 130 rfl (by rw [hml]; rfl) rfl (hb hby at_127) rfl fun T205 v205 L205 X205 hQ205 => ?_
        obtain ⟨rfl, Nq205, e205⟩ := hQ205
        have N205 := Fr.app N203 Nq205
        show own_Go p e below s _ _ _ (T205.setTop (mkF m 130 _ [(.int (1 : Int32))]))
        refine g_ifYes X205 hx 135 (hb hby at_130) (own_i0_ne_t (by decide)) (by decide) (by decide) ?_
        refine g_iload X205 hx 137 (hb hby at_135) rfl rfl ?_
        refine g_iconst X205 hx 138 (hb hby at_137) (2 : Int32) rfl rfl ?_
        refine g_iushr X205 hx 139 (hb hby at_138) rfl ?_
        refine g_iconst X205 hx 140 (hb hby at_139) (3 : Int32) rfl rfl ?_
        refine g_iand X205 hx 141 (hb hby at_140) rfl ?_
        refine g_istore X205 hx 143 (hb hby at_141) (l' := #[.val (.int p0), .val (.int p1), .val (.int p2), .val (.int p3), .val (.int p4), .val (.int (p0 &&& (2147483647 : Int32))), .val (.int (p1 &&& (2147483647 : Int32))), .val (.int (p2 &&& (2147483647 : Int32))), .val (.int (p3 &&& (2147483647 : Int32))), .val (.ref b97), .val (.ref b105), .val (.int (0 : Int32)), .val (.int (((p4.toUInt32 >>> ((2 : Int32) &&& 31).toUInt32).toInt32) &&& (3 : Int32))), .unset]) rfl rfl ?_
        refine g_iload X205 hx 145 (hb hby at_143) rfl rfl ?_
        by_cases c206 : (((p4.toUInt32 >>> ((2 : Int32) &&& 31).toUInt32).toInt32) &&& (3 : Int32)) = (0 : Int32)
        · refine g_ifNo X205 hx 148 (hb hby at_145) (own_i0_ne_f c206) rfl ?_
          refine g_aconst_null X205 hx 149 (hb hby at_148) rfl ?_
          refine g_astore X205 hx 151 (hb hby at_149) rfl (l' := #[.val (.int p0), .val (.int p1), .val (.int p2), .val (.int p3), .val (.int p4), .val (.int (p0 &&& (2147483647 : Int32))), .val (.int (p1 &&& (2147483647 : Int32))), .val (.int (p2 &&& (2147483647 : Int32))), .val (.int (p3 &&& (2147483647 : Int32))), .val (.ref b97), .val (.ref b105), .val (.int (0 : Int32)), .val (.int (((p4.toUInt32 >>> ((2 : Int32) &&& 31).toUInt32).toInt32) &&& (3 : Int32))), .val .null]) rfl rfl ?_
          refine g_goto X205 hx 196 (hb hby at_151) (by decide) (by decide) ?_
          refine g_aload X205 hx 198 (hb hby at_196) rfl rfl rfl ?_
          refine g_aload X205 hx 200 (hb hby at_198) rfl rfl rfl ?_
          refine own_callV X205 hx hZ hown (hw _ (List.mem_of_getElem? (i := 14) rfl)) (hw _ (List.mem_of_getElem? (i := 15) rfl)) (own_nf hZ (hw _ (List.mem_of_getElem? (i := 17) rfl))) (hw _ (List.mem_of_getElem? (i := 17) rfl)) (hw _ (List.mem_of_getElem? (i := 16) rfl)) (by decide) (rm_eqnull l Z a0 hw [] b97 T112.heap n0 z114 ) (hw _ (List.mem_of_getElem? (i := 18) rfl)) (hw _ (List.mem_of_getElem? (i := 3) rfl)) e205 0 (by decide) (by decide) (by decide) (by decide) f201 [.null] [] rfl pd_4 rfl 203 rfl (by rw [hml]; rfl) rfl (hb hby at_200) rfl fun T207 v207 L207 X207 hQ207 => ?_
          obtain ⟨rfl, Nq207, e207⟩ := hQ207
          have N207 := Fr.app N205 Nq207
          show own_Go p e below s _ _ _ (T207.setTop (mkF m 203 _ [(.int (0 : Int32))]))
          refine g_ifNo X207 hx 206 (hb hby at_203) (own_i0_ne_f (by decide)) rfl ?_
          refine g_iconst X207 hx 207 (hb hby at_206) (1 : Int32) rfl rfl ?_
          refine g_goto X207 hx 211 (hb hby at_207) (by decide) (by decide) ?_
          refine own_retN X207 hx hlk (t := .boolean) hret (by simp) (hb hby at_211) ?_ (by decide) (by decide)
          rw [e207]
          exact ⟨rfl, N207⟩
        · refine g_ifYes X205 hx 154 (hb hby at_145) (own_i0_ne_t c206) (by decide) (by decide) ?_
          refine g_iload X205 hx 156 (hb hby at_154) rfl rfl ?_
          refine g_iconst X205 hx 157 (hb hby at_156) (1 : Int32) rfl rfl ?_
          by_cases c208 : (((p4.toUInt32 >>> ((2 : Int32) &&& 31).toUInt32).toInt32) &&& (3 : Int32)) = (1 : Int32)
          · refine g_icmpNo X205 hx 160 (hb hby at_157) (own_ii_ne_f c208) rfl ?_
            refine g_iload X205 hx 162 (hb hby at_160) rfl rfl ?_
            have f210 : Sta Z T112.heap "java/lang/Integer$IntegerCache" "high" "I" (.int (127 : Int32)) := (own_Sta_keep K113 S_high all0)
            have f211 : Sta Z T112.heap "java/lang/Integer$IntegerCache" "cache" "[Ljava/lang/Integer;" (.ref caI) := (own_Sta_keep K113 S_cI all0)
            refine own_callS X205 hx hZ hown (hw _ (List.mem_of_getElem? (i := 21) rfl)) (hw _ (List.mem_of_getElem? (i := 22) rfl)) (by decide) (rm_voI l Z a0 hw [] (p0 &&& (2147483647 : Int32)) caI clI vfI T112.heap n0 z114 f210 f211 B_I (Kz.trans K113 all0)) (hw _ (List.mem_of_getElem? (i := 24) rfl)) (hw _ (List.mem_of_getElem? (i := 23) rfl)) e205 0 (by decide) (by decide) (by decide) (by decide) [(.int (p0 &&& (2147483647 : Int32)))] [] rfl pd_5 rfl 165 rfl (by rw [hml]; rfl) rfl (hb hby at_162) rfl fun T209 v209 L209 X209 hQ209 => ?_
            obtain ⟨r209, rfl, Nq209, Kq209, Er209⟩ := hQ209
            have N209 := Fr.app N205 Nq209
            have K212 : Keep h0 T209.heap [] := K113.trans Kq209 all0
            have z213 : n0 ≤ T209.heap.size := (Nat.le_trans z114 Kq209.1)
            show own_Go p e below s _ _ _ (T209.setTop (mkF m 165 _ [(.ref r209)]))
            refine g_astore X209 hx 167 (hb hby at_165) rfl (l' := #[.val (.int p0), .val (.int p1), .val (.int p2), .val (.int p3), .val (.int p4), .val (.int (p0 &&& (2147483647 : Int32))), .val (.int (p1 &&& (2147483647 : Int32))), .val (.int (p2 &&& (2147483647 : Int32))), .val (.int (p3 &&& (2147483647 : Int32))), .val (.ref b97), .val (.ref b105), .val (.int (0 : Int32)), .val (.int (((p4.toUInt32 >>> ((2 : Int32) &&& 31).toUInt32).toInt32) &&& (3 : Int32))), .val (.ref r209)]) rfl rfl ?_
            refine g_goto X209 hx 196 (hb hby at_167) (by decide) (by decide) ?_
            refine g_aload X209 hx 198 (hb hby at_196) rfl rfl rfl ?_
            refine g_aload X209 hx 200 (hb hby at_198) rfl rfl rfl ?_
            have f215 : Exa Z T209.heap b97 "com/example/statement_mapper/statementmapper/service/RowBounds" := (f201.keep Kq209)
            refine own_callV X209 hx hZ hown (hw _ (List.mem_of_getElem? (i := 14) rfl)) (hw _ (List.mem_of_getElem? (i := 15) rfl)) (own_nf hZ (hw _ (List.mem_of_getElem? (i := 17) rfl))) (hw _ (List.mem_of_getElem? (i := 17) rfl)) (hw _ (List.mem_of_getElem? (i := 16) rfl)) (by decide) (rm_eqno0 l Z a0 hw [] b97 r209 T209.heap n0 z213 Er209) (hw _ (List.mem_of_getElem? (i := 18) rfl)) (hw _ (List.mem_of_getElem? (i := 3) rfl)) rfl 0 (by decide) (by decide) (by decide) (by decide) f215 [(.ref r209)] [] rfl pd_4 rfl 203 rfl (by rw [hml]; rfl) rfl (hb hby at_200) rfl fun T214 v214 L214 X214 hQ214 => ?_
            obtain ⟨rfl, Nq214, e214⟩ := hQ214
            have N214 := Fr.app N209 Nq214
            show own_Go p e below s _ _ _ (T214.setTop (mkF m 203 _ [(.int (0 : Int32))]))
            refine g_ifNo X214 hx 206 (hb hby at_203) (own_i0_ne_f (by decide)) rfl ?_
            refine g_iconst X214 hx 207 (hb hby at_206) (1 : Int32) rfl rfl ?_
            refine g_goto X214 hx 211 (hb hby at_207) (by decide) (by decide) ?_
            refine own_retN X214 hx hlk (t := .boolean) hret (by simp) (hb hby at_211) ?_ (by decide) (by decide)
            rw [e214]
            exact ⟨rfl, N214⟩
          · refine g_icmpYes X205 hx 170 (hb hby at_157) (own_ii_ne_t c208) (by decide) (by decide) ?_
            refine g_iload X205 hx 172 (hb hby at_170) rfl rfl ?_
            refine g_iconst X205 hx 173 (hb hby at_172) (2 : Int32) rfl rfl ?_
            by_cases c216 : (((p4.toUInt32 >>> ((2 : Int32) &&& 31).toUInt32).toInt32) &&& (3 : Int32)) = (2 : Int32)
            · refine g_icmpNo X205 hx 176 (hb hby at_173) (own_ii_ne_f c216) rfl ?_
              refine g_iload X205 hx 178 (hb hby at_176) rfl rfl ?_
              refine g_i2l X205 hx 179 (hb hby at_178) rfl ?_
              have f218 : Sta Z T112.heap "java/lang/Long$LongCache" "cache" "[Ljava/lang/Long;" (.ref caJ) := (own_Sta_keep K113 S_cJ all0)
              refine own_callS X205 hx hZ hown (hw _ (List.mem_of_getElem? (i := 31) rfl)) (hw _ (List.mem_of_getElem? (i := 32) rfl)) (by decide) (rm_voJ l Z a0 hw [] ((p1 &&& (2147483647 : Int32)).toInt64) caJ clJ vfJ T112.heap n0 z114 f218 B_J (Kz.trans K113 all0)) (hw _ (List.mem_of_getElem? (i := 34) rfl)) (hw _ (List.mem_of_getElem? (i := 33) rfl)) e205 0 (by decide) (by decide) (by decide) (by decide) [(.long ((p1 &&& (2147483647 : Int32)).toInt64))] [] rfl pd_6 rfl 182 rfl (by rw [hml]; rfl) rfl (hb hby at_179) rfl fun T217 v217 L217 X217 hQ217 => ?_
              obtain ⟨r217, rfl, Nq217, Kq217, Er217⟩ := hQ217
              have N217 := Fr.app N205 Nq217
              have K219 : Keep h0 T217.heap [] := K113.trans Kq217 all0
              have z220 : n0 ≤ T217.heap.size := (Nat.le_trans z114 Kq217.1)
              show own_Go p e below s _ _ _ (T217.setTop (mkF m 182 _ [(.ref r217)]))
              refine g_astore X217 hx 184 (hb hby at_182) rfl (l' := #[.val (.int p0), .val (.int p1), .val (.int p2), .val (.int p3), .val (.int p4), .val (.int (p0 &&& (2147483647 : Int32))), .val (.int (p1 &&& (2147483647 : Int32))), .val (.int (p2 &&& (2147483647 : Int32))), .val (.int (p3 &&& (2147483647 : Int32))), .val (.ref b97), .val (.ref b105), .val (.int (0 : Int32)), .val (.int (((p4.toUInt32 >>> ((2 : Int32) &&& 31).toUInt32).toInt32) &&& (3 : Int32))), .val (.ref r217)]) rfl rfl ?_
              refine g_goto X217 hx 196 (hb hby at_184) (by decide) (by decide) ?_
              refine g_aload X217 hx 198 (hb hby at_196) rfl rfl rfl ?_
              refine g_aload X217 hx 200 (hb hby at_198) rfl rfl rfl ?_
              have f222 : Exa Z T217.heap b97 "com/example/statement_mapper/statementmapper/service/RowBounds" := (f201.keep Kq217)
              refine own_callV X217 hx hZ hown (hw _ (List.mem_of_getElem? (i := 14) rfl)) (hw _ (List.mem_of_getElem? (i := 15) rfl)) (own_nf hZ (hw _ (List.mem_of_getElem? (i := 17) rfl))) (hw _ (List.mem_of_getElem? (i := 17) rfl)) (hw _ (List.mem_of_getElem? (i := 16) rfl)) (by decide) (rm_eqno1 l Z a0 hw [] b97 r217 T217.heap n0 z220 Er217) (hw _ (List.mem_of_getElem? (i := 18) rfl)) (hw _ (List.mem_of_getElem? (i := 3) rfl)) rfl 0 (by decide) (by decide) (by decide) (by decide) f222 [(.ref r217)] [] rfl pd_4 rfl 203 rfl (by rw [hml]; rfl) rfl (hb hby at_200) rfl fun T221 v221 L221 X221 hQ221 => ?_
              obtain ⟨rfl, Nq221, e221⟩ := hQ221
              have N221 := Fr.app N217 Nq221
              show own_Go p e below s _ _ _ (T221.setTop (mkF m 203 _ [(.int (0 : Int32))]))
              refine g_ifNo X221 hx 206 (hb hby at_203) (own_i0_ne_f (by decide)) rfl ?_
              refine g_iconst X221 hx 207 (hb hby at_206) (1 : Int32) rfl rfl ?_
              refine g_goto X221 hx 211 (hb hby at_207) (by decide) (by decide) ?_
              refine own_retN X221 hx hlk (t := .boolean) hret (by simp) (hb hby at_211) ?_ (by decide) (by decide)
              rw [e221]
              exact ⟨rfl, N221⟩
            · refine g_icmpYes X205 hx 187 (hb hby at_173) (own_ii_ne_t c216) (by decide) (by decide) ?_
              refine own_newO X205 hx hZ hown (hw _ (List.mem_of_getElem? (i := 53) rfl)) (hw _ (List.mem_of_getElem? (i := 54) rfl)) (hw _ (List.mem_of_getElem? (i := 55) rfl)) e205 190 (hb hby at_187) rfl (by decide) (by decide) fun T223 h223 b223 X223 e223 g223 E223 A223 D223 => ?_
              have ne224 : b97 ≠ b223 := Nat.ne_of_lt (Nat.lt_of_lt_of_le f201.lt (Nat.le_of_eq g223.symm))
              have ne225 : b105 ≠ b223 := Nat.ne_of_lt (Nat.lt_of_lt_of_le f198.lt (Nat.le_of_eq g223.symm))
              have g_b223 : n0 ≤ b223 := Nat.le_trans z114 (Nat.le_of_eq g223.symm)
              have sz_b223 : h0.size ≤ b223 := Nat.le_trans K113.1 (Nat.le_of_eq g223.symm)
              have K226 : Keep h0 h223 [] := K113.ext E223
              have z227 : n0 ≤ h223.size := (Nat.le_trans z114 E223.1)
              have f228 : Fld Z h223 b223 "java/util/AbstractList" "modCount" "I" (.int (0 : Int32)) := D223 (Or.inl (hw _ (List.mem_of_getElem? (i := 73) rfl))) (ty := .int) (by decide)
              have f229 : Fld Z h223 b223 "java/util/ArrayList" "elementData" "[Ljava/lang/Object;" .null := D223 (Or.inl (hw _ (List.mem_of_getElem? (i := 76) rfl))) (ty := (.array (.object "java/lang/Object"))) (by decide)
              refine g_dup X223 hx 191 (hb hby at_190) rfl rfl ?_
              have f231 : Sta Z h223 "java/util/ArrayList" "DEFAULTCAPACITY_EMPTY_ELEMENTDATA" "[Ljava/lang/Object;" (.ref dd) := (own_Sta_keep K226 S_dd all0)
              refine own_callI X223 hx hZ hown rfl (hw _ (List.mem_of_getElem? (i := 56) rfl)) (hw _ (List.mem_of_getElem? (i := 57) rfl)) (by decide) (rm_arlist l Z a0 hw [] b223 dd h223 n0 z227 A223 f228 f229 f231 g_b223) (hw _ (List.mem_of_getElem? (i := 58) rfl)) (hw _ (List.mem_of_getElem? (i := 55) rfl)) e223 1 (by decide) (by decide) (by decide) (by decide) b223 [] [(.ref b223)] rfl pd_0 rfl 194 rfl (by rw [hml]; rfl) rfl (hb hby at_191) rfl fun T230 v230 L230 X230 hQ230 => ?_
              obtain ⟨rfl, Nq230, Kq230, f230_0, f230_1⟩ := hQ230
              have N230 := Fr.app N205 Nq230
              have K232 : Keep h0 T230.heap [] := K226.trans Kq230 (allS (Or.inr sz_b223) all0)
              have z233 : n0 ≤ T230.heap.size := (Nat.le_trans z227 Kq230.1)
              show own_Go p e below s _ _ _ (T230.setTop (mkF m 194 _ [(.ref b223)]))
              refine g_astore X230 hx 196 (hb hby at_194) rfl (l' := #[.val (.int p0), .val (.int p1), .val (.int p2), .val (.int p3), .val (.int p4), .val (.int (p0 &&& (2147483647 : Int32))), .val (.int (p1 &&& (2147483647 : Int32))), .val (.int (p2 &&& (2147483647 : Int32))), .val (.int (p3 &&& (2147483647 : Int32))), .val (.ref b97), .val (.ref b105), .val (.int (0 : Int32)), .val (.int (((p4.toUInt32 >>> ((2 : Int32) &&& 31).toUInt32).toInt32) &&& (3 : Int32))), .val (.ref b223)]) rfl rfl ?_
              refine g_aload X230 hx 198 (hb hby at_196) rfl rfl rfl ?_
              refine g_aload X230 hx 200 (hb hby at_198) rfl rfl rfl ?_
              have f235 : Exa Z T230.heap b223 "java/util/ArrayList" := (A223.keep Kq230)
              have f236 : Exa Z T230.heap b97 "com/example/statement_mapper/statementmapper/service/RowBounds" := ((Exa.ext E223 f201).keep Kq230)
              refine own_callV X230 hx hZ hown (hw _ (List.mem_of_getElem? (i := 14) rfl)) (hw _ (List.mem_of_getElem? (i := 15) rfl)) (own_nf hZ (hw _ (List.mem_of_getElem? (i := 17) rfl))) (hw _ (List.mem_of_getElem? (i := 17) rfl)) (hw _ (List.mem_of_getElem? (i := 16) rfl)) (by decide) (rm_eqno2 l Z a0 hw [] b97 b223 T230.heap n0 z233 f235) (hw _ (List.mem_of_getElem? (i := 18) rfl)) (hw _ (List.mem_of_getElem? (i := 3) rfl)) rfl 0 (by decide) (by decide) (by decide) (by decide) f236 [(.ref b223)] [] rfl pd_4 rfl 203 rfl (by rw [hml]; rfl) rfl (hb hby at_200) rfl fun T234 v234 L234 X234 hQ234 => ?_
              obtain ⟨rfl, Nq234, e234⟩ := hQ234
              have N234 := Fr.app N230 Nq234
              show own_Go p e below s _ _ _ (T234.setTop (mkF m 203 _ [(.int (0 : Int32))]))
              refine g_ifNo X234 hx 206 (hb hby at_203) (own_i0_ne_f (by decide)) rfl ?_
              refine g_iconst X234 hx 207 (hb hby at_206) (1 : Int32) rfl rfl ?_
              refine g_goto X234 hx 211 (hb hby at_207) (by decide) (by decide) ?_
              refine own_retN X234 hx hlk (t := .boolean) hret (by simp) (hb hby at_211) ?_ (by decide) (by decide)
              rw [e234]
              exact ⟨rfl, N234⟩
    · refine g_ifNo X0 hx 37 (hb hby at_34) (own_i0_eq_f c96) rfl ?_
      refine g_iload X0 hx 39 (hb hby at_37) rfl rfl ?_
      refine g_goto X0 hx 46 (hb hby at_39) (by decide) (by decide) ?_
      refine g_istore X0 hx 48 (hb hby at_46) (l' := #[.val (.int p0), .val (.int p1), .val (.int p2), .val (.int p3), .val (.int p4), .val (.int (p0 &&& (2147483647 : Int32))), .val (.int (p1 &&& (2147483647 : Int32))), .val (.int (p2 &&& (2147483647 : Int32))), .val (.int (p1 &&& (2147483647 : Int32))), .unset, .unset, .unset, .unset, .unset]) rfl rfl ?_
      refine own_newO X0 hx hZ hown (hw _ (List.mem_of_getElem? (i := 1) rfl)) (hw _ (List.mem_of_getElem? (i := 2) rfl)) (hw _ (List.mem_of_getElem? (i := 3) rfl)) e0 51 (hb hby at_48) rfl (by decide) (by decide) fun T237 h237 b237 X237 e237 g237 E237 A237 D237 => ?_
      have g_b237 : n0 ≤ b237 := Nat.le_trans Z0 (Nat.le_of_eq g237.symm)
      have sz_b237 : h0.size ≤ b237 := Nat.le_trans (Keep.refl h0 []).1 (Nat.le_of_eq g237.symm)
      have K238 : Keep h0 h237 [] := (Keep.refl h0 []).ext E237
      have z239 : n0 ≤ h237.size := (Nat.le_trans Z0 E237.1)
      have f240 : Fld Z h237 b237 "com/example/statement_mapper/statementmapper/service/RowBounds" "offset" "I" (.int (0 : Int32)) := D237 (Or.inr (hw _ (List.mem_of_getElem? (i := 11) rfl))) (ty := .int) (by decide)
      have f241 : Fld Z h237 b237 "com/example/statement_mapper/statementmapper/service/RowBounds" "limit" "I" (.int (0 : Int32)) := D237 (Or.inr (hw _ (List.mem_of_getElem? (i := 13) rfl))) (ty := .int) (by decide)
      refine g_dup X237 hx 52 (hb hby at_51) rfl rfl ?_
      refine g_iload X237 hx 54 (hb hby at_52) rfl rfl ?_
      refine g_iload X237 hx 56 (hb hby at_54) rfl rfl ?_
      refine own_callI X237 hx hZ hown rfl (hw _ (List.mem_of_getElem? (i := 4) rfl)) (hw _ (List.mem_of_getElem? (i := 5) rfl)) (by decide) (rm_init l Z a0 hw [] b237 (p0 &&& (2147483647 : Int32)) (p1 &&& (2147483647 : Int32)) h237 n0 z239 A237 f240 f241 g_b237 (own_pos _) (own_pos _)) (hw _ (List.mem_of_getElem? (i := 6) rfl)) (hw _ (List.mem_of_getElem? (i := 3) rfl)) e237 1 (by decide) (by decide) (by decide) (by decide) b237 [(.int (p0 &&& (2147483647 : Int32))), (.int (p1 &&& (2147483647 : Int32)))] [(.ref b237)] rfl pd_3 rfl 59 rfl (by rw [hml]; rfl) rfl (hb hby at_56) rfl fun T242 v242 L242 X242 hQ242 => ?_
      obtain ⟨rfl, Nq242, Kq242, f242_0, f242_1⟩ := hQ242
      have N242 := Fr.app N0 Nq242
      have K243 : Keep h0 T242.heap [] := K238.trans Kq242 (allS (Or.inr sz_b237) all0)
      have z244 : n0 ≤ T242.heap.size := (Nat.le_trans z239 Kq242.1)
      show own_Go p e below s _ _ _ (T242.setTop (mkF m 59 _ [(.ref b237)]))
      refine g_astore X242 hx 61 (hb hby at_59) rfl (l' := #[.val (.int p0), .val (.int p1), .val (.int p2), .val (.int p3), .val (.int p4), .val (.int (p0 &&& (2147483647 : Int32))), .val (.int (p1 &&& (2147483647 : Int32))), .val (.int (p2 &&& (2147483647 : Int32))), .val (.int (p1 &&& (2147483647 : Int32))), .val (.ref b237), .unset, .unset, .unset, .unset]) rfl rfl ?_
      refine own_newO X242 hx hZ hown (hw _ (List.mem_of_getElem? (i := 1) rfl)) (hw _ (List.mem_of_getElem? (i := 2) rfl)) (hw _ (List.mem_of_getElem? (i := 3) rfl)) rfl 64 (hb hby at_61) rfl (by decide) (by decide) fun T245 h245 b245 X245 e245 g245 E245 A245 D245 => ?_
      have f246 : Exa Z T242.heap b237 "com/example/statement_mapper/statementmapper/service/RowBounds" := (A237.keep Kq242)
      have ne247 : b237 ≠ b245 := Nat.ne_of_lt (Nat.lt_of_lt_of_le f246.lt (Nat.le_of_eq g245.symm))
      have g_b245 : n0 ≤ b245 := Nat.le_trans z244 (Nat.le_of_eq g245.symm)
      have sz_b245 : h0.size ≤ b245 := Nat.le_trans K243.1 (Nat.le_of_eq g245.symm)
      have K248 : Keep h0 h245 [] := K243.ext E245
      have z249 : n0 ≤ h245.size := (Nat.le_trans z244 E245.1)
      have f250 : Fld Z h245 b245 "com/example/statement_mapper/statementmapper/service/RowBounds" "offset" "I" (.int (0 : Int32)) := D245 (Or.inr (hw _ (List.mem_of_getElem? (i := 11) rfl))) (ty := .int) (by decide)
      have f251 : Fld Z h245 b245 "com/example/statement_mapper/statementmapper/service/RowBounds" "limit" "I" (.int (0 : Int32)) := D245 (Or.inr (hw _ (List.mem_of_getElem? (i := 13) rfl))) (ty := .int) (by decide)
      refine g_dup X245 hx 65 (hb hby at_64) rfl rfl ?_
      refine g_iload X245 hx 67 (hb hby at_65) rfl rfl ?_
      refine g_iload X245 hx 69 (hb hby at_67) rfl rfl ?_
      refine own_callI X245 hx hZ hown rfl (hw _ (List.mem_of_getElem? (i := 4) rfl)) (hw _ (List.mem_of_getElem? (i := 5) rfl)) (by decide) (rm_init l Z a0 hw [] b245 (p2 &&& (2147483647 : Int32)) (p1 &&& (2147483647 : Int32)) h245 n0 z249 A245 f250 f251 g_b245 (own_pos _) (own_pos _)) (hw _ (List.mem_of_getElem? (i := 6) rfl)) (hw _ (List.mem_of_getElem? (i := 3) rfl)) e245 1 (by decide) (by decide) (by decide) (by decide) b245 [(.int (p2 &&& (2147483647 : Int32))), (.int (p1 &&& (2147483647 : Int32)))] [(.ref b245)] rfl pd_3 rfl 72 rfl (by rw [hml]; rfl) rfl (hb hby at_69) rfl fun T252 v252 L252 X252 hQ252 => ?_
      obtain ⟨rfl, Nq252, Kq252, f252_0, f252_1⟩ := hQ252
      have N252 := Fr.app N242 Nq252
      have K253 : Keep h0 T252.heap [] := K248.trans Kq252 (allS (Or.inr sz_b245) all0)
      have z254 : n0 ≤ T252.heap.size := (Nat.le_trans z249 Kq252.1)
      show own_Go p e below s _ _ _ (T252.setTop (mkF m 72 _ [(.ref b245)]))
      refine g_astore X252 hx 74 (hb hby at_72) rfl (l' := #[.val (.int p0), .val (.int p1), .val (.int p2), .val (.int p3), .val (.int p4), .val (.int (p0 &&& (2147483647 : Int32))), .val (.int (p1 &&& (2147483647 : Int32))), .val (.int (p2 &&& (2147483647 : Int32))), .val (.int (p1 &&& (2147483647 : Int32))), .val (.ref b237), .val (.ref b245), .unset, .unset, .unset]) rfl rfl ?_
      refine g_iload X252 hx 76 (hb hby at_74) rfl rfl ?_
      refine g_iload X252 hx 78 (hb hby at_76) rfl rfl ?_
      by_cases c255 : (p0 &&& (2147483647 : Int32)) = (p2 &&& (2147483647 : Int32))
      · refine g_icmpNo X252 hx 81 (hb hby at_78) (own_ii_ne_f c255) rfl ?_
        refine g_iload X252 hx 83 (hb hby at_81) rfl rfl ?_
        refine g_iload X252 hx 85 (hb hby at_83) rfl rfl ?_
        refine g_icmpNo X252 hx 88 (hb hby at_85) (own_ii_ne_f rfl) rfl ?_
        refine g_iconst X252 hx 89 (hb hby at_88) (1 : Int32) rfl rfl ?_
        refine g_goto X252 hx 93 (hb hby at_89) (by decide) (by decide) ?_
        refine g_istore X252 hx 95 (hb hby at_93) (l' := #[.val (.int p0), .val (.int p1), .val (.int p2), .val (.int p3), .val (.int p4), .val (.int (p0 &&& (2147483647 : Int32))), .val (.int (p1 &&& (2147483647 : Int32))), .val (.int (p2 &&& (2147483647 : Int32))), .val (.int (p1 &&& (2147483647 : Int32))), .val (.ref b237), .val (.ref b245), .val (.int (1 : Int32)), .unset, .unset]) rfl rfl ?_
        refine g_aload X252 hx 97 (hb hby at_95) rfl rfl rfl ?_
        refine g_aload X252 hx 99 (hb hby at_97) rfl rfl rfl ?_
        have f257 : Exa Z T252.heap b245 "com/example/statement_mapper/statementmapper/service/RowBounds" := (A245.keep Kq252)
        have f258 : Fld Z T252.heap b237 "com/example/statement_mapper/statementmapper/service/RowBounds" "offset" "I" (.int (p0 &&& (2147483647 : Int32))) := ((Fld.ext E245 f242_0).keep Kq252 (ninS ne247 nin0))
        have f259 : Fld Z T252.heap b237 "com/example/statement_mapper/statementmapper/service/RowBounds" "limit" "I" (.int (p1 &&& (2147483647 : Int32))) := ((Fld.ext E245 f242_1).keep Kq252 (ninS ne247 nin0))
        have f260 : Exa Z T252.heap b237 "com/example/statement_mapper/statementmapper/service/RowBounds" := ((Exa.ext E245 f246).keep Kq252)
        refine own_callV X252 hx hZ hown (hw _ (List.mem_of_getElem? (i := 14) rfl)) (hw _ (List.mem_of_getElem? (i := 15) rfl)) (own_nf hZ (hw _ (List.mem_of_getElem? (i := 17) rfl))) (hw _ (List.mem_of_getElem? (i := 17) rfl)) (hw _ (List.mem_of_getElem? (i := 16) rfl)) (by decide) (rm_eq l Z a0 hw [] b237 b245 (p0 &&& (2147483647 : Int32)) (p1 &&& (2147483647 : Int32)) (p2 &&& (2147483647 : Int32)) (p1 &&& (2147483647 : Int32)) T252.heap n0 z254 f257 f258 f259 f252_0 f252_1) (hw _ (List.mem_of_getElem? (i := 18) rfl)) (hw _ (List.mem_of_getElem? (i := 3) rfl)) rfl 0 (by decide) (by decide) (by decide) (by decide) f260 [(.ref b245)] [] rfl pd_4 rfl 102 rfl (by rw [hml]; rfl) rfl (hb hby at_99) rfl fun T256 v256 L256 X256 hQ256 => ?_
        obtain ⟨rfl, Nq256, e256⟩ := hQ256
        have N256 := Fr.app N252 Nq256
        show own_Go p e below s _ _ _ (T256.setTop (mkF m 102 _ [(.int (own_eq (p0 &&& (2147483647 : Int32)) (p1 &&& (2147483647 : Int32)) (p2 &&& (2147483647 : Int32)) (p1 &&& (2147483647 : Int32))))]))
        refine g_iload X256 hx 104 (hb hby at_102) rfl rfl ?_
        have c261 : (own_eq (p0 &&& (2147483647 : Int32)) (p1 &&& (2147483647 : Int32)) (p2 &&& (2147483647 : Int32)) (p1 &&& (2147483647 : Int32))) = (1 : Int32) := by simp [own_eq, c95, c96, (Ne.symm c96), c255]
        refine g_icmpYes X256 hx 109 (hb hby at_104) (own_ii_eq_t c261) (by decide) (by decide) ?_
        refine g_aload X256 hx 111 (hb hby at_109) rfl rfl rfl ?_
        refine g_aload X256 hx 113 (hb hby at_111) rfl rfl rfl ?_
        refine own_callV X256 hx hZ hown (hw _ (List.mem_of_getElem? (i := 14) rfl)) (hw _ (List.mem_of_getElem? (i := 15) rfl)) (own_nf hZ (hw _ (List.mem_of_getElem? (i := 17) rfl))) (hw _ (List.mem_of_getElem? (i := 17) rfl)) (hw _ (List.mem_of_getElem? (i := 16) rfl)) (by decide) (rm_eq l Z a0 hw [] b245 b237 (p2 &&& (2147483647 : Int32)) (p1 &&& (2147483647 : Int32)) (p0 &&& (2147483647 : Int32)) (p1 &&& (2147483647 : Int32)) T252.heap n0 z254 f260 f252_0 f252_1 f258 f259) (hw _ (List.mem_of_getElem? (i := 18) rfl)) (hw _ (List.mem_of_getElem? (i := 3) rfl)) e256 0 (by decide) (by decide) (by decide) (by decide) f257 [(.ref b237)] [] rfl pd_4 rfl 116 rfl (by rw [hml]; rfl) rfl (hb hby at_113) rfl fun T262 v262 L262 X262 hQ262 => ?_
        obtain ⟨rfl, Nq262, e262⟩ := hQ262
        have N262 := Fr.app N256 Nq262
        show own_Go p e below s _ _ _ (T262.setTop (mkF m 116 _ [(.int (own_eq (p2 &&& (2147483647 : Int32)) (p1 &&& (2147483647 : Int32)) (p0 &&& (2147483647 : Int32)) (p1 &&& (2147483647 : Int32))))]))
        refine g_iload X262 hx 118 (hb hby at_116) rfl rfl ?_
        have c263 : (own_eq (p2 &&& (2147483647 : Int32)) (p1 &&& (2147483647 : Int32)) (p0 &&& (2147483647 : Int32)) (p1 &&& (2147483647 : Int32))) = (1 : Int32) := by simp [own_eq, c95, c96, (Ne.symm c96), c255, c261]
        refine g_icmpYes X262 hx 123 (hb hby at_118) (own_ii_eq_t c263) (by decide) (by decide) ?_
        refine g_aload X262 hx 125 (hb hby at_123) rfl rfl rfl ?_
        refine g_aload X262 hx 127 (hb hby at_125) rfl rfl rfl ?_
        refine own_callV X262 hx hZ hown (hw _ (List.mem_of_getElem? (i := 14) rfl)) (hw _ (List.mem_of_getElem? (i := 15) rfl)) (own_nf hZ (hw _ (List.mem_of_getElem? (i := 17) rfl))) (hw _ (List.mem_of_getElem? (i := 17) rfl)) (hw _ (List.mem_of_getElem? (i := 16) rfl)) (by decide) (rm_eqself l Z a0 hw [] b237 (p0 &&& (2147483647 : Int32)) (p1 &&& (2147483647 : Int32)) T252.heap n0 z254 f260 f258 f259) (hw _ (List.mem_of_getElem? (i := 18) rfl)) (hw _ (List.mem_of_getElem? (i := 3) rfl)) e262 0 (by decide) (by decide) (by decide) (by decide) f260 [(.ref b237)] [] rfl pd_4 rfl 130 rfl (by rw [hml]; rfl) rfl (hb hby at_127) rfl fun T264 v264 L264 X264 hQ264 => ?_
        obtain ⟨rfl, Nq264, e264⟩ := hQ264
        have N264 := Fr.app N262 Nq264
        show own_Go p e below s _ _ _ (T264.setTop (mkF m 130 _ [(.int (1 : Int32))]))
        refine g_ifYes X264 hx 135 (hb hby at_130) (own_i0_ne_t (by decide)) (by decide) (by decide) ?_
        refine g_iload X264 hx 137 (hb hby at_135) rfl rfl ?_
        refine g_iconst X264 hx 138 (hb hby at_137) (2 : Int32) rfl rfl ?_
        refine g_iushr X264 hx 139 (hb hby at_138) rfl ?_
        refine g_iconst X264 hx 140 (hb hby at_139) (3 : Int32) rfl rfl ?_
        refine g_iand X264 hx 141 (hb hby at_140) rfl ?_
        refine g_istore X264 hx 143 (hb hby at_141) (l' := #[.val (.int p0), .val (.int p1), .val (.int p2), .val (.int p3), .val (.int p4), .val (.int (p0 &&& (2147483647 : Int32))), .val (.int (p1 &&& (2147483647 : Int32))), .val (.int (p2 &&& (2147483647 : Int32))), .val (.int (p1 &&& (2147483647 : Int32))), .val (.ref b237), .val (.ref b245), .val (.int (1 : Int32)), .val (.int (((p4.toUInt32 >>> ((2 : Int32) &&& 31).toUInt32).toInt32) &&& (3 : Int32))), .unset]) rfl rfl ?_
        refine g_iload X264 hx 145 (hb hby at_143) rfl rfl ?_
        by_cases c265 : (((p4.toUInt32 >>> ((2 : Int32) &&& 31).toUInt32).toInt32) &&& (3 : Int32)) = (0 : Int32)
        · refine g_ifNo X264 hx 148 (hb hby at_145) (own_i0_ne_f c265) rfl ?_
          refine g_aconst_null X264 hx 149 (hb hby at_148) rfl ?_
          refine g_astore X264 hx 151 (hb hby at_149) rfl (l' := #[.val (.int p0), .val (.int p1), .val (.int p2), .val (.int p3), .val (.int p4), .val (.int (p0 &&& (2147483647 : Int32))), .val (.int (p1 &&& (2147483647 : Int32))), .val (.int (p2 &&& (2147483647 : Int32))), .val (.int (p1 &&& (2147483647 : Int32))), .val (.ref b237), .val (.ref b245), .val (.int (1 : Int32)), .val (.int (((p4.toUInt32 >>> ((2 : Int32) &&& 31).toUInt32).toInt32) &&& (3 : Int32))), .val .null]) rfl rfl ?_
          refine g_goto X264 hx 196 (hb hby at_151) (by decide) (by decide) ?_
          refine g_aload X264 hx 198 (hb hby at_196) rfl rfl rfl ?_
          refine g_aload X264 hx 200 (hb hby at_198) rfl rfl rfl ?_
          refine own_callV X264 hx hZ hown (hw _ (List.mem_of_getElem? (i := 14) rfl)) (hw _ (List.mem_of_getElem? (i := 15) rfl)) (own_nf hZ (hw _ (List.mem_of_getElem? (i := 17) rfl))) (hw _ (List.mem_of_getElem? (i := 17) rfl)) (hw _ (List.mem_of_getElem? (i := 16) rfl)) (by decide) (rm_eqnull l Z a0 hw [] b237 T252.heap n0 z254 ) (hw _ (List.mem_of_getElem? (i := 18) rfl)) (hw _ (List.mem_of_getElem? (i := 3) rfl)) e264 0 (by decide) (by decide) (by decide) (by decide) f260 [.null] [] rfl pd_4 rfl 203 rfl (by rw [hml]; rfl) rfl (hb hby at_200) rfl fun T266 v266 L266 X266 hQ266 => ?_
          obtain ⟨rfl, Nq266, e266⟩ := hQ266
          have N266 := Fr.app N264 Nq266
          show own_Go p e below s _ _ _ (T266.setTop (mkF m 203 _ [(.int (0 : Int32))]))
          refine g_ifNo X266 hx 206 (hb hby at_203) (own_i0_ne_f (by decide)) rfl ?_
          refine g_iconst X266 hx 207 (hb hby at_206) (1 : Int32) rfl rfl ?_
          refine g_goto X266 hx 211 (hb hby at_207) (by decide) (by decide) ?_
          refine own_retN X266 hx hlk (t := .boolean) hret (by simp) (hb hby at_211) ?_ (by decide) (by decide)
          rw [e266]
          exact ⟨rfl, N266⟩
        · refine g_ifYes X264 hx 154 (hb hby at_145) (own_i0_ne_t c265) (by decide) (by decide) ?_
          refine g_iload X264 hx 156 (hb hby at_154) rfl rfl ?_
          refine g_iconst X264 hx 157 (hb hby at_156) (1 : Int32) rfl rfl ?_
          by_cases c267 : (((p4.toUInt32 >>> ((2 : Int32) &&& 31).toUInt32).toInt32) &&& (3 : Int32)) = (1 : Int32)
          · refine g_icmpNo X264 hx 160 (hb hby at_157) (own_ii_ne_f c267) rfl ?_
            refine g_iload X264 hx 162 (hb hby at_160) rfl rfl ?_
            have f269 : Sta Z T252.heap "java/lang/Integer$IntegerCache" "high" "I" (.int (127 : Int32)) := (own_Sta_keep K253 S_high all0)
            have f270 : Sta Z T252.heap "java/lang/Integer$IntegerCache" "cache" "[Ljava/lang/Integer;" (.ref caI) := (own_Sta_keep K253 S_cI all0)
            refine own_callS X264 hx hZ hown (hw _ (List.mem_of_getElem? (i := 21) rfl)) (hw _ (List.mem_of_getElem? (i := 22) rfl)) (by decide) (rm_voI l Z a0 hw [] (p0 &&& (2147483647 : Int32)) caI clI vfI T252.heap n0 z254 f269 f270 B_I (Kz.trans K253 all0)) (hw _ (List.mem_of_getElem? (i := 24) rfl)) (hw _ (List.mem_of_getElem? (i := 23) rfl)) e264 0 (by decide) (by decide) (by decide) (by decide) [(.int (p0 &&& (2147483647 : Int32)))] [] rfl pd_5 rfl 165 rfl (by rw [hml]; rfl) rfl (hb hby at_162) rfl fun T268 v268 L268 X268 hQ268 => ?_
            obtain ⟨r268, rfl, Nq268, Kq268, Er268⟩ := hQ268
            have N268 := Fr.app N264 Nq268
            have K271 : Keep h0 T268.heap [] := K253.trans Kq268 all0
            have z272 : n0 ≤ T268.heap.size := (Nat.le_trans z254 Kq268.1)
            show own_Go p e below s _ _ _ (T268.setTop (mkF m 165 _ [(.ref r268)]))
            refine g_astore X268 hx 167 (hb hby at_165) rfl (l' := #[.val (.int p0), .val (.int p1), .val (.int p2), .val (.int p3), .val (.int p4), .val (.int (p0 &&& (2147483647 : Int32))), .val (.int (p1 &&& (2147483647 : Int32))), .val (.int (p2 &&& (2147483647 : Int32))), .val (.int (p1 &&& (2147483647 : Int32))), .val (.ref b237), .val (.ref b245), .val (.int (1 : Int32)), .val (.int (((p4.toUInt32 >>> ((2 : Int32) &&& 31).toUInt32).toInt32) &&& (3 : Int32))), .val (.ref r268)]) rfl rfl ?_
            refine g_goto X268 hx 196 (hb hby at_167) (by decide) (by decide) ?_
            refine g_aload X268 hx 198 (hb hby at_196) rfl rfl rfl ?_
            refine g_aload X268 hx 200 (hb hby at_198) rfl rfl rfl ?_
            have f274 : Exa Z T268.heap b237 "com/example/statement_mapper/statementmapper/service/RowBounds" := (f260.keep Kq268)
            refine own_callV X268 hx hZ hown (hw _ (List.mem_of_getElem? (i := 14) rfl)) (hw _ (List.mem_of_getElem? (i := 15) rfl)) (own_nf hZ (hw _ (List.mem_of_getElem? (i := 17) rfl))) (hw _ (List.mem_of_getElem? (i := 17) rfl)) (hw _ (List.mem_of_getElem? (i := 16) rfl)) (by decide) (rm_eqno0 l Z a0 hw [] b237 r268 T268.heap n0 z272 Er268) (hw _ (List.mem_of_getElem? (i := 18) rfl)) (hw _ (List.mem_of_getElem? (i := 3) rfl)) rfl 0 (by decide) (by decide) (by decide) (by decide) f274 [(.ref r268)] [] rfl pd_4 rfl 203 rfl (by rw [hml]; rfl) rfl (hb hby at_200) rfl fun T273 v273 L273 X273 hQ273 => ?_
            obtain ⟨rfl, Nq273, e273⟩ := hQ273
            have N273 := Fr.app N268 Nq273
            show own_Go p e below s _ _ _ (T273.setTop (mkF m 203 _ [(.int (0 : Int32))]))
            refine g_ifNo X273 hx 206 (hb hby at_203) (own_i0_ne_f (by decide)) rfl ?_
            refine g_iconst X273 hx 207 (hb hby at_206) (1 : Int32) rfl rfl ?_
            refine g_goto X273 hx 211 (hb hby at_207) (by decide) (by decide) ?_
            refine own_retN X273 hx hlk (t := .boolean) hret (by simp) (hb hby at_211) ?_ (by decide) (by decide)
            rw [e273]
            exact ⟨rfl, N273⟩
          · refine g_icmpYes X264 hx 170 (hb hby at_157) (own_ii_ne_t c267) (by decide) (by decide) ?_
            refine g_iload X264 hx 172 (hb hby at_170) rfl rfl ?_
            refine g_iconst X264 hx 173 (hb hby at_172) (2 : Int32) rfl rfl ?_
            by_cases c275 : (((p4.toUInt32 >>> ((2 : Int32) &&& 31).toUInt32).toInt32) &&& (3 : Int32)) = (2 : Int32)
            · refine g_icmpNo X264 hx 176 (hb hby at_173) (own_ii_ne_f c275) rfl ?_
              refine g_iload X264 hx 178 (hb hby at_176) rfl rfl ?_
              refine g_i2l X264 hx 179 (hb hby at_178) rfl ?_
              have f277 : Sta Z T252.heap "java/lang/Long$LongCache" "cache" "[Ljava/lang/Long;" (.ref caJ) := (own_Sta_keep K253 S_cJ all0)
              refine own_callS X264 hx hZ hown (hw _ (List.mem_of_getElem? (i := 31) rfl)) (hw _ (List.mem_of_getElem? (i := 32) rfl)) (by decide) (rm_voJ l Z a0 hw [] ((p1 &&& (2147483647 : Int32)).toInt64) caJ clJ vfJ T252.heap n0 z254 f277 B_J (Kz.trans K253 all0)) (hw _ (List.mem_of_getElem? (i := 34) rfl)) (hw _ (List.mem_of_getElem? (i := 33) rfl)) e264 0 (by decide) (by decide) (by decide) (by decide) [(.long ((p1 &&& (2147483647 : Int32)).toInt64))] [] rfl pd_6 rfl 182 rfl (by rw [hml]; rfl) rfl (hb hby at_179) rfl fun T276 v276 L276 X276 hQ276 => ?_
              obtain ⟨r276, rfl, Nq276, Kq276, Er276⟩ := hQ276
              have N276 := Fr.app N264 Nq276
              have K278 : Keep h0 T276.heap [] := K253.trans Kq276 all0
              have z279 : n0 ≤ T276.heap.size := (Nat.le_trans z254 Kq276.1)
              show own_Go p e below s _ _ _ (T276.setTop (mkF m 182 _ [(.ref r276)]))
              refine g_astore X276 hx 184 (hb hby at_182) rfl (l' := #[.val (.int p0), .val (.int p1), .val (.int p2), .val (.int p3), .val (.int p4), .val (.int (p0 &&& (2147483647 : Int32))), .val (.int (p1 &&& (2147483647 : Int32))), .val (.int (p2 &&& (2147483647 : Int32))), .val (.int (p1 &&& (2147483647 : Int32))), .val (.ref b237), .val (.ref b245), .val (.int (1 : Int32)), .val (.int (((p4.toUInt32 >>> ((2 : Int32) &&& 31).toUInt32).toInt32) &&& (3 : Int32))), .val (.ref r276)]) rfl rfl ?_
              refine g_goto X276 hx 196 (hb hby at_184) (by decide) (by decide) ?_
              refine g_aload X276 hx 198 (hb hby at_196) rfl rfl rfl ?_
              refine g_aload X276 hx 200 (hb hby at_198) rfl rfl rfl ?_
              have f281 : Exa Z T276.heap b237 "com/example/statement_mapper/statementmapper/service/RowBounds" := (f260.keep Kq276)
              refine own_callV X276 hx hZ hown (hw _ (List.mem_of_getElem? (i := 14) rfl)) (hw _ (List.mem_of_getElem? (i := 15) rfl)) (own_nf hZ (hw _ (List.mem_of_getElem? (i := 17) rfl))) (hw _ (List.mem_of_getElem? (i := 17) rfl)) (hw _ (List.mem_of_getElem? (i := 16) rfl)) (by decide) (rm_eqno1 l Z a0 hw [] b237 r276 T276.heap n0 z279 Er276) (hw _ (List.mem_of_getElem? (i := 18) rfl)) (hw _ (List.mem_of_getElem? (i := 3) rfl)) rfl 0 (by decide) (by decide) (by decide) (by decide) f281 [(.ref r276)] [] rfl pd_4 rfl 203 rfl (by rw [hml]; rfl) rfl (hb hby at_200) rfl fun T280 v280 L280 X280 hQ280 => ?_
              obtain ⟨rfl, Nq280, e280⟩ := hQ280
              have N280 := Fr.app N276 Nq280
              show own_Go p e below s _ _ _ (T280.setTop (mkF m 203 _ [(.int (0 : Int32))]))
              refine g_ifNo X280 hx 206 (hb hby at_203) (own_i0_ne_f (by decide)) rfl ?_
              refine g_iconst X280 hx 207 (hb hby at_206) (1 : Int32) rfl rfl ?_
              refine g_goto X280 hx 211 (hb hby at_207) (by decide) (by decide) ?_
              refine own_retN X280 hx hlk (t := .boolean) hret (by simp) (hb hby at_211) ?_ (by decide) (by decide)
              rw [e280]
              exact ⟨rfl, N280⟩
            · refine g_icmpYes X264 hx 187 (hb hby at_173) (own_ii_ne_t c275) (by decide) (by decide) ?_
              refine own_newO X264 hx hZ hown (hw _ (List.mem_of_getElem? (i := 53) rfl)) (hw _ (List.mem_of_getElem? (i := 54) rfl)) (hw _ (List.mem_of_getElem? (i := 55) rfl)) e264 190 (hb hby at_187) rfl (by decide) (by decide) fun T282 h282 b282 X282 e282 g282 E282 A282 D282 => ?_
              have ne283 : b237 ≠ b282 := Nat.ne_of_lt (Nat.lt_of_lt_of_le f260.lt (Nat.le_of_eq g282.symm))
              have ne284 : b245 ≠ b282 := Nat.ne_of_lt (Nat.lt_of_lt_of_le f257.lt (Nat.le_of_eq g282.symm))
              have g_b282 : n0 ≤ b282 := Nat.le_trans z254 (Nat.le_of_eq g282.symm)
              have sz_b282 : h0.size ≤ b282 := Nat.le_trans K253.1 (Nat.le_of_eq g282.symm)
              have K285 : Keep h0 h282 [] := K253.ext E282
              have z286 : n0 ≤ h282.size := (Nat.le_trans z254 E282.1)
              have f287 : Fld Z h282 b282 "java/util/AbstractList" "modCount" "I" (.int (0 : Int32)) := D282 (Or.inl (hw _ (List.mem_of_getElem? (i := 73) rfl))) (ty := .int) (by decide)
              have f288 : Fld Z h282 b282 "java/util/ArrayList" "elementData" "[Ljava/lang/Object;" .null := D282 (Or.inl (hw _ (List.mem_of_getElem? (i := 76) rfl))) (ty := (.array (.object "java/lang/Object"))) (by decide)
              refine g_dup X282 hx 191 (hb hby at_190) rfl rfl ?_
              have f290 : Sta Z h282 "java/util/ArrayList" "DEFAULTCAPACITY_EMPTY_ELEMENTDATA" "[Ljava/lang/Object;" (.ref dd) := (own_Sta_keep K285 S_dd all0)
              refine own_callI X282 hx hZ hown rfl (hw _ (List.mem_of_getElem? (i := 56) rfl)) (hw _ (List.mem_of_getElem? (i := 57) rfl)) (by decide) (rm_arlist l Z a0 hw [] b282 dd h282 n0 z286 A282 f287 f288 f290 g_b282) (hw _ (List.mem_of_getElem? (i := 58) rfl)) (hw _ (List.mem_of_getElem? (i := 55) rfl)) e282 1 (by decide) (by decide) (by decide) (by decide) b282 [] [(.ref b282)] rfl pd_0 rfl 194 rfl (by rw [hml]; rfl) rfl (hb hby at_191) rfl fun T289 v289 L289 X289 hQ289 => ?_
              obtain ⟨rfl, Nq289, Kq289, f289_0, f289_1⟩ := hQ289
              have N289 := Fr.app N264 Nq289
              have K291 : Keep h0 T289.heap [] := K285.trans Kq289 (allS (Or.inr sz_b282) all0)
              have z292 : n0 ≤ T289.heap.size := (Nat.le_trans z286 Kq289.1)
              show own_Go p e below s _ _ _ (T289.setTop (mkF m 194 _ [(.ref b282)]))
              refine g_astore X289 hx 196 (hb hby at_194) rfl (l' := #[.val (.int p0), .val (.int p1), .val (.int p2), .val (.int p3), .val (.int p4), .val (.int (p0 &&& (2147483647 : Int32))), .val (.int (p1 &&& (2147483647 : Int32))), .val (.int (p2 &&& (2147483647 : Int32))), .val (.int (p1 &&& (2147483647 : Int32))), .val (.ref b237), .val (.ref b245), .val (.int (1 : Int32)), .val (.int (((p4.toUInt32 >>> ((2 : Int32) &&& 31).toUInt32).toInt32) &&& (3 : Int32))), .val (.ref b282)]) rfl rfl ?_
              refine g_aload X289 hx 198 (hb hby at_196) rfl rfl rfl ?_
              refine g_aload X289 hx 200 (hb hby at_198) rfl rfl rfl ?_
              have f294 : Exa Z T289.heap b282 "java/util/ArrayList" := (A282.keep Kq289)
              have f295 : Exa Z T289.heap b237 "com/example/statement_mapper/statementmapper/service/RowBounds" := ((Exa.ext E282 f260).keep Kq289)
              refine own_callV X289 hx hZ hown (hw _ (List.mem_of_getElem? (i := 14) rfl)) (hw _ (List.mem_of_getElem? (i := 15) rfl)) (own_nf hZ (hw _ (List.mem_of_getElem? (i := 17) rfl))) (hw _ (List.mem_of_getElem? (i := 17) rfl)) (hw _ (List.mem_of_getElem? (i := 16) rfl)) (by decide) (rm_eqno2 l Z a0 hw [] b237 b282 T289.heap n0 z292 f294) (hw _ (List.mem_of_getElem? (i := 18) rfl)) (hw _ (List.mem_of_getElem? (i := 3) rfl)) rfl 0 (by decide) (by decide) (by decide) (by decide) f295 [(.ref b282)] [] rfl pd_4 rfl 203 rfl (by rw [hml]; rfl) rfl (hb hby at_200) rfl fun T293 v293 L293 X293 hQ293 => ?_
              obtain ⟨rfl, Nq293, e293⟩ := hQ293
              have N293 := Fr.app N289 Nq293
              show own_Go p e below s _ _ _ (T293.setTop (mkF m 203 _ [(.int (0 : Int32))]))
              refine g_ifNo X293 hx 206 (hb hby at_203) (own_i0_ne_f (by decide)) rfl ?_
              refine g_iconst X293 hx 207 (hb hby at_206) (1 : Int32) rfl rfl ?_
              refine g_goto X293 hx 211 (hb hby at_207) (by decide) (by decide) ?_
              refine own_retN X293 hx hlk (t := .boolean) hret (by simp) (hb hby at_211) ?_ (by decide) (by decide)
              rw [e293]
              exact ⟨rfl, N293⟩
      · refine g_icmpYes X252 hx 92 (hb hby at_78) (own_ii_ne_t c255) (by decide) (by decide) ?_
        refine g_iconst X252 hx 93 (hb hby at_92) (0 : Int32) rfl rfl ?_
        refine g_istore X252 hx 95 (hb hby at_93) (l' := #[.val (.int p0), .val (.int p1), .val (.int p2), .val (.int p3), .val (.int p4), .val (.int (p0 &&& (2147483647 : Int32))), .val (.int (p1 &&& (2147483647 : Int32))), .val (.int (p2 &&& (2147483647 : Int32))), .val (.int (p1 &&& (2147483647 : Int32))), .val (.ref b237), .val (.ref b245), .val (.int (0 : Int32)), .unset, .unset]) rfl rfl ?_
        refine g_aload X252 hx 97 (hb hby at_95) rfl rfl rfl ?_
        refine g_aload X252 hx 99 (hb hby at_97) rfl rfl rfl ?_
        have f297 : Exa Z T252.heap b245 "com/example/statement_mapper/statementmapper/service/RowBounds" := (A245.keep Kq252)
        have f298 : Fld Z T252.heap b237 "com/example/statement_mapper/statementmapper/service/RowBounds" "offset" "I" (.int (p0 &&& (2147483647 : Int32))) := ((Fld.ext E245 f242_0).keep Kq252 (ninS ne247 nin0))
        have f299 : Fld Z T252.heap b237 "com/example/statement_mapper/statementmapper/service/RowBounds" "limit" "I" (.int (p1 &&& (2147483647 : Int32))) := ((Fld.ext E245 f242_1).keep Kq252 (ninS ne247 nin0))
        have f300 : Exa Z T252.heap b237 "com/example/statement_mapper/statementmapper/service/RowBounds" := ((Exa.ext E245 f246).keep Kq252)
        refine own_callV X252 hx hZ hown (hw _ (List.mem_of_getElem? (i := 14) rfl)) (hw _ (List.mem_of_getElem? (i := 15) rfl)) (own_nf hZ (hw _ (List.mem_of_getElem? (i := 17) rfl))) (hw _ (List.mem_of_getElem? (i := 17) rfl)) (hw _ (List.mem_of_getElem? (i := 16) rfl)) (by decide) (rm_eq l Z a0 hw [] b237 b245 (p0 &&& (2147483647 : Int32)) (p1 &&& (2147483647 : Int32)) (p2 &&& (2147483647 : Int32)) (p1 &&& (2147483647 : Int32)) T252.heap n0 z254 f297 f298 f299 f252_0 f252_1) (hw _ (List.mem_of_getElem? (i := 18) rfl)) (hw _ (List.mem_of_getElem? (i := 3) rfl)) rfl 0 (by decide) (by decide) (by decide) (by decide) f300 [(.ref b245)] [] rfl pd_4 rfl 102 rfl (by rw [hml]; rfl) rfl (hb hby at_99) rfl fun T296 v296 L296 X296 hQ296 => ?_
        obtain ⟨rfl, Nq296, e296⟩ := hQ296
        have N296 := Fr.app N252 Nq296
        show own_Go p e below s _ _ _ (T296.setTop (mkF m 102 _ [(.int (own_eq (p0 &&& (2147483647 : Int32)) (p1 &&& (2147483647 : Int32)) (p2 &&& (2147483647 : Int32)) (p1 &&& (2147483647 : Int32))))]))
        refine g_iload X296 hx 104 (hb hby at_102) rfl rfl ?_
        have c301 : (own_eq (p0 &&& (2147483647 : Int32)) (p1 &&& (2147483647 : Int32)) (p2 &&& (2147483647 : Int32)) (p1 &&& (2147483647 : Int32))) = (0 : Int32) := by simp [own_eq, c95, c96, (Ne.symm c96), c255, (Ne.symm c255)]
        refine g_icmpYes X296 hx 109 (hb hby at_104) (own_ii_eq_t c301) (by decide) (by decide) ?_
        refine g_aload X296 hx 111 (hb hby at_109) rfl rfl rfl ?_
        refine g_aload X296 hx 113 (hb hby at_111) rfl rfl rfl ?_
        refine own_callV X296 hx hZ hown (hw _ (List.mem_of_getElem? (i := 14) rfl)) (hw _ (List.mem_of_getElem? (i := 15) rfl)) (own_nf hZ (hw _ (List.mem_of_getElem? (i := 17) rfl))) (hw _ (List.mem_of_getElem? (i := 17) rfl)) (hw _ (List.mem_of_getElem? (i := 16) rfl)) (by decide) (rm_eq l Z a0 hw [] b245 b237 (p2 &&& (2147483647 : Int32)) (p1 &&& (2147483647 : Int32)) (p0 &&& (2147483647 : Int32)) (p1 &&& (2147483647 : Int32)) T252.heap n0 z254 f300 f252_0 f252_1 f298 f299) (hw _ (List.mem_of_getElem? (i := 18) rfl)) (hw _ (List.mem_of_getElem? (i := 3) rfl)) e296 0 (by decide) (by decide) (by decide) (by decide) f297 [(.ref b237)] [] rfl pd_4 rfl 116 rfl (by rw [hml]; rfl) rfl (hb hby at_113) rfl fun T302 v302 L302 X302 hQ302 => ?_
        obtain ⟨rfl, Nq302, e302⟩ := hQ302
        have N302 := Fr.app N296 Nq302
        show own_Go p e below s _ _ _ (T302.setTop (mkF m 116 _ [(.int (own_eq (p2 &&& (2147483647 : Int32)) (p1 &&& (2147483647 : Int32)) (p0 &&& (2147483647 : Int32)) (p1 &&& (2147483647 : Int32))))]))
        refine g_iload X302 hx 118 (hb hby at_116) rfl rfl ?_
        have c303 : (own_eq (p2 &&& (2147483647 : Int32)) (p1 &&& (2147483647 : Int32)) (p0 &&& (2147483647 : Int32)) (p1 &&& (2147483647 : Int32))) = (0 : Int32) := by simp [own_eq, c95, c96, (Ne.symm c96), c255, (Ne.symm c255), c301]
        refine g_icmpYes X302 hx 123 (hb hby at_118) (own_ii_eq_t c303) (by decide) (by decide) ?_
        refine g_aload X302 hx 125 (hb hby at_123) rfl rfl rfl ?_
        refine g_aload X302 hx 127 (hb hby at_125) rfl rfl rfl ?_
        refine own_callV X302 hx hZ hown (hw _ (List.mem_of_getElem? (i := 14) rfl)) (hw _ (List.mem_of_getElem? (i := 15) rfl)) (own_nf hZ (hw _ (List.mem_of_getElem? (i := 17) rfl))) (hw _ (List.mem_of_getElem? (i := 17) rfl)) (hw _ (List.mem_of_getElem? (i := 16) rfl)) (by decide) (rm_eqself l Z a0 hw [] b237 (p0 &&& (2147483647 : Int32)) (p1 &&& (2147483647 : Int32)) T252.heap n0 z254 f300 f298 f299) (hw _ (List.mem_of_getElem? (i := 18) rfl)) (hw _ (List.mem_of_getElem? (i := 3) rfl)) e302 0 (by decide) (by decide) (by decide) (by decide) f300 [(.ref b237)] [] rfl pd_4 rfl 130 rfl (by rw [hml]; rfl) rfl (hb hby at_127) rfl fun T304 v304 L304 X304 hQ304 => ?_
        obtain ⟨rfl, Nq304, e304⟩ := hQ304
        have N304 := Fr.app N302 Nq304
        show own_Go p e below s _ _ _ (T304.setTop (mkF m 130 _ [(.int (1 : Int32))]))
        refine g_ifYes X304 hx 135 (hb hby at_130) (own_i0_ne_t (by decide)) (by decide) (by decide) ?_
        refine g_iload X304 hx 137 (hb hby at_135) rfl rfl ?_
        refine g_iconst X304 hx 138 (hb hby at_137) (2 : Int32) rfl rfl ?_
        refine g_iushr X304 hx 139 (hb hby at_138) rfl ?_
        refine g_iconst X304 hx 140 (hb hby at_139) (3 : Int32) rfl rfl ?_
        refine g_iand X304 hx 141 (hb hby at_140) rfl ?_
        refine g_istore X304 hx 143 (hb hby at_141) (l' := #[.val (.int p0), .val (.int p1), .val (.int p2), .val (.int p3), .val (.int p4), .val (.int (p0 &&& (2147483647 : Int32))), .val (.int (p1 &&& (2147483647 : Int32))), .val (.int (p2 &&& (2147483647 : Int32))), .val (.int (p1 &&& (2147483647 : Int32))), .val (.ref b237), .val (.ref b245), .val (.int (0 : Int32)), .val (.int (((p4.toUInt32 >>> ((2 : Int32) &&& 31).toUInt32).toInt32) &&& (3 : Int32))), .unset]) rfl rfl ?_
        refine g_iload X304 hx 145 (hb hby at_143) rfl rfl ?_
        by_cases c305 : (((p4.toUInt32 >>> ((2 : Int32) &&& 31).toUInt32).toInt32) &&& (3 : Int32)) = (0 : Int32)
        · refine g_ifNo X304 hx 148 (hb hby at_145) (own_i0_ne_f c305) rfl ?_
          refine g_aconst_null X304 hx 149 (hb hby at_148) rfl ?_
          refine g_astore X304 hx 151 (hb hby at_149) rfl (l' := #[.val (.int p0), .val (.int p1), .val (.int p2), .val (.int p3), .val (.int p4), .val (.int (p0 &&& (2147483647 : Int32))), .val (.int (p1 &&& (2147483647 : Int32))), .val (.int (p2 &&& (2147483647 : Int32))), .val (.int (p1 &&& (2147483647 : Int32))), .val (.ref b237), .val (.ref b245), .val (.int (0 : Int32)), .val (.int (((p4.toUInt32 >>> ((2 : Int32) &&& 31).toUInt32).toInt32) &&& (3 : Int32))), .val .null]) rfl rfl ?_
          refine g_goto X304 hx 196 (hb hby at_151) (by decide) (by decide) ?_
          refine g_aload X304 hx 198 (hb hby at_196) rfl rfl rfl ?_
          refine g_aload X304 hx 200 (hb hby at_198) rfl rfl rfl ?_
          refine own_callV X304 hx hZ hown (hw _ (List.mem_of_getElem? (i := 14) rfl)) (hw _ (List.mem_of_getElem? (i := 15) rfl)) (own_nf hZ (hw _ (List.mem_of_getElem? (i := 17) rfl))) (hw _ (List.mem_of_getElem? (i := 17) rfl)) (hw _ (List.mem_of_getElem? (i := 16) rfl)) (by decide) (rm_eqnull l Z a0 hw [] b237 T252.heap n0 z254 ) (hw _ (List.mem_of_getElem? (i := 18) rfl)) (hw _ (List.mem_of_getElem? (i := 3) rfl)) e304 0 (by decide) (by decide) (by decide) (by decide) f300 [.null] [] rfl pd_4 rfl 203 rfl (by rw [hml]; rfl) rfl (hb hby at_200) rfl fun T306 v306 L306 X306 hQ306 => ?_
          obtain ⟨rfl, Nq306, e306⟩ := hQ306
          have N306 := Fr.app N304 Nq306
          show own_Go p e below s _ _ _ (T306.setTop (mkF m 203 _ [(.int (0 : Int32))]))
          refine g_ifNo X306 hx 206 (hb hby at_203) (own_i0_ne_f (by decide)) rfl ?_
          refine g_iconst X306 hx 207 (hb hby at_206) (1 : Int32) rfl rfl ?_
          refine g_goto X306 hx 211 (hb hby at_207) (by decide) (by decide) ?_
          refine own_retN X306 hx hlk (t := .boolean) hret (by simp) (hb hby at_211) ?_ (by decide) (by decide)
          rw [e306]
          exact ⟨rfl, N306⟩
        · refine g_ifYes X304 hx 154 (hb hby at_145) (own_i0_ne_t c305) (by decide) (by decide) ?_
          refine g_iload X304 hx 156 (hb hby at_154) rfl rfl ?_
          refine g_iconst X304 hx 157 (hb hby at_156) (1 : Int32) rfl rfl ?_
          by_cases c307 : (((p4.toUInt32 >>> ((2 : Int32) &&& 31).toUInt32).toInt32) &&& (3 : Int32)) = (1 : Int32)
          · refine g_icmpNo X304 hx 160 (hb hby at_157) (own_ii_ne_f c307) rfl ?_
            refine g_iload X304 hx 162 (hb hby at_160) rfl rfl ?_
            have f309 : Sta Z T252.heap "java/lang/Integer$IntegerCache" "high" "I" (.int (127 : Int32)) := (own_Sta_keep K253 S_high all0)
            have f310 : Sta Z T252.heap "java/lang/Integer$IntegerCache" "cache" "[Ljava/lang/Integer;" (.ref caI) := (own_Sta_keep K253 S_cI all0)
            refine own_callS X304 hx hZ hown (hw _ (List.mem_of_getElem? (i := 21) rfl)) (hw _ (List.mem_of_getElem? (i := 22) rfl)) (by decide) (rm_voI l Z a0 hw [] (p0 &&& (2147483647 : Int32)) caI clI vfI T252.heap n0 z254 f309 f310 B_I (Kz.trans K253 all0)) (hw _ (List.mem_of_getElem? (i := 24) rfl)) (hw _ (List.mem_of_getElem? (i := 23) rfl)) e304 0 (by decide) (by decide) (by decide) (by decide) [(.int (p0 &&& (2147483647 : Int32)))] [] rfl pd_5 rfl 165 rfl (by rw [hml]; rfl) rfl (hb hby at_162) rfl fun T308 v308 L308 X308 hQ308 => ?_
            obtain ⟨r308, rfl, Nq308, Kq308, Er308⟩ := hQ308
            have N308 := Fr.app N304 Nq308
            have K311 : Keep h0 T308.heap [] := K253.trans Kq308 all0
            have z312 : n0 ≤ T308.heap.size := (Nat.le_trans z254 Kq308.1)
            show own_Go p e below s _ _ _ (T308.setTop (mkF m 165 _ [(.ref r308)]))
            refine g_astore X308 hx 167 (hb hby at_165) rfl (l' := #[.val (.int p0), .val (.int p1), .val (.int p2), .val (.int p3), .val (.int p4), .val (.int (p0 &&& (2147483647 : Int32))), .val (.int (p1 &&& (2147483647 : Int32))), .val (.int (p2 &&& (2147483647 : Int32))), .val (.int (p1 &&& (2147483647 : Int32))), .val (.ref b237), .val (.ref b245), .val (.int (0 : Int32)), .val (.int (((p4.toUInt32 >>> ((2 : Int32) &&& 31).toUInt32).toInt32) &&& (3 : Int32))), .val (.ref r308)]) rfl rfl ?_
            refine g_goto X308 hx 196 (hb hby at_167) (by decide) (by decide) ?_
            refine g_aload X308 hx 198 (hb hby at_196) rfl rfl rfl ?_
            refine g_aload X308 hx 200 (hb hby at_198) rfl rfl rfl ?_
            have f314 : Exa Z T308.heap b237 "com/example/statement_mapper/statementmapper/service/RowBounds" := (f300.keep Kq308)
            refine own_callV X308 hx hZ hown (hw _ (List.mem_of_getElem? (i := 14) rfl)) (hw _ (List.mem_of_getElem? (i := 15) rfl)) (own_nf hZ (hw _ (List.mem_of_getElem? (i := 17) rfl))) (hw _ (List.mem_of_getElem? (i := 17) rfl)) (hw _ (List.mem_of_getElem? (i := 16) rfl)) (by decide) (rm_eqno0 l Z a0 hw [] b237 r308 T308.heap n0 z312 Er308) (hw _ (List.mem_of_getElem? (i := 18) rfl)) (hw _ (List.mem_of_getElem? (i := 3) rfl)) rfl 0 (by decide) (by decide) (by decide) (by decide) f314 [(.ref r308)] [] rfl pd_4 rfl 203 rfl (by rw [hml]; rfl) rfl (hb hby at_200) rfl fun T313 v313 L313 X313 hQ313 => ?_
            obtain ⟨rfl, Nq313, e313⟩ := hQ313
            have N313 := Fr.app N308 Nq313
            show own_Go p e below s _ _ _ (T313.setTop (mkF m 203 _ [(.int (0 : Int32))]))
            refine g_ifNo X313 hx 206 (hb hby at_203) (own_i0_ne_f (by decide)) rfl ?_
            refine g_iconst X313 hx 207 (hb hby at_206) (1 : Int32) rfl rfl ?_
            refine g_goto X313 hx 211 (hb hby at_207) (by decide) (by decide) ?_
            refine own_retN X313 hx hlk (t := .boolean) hret (by simp) (hb hby at_211) ?_ (by decide) (by decide)
            rw [e313]
            exact ⟨rfl, N313⟩
          · refine g_icmpYes X304 hx 170 (hb hby at_157) (own_ii_ne_t c307) (by decide) (by decide) ?_
            refine g_iload X304 hx 172 (hb hby at_170) rfl rfl ?_
            refine g_iconst X304 hx 173 (hb hby at_172) (2 : Int32) rfl rfl ?_
            by_cases c315 : (((p4.toUInt32 >>> ((2 : Int32) &&& 31).toUInt32).toInt32) &&& (3 : Int32)) = (2 : Int32)
            · refine g_icmpNo X304 hx 176 (hb hby at_173) (own_ii_ne_f c315) rfl ?_
              refine g_iload X304 hx 178 (hb hby at_176) rfl rfl ?_
              refine g_i2l X304 hx 179 (hb hby at_178) rfl ?_
              have f317 : Sta Z T252.heap "java/lang/Long$LongCache" "cache" "[Ljava/lang/Long;" (.ref caJ) := (own_Sta_keep K253 S_cJ all0)
              refine own_callS X304 hx hZ hown (hw _ (List.mem_of_getElem? (i := 31) rfl)) (hw _ (List.mem_of_getElem? (i := 32) rfl)) (by decide) (rm_voJ l Z a0 hw [] ((p1 &&& (2147483647 : Int32)).toInt64) caJ clJ vfJ T252.heap n0 z254 f317 B_J (Kz.trans K253 all0)) (hw _ (List.mem_of_getElem? (i := 34) rfl)) (hw _ (List.mem_of_getElem? (i := 33) rfl)) e304 0 (by decide) (by decide) (by decide) (by decide) [(.long ((p1 &&& (2147483647 : Int32)).toInt64))] [] rfl pd_6 rfl 182 rfl (by rw [hml]; rfl) rfl (hb hby at_179) rfl fun T316 v316 L316 X316 hQ316 => ?_
              obtain ⟨r316, rfl, Nq316, Kq316, Er316⟩ := hQ316
              have N316 := Fr.app N304 Nq316
              have K318 : Keep h0 T316.heap [] := K253.trans Kq316 all0
              have z319 : n0 ≤ T316.heap.size := (Nat.le_trans z254 Kq316.1)
              show own_Go p e below s _ _ _ (T316.setTop (mkF m 182 _ [(.ref r316)]))
              refine g_astore X316 hx 184 (hb hby at_182) rfl (l' := #[.val (.int p0), .val (.int p1), .val (.int p2), .val (.int p3), .val (.int p4), .val (.int (p0 &&& (2147483647 : Int32))), .val (.int (p1 &&& (2147483647 : Int32))), .val (.int (p2 &&& (2147483647 : Int32))), .val (.int (p1 &&& (2147483647 : Int32))), .val (.ref b237), .val (.ref b245), .val (.int (0 : Int32)), .val (.int (((p4.toUInt32 >>> ((2 : Int32) &&& 31).toUInt32).toInt32) &&& (3 : Int32))), .val (.ref r316)]) rfl rfl ?_
              refine g_goto X316 hx 196 (hb hby at_184) (by decide) (by decide) ?_
              refine g_aload X316 hx 198 (hb hby at_196) rfl rfl rfl ?_
              refine g_aload X316 hx 200 (hb hby at_198) rfl rfl rfl ?_
              have f321 : Exa Z T316.heap b237 "com/example/statement_mapper/statementmapper/service/RowBounds" := (f300.keep Kq316)
              refine own_callV X316 hx hZ hown (hw _ (List.mem_of_getElem? (i := 14) rfl)) (hw _ (List.mem_of_getElem? (i := 15) rfl)) (own_nf hZ (hw _ (List.mem_of_getElem? (i := 17) rfl))) (hw _ (List.mem_of_getElem? (i := 17) rfl)) (hw _ (List.mem_of_getElem? (i := 16) rfl)) (by decide) (rm_eqno1 l Z a0 hw [] b237 r316 T316.heap n0 z319 Er316) (hw _ (List.mem_of_getElem? (i := 18) rfl)) (hw _ (List.mem_of_getElem? (i := 3) rfl)) rfl 0 (by decide) (by decide) (by decide) (by decide) f321 [(.ref r316)] [] rfl pd_4 rfl 203 rfl (by rw [hml]; rfl) rfl (hb hby at_200) rfl fun T320 v320 L320 X320 hQ320 => ?_
              obtain ⟨rfl, Nq320, e320⟩ := hQ320
              have N320 := Fr.app N316 Nq320
              show own_Go p e below s _ _ _ (T320.setTop (mkF m 203 _ [(.int (0 : Int32))]))
              refine g_ifNo X320 hx 206 (hb hby at_203) (own_i0_ne_f (by decide)) rfl ?_
              refine g_iconst X320 hx 207 (hb hby at_206) (1 : Int32) rfl rfl ?_
              refine g_goto X320 hx 211 (hb hby at_207) (by decide) (by decide) ?_
              refine own_retN X320 hx hlk (t := .boolean) hret (by simp) (hb hby at_211) ?_ (by decide) (by decide)
              rw [e320]
              exact ⟨rfl, N320⟩
            · refine g_icmpYes X304 hx 187 (hb hby at_173) (own_ii_ne_t c315) (by decide) (by decide) ?_
              refine own_newO X304 hx hZ hown (hw _ (List.mem_of_getElem? (i := 53) rfl)) (hw _ (List.mem_of_getElem? (i := 54) rfl)) (hw _ (List.mem_of_getElem? (i := 55) rfl)) e304 190 (hb hby at_187) rfl (by decide) (by decide) fun T322 h322 b322 X322 e322 g322 E322 A322 D322 => ?_
              have ne323 : b237 ≠ b322 := Nat.ne_of_lt (Nat.lt_of_lt_of_le f300.lt (Nat.le_of_eq g322.symm))
              have ne324 : b245 ≠ b322 := Nat.ne_of_lt (Nat.lt_of_lt_of_le f297.lt (Nat.le_of_eq g322.symm))
              have g_b322 : n0 ≤ b322 := Nat.le_trans z254 (Nat.le_of_eq g322.symm)
              have sz_b322 : h0.size ≤ b322 := Nat.le_trans K253.1 (Nat.le_of_eq g322.symm)
              have K325 : Keep h0 h322 [] := K253.ext E322
              have z326 : n0 ≤ h322.size := (Nat.le_trans z254 E322.1)
              have f327 : Fld Z h322 b322 "java/util/AbstractList" "modCount" "I" (.int (0 : Int32)) := D322 (Or.inl (hw _ (List.mem_of_getElem? (i := 73) rfl))) (ty := .int) (by decide)
              have f328 : Fld Z h322 b322 "java/util/ArrayList" "elementData" "[Ljava/lang/Object;" .null := D322 (Or.inl (hw _ (List.mem_of_getElem? (i := 76) rfl))) (ty := (.array (.object "java/lang/Object"))) (by decide)
              refine g_dup X322 hx 191 (hb hby at_190) rfl rfl ?_
              have f330 : Sta Z h322 "java/util/ArrayList" "DEFAULTCAPACITY_EMPTY_ELEMENTDATA" "[Ljava/lang/Object;" (.ref dd) := (own_Sta_keep K325 S_dd all0)
              refine own_callI X322 hx hZ hown rfl (hw _ (List.mem_of_getElem? (i := 56) rfl)) (hw _ (List.mem_of_getElem? (i := 57) rfl)) (by decide) (rm_arlist l Z a0 hw [] b322 dd h322 n0 z326 A322 f327 f328 f330 g_b322) (hw _ (List.mem_of_getElem? (i := 58) rfl)) (hw _ (List.mem_of_getElem? (i := 55) rfl)) e322 1 (by decide) (by decide) (by decide) (by decide) b322 [] [(.ref b322)] rfl pd_0 rfl 194 rfl (by rw [hml]; rfl) rfl (hb hby at_191) rfl fun T329 v329 L329 X329 hQ329 => ?_
              obtain ⟨rfl, Nq329, Kq329, f329_0, f329_1⟩ := hQ329
              have N329 := Fr.app N304 Nq329
              have K331 : Keep h0 T329.heap [] := K325.trans Kq329 (allS (Or.inr sz_b322) all0)
              have z332 : n0 ≤ T329.heap.size := (Nat.le_trans z326 Kq329.1)
              show own_Go p e below s _ _ _ (T329.setTop (mkF m 194 _ [(.ref b322)]))
              refine g_astore X329 hx 196 (hb hby at_194) rfl (l' := #[.val (.int p0), .val (.int p1), .val (.int p2), .val (.int p3), .val (.int p4), .val (.int (p0 &&& (2147483647 : Int32))), .val (.int (p1 &&& (2147483647 : Int32))), .val (.int (p2 &&& (2147483647 : Int32))), .val (.int (p1 &&& (2147483647 : Int32))), .val (.ref b237), .val (.ref b245), .val (.int (0 : Int32)), .val (.int (((p4.toUInt32 >>> ((2 : Int32) &&& 31).toUInt32).toInt32) &&& (3 : Int32))), .val (.ref b322)]) rfl rfl ?_
              refine g_aload X329 hx 198 (hb hby at_196) rfl rfl rfl ?_
              refine g_aload X329 hx 200 (hb hby at_198) rfl rfl rfl ?_
              have f334 : Exa Z T329.heap b322 "java/util/ArrayList" := (A322.keep Kq329)
              have f335 : Exa Z T329.heap b237 "com/example/statement_mapper/statementmapper/service/RowBounds" := ((Exa.ext E322 f300).keep Kq329)
              refine own_callV X329 hx hZ hown (hw _ (List.mem_of_getElem? (i := 14) rfl)) (hw _ (List.mem_of_getElem? (i := 15) rfl)) (own_nf hZ (hw _ (List.mem_of_getElem? (i := 17) rfl))) (hw _ (List.mem_of_getElem? (i := 17) rfl)) (hw _ (List.mem_of_getElem? (i := 16) rfl)) (by decide) (rm_eqno2 l Z a0 hw [] b237 b322 T329.heap n0 z332 f334) (hw _ (List.mem_of_getElem? (i := 18) rfl)) (hw _ (List.mem_of_getElem? (i := 3) rfl)) rfl 0 (by decide) (by decide) (by decide) (by decide) f335 [(.ref b322)] [] rfl pd_4 rfl 203 rfl (by rw [hml]; rfl) rfl (hb hby at_200) rfl fun T333 v333 L333 X333 hQ333 => ?_
              obtain ⟨rfl, Nq333, e333⟩ := hQ333
              have N333 := Fr.app N329 Nq333
              show own_Go p e below s _ _ _ (T333.setTop (mkF m 203 _ [(.int (0 : Int32))]))
              refine g_ifNo X333 hx 206 (hb hby at_203) (own_i0_ne_f (by decide)) rfl ?_
              refine g_iconst X333 hx 207 (hb hby at_206) (1 : Int32) rfl rfl ?_
              refine g_goto X333 hx 211 (hb hby at_207) (by decide) (by decide) ?_
              refine own_retN X333 hx hlk (t := .boolean) hret (by simp) (hb hby at_211) ?_ (by decide) (by decide)
              rw [e333]
              exact ⟨rfl, N333⟩
  · refine g_ifNo X0 hx 19 (hb hby at_16) (own_i0_eq_f c95) rfl ?_
    refine g_iload X0 hx 21 (hb hby at_19) rfl rfl ?_
    refine g_goto X0 hx 28 (hb hby at_21) (by decide) (by decide) ?_
    refine g_istore X0 hx 30 (hb hby at_28) (l' := #[.val (.int p0), .val (.int p1), .val (.int p2), .val (.int p3), .val (.int p4), .val (.int (p0 &&& (2147483647 : Int32))), .val (.int (p1 &&& (2147483647 : Int32))), .val (.int (p0 &&& (2147483647 : Int32))), .unset, .unset, .unset, .unset, .unset, .unset]) rfl rfl ?_
    refine g_iload X0 hx 32 (hb hby at_30) rfl rfl ?_
    refine g_iconst X0 hx 33 (hb hby at_32) (2 : Int32) rfl rfl ?_
    refine g_iand X0 hx 34 (hb hby at_33) rfl ?_
    by_cases c336 : (p4 &&& (2 : Int32)) = (0 : Int32)
    · refine g_ifYes X0 hx 42 (hb hby at_34) (own_i0_eq_t c336) (by decide) (by decide) ?_
      refine g_iload_n X0 hx 43 (hb hby at_42) rfl rfl ?_
      refine g_ldc X0 hx hown 45 (z := (2147483647 : Int32)) (mvT hZ (hw _ (List.mem_of_getElem? (i := 0) rfl))) (hb hby at_43) rfl ?_
      refine g_iand X0 hx 46 (hb hby at_45) rfl ?_
      refine g_istore X0 hx 48 (hb hby at_46) (l' := #[.val (.int p0), .val (.int p1), .val (.int p2), .val (.int p3), .val (.int p4), .val (.int (p0 &&& (2147483647 : Int32))), .val (.int (p1 &&& (2147483647 : Int32))), .val (.int (p0 &&& (2147483647 : Int32))), .val (.int (p3 &&& (2147483647 : Int32))), .unset, .unset, .unset, .unset, .unset]) rfl rfl ?_
      refine own_newO X0 hx hZ hown (hw _ (List.mem_of_getElem? (i := 1) rfl)) (hw _ (List.mem_of_getElem? (i := 2) rfl)) (hw _ (List.mem_of_getElem? (i := 3) rfl)) e0 51 (hb hby at_48) rfl (by decide) (by decide) fun T337 h337 b337 X337 e337 g337 E337 A337 D337 => ?_
      have g_b337 : n0 ≤ b337 := Nat.le_trans Z0 (Nat.le_of_eq g337.symm)
      have sz_b337 : h0.size ≤ b337 := Nat.le_trans (Keep.refl h0 []).1 (Nat.le_of_eq g337.symm)
      have K338 : Keep h0 h337 [] := (Keep.refl h0 []).ext E337
      have z339 : n0 ≤ h337.size := (Nat.le_trans Z0 E337.1)
      have f340 : Fld Z h337 b337 "com/example/statement_mapper/statementmapper/service/RowBounds" "offset" "I" (.int (0 : Int32)) := D337 (Or.inr (hw _ (List.mem_of_getElem? (i := 11) rfl))) (ty := .int) (by decide)
      have f341 : Fld Z h337 b337 "com/example/statement_mapper/statementmapper/service/RowBounds" "limit" "I" (.int (0 : Int32)) := D337 (Or.inr (hw _ (List.mem_of_getElem? (i := 13) rfl))) (ty := .int) (by decide)
      refine g_dup X337 hx 52 (hb hby at_51) rfl rfl ?_
      refine g_iload X337 hx 54 (hb hby at_52) rfl rfl ?_
      refine g_iload X337 hx 56 (hb hby at_54) rfl rfl ?_
      refine own_callI X337 hx hZ hown rfl (hw _ (List.mem_of_getElem? (i := 4) rfl)) (hw _ (List.mem_of_getElem? (i := 5) rfl)) (by decide) (rm_init l Z a0 hw [] b337 (p0 &&& (2147483647 : Int32)) (p1 &&& (2147483647 : Int32)) h337 n0 z339 A337 f340 f341 g_b337 (own_pos _) (own_pos _)) (hw _ (List.mem_of_getElem? (i := 6) rfl)) (hw _ (List.mem_of_getElem? (i := 3) rfl)) e337 1 (by decide) (by decide) (by decide) (by decide) b337 [(.int (p0 &&& (2147483647 : Int32))), (.int (p1 &&& (2147483647 : Int32)))] [(.ref b337)] rfl pd_3 rfl 59 rfl (by rw [hml]; rfl) rfl (hb hby at_56) rfl fun T342 v342 L342 X342 hQ342 => ?_
      obtain ⟨rfl, Nq342, Kq342, f342_0, f342_1⟩ := hQ342
      have N342 := Fr.app N0 Nq342
      have K343 : Keep h0 T342.heap [] := K338.trans Kq342 (allS (Or.inr sz_b337) all0)
      have z344 : n0 ≤ T342.heap.size := (Nat.le_trans z339 Kq342.1)
      show own_Go p e below s _ _ _ (T342.setTop (mkF m 59 _ [(.ref b337)]))
      refine g_astore X342 hx 61 (hb hby at_59) rfl (l' := #[.val (.int p0), .val (.int p1), .val (.int p2), .val (.int p3), .val (.int p4), .val (.int (p0 &&& (2147483647 : Int32))), .val (.int (p1 &&& (2147483647 : Int32))), .val (.int (p0 &&& (2147483647 : Int32))), .val (.int (p3 &&& (2147483647 : Int32))), .val (.ref b337), .unset, .unset, .unset, .unset]) rfl rfl ?_
      refine own_newO X342 hx hZ hown (hw _ (List.mem_of_getElem? (i := 1) rfl)) (hw _ (List.mem_of_getElem? (i := 2) rfl)) (hw _ (List.mem_of_getElem? (i := 3) rfl)) rfl 64 (hb hby at_61) rfl (by decide) (by decide) fun T345 h345 b345 X345 e345 g345 E345 A345 D345 => ?_
      have f346 : Exa Z T342.heap b337 "com/example/statement_mapper/statementmapper/service/RowBounds" := (A337.keep Kq342)
      have ne347 : b337 ≠ b345 := Nat.ne_of_lt (Nat.lt_of_lt_of_le f346.lt (Nat.le_of_eq g345.symm))
      have g_b345 : n0 ≤ b345 := Nat.le_trans z344 (Nat.le_of_eq g345.symm)
      have sz_b345 : h0.size ≤ b345 := Nat.le_trans K343.1 (Nat.le_of_eq g345.symm)
      have K348 : Keep h0 h345 [] := K343.ext E345
      have z349 : n0 ≤ h345.size := (Nat.le_trans z344 E345.1)
      have f350 : Fld Z h345 b345 "com/example/statement_mapper/statementmapper/service/RowBounds" "offset" "I" (.int (0 : Int32)) := D345 (Or.inr (hw _ (List.mem_of_getElem? (i := 11) rfl))) (ty := .int) (by decide)
      have f351 : Fld Z h345 b345 "com/example/statement_mapper/statementmapper/service/RowBounds" "limit" "I" (.int (0 : Int32)) := D345 (Or.inr (hw _ (List.mem_of_getElem? (i := 13) rfl))) (ty := .int) (by decide)
      refine g_dup X345 hx 65 (hb hby at_64) rfl rfl ?_
      refine g_iload X345 hx 67 (hb hby at_65) rfl rfl ?_
      refine g_iload X345 hx 69 (hb hby at_67) rfl rfl ?_
      refine own_callI X345 hx hZ hown rfl (hw _ (List.mem_of_getElem? (i := 4) rfl)) (hw _ (List.mem_of_getElem? (i := 5) rfl)) (by decide) (rm_init l Z a0 hw [] b345 (p0 &&& (2147483647 : Int32)) (p3 &&& (2147483647 : Int32)) h345 n0 z349 A345 f350 f351 g_b345 (own_pos _) (own_pos _)) (hw _ (List.mem_of_getElem? (i := 6) rfl)) (hw _ (List.mem_of_getElem? (i := 3) rfl)) e345 1 (by decide) (by decide) (by decide) (by decide) b345 [(.int (p0 &&& (2147483647 : Int32))), (.int (p3 &&& (2147483647 : Int32)))] [(.ref b345)] rfl pd_3 rfl 72 rfl (by rw [hml]; rfl) rfl (hb hby at_69) rfl fun T352 v352 L352 X352 hQ352 => ?_
      obtain ⟨rfl, Nq352, Kq352, f352_0, f352_1⟩ := hQ352
      have N352 := Fr.app N342 Nq352
      have K353 : Keep h0 T352.heap [] := K348.trans Kq352 (allS (Or.inr sz_b345) all0)
      have z354 : n0 ≤ T352.heap.size := (Nat.le_trans z349 Kq352.1)
      show own_Go p e below s _ _ _ (T352.setTop (mkF m 72 _ [(.ref b345)]))
      refine g_astore X352 hx 74 (hb hby at_72) rfl (l' := #[.val (.int p0), .val (.int p1), .val (.int p2), .val (.int p3), .val (.int p4), .val (.int (p0 &&& (2147483647 : Int32))), .val (.int (p1 &&& (2147483647 : Int32))), .val (.int (p0 &&& (2147483647 : Int32))), .val (.int (p3 &&& (2147483647 : Int32))), .val (.ref b337), .val (.ref b345), .unset, .unset, .unset]) rfl rfl ?_
      refine g_iload X352 hx 76 (hb hby at_74) rfl rfl ?_
      refine g_iload X352 hx 78 (hb hby at_76) rfl rfl ?_
      refine g_icmpNo X352 hx 81 (hb hby at_78) (own_ii_ne_f rfl) rfl ?_
      refine g_iload X352 hx 83 (hb hby at_81) rfl rfl ?_
      refine g_iload X352 hx 85 (hb hby at_83) rfl rfl ?_
      by_cases c355 : (p1 &&& (2147483647 : Int32)) = (p3 &&& (2147483647 : Int32))
      · refine g_icmpNo X352 hx 88 (hb hby at_85) (own_ii_ne_f c355) rfl ?_
        refine g_iconst X352 hx 89 (hb hby at_88) (1 : Int32) rfl rfl ?_
        refine g_goto X352 hx 93 (hb hby at_89) (by decide) (by decide) ?_
        refine g_istore X352 hx 95 (hb hby at_93) (l' := #[.val (.int p0), .val (.int p1), .val (.int p2), .val (.int p3), .val (.int p4), .val (.int (p0 &&& (2147483647 : Int32))), .val (.int (p1 &&& (2147483647 : Int32))), .val (.int (p0 &&& (2147483647 : Int32))), .val (.int (p3 &&& (2147483647 : Int32))), .val (.ref b337), .val (.ref b345), .val (.int (1 : Int32)), .unset, .unset]) rfl rfl ?_
        refine g_aload X352 hx 97 (hb hby at_95) rfl rfl rfl ?_
        refine g_aload X352 hx 99 (hb hby at_97) rfl rfl rfl ?_
        have f357 : Exa Z T352.heap b345 "com/example/statement_mapper/statementmapper/service/RowBounds" := (A345.keep Kq352)
        have f358 : Fld Z T352.heap b337 "com/example/statement_mapper/statementmapper/service/RowBounds" "offset" "I" (.int (p0 &&& (2147483647 : Int32))) := ((Fld.ext E345 f342_0).keep Kq352 (ninS ne347 nin0))
        have f359 : Fld Z T352.heap b337 "com/example/statement_mapper/statementmapper/service/RowBounds" "limit" "I" (.int (p1 &&& (2147483647 : Int32))) := ((Fld.ext E345 f342_1).keep Kq352 (ninS ne347 nin0))
        have f360 : Exa Z T352.heap b337 "com/example/statement_mapper/statementmapper/service/RowBounds" := ((Exa.ext E345 f346).keep Kq352)
        refine own_callV X352 hx hZ hown (hw _ (List.mem_of_getElem? (i := 14) rfl)) (hw _ (List.mem_of_getElem? (i := 15) rfl)) (own_nf hZ (hw _ (List.mem_of_getElem? (i := 17) rfl))) (hw _ (List.mem_of_getElem? (i := 17) rfl)) (hw _ (List.mem_of_getElem? (i := 16) rfl)) (by decide) (rm_eq l Z a0 hw [] b337 b345 (p0 &&& (2147483647 : Int32)) (p1 &&& (2147483647 : Int32)) (p0 &&& (2147483647 : Int32)) (p3 &&& (2147483647 : Int32)) T352.heap n0 z354 f357 f358 f359 f352_0 f352_1) (hw _ (List.mem_of_getElem? (i := 18) rfl)) (hw _ (List.mem_of_getElem? (i := 3) rfl)) rfl 0 (by decide) (by decide) (by decide) (by decide) f360 [(.ref b345)] [] rfl pd_4 rfl 102 rfl (by rw [hml]; rfl) rfl (hb hby at_99) rfl fun T356 v356 L356 X356 hQ356 => ?_
        obtain ⟨rfl, Nq356, e356⟩ := hQ356
        have N356 := Fr.app N352 Nq356
        show own_Go p e below s _ _ _ (T356.setTop (mkF m 102 _ [(.int (own_eq (p0 &&& (2147483647 : Int32)) (p1 &&& (2147483647 : Int32)) (p0 &&& (2147483647 : Int32)) (p3 &&& (2147483647 : Int32))))]))
        refine g_iload X356 hx 104 (hb hby at_102) rfl rfl ?_
        have c361 : (own_eq (p0 &&& (2147483647 : Int32)) (p1 &&& (2147483647 : Int32)) (p0 &&& (2147483647 : Int32)) (p3 &&& (2147483647 : Int32))) = (1 : Int32) := by simp [own_eq, c95, (Ne.symm c95), c336, c355]
        refine g_icmpYes X356 hx 109 (hb hby at_104) (own_ii_eq_t c361) (by decide) (by decide) ?_
        refine g_aload X356 hx 111 (hb hby at_109) rfl rfl rfl ?_
        refine g_aload X356 hx 113 (hb hby at_111) rfl rfl rfl ?_
        refine own_callV X356 hx hZ hown (hw _ (List.mem_of_getElem? (i := 14) rfl)) (hw _ (List.mem_of_getElem? (i := 15) rfl)) (own_nf hZ (hw _ (List.mem_of_getElem? (i := 17) rfl))) (hw _ (List.mem_of_getElem? (i := 17) rfl)) (hw _ (List.mem_of_getElem? (i := 16) rfl)) (by decide) (rm_eq l Z a0 hw [] b345 b337 (p0 &&& (2147483647 : Int32)) (p3 &&& (2147483647 : Int32)) (p0 &&& (2147483647 : Int32)) (p1 &&& (2147483647 : Int32)) T352.heap n0 z354 f360 f352_0 f352_1 f358 f359) (hw _ (List.mem_of_getElem? (i := 18) rfl)) (hw _ (List.mem_of_getElem? (i := 3) rfl)) e356 0 (by decide) (by decide) (by decide) (by decide) f357 [(.ref b337)] [] rfl pd_4 rfl 116 rfl (by rw [hml]; rfl) rfl (hb hby at_113) rfl fun T362 v362 L362 X362 hQ362 => ?_
        obtain ⟨rfl, Nq362, e362⟩ := hQ362
        have N362 := Fr.app N356 Nq362
        show own_Go p e below s _ _ _ (T362.setTop (mkF m 116 _ [(.int (own_eq (p0 &&& (2147483647 : Int32)) (p3 &&& (2147483647 : Int32)) (p0 &&& (2147483647 : Int32)) (p1 &&& (2147483647 : Int32))))]))
        refine g_iload X362 hx 118 (hb hby at_116) rfl rfl ?_
        have c363 : (own_eq (p0 &&& (2147483647 : Int32)) (p3 &&& (2147483647 : Int32)) (p0 &&& (2147483647 : Int32)) (p1 &&& (2147483647 : Int32))) = (1 : Int32) := by simp [own_eq, c95, (Ne.symm c95), c336, c355, c361]
        refine g_icmpYes X362 hx 123 (hb hby at_118) (own_ii_eq_t c363) (by decide) (by decide) ?_
        refine g_aload X362 hx 125 (hb hby at_123) rfl rfl rfl ?_
        refine g_aload X362 hx 127 (hb hby at_125) rfl rfl rfl ?_
        refine own_callV X362 hx hZ hown (hw _ (List.mem_of_getElem? (i := 14) rfl)) (hw _ (List.mem_of_getElem? (i := 15) rfl)) (own_nf hZ (hw _ (List.mem_of_getElem? (i := 17) rfl))) (hw _ (List.mem_of_getElem? (i := 17) rfl)) (hw _ (List.mem_of_getElem? (i := 16) rfl)) (by decide) (rm_eqself l Z a0 hw [] b337 (p0 &&& (2147483647 : Int32)) (p1 &&& (2147483647 : Int32)) T352.heap n0 z354 f360 f358 f359) (hw _ (List.mem_of_getElem? (i := 18) rfl)) (hw _ (List.mem_of_getElem? (i := 3) rfl)) e362 0 (by decide) (by decide) (by decide) (by decide) f360 [(.ref b337)] [] rfl pd_4 rfl 130 rfl (by rw [hml]; rfl) rfl (hb hby at_127) rfl fun T364 v364 L364 X364 hQ364 => ?_
        obtain ⟨rfl, Nq364, e364⟩ := hQ364
        have N364 := Fr.app N362 Nq364
        show own_Go p e below s _ _ _ (T364.setTop (mkF m 130 _ [(.int (1 : Int32))]))
        refine g_ifYes X364 hx 135 (hb hby at_130) (own_i0_ne_t (by decide)) (by decide) (by decide) ?_
        refine g_iload X364 hx 137 (hb hby at_135) rfl rfl ?_
        refine g_iconst X364 hx 138 (hb hby at_137) (2 : Int32) rfl rfl ?_
        refine g_iushr X364 hx 139 (hb hby at_138) rfl ?_
        refine g_iconst X364 hx 140 (hb hby at_139) (3 : Int32) rfl rfl ?_
        refine g_iand X364 hx 141 (hb hby at_140) rfl ?_
        refine g_istore X364 hx 143 (hb hby at_141) (l' := #[.val (.int p0), .val (.int p1), .val (.int p2), .val (.int p3), .val (.int p4), .val (.int (p0 &&& (2147483647 : Int32))), .val (.int (p1 &&& (2147483647 : Int32))), .val (.int (p0 &&& (2147483647 : Int32))), .val (.int (p3 &&& (2147483647 : Int32))), .val (.ref b337), .val (.ref b345), .val (.int (1 : Int32)), .val (.int (((p4.toUInt32 >>> ((2 : Int32) &&& 31).toUInt32).toInt32) &&& (3 : Int32))), .unset]) rfl rfl ?_
        refine g_iload X364 hx 145 (hb hby at_143) rfl rfl ?_
        by_cases c365 : (((p4.toUInt32 >>> ((2 : Int32) &&& 31).toUInt32).toInt32) &&& (3 : Int32)) = (0 : Int32)
        · refine g_ifNo X364 hx 148 (hb hby at_145) (own_i0_ne_f c365) rfl ?_
          refine g_aconst_null X364 hx 149 (hb hby at_148) rfl ?_
          refine g_astore X364 hx 151 (hb hby at_149) rfl (l' := #[.val (.int p0), .val (.int p1), .val (.int p2), .val (.int p3), .val (.int p4), .val (.int (p0 &&& (2147483647 : Int32))), .val (.int (p1 &&& (2147483647 : Int32))), .val (.int (p0 &&& (2147483647 : Int32))), .val (.int (p3 &&& (2147483647 : Int32))), .val (.ref b337), .val (.ref b345), .val (.int (1 : Int32)), .val (.int (((p4.toUInt32 >>> ((2 : Int32) &&& 31).toUInt32).toInt32) &&& (3 : Int32))), .val .null]) rfl rfl ?_
          refine g_goto X364 hx 196 (hb hby at_151) (by decide) (by decide) ?_
          refine g_aload X364 hx 198 (hb hby at_196) rfl rfl rfl ?_
          refine g_aload X364 hx 200 (hb hby at_198) rfl rfl rfl ?_
          refine own_callV X364 hx hZ hown (hw _ (List.mem_of_getElem? (i := 14) rfl)) (hw _ (List.mem_of_getElem? (i := 15) rfl)) (own_nf hZ (hw _ (List.mem_of_getElem? (i := 17) rfl))) (hw _ (List.mem_of_getElem? (i := 17) rfl)) (hw _ (List.mem_of_getElem? (i := 16) rfl)) (by decide) (rm_eqnull l Z a0 hw [] b337 T352.heap n0 z354 ) (hw _ (List.mem_of_getElem? (i := 18) rfl)) (hw _ (List.mem_of_getElem? (i := 3) rfl)) e364 0 (by decide) (by decide) (by decide) (by decide) f360 [.null] [] rfl pd_4 rfl 203 rfl (by rw [hml]; rfl) rfl (hb hby at_200) rfl fun T366 v366 L366 X366 hQ366 => ?_
          obtain ⟨rfl, Nq366, e366⟩ := hQ366
          have N366 := Fr.app N364 Nq366
          show own_Go p e below s _ _ _ (T366.setTop (mkF m 203 _ [(.int (0 : Int32))]))
          refine g_ifNo X366 hx 206 (hb hby at_203) (own_i0_ne_f (by decide)) rfl ?_
          refine g_iconst X366 hx 207 (hb hby at_206) (1 : Int32) rfl rfl ?_
          refine g_goto X366 hx 211 (hb hby at_207) (by decide) (by decide) ?_
          refine own_retN X366 hx hlk (t := .boolean) hret (by simp) (hb hby at_211) ?_ (by decide) (by decide)
          rw [e366]
          exact ⟨rfl, N366⟩
        · refine g_ifYes X364 hx 154 (hb hby at_145) (own_i0_ne_t c365) (by decide) (by decide) ?_
          refine g_iload X364 hx 156 (hb hby at_154) rfl rfl ?_
          refine g_iconst X364 hx 157 (hb hby at_156) (1 : Int32) rfl rfl ?_
          by_cases c367 : (((p4.toUInt32 >>> ((2 : Int32) &&& 31).toUInt32).toInt32) &&& (3 : Int32)) = (1 : Int32)
          · refine g_icmpNo X364 hx 160 (hb hby at_157) (own_ii_ne_f c367) rfl ?_
            refine g_iload X364 hx 162 (hb hby at_160) rfl rfl ?_
            have f369 : Sta Z T352.heap "java/lang/Integer$IntegerCache" "high" "I" (.int (127 : Int32)) := (own_Sta_keep K353 S_high all0)
            have f370 : Sta Z T352.heap "java/lang/Integer$IntegerCache" "cache" "[Ljava/lang/Integer;" (.ref caI) := (own_Sta_keep K353 S_cI all0)
            refine own_callS X364 hx hZ hown (hw _ (List.mem_of_getElem? (i := 21) rfl)) (hw _ (List.mem_of_getElem? (i := 22) rfl)) (by decide) (rm_voI l Z a0 hw [] (p0 &&& (2147483647 : Int32)) caI clI vfI T352.heap n0 z354 f369 f370 B_I (Kz.trans K353 all0)) (hw _ (List.mem_of_getElem? (i := 24) rfl)) (hw _ (List.mem_of_getElem? (i := 23) rfl)) e364 0 (by decide) (by decide) (by decide) (by decide) [(.int (p0 &&& (2147483647 : Int32)))] [] rfl pd_5 rfl 165 rfl (by rw [hml]; rfl) rfl (hb hby at_162) rfl fun T368 v368 L368 X368 hQ368 => ?_
            obtain ⟨r368, rfl, Nq368, Kq368, Er368⟩ := hQ368
            have N368 := Fr.app N364 Nq368
            have K371 : Keep h0 T368.heap [] := K353.trans Kq368 all0
            have z372 : n0 ≤ T368.heap.size := (Nat.le_trans z354 Kq368.1)
            show own_Go p e below s _ _ _ (T368.setTop (mkF m 165 _ [(.ref r368)]))
            refine g_astore X368 hx 167 (hb hby at_165) rfl (l' := #[.val (.int p0), .val (.int p1), .val (.int p2), .val (.int p3), .val (.int p4), .val (.int (p0 &&& (2147483647 : Int32))), .val (.int (p1 &&& (2147483647 : Int32))), .val (.int (p0 &&& (2147483647 : Int32))), .val (.int (p3 &&& (2147483647 : Int32))), .val (.ref b337), .val (.ref b345), .val (.int (1 : Int32)), .val (.int (((p4.toUInt32 >>> ((2 : Int32) &&& 31).toUInt32).toInt32) &&& (3 : Int32))), .val (.ref r368)]) rfl rfl ?_
            refine g_goto X368 hx 196 (hb hby at_167) (by decide) (by decide) ?_
            refine g_aload X368 hx 198 (hb hby at_196) rfl rfl rfl ?_
            refine g_aload X368 hx 200 (hb hby at_198) rfl rfl rfl ?_
            have f374 : Exa Z T368.heap b337 "com/example/statement_mapper/statementmapper/service/RowBounds" := (f360.keep Kq368)
            refine own_callV X368 hx hZ hown (hw _ (List.mem_of_getElem? (i := 14) rfl)) (hw _ (List.mem_of_getElem? (i := 15) rfl)) (own_nf hZ (hw _ (List.mem_of_getElem? (i := 17) rfl))) (hw _ (List.mem_of_getElem? (i := 17) rfl)) (hw _ (List.mem_of_getElem? (i := 16) rfl)) (by decide) (rm_eqno0 l Z a0 hw [] b337 r368 T368.heap n0 z372 Er368) (hw _ (List.mem_of_getElem? (i := 18) rfl)) (hw _ (List.mem_of_getElem? (i := 3) rfl)) rfl 0 (by decide) (by decide) (by decide) (by decide) f374 [(.ref r368)] [] rfl pd_4 rfl 203 rfl (by rw [hml]; rfl) rfl (hb hby at_200) rfl fun T373 v373 L373 X373 hQ373 => ?_
            obtain ⟨rfl, Nq373, e373⟩ := hQ373
            have N373 := Fr.app N368 Nq373
            show own_Go p e below s _ _ _ (T373.setTop (mkF m 203 _ [(.int (0 : Int32))]))
            refine g_ifNo X373 hx 206 (hb hby at_203) (own_i0_ne_f (by decide)) rfl ?_
            refine g_iconst X373 hx 207 (hb hby at_206) (1 : Int32) rfl rfl ?_
            refine g_goto X373 hx 211 (hb hby at_207) (by decide) (by decide) ?_
            refine own_retN X373 hx hlk (t := .boolean) hret (by simp) (hb hby at_211) ?_ (by decide) (by decide)
            rw [e373]
            exact ⟨rfl, N373⟩
          · refine g_icmpYes X364 hx 170 (hb hby at_157) (own_ii_ne_t c367) (by decide) (by decide) ?_
            refine g_iload X364 hx 172 (hb hby at_170) rfl rfl ?_
            refine g_iconst X364 hx 173 (hb hby at_172) (2 : Int32) rfl rfl ?_
            by_cases c375 : (((p4.toUInt32 >>> ((2 : Int32) &&& 31).toUInt32).toInt32) &&& (3 : Int32)) = (2 : Int32)
            · refine g_icmpNo X364 hx 176 (hb hby at_173) (own_ii_ne_f c375) rfl ?_
              refine g_iload X364 hx 178 (hb hby at_176) rfl rfl ?_
              refine g_i2l X364 hx 179 (hb hby at_178) rfl ?_
              have f377 : Sta Z T352.heap "java/lang/Long$LongCache" "cache" "[Ljava/lang/Long;" (.ref caJ) := (own_Sta_keep K353 S_cJ all0)
              refine own_callS X364 hx hZ hown (hw _ (List.mem_of_getElem? (i := 31) rfl)) (hw _ (List.mem_of_getElem? (i := 32) rfl)) (by decide) (rm_voJ l Z a0 hw [] ((p1 &&& (2147483647 : Int32)).toInt64) caJ clJ vfJ T352.heap n0 z354 f377 B_J (Kz.trans K353 all0)) (hw _ (List.mem_of_getElem? (i := 34) rfl)) (hw _ (List.mem_of_getElem? (i := 33) rfl)) e364 0 (by decide) (by decide) (by decide) (by decide) [(.long ((p1 &&& (2147483647 : Int32)).toInt64))] [] rfl pd_6 rfl 182 rfl (by rw [hml]; rfl) rfl (hb hby at_179) rfl fun T376 v376 L376 X376 hQ376 => ?_
              obtain ⟨r376, rfl, Nq376, Kq376, Er376⟩ := hQ376
              have N376 := Fr.app N364 Nq376
              have K378 : Keep h0 T376.heap [] := K353.trans Kq376 all0
              have z379 : n0 ≤ T376.heap.size := (Nat.le_trans z354 Kq376.1)
              show own_Go p e below s _ _ _ (T376.setTop (mkF m 182 _ [(.ref r376)]))
              refine g_astore X376 hx 184 (hb hby at_182) rfl (l' := #[.val (.int p0), .val (.int p1), .val (.int p2), .val (.int p3), .val (.int p4), .val (.int (p0 &&& (2147483647 : Int32))), .val (.int (p1 &&& (2147483647 : Int32))), .val (.int (p0 &&& (2147483647 : Int32))), .val (.int (p3 &&& (2147483647 : Int32))), .val (.ref b337), .val (.ref b345), .val (.int (1 : Int32)), .val (.int (((p4.toUInt32 >>> ((2 : Int32) &&& 31).toUInt32).toInt32) &&& (3 : Int32))), .val (.ref r376)]) rfl rfl ?_
              refine g_goto X376 hx 196 (hb hby at_184) (by decide) (by decide) ?_
              refine g_aload X376 hx 198 (hb hby at_196) rfl rfl rfl ?_
              refine g_aload X376 hx 200 (hb hby at_198) rfl rfl rfl ?_
              have f381 : Exa Z T376.heap b337 "com/example/statement_mapper/statementmapper/service/RowBounds" := (f360.keep Kq376)
              refine own_callV X376 hx hZ hown (hw _ (List.mem_of_getElem? (i := 14) rfl)) (hw _ (List.mem_of_getElem? (i := 15) rfl)) (own_nf hZ (hw _ (List.mem_of_getElem? (i := 17) rfl))) (hw _ (List.mem_of_getElem? (i := 17) rfl)) (hw _ (List.mem_of_getElem? (i := 16) rfl)) (by decide) (rm_eqno1 l Z a0 hw [] b337 r376 T376.heap n0 z379 Er376) (hw _ (List.mem_of_getElem? (i := 18) rfl)) (hw _ (List.mem_of_getElem? (i := 3) rfl)) rfl 0 (by decide) (by decide) (by decide) (by decide) f381 [(.ref r376)] [] rfl pd_4 rfl 203 rfl (by rw [hml]; rfl) rfl (hb hby at_200) rfl fun T380 v380 L380 X380 hQ380 => ?_
              obtain ⟨rfl, Nq380, e380⟩ := hQ380
              have N380 := Fr.app N376 Nq380
              show own_Go p e below s _ _ _ (T380.setTop (mkF m 203 _ [(.int (0 : Int32))]))
              refine g_ifNo X380 hx 206 (hb hby at_203) (own_i0_ne_f (by decide)) rfl ?_
              refine g_iconst X380 hx 207 (hb hby at_206) (1 : Int32) rfl rfl ?_
              refine g_goto X380 hx 211 (hb hby at_207) (by decide) (by decide) ?_
              refine own_retN X380 hx hlk (t := .boolean) hret (by simp) (hb hby at_211) ?_ (by decide) (by decide)
              rw [e380]
              exact ⟨rfl, N380⟩
            · refine g_icmpYes X364 hx 187 (hb hby at_173) (own_ii_ne_t c375) (by decide) (by decide) ?_
              refine own_newO X364 hx hZ hown (hw _ (List.mem_of_getElem? (i := 53) rfl)) (hw _ (List.mem_of_getElem? (i := 54) rfl)) (hw _ (List.mem_of_getElem? (i := 55) rfl)) e364 190 (hb hby at_187) rfl (by decide) (by decide) fun T382 h382 b382 X382 e382 g382 E382 A382 D382 => ?_
              have ne383 : b337 ≠ b382 := Nat.ne_of_lt (Nat.lt_of_lt_of_le f360.lt (Nat.le_of_eq g382.symm))
              have ne384 : b345 ≠ b382 := Nat.ne_of_lt (Nat.lt_of_lt_of_le f357.lt (Nat.le_of_eq g382.symm))
              have g_b382 : n0 ≤ b382 := Nat.le_trans z354 (Nat.le_of_eq g382.symm)
              have sz_b382 : h0.size ≤ b382 := Nat.le_trans K353.1 (Nat.le_of_eq g382.symm)
              have K385 : Keep h0 h382 [] := K353.ext E382
              have z386 : n0 ≤ h382.size := (Nat.le_trans z354 E382.1)
              have f387 : Fld Z h382 b382 "java/util/AbstractList" "modCount" "I" (.int (0 : Int32)) := D382 (Or.inl (hw _ (List.mem_of_getElem? (i := 73) rfl))) (ty := .int) (by decide)
              have f388 : Fld Z h382 b382 "java/util/ArrayList" "elementData" "[Ljava/lang/Object;" .null := D382 (Or.inl (hw _ (List.mem_of_getElem? (i := 76) rfl))) (ty := (.array (.object "java/lang/Object"))) (by decide)
              refine g_dup X382 hx 191 (hb hby at_190) rfl rfl ?_
              have f390 : Sta Z h382 "java/util/ArrayList" "DEFAULTCAPACITY_EMPTY_ELEMENTDATA" "[Ljava/lang/Object;" (.ref dd) := (own_Sta_keep K385 S_dd all0)
              refine own_callI X382 hx hZ hown rfl (hw _ (List.mem_of_getElem? (i := 56) rfl)) (hw _ (List.mem_of_getElem? (i := 57) rfl)) (by decide) (rm_arlist l Z a0 hw [] b382 dd h382 n0 z386 A382 f387 f388 f390 g_b382) (hw _ (List.mem_of_getElem? (i := 58) rfl)) (hw _ (List.mem_of_getElem? (i := 55) rfl)) e382 1 (by decide) (by decide) (by decide) (by decide) b382 [] [(.ref b382)] rfl pd_0 rfl 194 rfl (by rw [hml]; rfl) rfl (hb hby at_191) rfl fun T389 v389 L389 X389 hQ389 => ?_
              obtain ⟨rfl, Nq389, Kq389, f389_0, f389_1⟩ := hQ389
              have N389 := Fr.app N364 Nq389
              have K391 : Keep h0 T389.heap [] := K385.trans Kq389 (allS (Or.inr sz_b382) all0)
              have z392 : n0 ≤ T389.heap.size := (Nat.le_trans z386 Kq389.1)
              show own_Go p e below s _ _ _ (T389.setTop (mkF m 194 _ [(.ref b382)]))
              refine g_astore X389 hx 196 (hb hby at_194) rfl (l' := #[.val (.int p0), .val (.int p1), .val (.int p2), .val (.int p3), .val (.int p4), .val (.int (p0 &&& (2147483647 : Int32))), .val (.int (p1 &&& (2147483647 : Int32))), .val (.int (p0 &&& (2147483647 : Int32))), .val (.int (p3 &&& (2147483647 : Int32))), .val (.ref b337), .val (.ref b345), .val (.int (1 : Int32)), .val (.int (((p4.toUInt32 >>> ((2 : Int32) &&& 31).toUInt32).toInt32) &&& (3 : Int32))), .val (.ref b382)]) rfl rfl ?_
              refine g_aload X389 hx 198 (hb hby at_196) rfl rfl rfl ?_
              refine g_aload X389 hx 200 (hb hby at_198) rfl rfl rfl ?_
              have f394 : Exa Z T389.heap b382 "java/util/ArrayList" := (A382.keep Kq389)
              have f395 : Exa Z T389.heap b337 "com/example/statement_mapper/statementmapper/service/RowBounds" := ((Exa.ext E382 f360).keep Kq389)
              refine own_callV X389 hx hZ hown (hw _ (List.mem_of_getElem? (i := 14) rfl)) (hw _ (List.mem_of_getElem? (i := 15) rfl)) (own_nf hZ (hw _ (List.mem_of_getElem? (i := 17) rfl))) (hw _ (List.mem_of_getElem? (i := 17) rfl)) (hw _ (List.mem_of_getElem? (i := 16) rfl)) (by decide) (rm_eqno2 l Z a0 hw [] b337 b382 T389.heap n0 z392 f394) (hw _ (List.mem_of_getElem? (i := 18) rfl)) (hw _ (List.mem_of_getElem? (i := 3) rfl)) rfl 0 (by decide) (by decide) (by decide) (by decide) f395 [(.ref b382)] [] rfl pd_4 rfl 203 rfl (by rw [hml]; rfl) rfl (hb hby at_200) rfl fun T393 v393 L393 X393 hQ393 => ?_
              obtain ⟨rfl, Nq393, e393⟩ := hQ393
              have N393 := Fr.app N389 Nq393
              show own_Go p e below s _ _ _ (T393.setTop (mkF m 203 _ [(.int (0 : Int32))]))
              refine g_ifNo X393 hx 206 (hb hby at_203) (own_i0_ne_f (by decide)) rfl ?_
              refine g_iconst X393 hx 207 (hb hby at_206) (1 : Int32) rfl rfl ?_
              refine g_goto X393 hx 211 (hb hby at_207) (by decide) (by decide) ?_
              refine own_retN X393 hx hlk (t := .boolean) hret (by simp) (hb hby at_211) ?_ (by decide) (by decide)
              rw [e393]
              exact ⟨rfl, N393⟩
      · refine g_icmpYes X352 hx 92 (hb hby at_85) (own_ii_ne_t c355) (by decide) (by decide) ?_
        refine g_iconst X352 hx 93 (hb hby at_92) (0 : Int32) rfl rfl ?_
        refine g_istore X352 hx 95 (hb hby at_93) (l' := #[.val (.int p0), .val (.int p1), .val (.int p2), .val (.int p3), .val (.int p4), .val (.int (p0 &&& (2147483647 : Int32))), .val (.int (p1 &&& (2147483647 : Int32))), .val (.int (p0 &&& (2147483647 : Int32))), .val (.int (p3 &&& (2147483647 : Int32))), .val (.ref b337), .val (.ref b345), .val (.int (0 : Int32)), .unset, .unset]) rfl rfl ?_
        refine g_aload X352 hx 97 (hb hby at_95) rfl rfl rfl ?_
        refine g_aload X352 hx 99 (hb hby at_97) rfl rfl rfl ?_
        have f397 : Exa Z T352.heap b345 "com/example/statement_mapper/statementmapper/service/RowBounds" := (A345.keep Kq352)
        have f398 : Fld Z T352.heap b337 "com/example/statement_mapper/statementmapper/service/RowBounds" "offset" "I" (.int (p0 &&& (2147483647 : Int32))) := ((Fld.ext E345 f342_0).keep Kq352 (ninS ne347 nin0))
        have f399 : Fld Z T352.heap b337 "com/example/statement_mapper/statementmapper/service/RowBounds" "limit" "I" (.int (p1 &&& (2147483647 : Int32))) := ((Fld.ext E345 f342_1).keep Kq352 (ninS ne347 nin0))
        have f400 : Exa Z T352.heap b337 "com/example/statement_mapper/statementmapper/service/RowBounds" := ((Exa.ext E345 f346).keep Kq352)
        refine own_callV X352 hx hZ hown (hw _ (List.mem_of_getElem? (i := 14) rfl)) (hw _ (List.mem_of_getElem? (i := 15) rfl)) (own_nf hZ (hw _ (List.mem_of_getElem? (i := 17) rfl))) (hw _ (List.mem_of_getElem? (i := 17) rfl)) (hw _ (List.mem_of_getElem? (i := 16) rfl)) (by decide) (rm_eq l Z a0 hw [] b337 b345 (p0 &&& (2147483647 : Int32)) (p1 &&& (2147483647 : Int32)) (p0 &&& (2147483647 : Int32)) (p3 &&& (2147483647 : Int32)) T352.heap n0 z354 f397 f398 f399 f352_0 f352_1) (hw _ (List.mem_of_getElem? (i := 18) rfl)) (hw _ (List.mem_of_getElem? (i := 3) rfl)) rfl 0 (by decide) (by decide) (by decide) (by decide) f400 [(.ref b345)] [] rfl pd_4 rfl 102 rfl (by rw [hml]; rfl) rfl (hb hby at_99) rfl fun T396 v396 L396 X396 hQ396 => ?_
        obtain ⟨rfl, Nq396, e396⟩ := hQ396
        have N396 := Fr.app N352 Nq396
        show own_Go p e below s _ _ _ (T396.setTop (mkF m 102 _ [(.int (own_eq (p0 &&& (2147483647 : Int32)) (p1 &&& (2147483647 : Int32)) (p0 &&& (2147483647 : Int32)) (p3 &&& (2147483647 : Int32))))]))
        refine g_iload X396 hx 104 (hb hby at_102) rfl rfl ?_
        have c401 : (own_eq (p0 &&& (2147483647 : Int32)) (p1 &&& (2147483647 : Int32)) (p0 &&& (2147483647 : Int32)) (p3 &&& (2147483647 : Int32))) = (0 : Int32) := by simp [own_eq, c95, (Ne.symm c95), c336, c355, (Ne.symm c355)]
        refine g_icmpYes X396 hx 109 (hb hby at_104) (own_ii_eq_t c401) (by decide) (by decide) ?_
        refine g_aload X396 hx 111 (hb hby at_109) rfl rfl rfl ?_
        refine g_aload X396 hx 113 (hb hby at_111) rfl rfl rfl ?_
        refine own_callV X396 hx hZ hown (hw _ (List.mem_of_getElem? (i := 14) rfl)) (hw _ (List.mem_of_getElem? (i := 15) rfl)) (own_nf hZ (hw _ (List.mem_of_getElem? (i := 17) rfl))) (hw _ (List.mem_of_getElem? (i := 17) rfl)) (hw _ (List.mem_of_getElem? (i := 16) rfl)) (by decide) (rm_eq l Z a0 hw [] b345 b337 (p0 &&& (2147483647 : Int32)) (p3 &&& (2147483647 : Int32)) (p0 &&& (2147483647 : Int32)) (p1 &&& (2147483647 : Int32)) T352.heap n0 z354 f400 f352_0 f352_1 f398 f399) (hw _ (List.mem_of_getElem? (i := 18) rfl)) (hw _ (List.mem_of_getElem? (i := 3) rfl)) e396 0 (by decide) (by decide) (by decide) (by decide) f397 [(.ref b337)] [] rfl pd_4 rfl 116 rfl (by rw [hml]; rfl) rfl (hb hby at_113) rfl fun T402 v402 L402 X402 hQ402 => ?_
        obtain ⟨rfl, Nq402, e402⟩ := hQ402
        have N402 := Fr.app N396 Nq402
        show own_Go p e below s _ _ _ (T402.setTop (mkF m 116 _ [(.int (own_eq (p0 &&& (2147483647 : Int32)) (p3 &&& (2147483647 : Int32)) (p0 &&& (2147483647 : Int32)) (p1 &&& (2147483647 : Int32))))]))
        refine g_iload X402 hx 118 (hb hby at_116) rfl rfl ?_
        have c403 : (own_eq (p0 &&& (2147483647 : Int32)) (p3 &&& (2147483647 : Int32)) (p0 &&& (2147483647 : Int32)) (p1 &&& (2147483647 : Int32))) = (0 : Int32) := by simp [own_eq, c95, (Ne.symm c95), c336, c355, (Ne.symm c355), c401]
        refine g_icmpYes X402 hx 123 (hb hby at_118) (own_ii_eq_t c403) (by decide) (by decide) ?_
        refine g_aload X402 hx 125 (hb hby at_123) rfl rfl rfl ?_
        refine g_aload X402 hx 127 (hb hby at_125) rfl rfl rfl ?_
        refine own_callV X402 hx hZ hown (hw _ (List.mem_of_getElem? (i := 14) rfl)) (hw _ (List.mem_of_getElem? (i := 15) rfl)) (own_nf hZ (hw _ (List.mem_of_getElem? (i := 17) rfl))) (hw _ (List.mem_of_getElem? (i := 17) rfl)) (hw _ (List.mem_of_getElem? (i := 16) rfl)) (by decide) (rm_eqself l Z a0 hw [] b337 (p0 &&& (2147483647 : Int32)) (p1 &&& (2147483647 : Int32)) T352.heap n0 z354 f400 f398 f399) (hw _ (List.mem_of_getElem? (i := 18) rfl)) (hw _ (List.mem_of_getElem? (i := 3) rfl)) e402 0 (by decide) (by decide) (by decide) (by decide) f400 [(.ref b337)] [] rfl pd_4 rfl 130 rfl (by rw [hml]; rfl) rfl (hb hby at_127) rfl fun T404 v404 L404 X404 hQ404 => ?_
        obtain ⟨rfl, Nq404, e404⟩ := hQ404
        have N404 := Fr.app N402 Nq404
        show own_Go p e below s _ _ _ (T404.setTop (mkF m 130 _ [(.int (1 : Int32))]))
        refine g_ifYes X404 hx 135 (hb hby at_130) (own_i0_ne_t (by decide)) (by decide) (by decide) ?_
        refine g_iload X404 hx 137 (hb hby at_135) rfl rfl ?_
        refine g_iconst X404 hx 138 (hb hby at_137) (2 : Int32) rfl rfl ?_
        refine g_iushr X404 hx 139 (hb hby at_138) rfl ?_
        refine g_iconst X404 hx 140 (hb hby at_139) (3 : Int32) rfl rfl ?_
        refine g_iand X404 hx 141 (hb hby at_140) rfl ?_
        refine g_istore X404 hx 143 (hb hby at_141) (l' := #[.val (.int p0), .val (.int p1), .val (.int p2), .val (.int p3), .val (.int p4), .val (.int (p0 &&& (2147483647 : Int32))), .val (.int (p1 &&& (2147483647 : Int32))), .val (.int (p0 &&& (2147483647 : Int32))), .val (.int (p3 &&& (2147483647 : Int32))), .val (.ref b337), .val (.ref b345), .val (.int (0 : Int32)), .val (.int (((p4.toUInt32 >>> ((2 : Int32) &&& 31).toUInt32).toInt32) &&& (3 : Int32))), .unset]) rfl rfl ?_
        refine g_iload X404 hx 145 (hb hby at_143) rfl rfl ?_
        by_cases c405 : (((p4.toUInt32 >>> ((2 : Int32) &&& 31).toUInt32).toInt32) &&& (3 : Int32)) = (0 : Int32)
        · refine g_ifNo X404 hx 148 (hb hby at_145) (own_i0_ne_f c405) rfl ?_
          refine g_aconst_null X404 hx 149 (hb hby at_148) rfl ?_
          refine g_astore X404 hx 151 (hb hby at_149) rfl (l' := #[.val (.int p0), .val (.int p1), .val (.int p2), .val (.int p3), .val (.int p4), .val (.int (p0 &&& (2147483647 : Int32))), .val (.int (p1 &&& (2147483647 : Int32))), .val (.int (p0 &&& (2147483647 : Int32))), .val (.int (p3 &&& (2147483647 : Int32))), .val (.ref b337), .val (.ref b345), .val (.int (0 : Int32)), .val (.int (((p4.toUInt32 >>> ((2 : Int32) &&& 31).toUInt32).toInt32) &&& (3 : Int32))), .val .null]) rfl rfl ?_
          refine g_goto X404 hx 196 (hb hby at_151) (by decide) (by decide) ?_
          refine g_aload X404 hx 198 (hb hby at_196) rfl rfl rfl ?_
          refine g_aload X404 hx 200 (hb hby at_198) rfl rfl rfl ?_
          refine own_callV X404 hx hZ hown (hw _ (List.mem_of_getElem? (i := 14) rfl)) (hw _ (List.mem_of_getElem? (i := 15) rfl)) (own_nf hZ (hw _ (List.mem_of_getElem? (i := 17) rfl))) (hw _ (List.mem_of_getElem? (i := 17) rfl)) (hw _ (List.mem_of_getElem? (i := 16) rfl)) (by decide) (rm_eqnull l Z a0 hw [] b337 T352.heap n0 z354 ) (hw _ (List.mem_of_getElem? (i := 18) rfl)) (hw _ (List.mem_of_getElem? (i := 3) rfl)) e404 0 (by decide) (by decide) (by decide) (by decide) f400 [.null] [] rfl pd_4 rfl 203 rfl (by rw [hml]; rfl) rfl (hb hby at_200) rfl fun T406 v406 L406 X406 hQ406 => ?_
          obtain ⟨rfl, Nq406, e406⟩ := hQ406
          have N406 := Fr.app N404 Nq406
          show own_Go p e below s _ _ _ (T406.setTop (mkF m 203 _ [(.int (0 : Int32))]))
          refine g_ifNo X406 hx 206 (hb hby at_203) (own_i0_ne_f (by decide)) rfl ?_
          refine g_iconst X406 hx 207 (hb hby at_206) (1 : Int32) rfl rfl ?_
          refine g_goto X406 hx 211 (hb hby at_207) (by decide) (by decide) ?_
          refine own_retN X406 hx hlk (t := .boolean) hret (by simp) (hb hby at_211) ?_ (by decide) (by decide)
          rw [e406]
          exact ⟨rfl, N406⟩
        · refine g_ifYes X404 hx 154 (hb hby at_145) (own_i0_ne_t c405) (by decide) (by decide) ?_
          refine g_iload X404 hx 156 (hb hby at_154) rfl rfl ?_
          refine g_iconst X404 hx 157 (hb hby at_156) (1 : Int32) rfl rfl ?_
          by_cases c407 : (((p4.toUInt32 >>> ((2 : Int32) &&& 31).toUInt32).toInt32) &&& (3 : Int32)) = (1 : Int32)
          · refine g_icmpNo X404 hx 160 (hb hby at_157) (own_ii_ne_f c407) rfl ?_
            refine g_iload X404 hx 162 (hb hby at_160) rfl rfl ?_
            have f409 : Sta Z T352.heap "java/lang/Integer$IntegerCache" "high" "I" (.int (127 : Int32)) := (own_Sta_keep K353 S_high all0)
            have f410 : Sta Z T352.heap "java/lang/Integer$IntegerCache" "cache" "[Ljava/lang/Integer;" (.ref caI) := (own_Sta_keep K353 S_cI all0)
            refine own_callS X404 hx hZ hown (hw _ (List.mem_of_getElem? (i := 21) rfl)) (hw _ (List.mem_of_getElem? (i := 22) rfl)) (by decide) (rm_voI l Z a0 hw [] (p0 &&& (2147483647 : Int32)) caI clI vfI T352.heap n0 z354 f409 f410 B_I (Kz.trans K353 all0)) (hw _ (List.mem_of_getElem? (i := 24) rfl)) (hw _ (List.mem_of_getElem? (i := 23) rfl)) e404 0 (by decide) (by decide) (by decide) (by decide) [(.int (p0 &&& (2147483647 : Int32)))] [] rfl pd_5 rfl 165 rfl (by rw [hml]; rfl) rfl (hb hby at_162) rfl fun T408 v408 L408 X408 hQ408 => ?_
            obtain ⟨r408, rfl, Nq408, Kq408, Er408⟩ := hQ408
            have N408 := Fr.app N404 Nq408
            have K411 : Keep h0 T408.heap [] := K353.trans Kq408 all0
            have z412 : n0 ≤ T408.heap.size := (Nat.le_trans z354 Kq408.1)
            show own_Go p e below s _ _ _ (T408.setTop (mkF m 165 _ [(.ref r408)]))
            refine g_astore X408 hx 167 (hb hby at_165) rfl (l' := #[.val (.int p0), .val (.int p1), .val (.int p2), .val (.int p3), .val (.int p4), .val (.int (p0 &&& (2147483647 : Int32))), .val (.int (p1 &&& (2147483647 : Int32))), .val (.int (p0 &&& (2147483647 : Int32))), .val (.int (p3 &&& (2147483647 : Int32))), .val (.ref b337), .val (.ref b345), .val (.int (0 : Int32)), .val (.int (((p4.toUInt32 >>> ((2 : Int32) &&& 31).toUInt32).toInt32) &&& (3 : Int32))), .val (.ref r408)]) rfl rfl ?_
            refine g_goto X408 hx 196 (hb hby at_167) (by decide) (by decide) ?_
            refine g_aload X408 hx 198 (hb hby at_196) rfl rfl rfl ?_
            refine g_aload X408 hx 200 (hb hby at_198) rfl rfl rfl ?_
            have f414 : Exa Z T408.heap b337 "com/example/statement_mapper/statementmapper/service/RowBounds" := (f400.keep Kq408)
            refine own_callV X408 hx hZ hown (hw _ (List.mem_of_getElem? (i := 14) rfl)) (hw _ (List.mem_of_getElem? (i := 15) rfl)) (own_nf hZ (hw _ (List.mem_of_getElem? (i := 17) rfl))) (hw _ (List.mem_of_getElem? (i := 17) rfl)) (hw _ (List.mem_of_getElem? (i := 16) rfl)) (by decide) (rm_eqno0 l Z a0 hw [] b337 r408 T408.heap n0 z412 Er408) (hw _ (List.mem_of_getElem? (i := 18) rfl)) (hw _ (List.mem_of_getElem? (i := 3) rfl)) rfl 0 (by decide) (by decide) (by decide) (by decide) f414 [(.ref r408)] [] rfl pd_4 rfl 203 rfl (by rw [hml]; rfl) rfl (hb hby at_200) rfl fun T413 v413 L413 X413 hQ413 => ?_
            obtain ⟨rfl, Nq413, e413⟩ := hQ413
            have N413 := Fr.app N408 Nq413
            show own_Go p e below s _ _ _ (T413.setTop (mkF m 203 _ [(.int (0 : Int32))]))
            refine g_ifNo X413 hx 206 (hb hby at_203) (own_i0_ne_f (by decide)) rfl ?_
            refine g_iconst X413 hx 207 (hb hby at_206) (1 : Int32) rfl rfl ?_
            refine g_goto X413 hx 211 (hb hby at_207) (by decide) (by decide) ?_
            refine own_retN X413 hx hlk (t := .boolean) hret (by simp) (hb hby at_211) ?_ (by decide) (by decide)
            rw [e413]
            exact ⟨rfl, N413⟩
          · refine g_icmpYes X404 hx 170 (hb hby at_157) (own_ii_ne_t c407) (by decide) (by decide) ?_
            refine g_iload X404 hx 172 (hb hby at_170) rfl rfl ?_
            refine g_iconst X404 hx 173 (hb hby at_172) (2 : Int32) rfl rfl ?_
            by_cases c415 : (((p4.toUInt32 >>> ((2 : Int32) &&& 31).toUInt32).toInt32) &&& (3 : Int32)) = (2 : Int32)
            · refine g_icmpNo X404 hx 176 (hb hby at_173) (own_ii_ne_f c415) rfl ?_
              refine g_iload X404 hx 178 (hb hby at_176) rfl rfl ?_
              refine g_i2l X404 hx 179 (hb hby at_178) rfl ?_
              have f417 : Sta Z T352.heap "java/lang/Long$LongCache" "cache" "[Ljava/lang/Long;" (.ref caJ) := (own_Sta_keep K353 S_cJ all0)
              refine own_callS X404 hx hZ hown (hw _ (List.mem_of_getElem? (i := 31) rfl)) (hw _ (List.mem_of_getElem? (i := 32) rfl)) (by decide) (rm_voJ l Z a0 hw [] ((p1 &&& (2147483647 : Int32)).toInt64) caJ clJ vfJ T352.heap n0 z354 f417 B_J (Kz.trans K353 all0)) (hw _ (List.mem_of_getElem? (i := 34) rfl)) (hw _ (List.mem_of_getElem? (i := 33) rfl)) e404 0 (by decide) (by decide) (by decide) (by decide) [(.long ((p1 &&& (2147483647 : Int32)).toInt64))] [] rfl pd_6 rfl 182 rfl (by rw [hml]; rfl) rfl (hb hby at_179) rfl fun T416 v416 L416 X416 hQ416 => ?_
              obtain ⟨r416, rfl, Nq416, Kq416, Er416⟩ := hQ416
              have N416 := Fr.app N404 Nq416
              have K418 : Keep h0 T416.heap [] := K353.trans Kq416 all0
              have z419 : n0 ≤ T416.heap.size := (Nat.le_trans z354 Kq416.1)
              show own_Go p e below s _ _ _ (T416.setTop (mkF m 182 _ [(.ref r416)]))
              refine g_astore X416 hx 184 (hb hby at_182) rfl (l' := #[.val (.int p0), .val (.int p1), .val (.int p2), .val (.int p3), .val (.int p4), .val (.int (p0 &&& (2147483647 : Int32))), .val (.int (p1 &&& (2147483647 : Int32))), .val (.int (p0 &&& (2147483647 : Int32))), .val (.int (p3 &&& (2147483647 : Int32))), .val (.ref b337), .val (.ref b345), .val (.int (0 : Int32)), .val (.int (((p4.toUInt32 >>> ((2 : Int32) &&& 31).toUInt32).toInt32) &&& (3 : Int32))), .val (.ref r416)]) rfl rfl ?_
              refine g_goto X416 hx 196 (hb hby at_184) (by decide) (by decide) ?_
              refine g_aload X416 hx 198 (hb hby at_196) rfl rfl rfl ?_
              refine g_aload X416 hx 200 (hb hby at_198) rfl rfl rfl ?_
              have f421 : Exa Z T416.heap b337 "com/example/statement_mapper/statementmapper/service/RowBounds" := (f400.keep Kq416)
              refine own_callV X416 hx hZ hown (hw _ (List.mem_of_getElem? (i := 14) rfl)) (hw _ (List.mem_of_getElem? (i := 15) rfl)) (own_nf hZ (hw _ (List.mem_of_getElem? (i := 17) rfl))) (hw _ (List.mem_of_getElem? (i := 17) rfl)) (hw _ (List.mem_of_getElem? (i := 16) rfl)) (by decide) (rm_eqno1 l Z a0 hw [] b337 r416 T416.heap n0 z419 Er416) (hw _ (List.mem_of_getElem? (i := 18) rfl)) (hw _ (List.mem_of_getElem? (i := 3) rfl)) rfl 0 (by decide) (by decide) (by decide) (by decide) f421 [(.ref r416)] [] rfl pd_4 rfl 203 rfl (by rw [hml]; rfl) rfl (hb hby at_200) rfl fun T420 v420 L420 X420 hQ420 => ?_
              obtain ⟨rfl, Nq420, e420⟩ := hQ420
              have N420 := Fr.app N416 Nq420
              show own_Go p e below s _ _ _ (T420.setTop (mkF m 203 _ [(.int (0 : Int32))]))
              refine g_ifNo X420 hx 206 (hb hby at_203) (own_i0_ne_f (by decide)) rfl ?_
              refine g_iconst X420 hx 207 (hb hby at_206) (1 : Int32) rfl rfl ?_
              refine g_goto X420 hx 211 (hb hby at_207) (by decide) (by decide) ?_
              refine own_retN X420 hx hlk (t := .boolean) hret (by simp) (hb hby at_211) ?_ (by decide) (by decide)
              rw [e420]
              exact ⟨rfl, N420⟩
            · refine g_icmpYes X404 hx 187 (hb hby at_173) (own_ii_ne_t c415) (by decide) (by decide) ?_
              refine own_newO X404 hx hZ hown (hw _ (List.mem_of_getElem? (i := 53) rfl)) (hw _ (List.mem_of_getElem? (i := 54) rfl)) (hw _ (List.mem_of_getElem? (i := 55) rfl)) e404 190 (hb hby at_187) rfl (by decide) (by decide) fun T422 h422 b422 X422 e422 g422 E422 A422 D422 => ?_
              have ne423 : b337 ≠ b422 := Nat.ne_of_lt (Nat.lt_of_lt_of_le f400.lt (Nat.le_of_eq g422.symm))
              have ne424 : b345 ≠ b422 := Nat.ne_of_lt (Nat.lt_of_lt_of_le f397.lt (Nat.le_of_eq g422.symm))
              have g_b422 : n0 ≤ b422 := Nat.le_trans z354 (Nat.le_of_eq g422.symm)
              have sz_b422 : h0.size ≤ b422 := Nat.le_trans K353.1 (Nat.le_of_eq g422.symm)
              have K425 : Keep h0 h422 [] := K353.ext E422
              have z426 : n0 ≤ h422.size := (Nat.le_trans z354 E422.1)
              have f427 : Fld Z h422 b422 "java/util/AbstractList" "modCount" "I" (.int (0 : Int32)) := D422 (Or.inl (hw _ (List.mem_of_getElem? (i := 73) rfl))) (ty := .int) (by decide)
              have f428 : Fld Z h422 b422 "java/util/ArrayList" "elementData" "[Ljava/lang/Object;" .null := D422 (Or.inl (hw _ (List.mem_of_getElem? (i := 76) rfl))) (ty := (.array (.object "java/lang/Object"))) (by decide)
              refine g_dup X422 hx 191 (hb hby at_190) rfl rfl ?_
              have f430 : Sta Z h422 "java/util/ArrayList" "DEFAULTCAPACITY_EMPTY_ELEMENTDATA" "[Ljava/lang/Object;" (.ref dd) := (own_Sta_keep K425 S_dd all0)
              refine own_callI X422 hx hZ hown rfl (hw _ (List.mem_of_getElem? (i := 56) rfl)) (hw _ (List.mem_of_getElem? (i := 57) rfl)) (by decide) (rm_arlist l Z a0 hw [] b422 dd h422 n0 z426 A422 f427 f428 f430 g_b422) (hw _ (List.mem_of_getElem? (i := 58) rfl)) (hw _ (List.mem_of_getElem? (i := 55) rfl)) e422 1 (by decide) (by decide) (by decide) (by decide) b422 [] [(.ref b422)] rfl pd_0 rfl 194 rfl (by rw [hml]; rfl) rfl (hb hby at_191) rfl fun T429 v429 L429 X429 hQ429 => ?_
              obtain ⟨rfl, Nq429, Kq429, f429_0, f429_1⟩ := hQ429
              have N429 := Fr.app N404 Nq429
              have K431 : Keep h0 T429.heap [] := K425.trans Kq429 (allS (Or.inr sz_b422) all0)
              have z432 : n0 ≤ T429.heap.size := (Nat.le_trans z426 Kq429.1)
              show own_Go p e below s _ _ _ (T429.setTop (mkF m 194 _ [(.ref b422)]))
              refine g_astore X429 hx 196 (hb hby at_194) rfl (l' := #[.val (.int p0), .val (.int p1), .val (.int p2), .val (.int p3), .val (.int p4), .val (.int (p0 &&& (2147483647 : Int32))), .val (.int (p1 &&& (2147483647 : Int32))), .val (.int (p0 &&& (2147483647 : Int32))), .val (.int (p3 &&& (2147483647 : Int32))), .val (.ref b337), .val (.ref b345), .val (.int (0 : Int32)), .val (.int (((p4.toUInt32 >>> ((2 : Int32) &&& 31).toUInt32).toInt32) &&& (3 : Int32))), .val (.ref b422)]) rfl rfl ?_
              refine g_aload X429 hx 198 (hb hby at_196) rfl rfl rfl ?_
              refine g_aload X429 hx 200 (hb hby at_198) rfl rfl rfl ?_
              have f434 : Exa Z T429.heap b422 "java/util/ArrayList" := (A422.keep Kq429)
              have f435 : Exa Z T429.heap b337 "com/example/statement_mapper/statementmapper/service/RowBounds" := ((Exa.ext E422 f400).keep Kq429)
              refine own_callV X429 hx hZ hown (hw _ (List.mem_of_getElem? (i := 14) rfl)) (hw _ (List.mem_of_getElem? (i := 15) rfl)) (own_nf hZ (hw _ (List.mem_of_getElem? (i := 17) rfl))) (hw _ (List.mem_of_getElem? (i := 17) rfl)) (hw _ (List.mem_of_getElem? (i := 16) rfl)) (by decide) (rm_eqno2 l Z a0 hw [] b337 b422 T429.heap n0 z432 f434) (hw _ (List.mem_of_getElem? (i := 18) rfl)) (hw _ (List.mem_of_getElem? (i := 3) rfl)) rfl 0 (by decide) (by decide) (by decide) (by decide) f435 [(.ref b422)] [] rfl pd_4 rfl 203 rfl (by rw [hml]; rfl) rfl (hb hby at_200) rfl fun T433 v433 L433 X433 hQ433 => ?_
              obtain ⟨rfl, Nq433, e433⟩ := hQ433
              have N433 := Fr.app N429 Nq433
              show own_Go p e below s _ _ _ (T433.setTop (mkF m 203 _ [(.int (0 : Int32))]))
              refine g_ifNo X433 hx 206 (hb hby at_203) (own_i0_ne_f (by decide)) rfl ?_
              refine g_iconst X433 hx 207 (hb hby at_206) (1 : Int32) rfl rfl ?_
              refine g_goto X433 hx 211 (hb hby at_207) (by decide) (by decide) ?_
              refine own_retN X433 hx hlk (t := .boolean) hret (by simp) (hb hby at_211) ?_ (by decide) (by decide)
              rw [e433]
              exact ⟨rfl, N433⟩
    · refine g_ifNo X0 hx 37 (hb hby at_34) (own_i0_eq_f c336) rfl ?_
      refine g_iload X0 hx 39 (hb hby at_37) rfl rfl ?_
      refine g_goto X0 hx 46 (hb hby at_39) (by decide) (by decide) ?_
      refine g_istore X0 hx 48 (hb hby at_46) (l' := #[.val (.int p0), .val (.int p1), .val (.int p2), .val (.int p3), .val (.int p4), .val (.int (p0 &&& (2147483647 : Int32))), .val (.int (p1 &&& (2147483647 : Int32))), .val (.int (p0 &&& (2147483647 : Int32))), .val (.int (p1 &&& (2147483647 : Int32))), .unset, .unset, .unset, .unset, .unset]) rfl rfl ?_
      refine own_newO X0 hx hZ hown (hw _ (List.mem_of_getElem? (i := 1) rfl)) (hw _ (List.mem_of_getElem? (i := 2) rfl)) (hw _ (List.mem_of_getElem? (i := 3) rfl)) e0 51 (hb hby at_48) rfl (by decide) (by decide) fun T436 h436 b436 X436 e436 g436 E436 A436 D436 => ?_
      have g_b436 : n0 ≤ b436 := Nat.le_trans Z0 (Nat.le_of_eq g436.symm)
      have sz_b436 : h0.size ≤ b436 := Nat.le_trans (Keep.refl h0 []).1 (Nat.le_of_eq g436.symm)
      have K437 : Keep h0 h436 [] := (Keep.refl h0 []).ext E436
      have z438 : n0 ≤ h436.size := (Nat.le_trans Z0 E436.1)
      have f439 : Fld Z h436 b436 "com/example/statement_mapper/statementmapper/service/RowBounds" "offset" "I" (.int (0 : Int32)) := D436 (Or.inr (hw _ (List.mem_of_getElem? (i := 11) rfl))) (ty := .int) (by decide)
      have f440 : Fld Z h436 b436 "com/example/statement_mapper/statementmapper/service/RowBounds" "limit" "I" (.int (0 : Int32)) := D436 (Or.inr (hw _ (List.mem_of_getElem? (i := 13) rfl))) (ty := .int) (by decide)
      refine g_dup X436 hx 52 (hb hby at_51) rfl rfl ?_
      refine g_iload X436 hx 54 (hb hby at_52) rfl rfl ?_
      refine g_iload X436 hx 56 (hb hby at_54) rfl rfl ?_
      refine own_callI X436 hx hZ hown rfl (hw _ (List.mem_of_getElem? (i := 4) rfl)) (hw _ (List.mem_of_getElem? (i := 5) rfl)) (by decide) (rm_init l Z a0 hw [] b436 (p0 &&& (2147483647 : Int32)) (p1 &&& (2147483647 : Int32)) h436 n0 z438 A436 f439 f440 g_b436 (own_pos _) (own_pos _)) (hw _ (List.mem_of_getElem? (i := 6) rfl)) (hw _ (List.mem_of_getElem? (i := 3) rfl)) e436 1 (by decide) (by decide) (by decide) (by decide) b436 [(.int (p0 &&& (2147483647 : Int32))), (.int (p1 &&& (2147483647 : Int32)))] [(.ref b436)] rfl pd_3 rfl 59 rfl (by rw [hml]; rfl) rfl (hb hby at_56) rfl fun T441 v441 L441 X441 hQ441 => ?_
      obtain ⟨rfl, Nq441, Kq441, f441_0, f441_1⟩ := hQ441
      have N441 := Fr.app N0 Nq441
      have K442 : Keep h0 T441.heap [] := K437.trans Kq441 (allS (Or.inr sz_b436) all0)
      have z443 : n0 ≤ T441.heap.size := (Nat.le_trans z438 Kq441.1)
      show own_Go p e below s _ _ _ (T441.setTop (mkF m 59 _ [(.ref b436)]))
      refine g_astore X441 hx 61 (hb hby at_59) rfl (l' := #[.val (.int p0), .val (.int p1), .val (.int p2), .val (.int p3), .val (.int p4), .val (.int (p0 &&& (2147483647 : Int32))), .val (.int (p1 &&& (2147483647 : Int32))), .val (.int (p0 &&& (2147483647 : Int32))), .val (.int (p1 &&& (2147483647 : Int32))), .val (.ref b436), .unset, .unset, .unset, .unset]) rfl rfl ?_
      refine own_newO X441 hx hZ hown (hw _ (List.mem_of_getElem? (i := 1) rfl)) (hw _ (List.mem_of_getElem? (i := 2) rfl)) (hw _ (List.mem_of_getElem? (i := 3) rfl)) rfl 64 (hb hby at_61) rfl (by decide) (by decide) fun T444 h444 b444 X444 e444 g444 E444 A444 D444 => ?_
      have f445 : Exa Z T441.heap b436 "com/example/statement_mapper/statementmapper/service/RowBounds" := (A436.keep Kq441)
      have ne446 : b436 ≠ b444 := Nat.ne_of_lt (Nat.lt_of_lt_of_le f445.lt (Nat.le_of_eq g444.symm))
      have g_b444 : n0 ≤ b444 := Nat.le_trans z443 (Nat.le_of_eq g444.symm)
      have sz_b444 : h0.size ≤ b444 := Nat.le_trans K442.1 (Nat.le_of_eq g444.symm)
      have K447 : Keep h0 h444 [] := K442.ext E444
      have z448 : n0 ≤ h444.size := (Nat.le_trans z443 E444.1)
      have f449 : Fld Z h444 b444 "com/example/statement_mapper/statementmapper/service/RowBounds" "offset" "I" (.int (0 : Int32)) := D444 (Or.inr (hw _ (List.mem_of_getElem? (i := 11) rfl))) (ty := .int) (by decide)
      have f450 : Fld Z h444 b444 "com/example/statement_mapper/statementmapper/service/RowBounds" "limit" "I" (.int (0 : Int32)) := D444 (Or.inr (hw _ (List.mem_of_getElem? (i := 13) rfl))) (ty := .int) (by decide)
      refine g_dup X444 hx 65 (hb hby at_64) rfl rfl ?_
      refine g_iload X444 hx 67 (hb hby at_65) rfl rfl ?_
      refine g_iload X444 hx 69 (hb hby at_67) rfl rfl ?_
      refine own_callI X444 hx hZ hown rfl (hw _ (List.mem_of_getElem? (i := 4) rfl)) (hw _ (List.mem_of_getElem? (i := 5) rfl)) (by decide) (rm_init l Z a0 hw [] b444 (p0 &&& (2147483647 : Int32)) (p1 &&& (2147483647 : Int32)) h444 n0 z448 A444 f449 f450 g_b444 (own_pos _) (own_pos _)) (hw _ (List.mem_of_getElem? (i := 6) rfl)) (hw _ (List.mem_of_getElem? (i := 3) rfl)) e444 1 (by decide) (by decide) (by decide) (by decide) b444 [(.int (p0 &&& (2147483647 : Int32))), (.int (p1 &&& (2147483647 : Int32)))] [(.ref b444)] rfl pd_3 rfl 72 rfl (by rw [hml]; rfl) rfl (hb hby at_69) rfl fun T451 v451 L451 X451 hQ451 => ?_
      obtain ⟨rfl, Nq451, Kq451, f451_0, f451_1⟩ := hQ451
      have N451 := Fr.app N441 Nq451
      have K452 : Keep h0 T451.heap [] := K447.trans Kq451 (allS (Or.inr sz_b444) all0)
      have z453 : n0 ≤ T451.heap.size := (Nat.le_trans z448 Kq451.1)
      show own_Go p e below s _ _ _ (T451.setTop (mkF m 72 _ [(.ref b444)]))
      refine g_astore X451 hx 74 (hb hby at_72) rfl (l' := #[.val (.int p0), .val (.int p1), .val (.int p2), .val (.int p3), .val (.int p4), .val (.int (p0 &&& (2147483647 : Int32))), .val (.int (p1 &&& (2147483647 : Int32))), .val (.int (p0 &&& (2147483647 : Int32))), .val (.int (p1 &&& (2147483647 : Int32))), .val (.ref b436), .val (.ref b444), .unset, .unset, .unset]) rfl rfl ?_
      refine g_iload X451 hx 76 (hb hby at_74) rfl rfl ?_
      refine g_iload X451 hx 78 (hb hby at_76) rfl rfl ?_
      refine g_icmpNo X451 hx 81 (hb hby at_78) (own_ii_ne_f rfl) rfl ?_
      refine g_iload X451 hx 83 (hb hby at_81) rfl rfl ?_
      refine g_iload X451 hx 85 (hb hby at_83) rfl rfl ?_
      refine g_icmpNo X451 hx 88 (hb hby at_85) (own_ii_ne_f rfl) rfl ?_
      refine g_iconst X451 hx 89 (hb hby at_88) (1 : Int32) rfl rfl ?_
      refine g_goto X451 hx 93 (hb hby at_89) (by decide) (by decide) ?_
      refine g_istore X451 hx 95 (hb hby at_93) (l' := #[.val (.int p0), .val (.int p1), .val (.int p2), .val (.int p3), .val (.int p4), .val (.int (p0 &&& (2147483647 : Int32))), .val (.int (p1 &&& (2147483647 : Int32))), .val (.int (p0 &&& (2147483647 : Int32))), .val (.int (p1 &&& (2147483647 : Int32))), .val (.ref b436), .val (.ref b444), .val (.int (1 : Int32)), .unset, .unset]) rfl rfl ?_
      refine g_aload X451 hx 97 (hb hby at_95) rfl rfl rfl ?_
      refine g_aload X451 hx 99 (hb hby at_97) rfl rfl rfl ?_
      have f455 : Exa Z T451.heap b444 "com/example/statement_mapper/statementmapper/service/RowBounds" := (A444.keep Kq451)
      have f456 : Fld Z T451.heap b436 "com/example/statement_mapper/statementmapper/service/RowBounds" "offset" "I" (.int (p0 &&& (2147483647 : Int32))) := ((Fld.ext E444 f441_0).keep Kq451 (ninS ne446 nin0))
      have f457 : Fld Z T451.heap b436 "com/example/statement_mapper/statementmapper/service/RowBounds" "limit" "I" (.int (p1 &&& (2147483647 : Int32))) := ((Fld.ext E444 f441_1).keep Kq451 (ninS ne446 nin0))
      have f458 : Exa Z T451.heap b436 "com/example/statement_mapper/statementmapper/service/RowBounds" := ((Exa.ext E444 f445).keep Kq451)
      refine own_callV X451 hx hZ hown (hw _ (List.mem_of_getElem? (i := 14) rfl)) (hw _ (List.mem_of_getElem? (i := 15) rfl)) (own_nf hZ (hw _ (List.mem_of_getElem? (i := 17) rfl))) (hw _ (List.mem_of_getElem? (i := 17) rfl)) (hw _ (List.mem_of_getElem? (i := 16) rfl)) (by decide) (rm_eq l Z a0 hw [] b436 b444 (p0 &&& (2147483647 : Int32)) (p1 &&& (2147483647 : Int32)) (p0 &&& (2147483647 : Int32)) (p1 &&& (2147483647 : Int32)) T451.heap n0 z453 f455 f456 f457 f451_0 f451_1) (hw _ (List.mem_of_getElem? (i := 18) rfl)) (hw _ (List.mem_of_getElem? (i := 3) rfl)) rfl 0 (by decide) (by decide) (by decide) (by decide) f458 [(.ref b444)] [] rfl pd_4 rfl 102 rfl (by rw [hml]; rfl) rfl (hb hby at_99) rfl fun T454 v454 L454 X454 hQ454 => ?_
      obtain ⟨rfl, Nq454, e454⟩ := hQ454
      have N454 := Fr.app N451 Nq454
      show own_Go p e below s _ _ _ (T454.setTop (mkF m 102 _ [(.int (own_eq (p0 &&& (2147483647 : Int32)) (p1 &&& (2147483647 : Int32)) (p0 &&& (2147483647 : Int32)) (p1 &&& (2147483647 : Int32))))]))
      refine g_iload X454 hx 104 (hb hby at_102) rfl rfl ?_
      have c459 : (own_eq (p0 &&& (2147483647 : Int32)) (p1 &&& (2147483647 : Int32)) (p0 &&& (2147483647 : Int32)) (p1 &&& (2147483647 : Int32))) = (1 : Int32) := by simp [own_eq, c95, (Ne.symm c95), c336, (Ne.symm c336)]
      refine g_icmpYes X454 hx 109 (hb hby at_104) (own_ii_eq_t c459) (by decide) (by decide) ?_
      refine g_aload X454 hx 111 (hb hby at_109) rfl rfl rfl ?_
      refine g_aload X454 hx 113 (hb hby at_111) rfl rfl rfl ?_
      refine own_callV X454 hx hZ hown (hw _ (List.mem_of_getElem? (i := 14) rfl)) (hw _ (List.mem_of_getElem? (i := 15) rfl)) (own_nf hZ (hw _ (List.mem_of_getElem? (i := 17) rfl))) (hw _ (List.mem_of_getElem? (i := 17) rfl)) (hw _ (List.mem_of_getElem? (i := 16) rfl)) (by decide) (rm_eq l Z a0 hw [] b444 b436 (p0 &&& (2147483647 : Int32)) (p1 &&& (2147483647 : Int32)) (p0 &&& (2147483647 : Int32)) (p1 &&& (2147483647 : Int32)) T451.heap n0 z453 f458 f451_0 f451_1 f456 f457) (hw _ (List.mem_of_getElem? (i := 18) rfl)) (hw _ (List.mem_of_getElem? (i := 3) rfl)) e454 0 (by decide) (by decide) (by decide) (by decide) f455 [(.ref b436)] [] rfl pd_4 rfl 116 rfl (by rw [hml]; rfl) rfl (hb hby at_113) rfl fun T460 v460 L460 X460 hQ460 => ?_
      obtain ⟨rfl, Nq460, e460⟩ := hQ460
      have N460 := Fr.app N454 Nq460
      show own_Go p e below s _ _ _ (T460.setTop (mkF m 116 _ [(.int (own_eq (p0 &&& (2147483647 : Int32)) (p1 &&& (2147483647 : Int32)) (p0 &&& (2147483647 : Int32)) (p1 &&& (2147483647 : Int32))))]))
      refine g_iload X460 hx 118 (hb hby at_116) rfl rfl ?_
      refine g_icmpYes X460 hx 123 (hb hby at_118) (own_ii_eq_t c459) (by decide) (by decide) ?_
      refine g_aload X460 hx 125 (hb hby at_123) rfl rfl rfl ?_
      refine g_aload X460 hx 127 (hb hby at_125) rfl rfl rfl ?_
      refine own_callV X460 hx hZ hown (hw _ (List.mem_of_getElem? (i := 14) rfl)) (hw _ (List.mem_of_getElem? (i := 15) rfl)) (own_nf hZ (hw _ (List.mem_of_getElem? (i := 17) rfl))) (hw _ (List.mem_of_getElem? (i := 17) rfl)) (hw _ (List.mem_of_getElem? (i := 16) rfl)) (by decide) (rm_eqself l Z a0 hw [] b436 (p0 &&& (2147483647 : Int32)) (p1 &&& (2147483647 : Int32)) T451.heap n0 z453 f458 f456 f457) (hw _ (List.mem_of_getElem? (i := 18) rfl)) (hw _ (List.mem_of_getElem? (i := 3) rfl)) e460 0 (by decide) (by decide) (by decide) (by decide) f458 [(.ref b436)] [] rfl pd_4 rfl 130 rfl (by rw [hml]; rfl) rfl (hb hby at_127) rfl fun T462 v462 L462 X462 hQ462 => ?_
      obtain ⟨rfl, Nq462, e462⟩ := hQ462
      have N462 := Fr.app N460 Nq462
      show own_Go p e below s _ _ _ (T462.setTop (mkF m 130 _ [(.int (1 : Int32))]))
      refine g_ifYes X462 hx 135 (hb hby at_130) (own_i0_ne_t (by decide)) (by decide) (by decide) ?_
      refine g_iload X462 hx 137 (hb hby at_135) rfl rfl ?_
      refine g_iconst X462 hx 138 (hb hby at_137) (2 : Int32) rfl rfl ?_
      refine g_iushr X462 hx 139 (hb hby at_138) rfl ?_
      refine g_iconst X462 hx 140 (hb hby at_139) (3 : Int32) rfl rfl ?_
      refine g_iand X462 hx 141 (hb hby at_140) rfl ?_
      refine g_istore X462 hx 143 (hb hby at_141) (l' := #[.val (.int p0), .val (.int p1), .val (.int p2), .val (.int p3), .val (.int p4), .val (.int (p0 &&& (2147483647 : Int32))), .val (.int (p1 &&& (2147483647 : Int32))), .val (.int (p0 &&& (2147483647 : Int32))), .val (.int (p1 &&& (2147483647 : Int32))), .val (.ref b436), .val (.ref b444), .val (.int (1 : Int32)), .val (.int (((p4.toUInt32 >>> ((2 : Int32) &&& 31).toUInt32).toInt32) &&& (3 : Int32))), .unset]) rfl rfl ?_
      refine g_iload X462 hx 145 (hb hby at_143) rfl rfl ?_
      by_cases c463 : (((p4.toUInt32 >>> ((2 : Int32) &&& 31).toUInt32).toInt32) &&& (3 : Int32)) = (0 : Int32)
      · refine g_ifNo X462 hx 148 (hb hby at_145) (own_i0_ne_f c463) rfl ?_
        refine g_aconst_null X462 hx 149 (hb hby at_148) rfl ?_
        refine g_astore X462 hx 151 (hb hby at_149) rfl (l' := #[.val (.int p0), .val (.int p1), .val (.int p2), .val (.int p3), .val (.int p4), .val (.int (p0 &&& (2147483647 : Int32))), .val (.int (p1 &&& (2147483647 : Int32))), .val (.int (p0 &&& (2147483647 : Int32))), .val (.int (p1 &&& (2147483647 : Int32))), .val (.ref b436), .val (.ref b444), .val (.int (1 : Int32)), .val (.int (((p4.toUInt32 >>> ((2 : Int32) &&& 31).toUInt32).toInt32) &&& (3 : Int32))), .val .null]) rfl rfl ?_
        refine g_goto X462 hx 196 (hb hby at_151) (by decide) (by decide) ?_
        refine g_aload X462 hx 198 (hb hby at_196) rfl rfl rfl ?_
        refine g_aload X462 hx 200 (hb hby at_198) rfl rfl rfl ?_
        refine own_callV X462 hx hZ hown (hw _ (List.mem_of_getElem? (i := 14) rfl)) (hw _ (List.mem_of_getElem? (i := 15) rfl)) (own_nf hZ (hw _ (List.mem_of_getElem? (i := 17) rfl))) (hw _ (List.mem_of_getElem? (i := 17) rfl)) (hw _ (List.mem_of_getElem? (i := 16) rfl)) (by decide) (rm_eqnull l Z a0 hw [] b436 T451.heap n0 z453 ) (hw _ (List.mem_of_getElem? (i := 18) rfl)) (hw _ (List.mem_of_getElem? (i := 3) rfl)) e462 0 (by decide) (by decide) (by decide) (by decide) f458 [.null] [] rfl pd_4 rfl 203 rfl (by rw [hml]; rfl) rfl (hb hby at_200) rfl fun T464 v464 L464 X464 hQ464 => ?_
        obtain ⟨rfl, Nq464, e464⟩ := hQ464
        have N464 := Fr.app N462 Nq464
        show own_Go p e below s _ _ _ (T464.setTop (mkF m 203 _ [(.int (0 : Int32))]))
        refine g_ifNo X464 hx 206 (hb hby at_203) (own_i0_ne_f (by decide)) rfl ?_
        refine g_iconst X464 hx 207 (hb hby at_206) (1 : Int32) rfl rfl ?_
        refine g_goto X464 hx 211 (hb hby at_207) (by decide) (by decide) ?_
        refine own_retN X464 hx hlk (t := .boolean) hret (by simp) (hb hby at_211) ?_ (by decide) (by decide)
        rw [e464]
        exact ⟨rfl, N464⟩
      · refine g_ifYes X462 hx 154 (hb hby at_145) (own_i0_ne_t c463) (by decide) (by decide) ?_
        refine g_iload X462 hx 156 (hb hby at_154) rfl rfl ?_
        refine g_iconst X462 hx 157 (hb hby at_156) (1 : Int32) rfl rfl ?_
        by_cases c465 : (((p4.toUInt32 >>> ((2 : Int32) &&& 31).toUInt32).toInt32) &&& (3 : Int32)) = (1 : Int32)
        · refine g_icmpNo X462 hx 160 (hb hby at_157) (own_ii_ne_f c465) rfl ?_
          refine g_iload X462 hx 162 (hb hby at_160) rfl rfl ?_
          have f467 : Sta Z T451.heap "java/lang/Integer$IntegerCache" "high" "I" (.int (127 : Int32)) := (own_Sta_keep K452 S_high all0)
          have f468 : Sta Z T451.heap "java/lang/Integer$IntegerCache" "cache" "[Ljava/lang/Integer;" (.ref caI) := (own_Sta_keep K452 S_cI all0)
          refine own_callS X462 hx hZ hown (hw _ (List.mem_of_getElem? (i := 21) rfl)) (hw _ (List.mem_of_getElem? (i := 22) rfl)) (by decide) (rm_voI l Z a0 hw [] (p0 &&& (2147483647 : Int32)) caI clI vfI T451.heap n0 z453 f467 f468 B_I (Kz.trans K452 all0)) (hw _ (List.mem_of_getElem? (i := 24) rfl)) (hw _ (List.mem_of_getElem? (i := 23) rfl)) e462 0 (by decide) (by decide) (by decide) (by decide) [(.int (p0 &&& (2147483647 : Int32)))] [] rfl pd_5 rfl 165 rfl (by rw [hml]; rfl) rfl (hb hby at_162) rfl fun T466 v466 L466 X466 hQ466 => ?_
          obtain ⟨r466, rfl, Nq466, Kq466, Er466⟩ := hQ466
          have N466 := Fr.app N462 Nq466
          have K469 : Keep h0 T466.heap [] := K452.trans Kq466 all0
          have z470 : n0 ≤ T466.heap.size := (Nat.le_trans z453 Kq466.1)
          show own_Go p e below s _ _ _ (T466.setTop (mkF m 165 _ [(.ref r466)]))
          refine g_astore X466 hx 167 (hb hby at_165) rfl (l' := #[.val (.int p0), .val (.int p1), .val (.int p2), .val (.int p3), .val (.int p4), .val (.int (p0 &&& (2147483647 : Int32))), .val (.int (p1 &&& (2147483647 : Int32))), .val (.int (p0 &&& (2147483647 : Int32))), .val (.int (p1 &&& (2147483647 : Int32))), .val (.ref b436), .val (.ref b444), .val (.int (1 : Int32)), .val (.int (((p4.toUInt32 >>> ((2 : Int32) &&& 31).toUInt32).toInt32) &&& (3 : Int32))), .val (.ref r466)]) rfl rfl ?_
          refine g_goto X466 hx 196 (hb hby at_167) (by decide) (by decide) ?_
          refine g_aload X466 hx 198 (hb hby at_196) rfl rfl rfl ?_
          refine g_aload X466 hx 200 (hb hby at_198) rfl rfl rfl ?_
          have f472 : Exa Z T466.heap b436 "com/example/statement_mapper/statementmapper/service/RowBounds" := (f458.keep Kq466)
          refine own_callV X466 hx hZ hown (hw _ (List.mem_of_getElem? (i := 14) rfl)) (hw _ (List.mem_of_getElem? (i := 15) rfl)) (own_nf hZ (hw _ (List.mem_of_getElem? (i := 17) rfl))) (hw _ (List.mem_of_getElem? (i := 17) rfl)) (hw _ (List.mem_of_getElem? (i := 16) rfl)) (by decide) (rm_eqno0 l Z a0 hw [] b436 r466 T466.heap n0 z470 Er466) (hw _ (List.mem_of_getElem? (i := 18) rfl)) (hw _ (List.mem_of_getElem? (i := 3) rfl)) rfl 0 (by decide) (by decide) (by decide) (by decide) f472 [(.ref r466)] [] rfl pd_4 rfl 203 rfl (by rw [hml]; rfl) rfl (hb hby at_200) rfl fun T471 v471 L471 X471 hQ471 => ?_
          obtain ⟨rfl, Nq471, e471⟩ := hQ471
          have N471 := Fr.app N466 Nq471
          show own_Go p e below s _ _ _ (T471.setTop (mkF m 203 _ [(.int (0 : Int32))]))
          refine g_ifNo X471 hx 206 (hb hby at_203) (own_i0_ne_f (by decide)) rfl ?_
          refine g_iconst X471 hx 207 (hb hby at_206) (1 : Int32) rfl rfl ?_
          refine g_goto X471 hx 211 (hb hby at_207) (by decide) (by decide) ?_
          refine own_retN X471 hx hlk (t := .boolean) hret (by simp) (hb hby at_211) ?_ (by decide) (by decide)
          rw [e471]
          exact ⟨rfl, N471⟩
        · refine g_icmpYes X462 hx 170 (hb hby at_157) (own_ii_ne_t c465) (by decide) (by decide) ?_
          refine g_iload X462 hx 172 (hb hby at_170) rfl rfl ?_
          refine g_iconst X462 hx 173 (hb hby at_172) (2 : Int32) rfl rfl ?_
          by_cases c473 : (((p4.toUInt32 >>> ((2 : Int32) &&& 31).toUInt32).toInt32) &&& (3 : Int32)) = (2 : Int32)
          · refine g_icmpNo X462 hx 176 (hb hby at_173) (own_ii_ne_f c473) rfl ?_
            refine g_iload X462 hx 178 (hb hby at_176) rfl rfl ?_
            refine g_i2l X462 hx 179 (hb hby at_178) rfl ?_
            have f475 : Sta Z T451.heap "java/lang/Long$LongCache" "cache" "[Ljava/lang/Long;" (.ref caJ) := (own_Sta_keep K452 S_cJ all0)
            refine own_callS X462 hx hZ hown (hw _ (List.mem_of_getElem? (i := 31) rfl)) (hw _ (List.mem_of_getElem? (i := 32) rfl)) (by decide) (rm_voJ l Z a0 hw [] ((p1 &&& (2147483647 : Int32)).toInt64) caJ clJ vfJ T451.heap n0 z453 f475 B_J (Kz.trans K452 all0)) (hw _ (List.mem_of_getElem? (i := 34) rfl)) (hw _ (List.mem_of_getElem? (i := 33) rfl)) e462 0 (by decide) (by decide) (by decide) (by decide) [(.long ((p1 &&& (2147483647 : Int32)).toInt64))] [] rfl pd_6 rfl 182 rfl (by rw [hml]; rfl) rfl (hb hby at_179) rfl fun T474 v474 L474 X474 hQ474 => ?_
            obtain ⟨r474, rfl, Nq474, Kq474, Er474⟩ := hQ474
            have N474 := Fr.app N462 Nq474
            have K476 : Keep h0 T474.heap [] := K452.trans Kq474 all0
            have z477 : n0 ≤ T474.heap.size := (Nat.le_trans z453 Kq474.1)
            show own_Go p e below s _ _ _ (T474.setTop (mkF m 182 _ [(.ref r474)]))
            refine g_astore X474 hx 184 (hb hby at_182) rfl (l' := #[.val (.int p0), .val (.int p1), .val (.int p2), .val (.int p3), .val (.int p4), .val (.int (p0 &&& (2147483647 : Int32))), .val (.int (p1 &&& (2147483647 : Int32))), .val (.int (p0 &&& (2147483647 : Int32))), .val (.int (p1 &&& (2147483647 : Int32))), .val (.ref b436), .val (.ref b444), .val (.int (1 : Int32)), .val (.int (((p4.toUInt32 >>> ((2 : Int32) &&& 31).toUInt32).toInt32) &&& (3 : Int32))), .val (.ref r474)]) rfl rfl ?_
            refine g_goto X474 hx 196 (hb hby at_184) (by decide) (by decide) ?_
            refine g_aload X474 hx 198 (hb hby at_196) rfl rfl rfl ?_
            refine g_aload X474 hx 200 (hb hby at_198) rfl rfl rfl ?_
            have f479 : Exa Z T474.heap b436 "com/example/statement_mapper/statementmapper/service/RowBounds" := (f458.keep Kq474)
            refine own_callV X474 hx hZ hown (hw _ (List.mem_of_getElem? (i := 14) rfl)) (hw _ (List.mem_of_getElem? (i := 15) rfl)) (own_nf hZ (hw _ (List.mem_of_getElem? (i := 17) rfl))) (hw _ (List.mem_of_getElem? (i := 17) rfl)) (hw _ (List.mem_of_getElem? (i := 16) rfl)) (by decide) (rm_eqno1 l Z a0 hw [] b436 r474 T474.heap n0 z477 Er474) (hw _ (List.mem_of_getElem? (i := 18) rfl)) (hw _ (List.mem_of_getElem? (i := 3) rfl)) rfl 0 (by decide) (by decide) (by decide) (by decide) f479 [(.ref r474)] [] rfl pd_4 rfl 203 rfl (by rw [hml]; rfl) rfl (hb hby at_200) rfl fun T478 v478 L478 X478 hQ478 => ?_
            obtain ⟨rfl, Nq478, e478⟩ := hQ478
            have N478 := Fr.app N474 Nq478
            show own_Go p e below s _ _ _ (T478.setTop (mkF m 203 _ [(.int (0 : Int32))]))
            refine g_ifNo X478 hx 206 (hb hby at_203) (own_i0_ne_f (by decide)) rfl ?_
            refine g_iconst X478 hx 207 (hb hby at_206) (1 : Int32) rfl rfl ?_
            refine g_goto X478 hx 211 (hb hby at_207) (by decide) (by decide) ?_
            refine own_retN X478 hx hlk (t := .boolean) hret (by simp) (hb hby at_211) ?_ (by decide) (by decide)
            rw [e478]
            exact ⟨rfl, N478⟩
          · refine g_icmpYes X462 hx 187 (hb hby at_173) (own_ii_ne_t c473) (by decide) (by decide) ?_
            refine own_newO X462 hx hZ hown (hw _ (List.mem_of_getElem? (i := 53) rfl)) (hw _ (List.mem_of_getElem? (i := 54) rfl)) (hw _ (List.mem_of_getElem? (i := 55) rfl)) e462 190 (hb hby at_187) rfl (by decide) (by decide) fun T480 h480 b480 X480 e480 g480 E480 A480 D480 => ?_
            have ne481 : b436 ≠ b480 := Nat.ne_of_lt (Nat.lt_of_lt_of_le f458.lt (Nat.le_of_eq g480.symm))
            have ne482 : b444 ≠ b480 := Nat.ne_of_lt (Nat.lt_of_lt_of_le f455.lt (Nat.le_of_eq g480.symm))
            have g_b480 : n0 ≤ b480 := Nat.le_trans z453 (Nat.le_of_eq g480.symm)
            have sz_b480 : h0.size ≤ b480 := Nat.le_trans K452.1 (Nat.le_of_eq g480.symm)
            have K483 : Keep h0 h480 [] := K452.ext E480
            have z484 : n0 ≤ h480.size := (Nat.le_trans z453 E480.1)
            have f485 : Fld Z h480 b480 "java/util/AbstractList" "modCount" "I" (.int (0 : Int32)) := D480 (Or.inl (hw _ (List.mem_of_getElem? (i := 73) rfl))) (ty := .int) (by decide)
            have f486 : Fld Z h480 b480 "java/util/ArrayList" "elementData" "[Ljava/lang/Object;" .null := D480 (Or.inl (hw _ (List.mem_of_getElem? (i := 76) rfl))) (ty := (.array (.object "java/lang/Object"))) (by decide)
            refine g_dup X480 hx 191 (hb hby at_190) rfl rfl ?_
            have f488 : Sta Z h480 "java/util/ArrayList" "DEFAULTCAPACITY_EMPTY_ELEMENTDATA" "[Ljava/lang/Object;" (.ref dd) := (own_Sta_keep K483 S_dd all0)
            refine own_callI X480 hx hZ hown rfl (hw _ (List.mem_of_getElem? (i := 56) rfl)) (hw _ (List.mem_of_getElem? (i := 57) rfl)) (by decide) (rm_arlist l Z a0 hw [] b480 dd h480 n0 z484 A480 f485 f486 f488 g_b480) (hw _ (List.mem_of_getElem? (i := 58) rfl)) (hw _ (List.mem_of_getElem? (i := 55) rfl)) e480 1 (by decide) (by decide) (by decide) (by decide) b480 [] [(.ref b480)] rfl pd_0 rfl 194 rfl (by rw [hml]; rfl) rfl (hb hby at_191) rfl fun T487 v487 L487 X487 hQ487 => ?_
            obtain ⟨rfl, Nq487, Kq487, f487_0, f487_1⟩ := hQ487
            have N487 := Fr.app N462 Nq487
            have K489 : Keep h0 T487.heap [] := K483.trans Kq487 (allS (Or.inr sz_b480) all0)
            have z490 : n0 ≤ T487.heap.size := (Nat.le_trans z484 Kq487.1)
            show own_Go p e below s _ _ _ (T487.setTop (mkF m 194 _ [(.ref b480)]))
            refine g_astore X487 hx 196 (hb hby at_194) rfl (l' := #[.val (.int p0), .val (.int p1), .val (.int p2), .val (.int p3), .val (.int p4), .val (.int (p0 &&& (2147483647 : Int32))), .val (.int (p1 &&& (2147483647 : Int32))), .val (.int (p0 &&& (2147483647 : Int32))), .val (.int (p1 &&& (2147483647 : Int32))), .val (.ref b436), .val (.ref b444), .val (.int (1 : Int32)), .val (.int (((p4.toUInt32 >>> ((2 : Int32) &&& 31).toUInt32).toInt32) &&& (3 : Int32))), .val (.ref b480)]) rfl rfl ?_
            refine g_aload X487 hx 198 (hb hby at_196) rfl rfl rfl ?_
            refine g_aload X487 hx 200 (hb hby at_198) rfl rfl rfl ?_
            have f492 : Exa Z T487.heap b480 "java/util/ArrayList" := (A480.keep Kq487)
            have f493 : Exa Z T487.heap b436 "com/example/statement_mapper/statementmapper/service/RowBounds" := ((Exa.ext E480 f458).keep Kq487)
            refine own_callV X487 hx hZ hown (hw _ (List.mem_of_getElem? (i := 14) rfl)) (hw _ (List.mem_of_getElem? (i := 15) rfl)) (own_nf hZ (hw _ (List.mem_of_getElem? (i := 17) rfl))) (hw _ (List.mem_of_getElem? (i := 17) rfl)) (hw _ (List.mem_of_getElem? (i := 16) rfl)) (by decide) (rm_eqno2 l Z a0 hw [] b436 b480 T487.heap n0 z490 f492) (hw _ (List.mem_of_getElem? (i := 18) rfl)) (hw _ (List.mem_of_getElem? (i := 3) rfl)) rfl 0 (by decide) (by decide) (by decide) (by decide) f493 [(.ref b480)] [] rfl pd_4 rfl 203 rfl (by rw [hml]; rfl) rfl (hb hby at_200) rfl fun T491 v491 L491 X491 hQ491 => ?_
            obtain ⟨rfl, Nq491, e491⟩ := hQ491
            have N491 := Fr.app N487 Nq491
            show own_Go p e below s _ _ _ (T491.setTop (mkF m 203 _ [(.int (0 : Int32))]))
            refine g_ifNo X491 hx 206 (hb hby at_203) (own_i0_ne_f (by decide)) rfl ?_
            refine g_iconst X491 hx 207 (hb hby at_206) (1 : Int32) rfl rfl ?_
            refine g_goto X491 hx 211 (hb hby at_207) (by decide) (by decide) ?_
            refine own_retN X491 hx hlk (t := .boolean) hret (by simp) (hb hby at_211) ?_ (by decide) (by decide)
            rw [e491]
            exact ⟨rfl, N491⟩
theorem own_len {args : Array Value} {s : State} {t : Term} {a : Addr} {cl : Cell} {z : Int32} (ht : t.eval args s none [] s = some (.ref a)) (ha : s.arrayAt? a = some cl) (h : (Term.length t).eval args s none [] s = some (.int z)) : cl.slots.size < 2 ^ 31 ∧ cl.slots.size.toInt32 = z := by
  by_cases q : cl.slots.size < 2 ^ 31
  · rw [len_f ht ha q] at h
    exact ⟨q, by cases h; rfl⟩
  · simp [Term.eval, ht, ha] at h
    omega
theorem own_sub_f {args : Array Value} {s : State} {idx : List Nat} {a b : Term} {x y : Int32} (ha : a.eval args s none idx s = some (.int x)) (hb : b.eval args s none idx s = some (.int y)) : (Term.sub a b).eval args s none idx s = some (.int (x - y)) := by simp [Term.eval, ha, hb]
set_option maxRecDepth 65536 in
set_option maxHeartbeats 40000000 in
theorem comes_1 {Post : Tables → Env → Array Value → State → Outcome → State → Prop} (hpost : ∀ tb e args s v u, (limb_1_1.after args s (.returned v) u = true ∧ limb_1_2.after args s (.returned v) u = true ∧ True) → FrameEnd s (.returned v) u (Jvm.fieldLocs frame_1_writes args s ++ Jvm.arrayLocs frame_1_arrays args s ++ Jvm.staticLocs frame_1_statics s) 16 128 → Post tb e args s (.returned v) u) :
    ArmFor flags0 classFile x code maxLocals ret World_1 tables_1 room_1 Calls_1 rest_1 Pre_1 Post := by
  intro l hfl _ _ p e ha hc hk s m args below hf hA hF happ hP
  obtain ⟨hcalls, hrest, hpre⟩ := hP
  obtain ⟨-, -, -, hnamed, -, -, -, hat⟩ := (Spec.applies_iff hf).mp happ
  obtain ⟨hg, hn⟩ := and_e (Cond.before_iff.mp (show (Jvm.Cond.and given_1 narrow_1).before args s = true from hpre))
  obtain ⟨gc, q0⟩ := and_e hg
  obtain ⟨ga0, q1⟩ := and_e q0
  obtain ⟨ga1, q2⟩ := and_e q1
  obtain ⟨ga2, q3⟩ := and_e q2
  obtain ⟨ga3, q4⟩ := and_e q3
  have ga4 := q4
  obtain ⟨w0, w1, w2, w3, w4, rfl⟩ : ∃ w0 w1 w2 w3 w4 : Value, args = #[w0, w1, w2, w3, w4] := by
    have hs : args.size = 5 := by simpa [Cond.value, given_1] using gc
    obtain ⟨L⟩ := args
    match L, hs with
    | [w0, w1, w2, w3, w4], _ => exact ⟨w0, w1, w2, w3, w4, rfl⟩
  have hw := fun d (hd : d ∈ tables_1) => atoms_spec (ws := Jvm.Cond.code x code maxLocals ret :: tables_1) hat d (List.mem_cons_of_mem _ hd)
  have hfit : Fit s := fun {y c} hc i hi => by
    obtain ⟨ha, rfl⟩ := Array.getElem?_eq_some_iff.mp hc
    have q := List.all_eq_true.mp ((Array.all_eq_true_iff_forall_mem.mp hF) _ (Array.getElem_mem ha)) i (List.mem_range.mpr hi)
    simpa [Array.getElem?_eq_getElem hi] using q
  obtain ⟨hsets, hown0⟩ := atoms_of _ (rest_1_c_eq ▸ (show rest_1_c.before _ s = true from hrest))
  have hr0 := Cond.before_iff.mp hown0
  obtain ⟨i0, ei0⟩ := is_v ga0
  obtain rfl : w0 = (.int i0) := Option.some.inj ei0
  obtain ⟨i1, ei1⟩ := is_v ga1
  obtain rfl : w1 = (.int i1) := Option.some.inj ei1
  obtain ⟨i2, ei2⟩ := is_v ga2
  obtain rfl : w2 = (.int i2) := Option.some.inj ei2
  obtain ⟨i3, ei3⟩ := is_v ga3
  obtain rfl : w3 = (.int i3) := Option.some.inj ei3
  obtain ⟨i4, ei4⟩ := is_v ga4
  obtain rfl : w4 = (.int i4) := Option.some.inj ei4
  obtain ⟨caI, ecI⟩ := arr_v (Cond.before_iff.mp (hsets _ (List.mem_of_getElem? (i := 4) rfl)))
  obtain ⟨clI, AI⟩ := Arr.start ecI (Cond.before_iff.mp (hsets _ (List.mem_of_getElem? (i := 4) rfl)))
  have lnI := own_len ecI (AI.fin (Vm.Alike.refl _)) (eqv_i (idx := []) rfl (Cond.before_iff.mp (hsets _ (List.mem_of_getElem? (i := 6) rfl))))
  have BI := Bxs.start (val := fun j => .int (j - 128)) (fun idx => ecI) AI lnI.1 lnI.2 (by decide) (Cond.before_iff.mp (hsets _ (List.mem_of_getElem? (i := 7) rfl))) (fun X j nn hh => eqv_i (own_sub_f (idx_at nn) rfl) hh)
  obtain ⟨caJ, ecJ⟩ := arr_v (Cond.before_iff.mp (hsets _ (List.mem_of_getElem? (i := 19) rfl)))
  obtain ⟨clJ, AJ⟩ := Arr.start ecJ (Cond.before_iff.mp (hsets _ (List.mem_of_getElem? (i := 19) rfl)))
  have lnJ := own_len ecJ (AJ.fin (Vm.Alike.refl _)) (eqv_i (idx := []) rfl (Cond.before_iff.mp (hsets _ (List.mem_of_getElem? (i := 21) rfl))))
  have BJ := Bxs.start (val := fun j => .long (j - 128).toInt64) (fun idx => ecJ) AJ lnJ.1 lnJ.2 (by decide) (Cond.before_iff.mp (hsets _ (List.mem_of_getElem? (i := 22) rfl))) (fun X j nn hh => eqv_l (i2l_at (own_sub_f (idx_at nn) rfl)) hh)
  obtain ⟨dd, ed⟩ := arr_v (Cond.before_iff.mp (hsets _ (List.mem_of_getElem? (i := 14) rfl)))
  obtain ⟨n, o, h1, h2, h3, _, L, rfl, ⟨rfl, N⟩, hq⟩ := rm_law l s _ hw tables_1 i0 i1 i2 i3 i4 caI caJ dd clI clJ _ _ s.heap s.heap.size (Nat.le_refl _) (Sta.start (eqv_i (idx := []) rfl (Cond.before_iff.mp (hsets _ (List.mem_of_getElem? (i := 3) rfl)))) (Or.inl (hsets _ (List.mem_of_getElem? (i := 1) rfl)))) (Sta.start ecI (Or.inr ⟨(hw _ (List.mem_of_getElem? (i := 26) rfl)), (hsets _ (List.mem_of_getElem? (i := 2) rfl))⟩)) (Sta.start ecJ (Or.inr ⟨(hw _ (List.mem_of_getElem? (i := 91) rfl)), (hsets _ (List.mem_of_getElem? (i := 17) rfl))⟩)) (Sta.start ed (Or.inr ⟨(hw _ (List.mem_of_getElem? (i := 55) rfl)), (hsets _ (List.mem_of_getElem? (i := 10) rfl))⟩)) BI BJ (Keep.refl _ _) p e ha hc hk s m _ below hf ((Spec.applies_iff_loose hf).mp happ).1 ⟨rfl, State.Warmed39.refl s, rfl⟩ trivial
  refine ⟨n, _, h1, h2, h3, hpost _ _ _ _ _ _ ⟨Cond.after_iff.mpr rfl, Cond.after_iff.mpr (eq_i res_at (Term.int_eval (1)) rfl), trivial⟩ ⟨hq.1, hq.2.1, (hq.2.2.sift fun y hy => Or.inr (N y hy)).mono (by decide) (by decide)⟩⟩
theorem main_1_1 : Claimed_1_1 := comes_1 fun _ _ _ _ _ _ h hF => ⟨h.1, hF⟩
theorem main_1_2 : Claimed_1_2 := comes_1 fun _ _ _ _ _ _ h hF => ⟨h.2.1, hF⟩
end Jvm.Pilot.@@N@@
namespace Jvm.Pilot.@@N@@
open Jvm Jvm.ClassFile Sem Op Lib Jvm.Free Jvm.Stand Jvm.Pilot.@@N@@.Jvm.D
/-! MADE BY PROGRAM (witnessworld.py) out of the Statement's table words and the real class files: 28 classes; the members and pool entries that the words name. The judged class is class 1, her method 1. -/
namespace start1
open Jvm.ClassFile
def u (s : String) : CpInfo := .utf8 (stringToUtf16 s)
/-- a pool by its gaps: so many unusable entries, then the entry; so many at the end -/
def gap : Nat → List CpInfo → List CpInfo
  | 0, r => r
  | n + 1, r => .unusable :: gap n r
def poolList (es : List (Nat × CpInfo)) (last : Nat) : List CpInfo := es.foldr (fun e r => gap e.1 (e.2 :: r)) (gap last [])
def pool (es : List (Nat × CpInfo)) (last : Nat) : Array CpInfo := ⟨poolList es last⟩
def fileOf (pool : Array CpInfo) (this : Nat) (attrs : Array Attribute := #[]) (ms : Array MethodInfo := #[]) (fl : Nat := 33) (sup : Nat := 0) (ifs : Array Nat := #[]) (fds : Array FieldInfo := #[]) : ClassFile where
  minorVersion := 0
  majorVersion := 65
  constantPool := pool
  accessFlags := fl
  thisClass := this
  superClass := sup
  interfaces := ifs
  fields := fds
  methods := ms
  attributes := attrs
def plain (name : String) (sup : Option ClassId) : Class where
  name := name
  kind := .ordinary
  loader := none
  accessFlags := 33
  super := sup
  interfaces := #[]
  cf := none
  fields := #[]
  methods := #[]
  instanceTypes := #[]
  staticTypes := #[]
  resolved := #[]
  callSites := []
  init := .initialized
  statics := none
  mirror := none

def pool0 : Array CpInfo := pool [(5, u "<init>"), (0, u "()V"), (1, .class_ 10), (1, u "java/lang/Object")] 113

def k0c0 : Code := { maxStack := 0, maxLocals := 1, code := object_method_1_code, exceptionTable := #[], attributes := #[] }
def k0m0 : Method := { name := "<init>", desc := "()V", sig := { parameters := [], returnType := none }, accessFlags := 1, code := some k0c0 }
/-- java/lang/Object -/
def k0 : Class := { plain "java/lang/Object" none with
  accessFlags := 33
  interfaces := #[]
  cf := some (fileOf pool0 8 #[] #[{ accessFlags := 1, nameIndex := 5, descriptorIndex := 6, attributes := #[] }] 33 0 #[] #[])
  fields := #[]
  methods := #[k0m0]
  instanceTypes := #[]
  staticTypes := #[]
  resolved := Array.replicate 124 none
  statics := none }

def pool1 : Array CpInfo := pool [(2, .class_ 4), (0, .nameAndType 5 6), (0, u "java/lang/Object"), (0, u "<init>"), (0, u "()V"), (0, .integer 2147483647), (0, .class_ 9), (0, u "com/example/statement_mapper/statementmapper/service/RowBounds"), (0, .methodref 8 11), (0, .nameAndType 5 12), (0, u "(II)V"), (0, .methodref 8 14), (0, .nameAndType 15 16), (0, u "equals"), (0, u "(Ljava/lang/Object;)Z"), (0, .methodref 18 19), (0, .class_ 20), (0, .nameAndType 21 22), (0, u "java/lang/Integer"), (0, u "valueOf"), (0, u "(I)Ljava/lang/Integer;"), (0, .methodref 24 25), (0, .class_ 26), (0, .nameAndType 21 27), (0, u "java/lang/Long"), (0, u "(J)Ljava/lang/Long;"), (0, .class_ 29), (0, u "java/util/ArrayList"), (0, .methodref 28 3), (0, .class_ 32), (0, u "com/example/statement_mapper/statementmapper/service/RowBoundsEqualsPinLaw"), (2, u "law"), (0, u "(IIIII)Z")] 3

def k1m0 : Method := { name := "<init>", desc := "()V", sig := { parameters := [], returnType := none }, accessFlags := 1, code := none }
def k1c1 : Code := { maxStack := 4, maxLocals := 14, code := code, exceptionTable := #[], attributes := #[] }
def k1m1 : Method := { name := "law", desc := "(IIIII)Z", sig := { parameters := [.int, .int, .int, .int, .int], returnType := some .boolean }, accessFlags := 9, code := some k1c1 }
/-- com/example/statement_mapper/statementmapper/service/RowBoundsEqualsPinLaw -/
def k1 : Class := { plain "com/example/statement_mapper/statementmapper/service/RowBoundsEqualsPinLaw" (some 0) with
  accessFlags := 49
  interfaces := #[]
  cf := some (fileOf pool1 31 #[] #[{ accessFlags := 1, nameIndex := 5, descriptorIndex := 6, attributes := #[] }, { accessFlags := 9, nameIndex := 35, descriptorIndex := 36, attributes := #[] }] 49 2 #[] #[])
  fields := #[]
  methods := #[k1m0, k1m1]
  instanceTypes := #[]
  staticTypes := #[]
  resolved := Array.replicate 40 none
  statics := none }

def pool2 : Array CpInfo := pool [(3, .class_ 4), (0, u "com/example/statement_mapper/statementmapper/service/RowBounds"), (3, u "<init>"), (0, u "(II)V"), (0, .methodref 11 12), (0, .class_ 13), (0, .nameAndType 8 14), (0, u "java/lang/Object"), (0, u "()V"), (17, .fieldref 3 33), (0, .nameAndType 34 35), (0, u "offset"), (0, u "I"), (0, .fieldref 3 37), (0, .nameAndType 38 35), (0, u "limit"), (5, u "DEFAULT"), (0, u "Lcom/example/statement_mapper/statementmapper/service/RowBounds;"), (0, u "NO_ROW_OFFSET"), (2, u "NO_ROW_LIMIT"), (4, u "equals"), (0, u "(Ljava/lang/Object;)Z")] 6

def k2m0 : Method := { name := "<init>", desc := "()V", sig := { parameters := [], returnType := none }, accessFlags := 1, code := none }
def k2c1 : Code := { maxStack := 7, maxLocals := 3, code := prog_64_method_2_code, exceptionTable := #[], attributes := #[] }
def k2m1 : Method := { name := "<init>", desc := "(II)V", sig := { parameters := [.int, .int], returnType := none }, accessFlags := 1, code := some k2c1 }
def k2c2 : Code := { maxStack := 2, maxLocals := 3, code := prog_64_method_5_code, exceptionTable := #[], attributes := #[] }
def k2m2 : Method := { name := "equals", desc := "(Ljava/lang/Object;)Z", sig := { parameters := [(.object "java/lang/Object")], returnType := some .boolean }, accessFlags := 1, code := some k2c2 }
/-- com/example/statement_mapper/statementmapper/service/RowBounds -/
def k2 : Class := { plain "com/example/statement_mapper/statementmapper/service/RowBounds" (some 0) with
  accessFlags := 49
  interfaces := #[]
  cf := some (fileOf pool2 3 #[] #[{ accessFlags := 1, nameIndex := 8, descriptorIndex := 14, attributes := #[] }, { accessFlags := 1, nameIndex := 8, descriptorIndex := 9, attributes := #[] }, { accessFlags := 1, nameIndex := 54, descriptorIndex := 55, attributes := #[] }] 49 11 #[] #[{ accessFlags := 25, nameIndex := 46, descriptorIndex := 35, attributes := #[] }, { accessFlags := 25, nameIndex := 49, descriptorIndex := 35, attributes := #[] }, { accessFlags := 25, nameIndex := 44, descriptorIndex := 45, attributes := #[] }, { accessFlags := 18, nameIndex := 34, descriptorIndex := 35, attributes := #[] }, { accessFlags := 18, nameIndex := 38, descriptorIndex := 35, attributes := #[] }])
  fields := #[{ name := "NO_ROW_OFFSET", type := .int, accessFlags := 25, slot := 0, constantValue := 0 }, { name := "NO_ROW_LIMIT", type := .int, accessFlags := 25, slot := 1, constantValue := 0 }, { name := "DEFAULT", type := (.object "com/example/statement_mapper/statementmapper/service/RowBounds"), accessFlags := 25, slot := 2, constantValue := 0 }, { name := "offset", type := .int, accessFlags := 18, slot := 0, constantValue := 0 }, { name := "limit", type := .int, accessFlags := 18, slot := 1, constantValue := 0 }]
  methods := #[k2m0, k2m1, k2m2]
  instanceTypes := #[.int, .int]
  staticTypes := #[.int, .int, (.object "com/example/statement_mapper/statementmapper/service/RowBounds")]
  resolved := Array.replicate 62 none
  statics := none }

def pool3 : Array CpInfo := pool [(1, .class_ 2), (0, u "java/io/Serializable"), (0, .class_ 4), (0, u "java/lang/Object")] 2

/-- java/io/Serializable -/
def k3 : Class := { plain "java/io/Serializable" (some 0) with
  accessFlags := 1537
  interfaces := #[]
  cf := some (fileOf pool3 1 #[] #[] 1537 3 #[] #[])
  fields := #[]
  methods := #[]
  instanceTypes := #[]
  staticTypes := #[]
  resolved := Array.replicate 7 none
  statics := none }

def pool4 : Array CpInfo := pool [(1, .methodref 2 3), (0, .class_ 4), (0, .nameAndType 5 6), (0, u "java/lang/Object"), (0, u "<init>"), (0, u "()V"), (1, .class_ 10), (1, u "java/lang/Number"), (2, .class_ 14), (0, u "java/io/Serializable"), (0, u "serialVersionUID"), (0, u "J")] 20

def k4c0 : Code := { maxStack := 1, maxLocals := 1, code := jdk_18_method_1_code, exceptionTable := #[], attributes := #[] }
def k4m0 : Method := { name := "<init>", desc := "()V", sig := { parameters := [], returnType := none }, accessFlags := 1, code := some k4c0 }
/-- java/lang/Number -/
def k4 : Class := { plain "java/lang/Number" (some 0) with
  accessFlags := 1057
  interfaces := #[3]
  cf := some (fileOf pool4 8 #[] #[{ accessFlags := 1, nameIndex := 5, descriptorIndex := 6, attributes := #[] }] 1057 2 #[13] #[{ accessFlags := 26, nameIndex := 15, descriptorIndex := 16, attributes := #[] }])
  fields := #[{ name := "serialVersionUID", type := .long, accessFlags := 26, slot := 0, constantValue := 0 }]
  methods := #[k4m0]
  instanceTypes := #[]
  staticTypes := #[.long]
  resolved := Array.replicate 37 none
  statics := none }

def pool5 : Array CpInfo := pool [(1, .class_ 2), (0, u "java/lang/Comparable"), (0, .class_ 4), (0, u "java/lang/Object")] 7

/-- java/lang/Comparable -/
def k5 : Class := { plain "java/lang/Comparable" (some 0) with
  accessFlags := 1537
  interfaces := #[]
  cf := some (fileOf pool5 1 #[] #[] 1537 3 #[] #[])
  fields := #[]
  methods := #[]
  instanceTypes := #[]
  staticTypes := #[]
  resolved := Array.replicate 12 none
  statics := none }

def pool6 : Array CpInfo := pool [(1, .class_ 2), (0, u "java/lang/constant/Constable"), (0, .class_ 4), (0, u "java/lang/Object")] 6

/-- java/lang/constant/Constable -/
def k6 : Class := { plain "java/lang/constant/Constable" (some 0) with
  accessFlags := 1537
  interfaces := #[]
  cf := some (fileOf pool6 1 #[] #[] 1537 3 #[] #[])
  fields := #[]
  methods := #[]
  instanceTypes := #[]
  staticTypes := #[]
  resolved := Array.replicate 11 none
  statics := none }

def pool7 : Array CpInfo := pool [(1, .class_ 2), (0, u "java/lang/constant/ConstantDesc"), (0, .class_ 4), (0, u "java/lang/Object")] 32

/-- java/lang/constant/ConstantDesc -/
def k7 : Class := { plain "java/lang/constant/ConstantDesc" (some 0) with
  accessFlags := 1537
  interfaces := #[]
  cf := some (fileOf pool7 1 #[] #[] 1537 3 #[] #[])
  fields := #[]
  methods := #[]
  instanceTypes := #[]
  staticTypes := #[]
  resolved := Array.replicate 37 none
  statics := none }

def pool8 : Array CpInfo := pool [(1, .class_ 2), (0, u "java/lang/Integer"), (16, u "digits"), (0, u "[C"), (46, u "<init>"), (17, u "DigitOnes"), (0, u "[B"), (2, u "DigitTens"), (10, .nameAndType 67 101), (0, u "()V"), (85, u "valueOf"), (0, u "(I)Ljava/lang/Integer;"), (0, .class_ 190), (0, u "java/lang/Integer$IntegerCache"), (0, .fieldref 189 192), (0, .nameAndType 193 194), (0, u "high"), (0, u "I"), (0, .fieldref 189 196), (0, .nameAndType 197 198), (0, u "cache"), (0, u "[Ljava/lang/Integer;"), (0, .methodref 1 200), (0, .nameAndType 67 201), (0, u "(I)V"), (0, .methodref 203 100), (0, .class_ 204), (0, u "java/lang/Number"), (0, .fieldref 1 206), (0, .nameAndType 207 194), (0, u "value"), (94, u "TYPE"), (0, u "Ljava/lang/Class;"), (0, .class_ 305), (0, u "java/lang/Comparable"), (0, .class_ 307), (0, u "java/lang/constant/Constable"), (0, .class_ 309), (0, u "java/lang/constant/ConstantDesc"), (0, u "MIN_VALUE"), (1, u "MAX_VALUE"), (3, u "SIZE"), (1, u "BYTES"), (1, u "serialVersionUID"), (0, u "J")] 131

def k8c0 : Code := { maxStack := 3, maxLocals := 1, code := jdk_33_method_22_code, exceptionTable := #[], attributes := #[] }
def k8m0 : Method := { name := "valueOf", desc := "(I)Ljava/lang/Integer;", sig := { parameters := [.int], returnType := some (.object "java/lang/Integer") }, accessFlags := 9, code := some k8c0 }
def k8c1 : Code := { maxStack := 2, maxLocals := 2, code := jdk_33_method_23_code, exceptionTable := #[], attributes := #[] }
def k8m1 : Method := { name := "<init>", desc := "(I)V", sig := { parameters := [.int], returnType := none }, accessFlags := 1, code := some k8c1 }
/-- java/lang/Integer -/
def k8 : Class := { plain "java/lang/Integer" (some 4) with
  accessFlags := 49
  interfaces := #[5, 6, 7]
  cf := some (fileOf pool8 1 #[.nestMembers #[189]] #[{ accessFlags := 9, nameIndex := 187, descriptorIndex := 188, attributes := #[] }, { accessFlags := 1, nameIndex := 67, descriptorIndex := 201, attributes := #[] }] 49 203 #[304, 306, 308] #[{ accessFlags := 25, nameIndex := 310, descriptorIndex := 194, attributes := #[] }, { accessFlags := 25, nameIndex := 312, descriptorIndex := 194, attributes := #[] }, { accessFlags := 25, nameIndex := 302, descriptorIndex := 303, attributes := #[] }, { accessFlags := 24, nameIndex := 19, descriptorIndex := 20, attributes := #[] }, { accessFlags := 24, nameIndex := 89, descriptorIndex := 86, attributes := #[] }, { accessFlags := 24, nameIndex := 85, descriptorIndex := 86, attributes := #[] }, { accessFlags := 18, nameIndex := 207, descriptorIndex := 194, attributes := #[] }, { accessFlags := 25, nameIndex := 316, descriptorIndex := 194, attributes := #[] }, { accessFlags := 25, nameIndex := 318, descriptorIndex := 194, attributes := #[] }, { accessFlags := 26, nameIndex := 320, descriptorIndex := 321, attributes := #[] }])
  fields := #[{ name := "MIN_VALUE", type := .int, accessFlags := 25, slot := 0, constantValue := 0 }, { name := "MAX_VALUE", type := .int, accessFlags := 25, slot := 1, constantValue := 0 }, { name := "TYPE", type := (.object "java/lang/Class"), accessFlags := 25, slot := 2, constantValue := 0 }, { name := "digits", type := (.array .char), accessFlags := 24, slot := 3, constantValue := 0 }, { name := "DigitTens", type := (.array .byte), accessFlags := 24, slot := 4, constantValue := 0 }, { name := "DigitOnes", type := (.array .byte), accessFlags := 24, slot := 5, constantValue := 0 }, { name := "value", type := .int, accessFlags := 18, slot := 0, constantValue := 0 }, { name := "SIZE", type := .int, accessFlags := 25, slot := 6, constantValue := 0 }, { name := "BYTES", type := .int, accessFlags := 25, slot := 7, constantValue := 0 }, { name := "serialVersionUID", type := .long, accessFlags := 26, slot := 8, constantValue := 0 }]
  methods := #[k8m0, k8m1]
  instanceTypes := #[.int]
  staticTypes := #[.int, .int, (.object "java/lang/Class"), (.array .char), (.array .byte), (.array .byte), .int, .int, .long]
  resolved := Array.replicate 453 none
  statics := none }

def pool9 : Array CpInfo := pool [(2, .class_ 4), (1, u "java/lang/Object"), (0, u "<init>"), (0, u "()V"), (0, .class_ 8), (0, u "java/lang/Integer"), (7, .class_ 18), (1, u "java/lang/Integer$IntegerCache"), (0, u "$assertionsDisabled"), (0, u "Z"), (26, u "high"), (0, u "I"), (8, u "archivedCache"), (0, u "[Ljava/lang/Integer;"), (12, u "cache"), (0, u "low")] 27

def k9m0 : Method := { name := "<init>", desc := "()V", sig := { parameters := [], returnType := none }, accessFlags := 2, code := none }
/-- java/lang/Integer$IntegerCache -/
def k9 : Class := { plain "java/lang/Integer$IntegerCache" (some 0) with
  accessFlags := 48
  interfaces := #[]
  cf := some (fileOf pool9 16 #[.nestHost 7] #[{ accessFlags := 2, nameIndex := 5, descriptorIndex := 6, attributes := #[] }] 48 2 #[] #[{ accessFlags := 24, nameIndex := 72, descriptorIndex := 48, attributes := #[] }, { accessFlags := 24, nameIndex := 47, descriptorIndex := 48, attributes := #[] }, { accessFlags := 24, nameIndex := 71, descriptorIndex := 58, attributes := #[] }, { accessFlags := 8, nameIndex := 57, descriptorIndex := 58, attributes := #[] }, { accessFlags := 4120, nameIndex := 19, descriptorIndex := 20, attributes := #[] }])
  fields := #[{ name := "low", type := .int, accessFlags := 24, slot := 0, constantValue := 0 }, { name := "high", type := .int, accessFlags := 24, slot := 1, constantValue := 0 }, { name := "cache", type := (.array (.object "java/lang/Integer")), accessFlags := 24, slot := 2, constantValue := 0 }, { name := "archivedCache", type := (.array (.object "java/lang/Integer")), accessFlags := 8, slot := 3, constantValue := 0 }, { name := "$assertionsDisabled", type := .boolean, accessFlags := 4120, slot := 4, constantValue := 0 }]
  methods := #[k9m0]
  instanceTypes := #[]
  staticTypes := #[.int, .int, (.array (.object "java/lang/Integer")), (.array (.object "java/lang/Integer")), .boolean]
  resolved := Array.replicate 100 none
  statics := some 0 }

def pool10 : Array CpInfo := pool [(1, .class_ 2), (0, u "java/lang/Long"), (55, .nameAndType 59 60), (0, u "<init>"), (0, u "()V"), (24, u "valueOf"), (143, u "(J)Ljava/lang/Long;"), (0, .long 18446744073709551488), (1, .long 127), (1, .fieldref 235 236), (0, .class_ 237), (0, .nameAndType 238 239), (0, u "java/lang/Long$LongCache"), (0, u "cache"), (0, u "[Ljava/lang/Long;"), (0, .methodref 1 241), (0, .nameAndType 59 242), (0, u "(J)V"), (27, .methodref 271 58), (0, .class_ 272), (0, u "java/lang/Number"), (0, .fieldref 1 274), (0, .nameAndType 275 276), (0, u "value"), (0, u "J"), (84, u "TYPE"), (0, u "Ljava/lang/Class;"), (0, .class_ 364), (0, u "java/lang/Comparable"), (0, .class_ 366), (0, u "java/lang/constant/Constable"), (0, .class_ 368), (0, u "java/lang/constant/ConstantDesc"), (0, u "MIN_VALUE"), (1, u "MAX_VALUE"), (4, u "SIZE"), (0, u "I"), (1, u "BYTES"), (1, u "serialVersionUID")] 142

def k10c0 : Code := { maxStack := 4, maxLocals := 3, code := jdk_35_method_24_code, exceptionTable := #[], attributes := #[] }
def k10m0 : Method := { name := "valueOf", desc := "(J)Ljava/lang/Long;", sig := { parameters := [.long], returnType := some (.object "java/lang/Long") }, accessFlags := 9, code := some k10c0 }
def k10c1 : Code := { maxStack := 3, maxLocals := 3, code := jdk_35_method_26_code, exceptionTable := #[], attributes := #[] }
def k10m1 : Method := { name := "<init>", desc := "(J)V", sig := { parameters := [.long], returnType := none }, accessFlags := 1, code := some k10c1 }
/-- java/lang/Long -/
def k10 : Class := { plain "java/lang/Long" (some 4) with
  accessFlags := 49
  interfaces := #[5, 6, 7]
  cf := some (fileOf pool10 1 #[.nestMembers #[235]] #[{ accessFlags := 9, nameIndex := 85, descriptorIndex := 229, attributes := #[] }, { accessFlags := 1, nameIndex := 59, descriptorIndex := 242, attributes := #[] }] 49 271 #[363, 365, 367] #[{ accessFlags := 25, nameIndex := 369, descriptorIndex := 276, attributes := #[] }, { accessFlags := 25, nameIndex := 371, descriptorIndex := 276, attributes := #[] }, { accessFlags := 25, nameIndex := 361, descriptorIndex := 362, attributes := #[] }, { accessFlags := 18, nameIndex := 275, descriptorIndex := 276, attributes := #[] }, { accessFlags := 25, nameIndex := 376, descriptorIndex := 377, attributes := #[] }, { accessFlags := 25, nameIndex := 379, descriptorIndex := 377, attributes := #[] }, { accessFlags := 26, nameIndex := 381, descriptorIndex := 276, attributes := #[] }])
  fields := #[{ name := "MIN_VALUE", type := .long, accessFlags := 25, slot := 0, constantValue := 0 }, { name := "MAX_VALUE", type := .long, accessFlags := 25, slot := 1, constantValue := 0 }, { name := "TYPE", type := (.object "java/lang/Class"), accessFlags := 25, slot := 2, constantValue := 0 }, { name := "value", type := .long, accessFlags := 18, slot := 0, constantValue := 0 }, { name := "SIZE", type := .int, accessFlags := 25, slot := 3, constantValue := 0 }, { name := "BYTES", type := .int, accessFlags := 25, slot := 4, constantValue := 0 }, { name := "serialVersionUID", type := .long, accessFlags := 26, slot := 5, constantValue := 0 }]
  methods := #[k10m0, k10m1]
  instanceTypes := #[.long]
  staticTypes := #[.long, .long, (.object "java/lang/Class"), .int, .int, .long]
  resolved := Array.replicate 524 none
  statics := none }

def pool11 : Array CpInfo := pool [(8, .class_ 10), (1, u "java/lang/Iterable"), (24, .class_ 36), (0, u "java/lang/Object")] 25

/-- java/lang/Iterable -/
def k11 : Class := { plain "java/lang/Iterable" (some 0) with
  accessFlags := 1537
  interfaces := #[]
  cf := some (fileOf pool11 8 #[] #[] 1537 35 #[] #[])
  fields := #[]
  methods := #[]
  instanceTypes := #[]
  staticTypes := #[]
  resolved := Array.replicate 62 none
  statics := none }

def pool12 : Array CpInfo := pool [(10, .class_ 12), (1, u "java/util/Collection"), (47, .class_ 61), (0, u "java/lang/Object"), (0, .class_ 63), (0, u "java/lang/Iterable")] 51

/-- java/util/Collection -/
def k12 : Class := { plain "java/util/Collection" (some 0) with
  accessFlags := 1537
  interfaces := #[11]
  cf := some (fileOf pool12 10 #[] #[] 1537 60 #[62] #[])
  fields := #[]
  methods := #[]
  instanceTypes := #[]
  staticTypes := #[]
  resolved := Array.replicate 115 none
  statics := none }

def pool13 : Array CpInfo := pool [(1, .methodref 2 3), (0, .class_ 4), (0, .nameAndType 5 6), (0, u "java/lang/Object"), (0, u "<init>"), (0, u "()V"), (1, .class_ 10), (1, u "java/util/AbstractCollection"), (66, .class_ 78), (0, u "java/util/Collection")] 81

def k13c0 : Code := { maxStack := 1, maxLocals := 1, code := jdk_22_method_1_code, exceptionTable := #[], attributes := #[] }
def k13m0 : Method := { name := "<init>", desc := "()V", sig := { parameters := [], returnType := none }, accessFlags := 4, code := some k13c0 }
/-- java/util/AbstractCollection -/
def k13 : Class := { plain "java/util/AbstractCollection" (some 0) with
  accessFlags := 1057
  interfaces := #[12]
  cf := some (fileOf pool13 8 #[] #[{ accessFlags := 4, nameIndex := 5, descriptorIndex := 6, attributes := #[] }] 1057 2 #[77] #[])
  fields := #[]
  methods := #[k13m0]
  instanceTypes := #[]
  staticTypes := #[]
  resolved := Array.replicate 160 none
  statics := none }

def pool14 : Array CpInfo := pool [(8, .class_ 10), (1, u "java/util/SequencedCollection"), (15, .class_ 27), (0, u "java/lang/Object"), (0, .class_ 29), (0, u "java/util/Collection")] 27

/-- java/util/SequencedCollection -/
def k14 : Class := { plain "java/util/SequencedCollection" (some 0) with
  accessFlags := 1537
  interfaces := #[12]
  cf := some (fileOf pool14 8 #[] #[] 1537 26 #[28] #[])
  fields := #[]
  methods := #[]
  instanceTypes := #[]
  staticTypes := #[]
  resolved := Array.replicate 57 none
  statics := none }

def pool15 : Array CpInfo := pool [(8, .class_ 10), (1, u "java/util/List"), (92, .class_ 104), (0, u "java/lang/Object"), (15, .class_ 121), (0, u "java/util/SequencedCollection")] 129

/-- java/util/List -/
def k15 : Class := { plain "java/util/List" (some 0) with
  accessFlags := 1537
  interfaces := #[14]
  cf := some (fileOf pool15 8 #[] #[] 1537 103 #[120] #[])
  fields := #[]
  methods := #[]
  instanceTypes := #[]
  staticTypes := #[]
  resolved := Array.replicate 251 none
  statics := none }

def pool16 : Array CpInfo := pool [(1, .methodref 2 3), (0, .class_ 4), (0, .nameAndType 5 6), (0, u "java/util/AbstractCollection"), (0, u "<init>"), (0, u "()V"), (0, .fieldref 8 9), (0, .class_ 10), (0, .nameAndType 11 12), (0, u "java/util/AbstractList"), (0, u "modCount"), (0, u "I"), (64, .class_ 78), (0, u "java/util/AbstractList$Itr"), (3, .class_ 83), (0, u "java/util/AbstractList$ListItr"), (9, .class_ 94), (0, u "java/util/AbstractList$RandomAccessSubList"), (3, .class_ 99), (0, u "java/util/AbstractList$SubList"), (33, .class_ 134), (0, u "java/util/List"), (73, .class_ 209), (0, u "java/util/AbstractList$SubList$1"), (0, .class_ 211), (0, u "java/util/AbstractList$RandomAccessSpliterator")] 6

def k16c0 : Code := { maxStack := 2, maxLocals := 1, code := jdk_39_method_1_code, exceptionTable := #[], attributes := #[] }
def k16m0 : Method := { name := "<init>", desc := "()V", sig := { parameters := [], returnType := none }, accessFlags := 4, code := some k16c0 }
/-- java/util/AbstractList -/
def k16 : Class := { plain "java/util/AbstractList" (some 13) with
  accessFlags := 1057
  interfaces := #[15]
  cf := some (fileOf pool16 8 #[.nestMembers #[93, 98, 208, 210, 82, 77]] #[{ accessFlags := 4, nameIndex := 5, descriptorIndex := 6, attributes := #[] }] 1057 2 #[133] #[{ accessFlags := 132, nameIndex := 11, descriptorIndex := 12, attributes := #[] }])
  fields := #[{ name := "modCount", type := .int, accessFlags := 132, slot := 0, constantValue := 0 }]
  methods := #[k16m0]
  instanceTypes := #[.int]
  staticTypes := #[]
  resolved := Array.replicate 218 none
  statics := none }

def pool17 : Array CpInfo := pool [(1, .class_ 2), (0, u "java/util/RandomAccess"), (0, .class_ 4), (0, u "java/lang/Object")] 2

/-- java/util/RandomAccess -/
def k17 : Class := { plain "java/util/RandomAccess" (some 0) with
  accessFlags := 1537
  interfaces := #[]
  cf := some (fileOf pool17 1 #[] #[] 1537 3 #[] #[])
  fields := #[]
  methods := #[]
  instanceTypes := #[]
  staticTypes := #[]
  resolved := Array.replicate 7 none
  statics := none }

def pool18 : Array CpInfo := pool [(1, .class_ 2), (0, u "java/lang/Cloneable"), (0, .class_ 4), (0, u "java/lang/Object")] 2

/-- java/lang/Cloneable -/
def k18 : Class := { plain "java/lang/Cloneable" (some 0) with
  accessFlags := 1537
  interfaces := #[]
  cf := some (fileOf pool18 1 #[] #[] 1537 3 #[] #[])
  fields := #[]
  methods := #[]
  instanceTypes := #[]
  staticTypes := #[]
  resolved := Array.replicate 7 none
  statics := none }

def pool19 : Array CpInfo := pool [(1, .methodref 2 3), (0, .class_ 4), (0, .nameAndType 5 6), (0, u "java/util/AbstractList"), (0, u "<init>"), (0, u "()V"), (2, .fieldref 10 11), (0, .class_ 12), (0, .nameAndType 13 14), (0, u "java/util/ArrayList"), (0, u "elementData"), (0, u "[Ljava/lang/Object;"), (2, u "EMPTY_ELEMENTDATA"), (21, .fieldref 10 40), (0, .nameAndType 41 14), (0, u "DEFAULTCAPACITY_EMPTY_ELEMENTDATA"), (8, u "size"), (0, u "I"), (96, .class_ 149), (0, u "java/util/List"), (112, .class_ 263), (0, u "java/util/ArrayList$ListItr"), (3, .class_ 268), (0, u "java/util/ArrayList$Itr"), (7, .class_ 277), (0, u "java/util/ArrayList$SubList"), (12, .class_ 291), (0, u "java/util/ArrayList$ArrayListSpliterator"), (37, .class_ 330), (0, u "java/util/RandomAccess"), (0, .class_ 332), (0, u "java/lang/Cloneable"), (0, .class_ 334), (0, u "java/io/Serializable"), (0, u "serialVersionUID"), (0, u "J"), (3, u "DEFAULT_CAPACITY"), (159, .class_ 501), (0, u "java/util/ArrayList$SubList$2"), (0, .class_ 503), (0, u "java/util/ArrayList$SubList$1")] 5

def k19c0 : Code := { maxStack := 2, maxLocals := 1, code := jdk_38_method_2_code, exceptionTable := #[], attributes := #[] }
def k19m0 : Method := { name := "<init>", desc := "()V", sig := { parameters := [], returnType := none }, accessFlags := 1, code := some k19c0 }
/-- java/util/ArrayList -/
def k19 : Class := { plain "java/util/ArrayList" (some 16) with
  accessFlags := 33
  interfaces := #[15, 17, 18, 3]
  cf := some (fileOf pool19 10 #[.nestMembers #[290, 276, 500, 502, 262, 267]] #[{ accessFlags := 1, nameIndex := 5, descriptorIndex := 6, attributes := #[] }] 33 2 #[148, 329, 331, 333] #[{ accessFlags := 26, nameIndex := 335, descriptorIndex := 336, attributes := #[] }, { accessFlags := 26, nameIndex := 340, descriptorIndex := 51, attributes := #[] }, { accessFlags := 26, nameIndex := 17, descriptorIndex := 14, attributes := #[] }, { accessFlags := 26, nameIndex := 41, descriptorIndex := 14, attributes := #[] }, { accessFlags := 128, nameIndex := 13, descriptorIndex := 14, attributes := #[] }, { accessFlags := 2, nameIndex := 50, descriptorIndex := 51, attributes := #[] }])
  fields := #[{ name := "serialVersionUID", type := .long, accessFlags := 26, slot := 0, constantValue := 0 }, { name := "DEFAULT_CAPACITY", type := .int, accessFlags := 26, slot := 1, constantValue := 0 }, { name := "EMPTY_ELEMENTDATA", type := (.array (.object "java/lang/Object")), accessFlags := 26, slot := 2, constantValue := 0 }, { name := "DEFAULTCAPACITY_EMPTY_ELEMENTDATA", type := (.array (.object "java/lang/Object")), accessFlags := 26, slot := 3, constantValue := 0 }, { name := "elementData", type := (.array (.object "java/lang/Object")), accessFlags := 128, slot := 1, constantValue := 0 }, { name := "size", type := .int, accessFlags := 2, slot := 2, constantValue := 0 }]
  methods := #[k19m0]
  instanceTypes := #[.int, (.array (.object "java/lang/Object")), .int]
  staticTypes := #[.long, .int, (.array (.object "java/lang/Object")), (.array (.object "java/lang/Object"))]
  resolved := Array.replicate 509 none
  statics := some 1 }

def pool20 : Array CpInfo := pool [(2, .class_ 4), (1, u "java/lang/Object"), (0, u "<init>"), (0, u "()V"), (0, .class_ 8), (0, u "java/lang/Long"), (7, .class_ 18), (1, u "java/lang/Long$LongCache"), (0, u "$assertionsDisabled"), (0, u "Z"), (8, u "archivedCache"), (0, u "[Ljava/lang/Long;"), (7, u "cache")] 24

def k20m0 : Method := { name := "<init>", desc := "()V", sig := { parameters := [], returnType := none }, accessFlags := 2, code := none }
/-- java/lang/Long$LongCache -/
def k20 : Class := { plain "java/lang/Long$LongCache" (some 0) with
  accessFlags := 48
  interfaces := #[]
  cf := some (fileOf pool20 16 #[.nestHost 7] #[{ accessFlags := 2, nameIndex := 5, descriptorIndex := 6, attributes := #[] }] 48 2 #[] #[{ accessFlags := 24, nameIndex := 38, descriptorIndex := 30, attributes := #[] }, { accessFlags := 8, nameIndex := 29, descriptorIndex := 30, attributes := #[] }, { accessFlags := 4120, nameIndex := 19, descriptorIndex := 20, attributes := #[] }])
  fields := #[{ name := "cache", type := (.array (.object "java/lang/Long")), accessFlags := 24, slot := 0, constantValue := 0 }, { name := "archivedCache", type := (.array (.object "java/lang/Long")), accessFlags := 8, slot := 1, constantValue := 0 }, { name := "$assertionsDisabled", type := .boolean, accessFlags := 4120, slot := 2, constantValue := 0 }]
  methods := #[k20m0]
  instanceTypes := #[]
  staticTypes := #[(.array (.object "java/lang/Long")), (.array (.object "java/lang/Long")), .boolean]
  resolved := Array.replicate 63 none
  statics := some 2 }

/-- the primitive byte -/
def k21 : Class := { plain "byte" none with kind := .primitive 'B', accessFlags := 0x411 }
/-- [B -/
def k22 : Class := { plain "[B" (some 0) with kind := .array 21 .byte, interfaces := #[18, 3], accessFlags := 1041 }

/-- the primitive int -/
def k23 : Class := { plain "int" none with kind := .primitive 'I', accessFlags := 0x411 }
/-- [I -/
def k24 : Class := { plain "[I" (some 0) with kind := .array 23 .int, interfaces := #[18, 3], accessFlags := 1041 }

/-- [Ljava/lang/Integer; -/
def k25 : Class := { plain "[Ljava/lang/Integer;" (some 0) with kind := .array 8 (.object "java/lang/Integer"), interfaces := #[18, 3], accessFlags := 1041 }

/-- [Ljava/lang/Long; -/
def k26 : Class := { plain "[Ljava/lang/Long;" (some 0) with kind := .array 10 (.object "java/lang/Long"), interfaces := #[18, 3], accessFlags := 1041 }

/-- [Ljava/lang/Object; -/
def k27 : Class := { plain "[Ljava/lang/Object;" (some 0) with kind := .array 0 (.object "java/lang/Object"), interfaces := #[18, 3], accessFlags := 1041 }

def heap : Heap := #[{ cls := 9, slots := #[.int 0, .int 127, .ref 3, .null, .int 0], vm := .statics 9 },
  { cls := 19, slots := #[.long 0, .int 0, .ref 517, .ref 518], vm := .statics 19 },
  { cls := 20, slots := #[.ref 4, .null, .int 0], vm := .statics 20 },
  { cls := 25, slots := #[.ref 5, .ref 6, .ref 7, .ref 8, .ref 9, .ref 10, .ref 11, .ref 12, .ref 13, .ref 14, .ref 15, .ref 16, .ref 17, .ref 18, .ref 19, .ref 20, .ref 21, .ref 22, .ref 23, .ref 24, .ref 25, .ref 26, .ref 27, .ref 28, .ref 29, .ref 30, .ref 31, .ref 32, .ref 33, .ref 34, .ref 35, .ref 36, .ref 37, .ref 38, .ref 39, .ref 40, .ref 41, .ref 42, .ref 43, .ref 44, .ref 45, .ref 46, .ref 47, .ref 48, .ref 49, .ref 50, .ref 51, .ref 52, .ref 53, .ref 54, .ref 55, .ref 56, .ref 57, .ref 58, .ref 59, .ref 60, .ref 61, .ref 62, .ref 63, .ref 64, .ref 65, .ref 66, .ref 67, .ref 68, .ref 69, .ref 70, .ref 71, .ref 72, .ref 73, .ref 74, .ref 75, .ref 76, .ref 77, .ref 78, .ref 79, .ref 80, .ref 81, .ref 82, .ref 83, .ref 84, .ref 85, .ref 86, .ref 87, .ref 88, .ref 89, .ref 90, .ref 91, .ref 92, .ref 93, .ref 94, .ref 95, .ref 96, .ref 97, .ref 98, .ref 99, .ref 100, .ref 101, .ref 102, .ref 103, .ref 104, .ref 105, .ref 106, .ref 107, .ref 108, .ref 109, .ref 110, .ref 111, .ref 112, .ref 113, .ref 114, .ref 115, .ref 116, .ref 117, .ref 118, .ref 119, .ref 120, .ref 121, .ref 122, .ref 123, .ref 124, .ref 125, .ref 126, .ref 127, .ref 128, .ref 129, .ref 130, .ref 131, .ref 132, .ref 133, .ref 134, .ref 135, .ref 136, .ref 137, .ref 138, .ref 139, .ref 140, .ref 141, .ref 142, .ref 143, .ref 144, .ref 145, .ref 146, .ref 147, .ref 148, .ref 149, .ref 150, .ref 151, .ref 152, .ref 153, .ref 154, .ref 155, .ref 156, .ref 157, .ref 158, .ref 159, .ref 160, .ref 161, .ref 162, .ref 163, .ref 164, .ref 165, .ref 166, .ref 167, .ref 168, .ref 169, .ref 170, .ref 171, .ref 172, .ref 173, .ref 174, .ref 175, .ref 176, .ref 177, .ref 178, .ref 179, .ref 180, .ref 181, .ref 182, .ref 183, .ref 184, .ref 185, .ref 186, .ref 187, .ref 188, .ref 189, .ref 190, .ref 191, .ref 192, .ref 193, .ref 194, .ref 195, .ref 196, .ref 197, .ref 198, .ref 199, .ref 200, .ref 201, .ref 202, .ref 203, .ref 204, .ref 205, .ref 206, .ref 207, .ref 208, .ref 209, .ref 210, .ref 211, .ref 212, .ref 213, .ref 214, .ref 215, .ref 216, .ref 217, .ref 218, .ref 219, .ref 220, .ref 221, .ref 222, .ref 223, .ref 224, .ref 225, .ref 226, .ref 227, .ref 228, .ref 229, .ref 230, .ref 231, .ref 232, .ref 233, .ref 234, .ref 235, .ref 236, .ref 237, .ref 238, .ref 239, .ref 240, .ref 241, .ref 242, .ref 243, .ref 244, .ref 245, .ref 246, .ref 247, .ref 248, .ref 249, .ref 250, .ref 251, .ref 252, .ref 253, .ref 254, .ref 255, .ref 256, .ref 257, .ref 258, .ref 259, .ref 260], vm := .none },
  { cls := 26, slots := #[.ref 261, .ref 262, .ref 263, .ref 264, .ref 265, .ref 266, .ref 267, .ref 268, .ref 269, .ref 270, .ref 271, .ref 272, .ref 273, .ref 274, .ref 275, .ref 276, .ref 277, .ref 278, .ref 279, .ref 280, .ref 281, .ref 282, .ref 283, .ref 284, .ref 285, .ref 286, .ref 287, .ref 288, .ref 289, .ref 290, .ref 291, .ref 292, .ref 293, .ref 294, .ref 295, .ref 296, .ref 297, .ref 298, .ref 299, .ref 300, .ref 301, .ref 302, .ref 303, .ref 304, .ref 305, .ref 306, .ref 307, .ref 308, .ref 309, .ref 310, .ref 311, .ref 312, .ref 313, .ref 314, .ref 315, .ref 316, .ref 317, .ref 318, .ref 319, .ref 320, .ref 321, .ref 322, .ref 323, .ref 324, .ref 325, .ref 326, .ref 327, .ref 328, .ref 329, .ref 330, .ref 331, .ref 332, .ref 333, .ref 334, .ref 335, .ref 336, .ref 337, .ref 338, .ref 339, .ref 340, .ref 341, .ref 342, .ref 343, .ref 344, .ref 345, .ref 346, .ref 347, .ref 348, .ref 349, .ref 350, .ref 351, .ref 352, .ref 353, .ref 354, .ref 355, .ref 356, .ref 357, .ref 358, .ref 359, .ref 360, .ref 361, .ref 362, .ref 363, .ref 364, .ref 365, .ref 366, .ref 367, .ref 368, .ref 369, .ref 370, .ref 371, .ref 372, .ref 373, .ref 374, .ref 375, .ref 376, .ref 377, .ref 378, .ref 379, .ref 380, .ref 381, .ref 382, .ref 383, .ref 384, .ref 385, .ref 386, .ref 387, .ref 388, .ref 389, .ref 390, .ref 391, .ref 392, .ref 393, .ref 394, .ref 395, .ref 396, .ref 397, .ref 398, .ref 399, .ref 400, .ref 401, .ref 402, .ref 403, .ref 404, .ref 405, .ref 406, .ref 407, .ref 408, .ref 409, .ref 410, .ref 411, .ref 412, .ref 413, .ref 414, .ref 415, .ref 416, .ref 417, .ref 418, .ref 419, .ref 420, .ref 421, .ref 422, .ref 423, .ref 424, .ref 425, .ref 426, .ref 427, .ref 428, .ref 429, .ref 430, .ref 431, .ref 432, .ref 433, .ref 434, .ref 435, .ref 436, .ref 437, .ref 438, .ref 439, .ref 440, .ref 441, .ref 442, .ref 443, .ref 444, .ref 445, .ref 446, .ref 447, .ref 448, .ref 449, .ref 450, .ref 451, .ref 452, .ref 453, .ref 454, .ref 455, .ref 456, .ref 457, .ref 458, .ref 459, .ref 460, .ref 461, .ref 462, .ref 463, .ref 464, .ref 465, .ref 466, .ref 467, .ref 468, .ref 469, .ref 470, .ref 471, .ref 472, .ref 473, .ref 474, .ref 475, .ref 476, .ref 477, .ref 478, .ref 479, .ref 480, .ref 481, .ref 482, .ref 483, .ref 484, .ref 485, .ref 486, .ref 487, .ref 488, .ref 489, .ref 490, .ref 491, .ref 492, .ref 493, .ref 494, .ref 495, .ref 496, .ref 497, .ref 498, .ref 499, .ref 500, .ref 501, .ref 502, .ref 503, .ref 504, .ref 505, .ref 506, .ref 507, .ref 508, .ref 509, .ref 510, .ref 511, .ref 512, .ref 513, .ref 514, .ref 515, .ref 516], vm := .none },
  { cls := 8, slots := #[.int (-128)], vm := .none },
  { cls := 8, slots := #[.int (-127)], vm := .none },
  { cls := 8, slots := #[.int (-126)], vm := .none },
  { cls := 8, slots := #[.int (-125)], vm := .none },
  { cls := 8, slots := #[.int (-124)], vm := .none },
  { cls := 8, slots := #[.int (-123)], vm := .none },
  { cls := 8, slots := #[.int (-122)], vm := .none },
  { cls := 8, slots := #[.int (-121)], vm := .none },
  { cls := 8, slots := #[.int (-120)], vm := .none },
  { cls := 8, slots := #[.int (-119)], vm := .none },
  { cls := 8, slots := #[.int (-118)], vm := .none },
  { cls := 8, slots := #[.int (-117)], vm := .none },
  { cls := 8, slots := #[.int (-116)], vm := .none },
  { cls := 8, slots := #[.int (-115)], vm := .none },
  { cls := 8, slots := #[.int (-114)], vm := .none },
  { cls := 8, slots := #[.int (-113)], vm := .none },
  { cls := 8, slots := #[.int (-112)], vm := .none },
  { cls := 8, slots := #[.int (-111)], vm := .none },
  { cls := 8, slots := #[.int (-110)], vm := .none },
  { cls := 8, slots := #[.int (-109)], vm := .none },
  { cls := 8, slots := #[.int (-108)], vm := .none },
  { cls := 8, slots := #[.int (-107)], vm := .none },
  { cls := 8, slots := #[.int (-106)], vm := .none },
  { cls := 8, slots := #[.int (-105)], vm := .none },
  { cls := 8, slots := #[.int (-104)], vm := .none },
  { cls := 8, slots := #[.int (-103)], vm := .none },
  { cls := 8, slots := #[.int (-102)], vm := .none },
  { cls := 8, slots := #[.int (-101)], vm := .none },
  { cls := 8, slots := #[.int (-100)], vm := .none },
  { cls := 8, slots := #[.int (-99)], vm := .none },
  { cls := 8, slots := #[.int (-98)], vm := .none },
  { cls := 8, slots := #[.int (-97)], vm := .none },
  { cls := 8, slots := #[.int (-96)], vm := .none },
  { cls := 8, slots := #[.int (-95)], vm := .none },
  { cls := 8, slots := #[.int (-94)], vm := .none },
  { cls := 8, slots := #[.int (-93)], vm := .none },
  { cls := 8, slots := #[.int (-92)], vm := .none },
  { cls := 8, slots := #[.int (-91)], vm := .none },
  { cls := 8, slots := #[.int (-90)], vm := .none },
  { cls := 8, slots := #[.int (-89)], vm := .none },
  { cls := 8, slots := #[.int (-88)], vm := .none },
  { cls := 8, slots := #[.int (-87)], vm := .none },
  { cls := 8, slots := #[.int (-86)], vm := .none },
  { cls := 8, slots := #[.int (-85)], vm := .none },
  { cls := 8, slots := #[.int (-84)], vm := .none },
  { cls := 8, slots := #[.int (-83)], vm := .none },
  { cls := 8, slots := #[.int (-82)], vm := .none },
  { cls := 8, slots := #[.int (-81)], vm := .none },
  { cls := 8, slots := #[.int (-80)], vm := .none },
  { cls := 8, slots := #[.int (-79)], vm := .none },
  { cls := 8, slots := #[.int (-78)], vm := .none },
  { cls := 8, slots := #[.int (-77)], vm := .none },
  { cls := 8, slots := #[.int (-76)], vm := .none },
  { cls := 8, slots := #[.int (-75)], vm := .none },
  { cls := 8, slots := #[.int (-74)], vm := .none },
  { cls := 8, slots := #[.int (-73)], vm := .none },
  { cls := 8, slots := #[.int (-72)], vm := .none },
  { cls := 8, slots := #[.int (-71)], vm := .none },
  { cls := 8, slots := #[.int (-70)], vm := .none },
  { cls := 8, slots := #[.int (-69)], vm := .none },
  { cls := 8, slots := #[.int (-68)], vm := .none },
  { cls := 8, slots := #[.int (-67)], vm := .none },
  { cls := 8, slots := #[.int (-66)], vm := .none },
  { cls := 8, slots := #[.int (-65)], vm := .none },
  { cls := 8, slots := #[.int (-64)], vm := .none },
  { cls := 8, slots := #[.int (-63)], vm := .none },
  { cls := 8, slots := #[.int (-62)], vm := .none },
  { cls := 8, slots := #[.int (-61)], vm := .none },
  { cls := 8, slots := #[.int (-60)], vm := .none },
  { cls := 8, slots := #[.int (-59)], vm := .none },
  { cls := 8, slots := #[.int (-58)], vm := .none },
  { cls := 8, slots := #[.int (-57)], vm := .none },
  { cls := 8, slots := #[.int (-56)], vm := .none },
  { cls := 8, slots := #[.int (-55)], vm := .none },
  { cls := 8, slots := #[.int (-54)], vm := .none },
  { cls := 8, slots := #[.int (-53)], vm := .none },
  { cls := 8, slots := #[.int (-52)], vm := .none },
  { cls := 8, slots := #[.int (-51)], vm := .none },
  { cls := 8, slots := #[.int (-50)], vm := .none },
  { cls := 8, slots := #[.int (-49)], vm := .none },
  { cls := 8, slots := #[.int (-48)], vm := .none },
  { cls := 8, slots := #[.int (-47)], vm := .none },
  { cls := 8, slots := #[.int (-46)], vm := .none },
  { cls := 8, slots := #[.int (-45)], vm := .none },
  { cls := 8, slots := #[.int (-44)], vm := .none },
  { cls := 8, slots := #[.int (-43)], vm := .none },
  { cls := 8, slots := #[.int (-42)], vm := .none },
  { cls := 8, slots := #[.int (-41)], vm := .none },
  { cls := 8, slots := #[.int (-40)], vm := .none },
  { cls := 8, slots := #[.int (-39)], vm := .none },
  { cls := 8, slots := #[.int (-38)], vm := .none },
  { cls := 8, slots := #[.int (-37)], vm := .none },
  { cls := 8, slots := #[.int (-36)], vm := .none },
  { cls := 8, slots := #[.int (-35)], vm := .none },
  { cls := 8, slots := #[.int (-34)], vm := .none },
  { cls := 8, slots := #[.int (-33)], vm := .none },
  { cls := 8, slots := #[.int (-32)], vm := .none },
  { cls := 8, slots := #[.int (-31)], vm := .none },
  { cls := 8, slots := #[.int (-30)], vm := .none },
  { cls := 8, slots := #[.int (-29)], vm := .none },
  { cls := 8, slots := #[.int (-28)], vm := .none },
  { cls := 8, slots := #[.int (-27)], vm := .none },
  { cls := 8, slots := #[.int (-26)], vm := .none },
  { cls := 8, slots := #[.int (-25)], vm := .none },
  { cls := 8, slots := #[.int (-24)], vm := .none },
  { cls := 8, slots := #[.int (-23)], vm := .none },
  { cls := 8, slots := #[.int (-22)], vm := .none },
  { cls := 8, slots := #[.int (-21)], vm := .none },
  { cls := 8, slots := #[.int (-20)], vm := .none },
  { cls := 8, slots := #[.int (-19)], vm := .none },
  { cls := 8, slots := #[.int (-18)], vm := .none },
  { cls := 8, slots := #[.int (-17)], vm := .none },
  { cls := 8, slots := #[.int (-16)], vm := .none },
  { cls := 8, slots := #[.int (-15)], vm := .none },
  { cls := 8, slots := #[.int (-14)], vm := .none },
  { cls := 8, slots := #[.int (-13)], vm := .none },
  { cls := 8, slots := #[.int (-12)], vm := .none },
  { cls := 8, slots := #[.int (-11)], vm := .none },
  { cls := 8, slots := #[.int (-10)], vm := .none },
  { cls := 8, slots := #[.int (-9)], vm := .none },
  { cls := 8, slots := #[.int (-8)], vm := .none },
  { cls := 8, slots := #[.int (-7)], vm := .none },
  { cls := 8, slots := #[.int (-6)], vm := .none },
  { cls := 8, slots := #[.int (-5)], vm := .none },
  { cls := 8, slots := #[.int (-4)], vm := .none },
  { cls := 8, slots := #[.int (-3)], vm := .none },
  { cls := 8, slots := #[.int (-2)], vm := .none },
  { cls := 8, slots := #[.int (-1)], vm := .none },
  { cls := 8, slots := #[.int 0], vm := .none },
  { cls := 8, slots := #[.int 1], vm := .none },
  { cls := 8, slots := #[.int 2], vm := .none },
  { cls := 8, slots := #[.int 3], vm := .none },
  { cls := 8, slots := #[.int 4], vm := .none },
  { cls := 8, slots := #[.int 5], vm := .none },
  { cls := 8, slots := #[.int 6], vm := .none },
  { cls := 8, slots := #[.int 7], vm := .none },
  { cls := 8, slots := #[.int 8], vm := .none },
  { cls := 8, slots := #[.int 9], vm := .none },
  { cls := 8, slots := #[.int 10], vm := .none },
  { cls := 8, slots := #[.int 11], vm := .none },
  { cls := 8, slots := #[.int 12], vm := .none },
  { cls := 8, slots := #[.int 13], vm := .none },
  { cls := 8, slots := #[.int 14], vm := .none },
  { cls := 8, slots := #[.int 15], vm := .none },
  { cls := 8, slots := #[.int 16], vm := .none },
  { cls := 8, slots := #[.int 17], vm := .none },
  { cls := 8, slots := #[.int 18], vm := .none },
  { cls := 8, slots := #[.int 19], vm := .none },
  { cls := 8, slots := #[.int 20], vm := .none },
  { cls := 8, slots := #[.int 21], vm := .none },
  { cls := 8, slots := #[.int 22], vm := .none },
  { cls := 8, slots := #[.int 23], vm := .none },
  { cls := 8, slots := #[.int 24], vm := .none },
  { cls := 8, slots := #[.int 25], vm := .none },
  { cls := 8, slots := #[.int 26], vm := .none },
  { cls := 8, slots := #[.int 27], vm := .none },
  { cls := 8, slots := #[.int 28], vm := .none },
  { cls := 8, slots := #[.int 29], vm := .none },
  { cls := 8, slots := #[.int 30], vm := .none },
  { cls := 8, slots := #[.int 31], vm := .none },
  { cls := 8, slots := #[.int 32], vm := .none },
  { cls := 8, slots := #[.int 33], vm := .none },
  { cls := 8, slots := #[.int 34], vm := .none },
  { cls := 8, slots := #[.int 35], vm := .none },
  { cls := 8, slots := #[.int 36], vm := .none },
  { cls := 8, slots := #[.int 37], vm := .none },
  { cls := 8, slots := #[.int 38], vm := .none },
  { cls := 8, slots := #[.int 39], vm := .none },
  { cls := 8, slots := #[.int 40], vm := .none },
  { cls := 8, slots := #[.int 41], vm := .none },
  { cls := 8, slots := #[.int 42], vm := .none },
  { cls := 8, slots := #[.int 43], vm := .none },
  { cls := 8, slots := #[.int 44], vm := .none },
  { cls := 8, slots := #[.int 45], vm := .none },
  { cls := 8, slots := #[.int 46], vm := .none },
  { cls := 8, slots := #[.int 47], vm := .none },
  { cls := 8, slots := #[.int 48], vm := .none },
  { cls := 8, slots := #[.int 49], vm := .none },
  { cls := 8, slots := #[.int 50], vm := .none },
  { cls := 8, slots := #[.int 51], vm := .none },
  { cls := 8, slots := #[.int 52], vm := .none },
  { cls := 8, slots := #[.int 53], vm := .none },
  { cls := 8, slots := #[.int 54], vm := .none },
  { cls := 8, slots := #[.int 55], vm := .none },
  { cls := 8, slots := #[.int 56], vm := .none },
  { cls := 8, slots := #[.int 57], vm := .none },
  { cls := 8, slots := #[.int 58], vm := .none },
  { cls := 8, slots := #[.int 59], vm := .none },
  { cls := 8, slots := #[.int 60], vm := .none },
  { cls := 8, slots := #[.int 61], vm := .none },
  { cls := 8, slots := #[.int 62], vm := .none },
  { cls := 8, slots := #[.int 63], vm := .none },
  { cls := 8, slots := #[.int 64], vm := .none },
  { cls := 8, slots := #[.int 65], vm := .none },
  { cls := 8, slots := #[.int 66], vm := .none },
  { cls := 8, slots := #[.int 67], vm := .none },
  { cls := 8, slots := #[.int 68], vm := .none },
  { cls := 8, slots := #[.int 69], vm := .none },
  { cls := 8, slots := #[.int 70], vm := .none },
  { cls := 8, slots := #[.int 71], vm := .none },
  { cls := 8, slots := #[.int 72], vm := .none },
  { cls := 8, slots := #[.int 73], vm := .none },
  { cls := 8, slots := #[.int 74], vm := .none },
  { cls := 8, slots := #[.int 75], vm := .none },
  { cls := 8, slots := #[.int 76], vm := .none },
  { cls := 8, slots := #[.int 77], vm := .none },
  { cls := 8, slots := #[.int 78], vm := .none },
  { cls := 8, slots := #[.int 79], vm := .none },
  { cls := 8, slots := #[.int 80], vm := .none },
  { cls := 8, slots := #[.int 81], vm := .none },
  { cls := 8, slots := #[.int 82], vm := .none },
  { cls := 8, slots := #[.int 83], vm := .none },
  { cls := 8, slots := #[.int 84], vm := .none },
  { cls := 8, slots := #[.int 85], vm := .none },
  { cls := 8, slots := #[.int 86], vm := .none },
  { cls := 8, slots := #[.int 87], vm := .none },
  { cls := 8, slots := #[.int 88], vm := .none },
  { cls := 8, slots := #[.int 89], vm := .none },
  { cls := 8, slots := #[.int 90], vm := .none },
  { cls := 8, slots := #[.int 91], vm := .none },
  { cls := 8, slots := #[.int 92], vm := .none },
  { cls := 8, slots := #[.int 93], vm := .none },
  { cls := 8, slots := #[.int 94], vm := .none },
  { cls := 8, slots := #[.int 95], vm := .none },
  { cls := 8, slots := #[.int 96], vm := .none },
  { cls := 8, slots := #[.int 97], vm := .none },
  { cls := 8, slots := #[.int 98], vm := .none },
  { cls := 8, slots := #[.int 99], vm := .none },
  { cls := 8, slots := #[.int 100], vm := .none },
  { cls := 8, slots := #[.int 101], vm := .none },
  { cls := 8, slots := #[.int 102], vm := .none },
  { cls := 8, slots := #[.int 103], vm := .none },
  { cls := 8, slots := #[.int 104], vm := .none },
  { cls := 8, slots := #[.int 105], vm := .none },
  { cls := 8, slots := #[.int 106], vm := .none },
  { cls := 8, slots := #[.int 107], vm := .none },
  { cls := 8, slots := #[.int 108], vm := .none },
  { cls := 8, slots := #[.int 109], vm := .none },
  { cls := 8, slots := #[.int 110], vm := .none },
  { cls := 8, slots := #[.int 111], vm := .none },
  { cls := 8, slots := #[.int 112], vm := .none },
  { cls := 8, slots := #[.int 113], vm := .none },
  { cls := 8, slots := #[.int 114], vm := .none },
  { cls := 8, slots := #[.int 115], vm := .none },
  { cls := 8, slots := #[.int 116], vm := .none },
  { cls := 8, slots := #[.int 117], vm := .none },
  { cls := 8, slots := #[.int 118], vm := .none },
  { cls := 8, slots := #[.int 119], vm := .none },
  { cls := 8, slots := #[.int 120], vm := .none },
  { cls := 8, slots := #[.int 121], vm := .none },
  { cls := 8, slots := #[.int 122], vm := .none },
  { cls := 8, slots := #[.int 123], vm := .none },
  { cls := 8, slots := #[.int 124], vm := .none },
  { cls := 8, slots := #[.int 125], vm := .none },
  { cls := 8, slots := #[.int 126], vm := .none },
  { cls := 8, slots := #[.int 127], vm := .none },
  { cls := 10, slots := #[.long (-128)], vm := .none },
  { cls := 10, slots := #[.long (-127)], vm := .none },
  { cls := 10, slots := #[.long (-126)], vm := .none },
  { cls := 10, slots := #[.long (-125)], vm := .none },
  { cls := 10, slots := #[.long (-124)], vm := .none },
  { cls := 10, slots := #[.long (-123)], vm := .none },
  { cls := 10, slots := #[.long (-122)], vm := .none },
  { cls := 10, slots := #[.long (-121)], vm := .none },
  { cls := 10, slots := #[.long (-120)], vm := .none },
  { cls := 10, slots := #[.long (-119)], vm := .none },
  { cls := 10, slots := #[.long (-118)], vm := .none },
  { cls := 10, slots := #[.long (-117)], vm := .none },
  { cls := 10, slots := #[.long (-116)], vm := .none },
  { cls := 10, slots := #[.long (-115)], vm := .none },
  { cls := 10, slots := #[.long (-114)], vm := .none },
  { cls := 10, slots := #[.long (-113)], vm := .none },
  { cls := 10, slots := #[.long (-112)], vm := .none },
  { cls := 10, slots := #[.long (-111)], vm := .none },
  { cls := 10, slots := #[.long (-110)], vm := .none },
  { cls := 10, slots := #[.long (-109)], vm := .none },
  { cls := 10, slots := #[.long (-108)], vm := .none },
  { cls := 10, slots := #[.long (-107)], vm := .none },
  { cls := 10, slots := #[.long (-106)], vm := .none },
  { cls := 10, slots := #[.long (-105)], vm := .none },
  { cls := 10, slots := #[.long (-104)], vm := .none },
  { cls := 10, slots := #[.long (-103)], vm := .none },
  { cls := 10, slots := #[.long (-102)], vm := .none },
  { cls := 10, slots := #[.long (-101)], vm := .none },
  { cls := 10, slots := #[.long (-100)], vm := .none },
  { cls := 10, slots := #[.long (-99)], vm := .none },
  { cls := 10, slots := #[.long (-98)], vm := .none },
  { cls := 10, slots := #[.long (-97)], vm := .none },
  { cls := 10, slots := #[.long (-96)], vm := .none },
  { cls := 10, slots := #[.long (-95)], vm := .none },
  { cls := 10, slots := #[.long (-94)], vm := .none },
  { cls := 10, slots := #[.long (-93)], vm := .none },
  { cls := 10, slots := #[.long (-92)], vm := .none },
  { cls := 10, slots := #[.long (-91)], vm := .none },
  { cls := 10, slots := #[.long (-90)], vm := .none },
  { cls := 10, slots := #[.long (-89)], vm := .none },
  { cls := 10, slots := #[.long (-88)], vm := .none },
  { cls := 10, slots := #[.long (-87)], vm := .none },
  { cls := 10, slots := #[.long (-86)], vm := .none },
  { cls := 10, slots := #[.long (-85)], vm := .none },
  { cls := 10, slots := #[.long (-84)], vm := .none },
  { cls := 10, slots := #[.long (-83)], vm := .none },
  { cls := 10, slots := #[.long (-82)], vm := .none },
  { cls := 10, slots := #[.long (-81)], vm := .none },
  { cls := 10, slots := #[.long (-80)], vm := .none },
  { cls := 10, slots := #[.long (-79)], vm := .none },
  { cls := 10, slots := #[.long (-78)], vm := .none },
  { cls := 10, slots := #[.long (-77)], vm := .none },
  { cls := 10, slots := #[.long (-76)], vm := .none },
  { cls := 10, slots := #[.long (-75)], vm := .none },
  { cls := 10, slots := #[.long (-74)], vm := .none },
  { cls := 10, slots := #[.long (-73)], vm := .none },
  { cls := 10, slots := #[.long (-72)], vm := .none },
  { cls := 10, slots := #[.long (-71)], vm := .none },
  { cls := 10, slots := #[.long (-70)], vm := .none },
  { cls := 10, slots := #[.long (-69)], vm := .none },
  { cls := 10, slots := #[.long (-68)], vm := .none },
  { cls := 10, slots := #[.long (-67)], vm := .none },
  { cls := 10, slots := #[.long (-66)], vm := .none },
  { cls := 10, slots := #[.long (-65)], vm := .none },
  { cls := 10, slots := #[.long (-64)], vm := .none },
  { cls := 10, slots := #[.long (-63)], vm := .none },
  { cls := 10, slots := #[.long (-62)], vm := .none },
  { cls := 10, slots := #[.long (-61)], vm := .none },
  { cls := 10, slots := #[.long (-60)], vm := .none },
  { cls := 10, slots := #[.long (-59)], vm := .none },
  { cls := 10, slots := #[.long (-58)], vm := .none },
  { cls := 10, slots := #[.long (-57)], vm := .none },
  { cls := 10, slots := #[.long (-56)], vm := .none },
  { cls := 10, slots := #[.long (-55)], vm := .none },
  { cls := 10, slots := #[.long (-54)], vm := .none },
  { cls := 10, slots := #[.long (-53)], vm := .none },
  { cls := 10, slots := #[.long (-52)], vm := .none },
  { cls := 10, slots := #[.long (-51)], vm := .none },
  { cls := 10, slots := #[.long (-50)], vm := .none },
  { cls := 10, slots := #[.long (-49)], vm := .none },
  { cls := 10, slots := #[.long (-48)], vm := .none },
  { cls := 10, slots := #[.long (-47)], vm := .none },
  { cls := 10, slots := #[.long (-46)], vm := .none },
  { cls := 10, slots := #[.long (-45)], vm := .none },
  { cls := 10, slots := #[.long (-44)], vm := .none },
  { cls := 10, slots := #[.long (-43)], vm := .none },
  { cls := 10, slots := #[.long (-42)], vm := .none },
  { cls := 10, slots := #[.long (-41)], vm := .none },
  { cls := 10, slots := #[.long (-40)], vm := .none },
  { cls := 10, slots := #[.long (-39)], vm := .none },
  { cls := 10, slots := #[.long (-38)], vm := .none },
  { cls := 10, slots := #[.long (-37)], vm := .none },
  { cls := 10, slots := #[.long (-36)], vm := .none },
  { cls := 10, slots := #[.long (-35)], vm := .none },
  { cls := 10, slots := #[.long (-34)], vm := .none },
  { cls := 10, slots := #[.long (-33)], vm := .none },
  { cls := 10, slots := #[.long (-32)], vm := .none },
  { cls := 10, slots := #[.long (-31)], vm := .none },
  { cls := 10, slots := #[.long (-30)], vm := .none },
  { cls := 10, slots := #[.long (-29)], vm := .none },
  { cls := 10, slots := #[.long (-28)], vm := .none },
  { cls := 10, slots := #[.long (-27)], vm := .none },
  { cls := 10, slots := #[.long (-26)], vm := .none },
  { cls := 10, slots := #[.long (-25)], vm := .none },
  { cls := 10, slots := #[.long (-24)], vm := .none },
  { cls := 10, slots := #[.long (-23)], vm := .none },
  { cls := 10, slots := #[.long (-22)], vm := .none },
  { cls := 10, slots := #[.long (-21)], vm := .none },
  { cls := 10, slots := #[.long (-20)], vm := .none },
  { cls := 10, slots := #[.long (-19)], vm := .none },
  { cls := 10, slots := #[.long (-18)], vm := .none },
  { cls := 10, slots := #[.long (-17)], vm := .none },
  { cls := 10, slots := #[.long (-16)], vm := .none },
  { cls := 10, slots := #[.long (-15)], vm := .none },
  { cls := 10, slots := #[.long (-14)], vm := .none },
  { cls := 10, slots := #[.long (-13)], vm := .none },
  { cls := 10, slots := #[.long (-12)], vm := .none },
  { cls := 10, slots := #[.long (-11)], vm := .none },
  { cls := 10, slots := #[.long (-10)], vm := .none },
  { cls := 10, slots := #[.long (-9)], vm := .none },
  { cls := 10, slots := #[.long (-8)], vm := .none },
  { cls := 10, slots := #[.long (-7)], vm := .none },
  { cls := 10, slots := #[.long (-6)], vm := .none },
  { cls := 10, slots := #[.long (-5)], vm := .none },
  { cls := 10, slots := #[.long (-4)], vm := .none },
  { cls := 10, slots := #[.long (-3)], vm := .none },
  { cls := 10, slots := #[.long (-2)], vm := .none },
  { cls := 10, slots := #[.long (-1)], vm := .none },
  { cls := 10, slots := #[.long 0], vm := .none },
  { cls := 10, slots := #[.long 1], vm := .none },
  { cls := 10, slots := #[.long 2], vm := .none },
  { cls := 10, slots := #[.long 3], vm := .none },
  { cls := 10, slots := #[.long 4], vm := .none },
  { cls := 10, slots := #[.long 5], vm := .none },
  { cls := 10, slots := #[.long 6], vm := .none },
  { cls := 10, slots := #[.long 7], vm := .none },
  { cls := 10, slots := #[.long 8], vm := .none },
  { cls := 10, slots := #[.long 9], vm := .none },
  { cls := 10, slots := #[.long 10], vm := .none },
  { cls := 10, slots := #[.long 11], vm := .none },
  { cls := 10, slots := #[.long 12], vm := .none },
  { cls := 10, slots := #[.long 13], vm := .none },
  { cls := 10, slots := #[.long 14], vm := .none },
  { cls := 10, slots := #[.long 15], vm := .none },
  { cls := 10, slots := #[.long 16], vm := .none },
  { cls := 10, slots := #[.long 17], vm := .none },
  { cls := 10, slots := #[.long 18], vm := .none },
  { cls := 10, slots := #[.long 19], vm := .none },
  { cls := 10, slots := #[.long 20], vm := .none },
  { cls := 10, slots := #[.long 21], vm := .none },
  { cls := 10, slots := #[.long 22], vm := .none },
  { cls := 10, slots := #[.long 23], vm := .none },
  { cls := 10, slots := #[.long 24], vm := .none },
  { cls := 10, slots := #[.long 25], vm := .none },
  { cls := 10, slots := #[.long 26], vm := .none },
  { cls := 10, slots := #[.long 27], vm := .none },
  { cls := 10, slots := #[.long 28], vm := .none },
  { cls := 10, slots := #[.long 29], vm := .none },
  { cls := 10, slots := #[.long 30], vm := .none },
  { cls := 10, slots := #[.long 31], vm := .none },
  { cls := 10, slots := #[.long 32], vm := .none },
  { cls := 10, slots := #[.long 33], vm := .none },
  { cls := 10, slots := #[.long 34], vm := .none },
  { cls := 10, slots := #[.long 35], vm := .none },
  { cls := 10, slots := #[.long 36], vm := .none },
  { cls := 10, slots := #[.long 37], vm := .none },
  { cls := 10, slots := #[.long 38], vm := .none },
  { cls := 10, slots := #[.long 39], vm := .none },
  { cls := 10, slots := #[.long 40], vm := .none },
  { cls := 10, slots := #[.long 41], vm := .none },
  { cls := 10, slots := #[.long 42], vm := .none },
  { cls := 10, slots := #[.long 43], vm := .none },
  { cls := 10, slots := #[.long 44], vm := .none },
  { cls := 10, slots := #[.long 45], vm := .none },
  { cls := 10, slots := #[.long 46], vm := .none },
  { cls := 10, slots := #[.long 47], vm := .none },
  { cls := 10, slots := #[.long 48], vm := .none },
  { cls := 10, slots := #[.long 49], vm := .none },
  { cls := 10, slots := #[.long 50], vm := .none },
  { cls := 10, slots := #[.long 51], vm := .none },
  { cls := 10, slots := #[.long 52], vm := .none },
  { cls := 10, slots := #[.long 53], vm := .none },
  { cls := 10, slots := #[.long 54], vm := .none },
  { cls := 10, slots := #[.long 55], vm := .none },
  { cls := 10, slots := #[.long 56], vm := .none },
  { cls := 10, slots := #[.long 57], vm := .none },
  { cls := 10, slots := #[.long 58], vm := .none },
  { cls := 10, slots := #[.long 59], vm := .none },
  { cls := 10, slots := #[.long 60], vm := .none },
  { cls := 10, slots := #[.long 61], vm := .none },
  { cls := 10, slots := #[.long 62], vm := .none },
  { cls := 10, slots := #[.long 63], vm := .none },
  { cls := 10, slots := #[.long 64], vm := .none },
  { cls := 10, slots := #[.long 65], vm := .none },
  { cls := 10, slots := #[.long 66], vm := .none },
  { cls := 10, slots := #[.long 67], vm := .none },
  { cls := 10, slots := #[.long 68], vm := .none },
  { cls := 10, slots := #[.long 69], vm := .none },
  { cls := 10, slots := #[.long 70], vm := .none },
  { cls := 10, slots := #[.long 71], vm := .none },
  { cls := 10, slots := #[.long 72], vm := .none },
  { cls := 10, slots := #[.long 73], vm := .none },
  { cls := 10, slots := #[.long 74], vm := .none },
  { cls := 10, slots := #[.long 75], vm := .none },
  { cls := 10, slots := #[.long 76], vm := .none },
  { cls := 10, slots := #[.long 77], vm := .none },
  { cls := 10, slots := #[.long 78], vm := .none },
  { cls := 10, slots := #[.long 79], vm := .none },
  { cls := 10, slots := #[.long 80], vm := .none },
  { cls := 10, slots := #[.long 81], vm := .none },
  { cls := 10, slots := #[.long 82], vm := .none },
  { cls := 10, slots := #[.long 83], vm := .none },
  { cls := 10, slots := #[.long 84], vm := .none },
  { cls := 10, slots := #[.long 85], vm := .none },
  { cls := 10, slots := #[.long 86], vm := .none },
  { cls := 10, slots := #[.long 87], vm := .none },
  { cls := 10, slots := #[.long 88], vm := .none },
  { cls := 10, slots := #[.long 89], vm := .none },
  { cls := 10, slots := #[.long 90], vm := .none },
  { cls := 10, slots := #[.long 91], vm := .none },
  { cls := 10, slots := #[.long 92], vm := .none },
  { cls := 10, slots := #[.long 93], vm := .none },
  { cls := 10, slots := #[.long 94], vm := .none },
  { cls := 10, slots := #[.long 95], vm := .none },
  { cls := 10, slots := #[.long 96], vm := .none },
  { cls := 10, slots := #[.long 97], vm := .none },
  { cls := 10, slots := #[.long 98], vm := .none },
  { cls := 10, slots := #[.long 99], vm := .none },
  { cls := 10, slots := #[.long 100], vm := .none },
  { cls := 10, slots := #[.long 101], vm := .none },
  { cls := 10, slots := #[.long 102], vm := .none },
  { cls := 10, slots := #[.long 103], vm := .none },
  { cls := 10, slots := #[.long 104], vm := .none },
  { cls := 10, slots := #[.long 105], vm := .none },
  { cls := 10, slots := #[.long 106], vm := .none },
  { cls := 10, slots := #[.long 107], vm := .none },
  { cls := 10, slots := #[.long 108], vm := .none },
  { cls := 10, slots := #[.long 109], vm := .none },
  { cls := 10, slots := #[.long 110], vm := .none },
  { cls := 10, slots := #[.long 111], vm := .none },
  { cls := 10, slots := #[.long 112], vm := .none },
  { cls := 10, slots := #[.long 113], vm := .none },
  { cls := 10, slots := #[.long 114], vm := .none },
  { cls := 10, slots := #[.long 115], vm := .none },
  { cls := 10, slots := #[.long 116], vm := .none },
  { cls := 10, slots := #[.long 117], vm := .none },
  { cls := 10, slots := #[.long 118], vm := .none },
  { cls := 10, slots := #[.long 119], vm := .none },
  { cls := 10, slots := #[.long 120], vm := .none },
  { cls := 10, slots := #[.long 121], vm := .none },
  { cls := 10, slots := #[.long 122], vm := .none },
  { cls := 10, slots := #[.long 123], vm := .none },
  { cls := 10, slots := #[.long 124], vm := .none },
  { cls := 10, slots := #[.long 125], vm := .none },
  { cls := 10, slots := #[.long 126], vm := .none },
  { cls := 10, slots := #[.long 127], vm := .none },
  { cls := 27, slots := #[], vm := .none },
  { cls := 27, slots := #[], vm := .none }]
def classes : Array Class := #[k0, k1, k2, k3, k4, k5, k6, k7, k8, k9, k10, k11, k12, k13, k14, k15, k16, k17, k18, k19, k20, k21, k22, k23, k24, k25, k26, k27]
def interned : List (Array UInt16 × Addr) := []
def slotsUsed : Nat := 1036
def theMethod : MethodId := ⟨1, 1⟩
def args0 : Array Value := #[.int 5, .int 7, .int 9, .int 3, .int 2]
def aboutOver (below : List Frame) : State where
  vm := { classes := classes, interned := interned.toArray }
  heap := heap
  slotsUsed := slotsUsed
  threads := #[{ frames := .invoking theMethod args0 :: below }]
def below0 : List Frame := [.native { method := ⟨0, 0⟩, args := #[] }]
def about1 : State := aboutOver below0
def p0 : Program := .bare "" "" ""
def e0 : Env := launch0.env 0 0 0
theorem w_frames : about1.frames = Frame.invoking theMethod args0 :: below0 := rfl
set_option maxRecDepth 65536 in
theorem w_args : argsFit about1.vm theMethod args0 = true := by decide +kernel
set_option maxRecDepth 65536 in
theorem w_heap : heapFits about1 = true := by decide +kernel
set_option maxRecDepth 65536 in
theorem w_runnable : about1.curStatus? = some .runnable := by decide +kernel
set_option maxRecDepth 65536 in
theorem w_alone : about1.alone = true := by decide +kernel
set_option maxRecDepth 65536 in
theorem w_named : about1.methodNamed? x = some theMethod := by decide +kernel
set_option maxRecDepth 65536 in
theorem w_hears : about1.hears theMethod below0 = true := by decide +kernel
set_option maxRecDepth 65536 in
theorem w_ripe : about1.ripe theMethod args0 below0 = true := by decide +kernel
theorem w_running : about1.status = .running := rfl
set_option maxRecDepth 65536 in
theorem w_room : about1.hasRoom e0.platform room_1 = true :=
  launch0.hasRoom_least _ room_1 (by decide +kernel) (by decide +kernel) (by decide +kernel) (by decide +kernel) (by decide +kernel) (by decide +kernel)
theorem allAtoms_all (ts : List Jvm.Cond) (a : Array Jvm.Value) (st : Jvm.State) : (allAtoms ts).before a st = ts.all (fun c => c.before a st) := by
  induction ts with
  | nil => rfl
  | cons c t ih =>
    show (Jvm.Cond.and c (allAtoms t)).before a st = _
    rw [Jvm.Cond.before_and, ih, List.all_cons]
def words1 : List Jvm.Cond := Jvm.Cond.code x code maxLocals ret :: tables_1
/-- a 'code' word, met by the world's own term for the bytes: nothing is compared byte by byte -/
theorem code_word {y : MethodName} {bytes : ByteArray} {mx : Nat} {rt : Option FieldType} {a : Array Value} {s : State} {m : MethodId} {meth : Method} {c : Code} (h1 : s.methodNamed? y = some m) (h2 : s.vm.method? m = some meth) (h3 : meth.code = some c) (h4 : c.code = bytes)
    (h5 : (c.maxLocals == mx && c.exceptionTable.isEmpty && decide (c.maxStack ≤ mostOperands) && decide (meth.sig.returnType = rt) && !meth.locks && decide (parseMethodDescriptor y.desc = some meth.sig)) = true) : (Jvm.Cond.code y bytes mx rt).before a s = true := by
  simp only [Bool.and_eq_true, beq_iff_eq, Bool.not_eq_true', decide_eq_true_eq] at h5
  obtain ⟨⟨⟨⟨⟨g1, g2⟩, g3⟩, g4⟩, g5⟩, g6⟩ := h5
  simp [Cond.before, Cond.holds, Cond.value, h1, h2, h3, h4, g1, g2, g3, g4, g5, g6]
def isCode : Jvm.Cond → Bool
  | .code _ _ _ _ => true
  | _ => false
theorem all_split {L : List Jvm.Cond} {P : Jvm.Cond → Bool} (h1 : L.all (fun c => isCode c || P c) = true) (h2 : ∀ c ∈ L.filter isCode, P c = true) : L.all P = true := by
  refine List.all_eq_true.mpr fun c hc => ?_
  have h := List.all_eq_true.mp h1 c hc
  rcases Bool.eq_false_or_eq_true (isCode c) with hi | hi
  · exact h2 c (List.mem_filter.mpr ⟨hc, hi⟩)
  · simpa [hi] using h
set_option maxRecDepth 65536 in
theorem w_c0 : (Jvm.Cond.code x code maxLocals ret).before args0 about1 = true := code_word (m := ⟨1, 1⟩) (meth := k1m1) (c := k1c1) (by decide +kernel) rfl rfl rfl (by decide +kernel)
set_option maxRecDepth 65536 in
theorem w_c1 : (Jvm.Cond.code ({ cls := "com/example/statement_mapper/statementmapper/service/RowBounds", name := "<init>", desc := "(II)V" } : Jvm.MethodName) prog_64_method_2_code (3 : Nat) (Option.none : Option Jvm.ClassFile.FieldType)).before args0 about1 = true := code_word (m := ⟨2, 1⟩) (meth := k2m1) (c := k2c1) (by decide +kernel) rfl rfl rfl (by decide +kernel)
set_option maxRecDepth 65536 in
theorem w_c2 : (Jvm.Cond.code ({ cls := "java/lang/Object", name := "<init>", desc := "()V" } : Jvm.MethodName) object_method_1_code (1 : Nat) (Option.none : Option Jvm.ClassFile.FieldType)).before args0 about1 = true := code_word (m := ⟨0, 0⟩) (meth := k0m0) (c := k0c0) (by decide +kernel) rfl rfl rfl (by decide +kernel)
set_option maxRecDepth 65536 in
theorem w_c3 : (Jvm.Cond.code ({ cls := "com/example/statement_mapper/statementmapper/service/RowBounds", name := "equals", desc := "(Ljava/lang/Object;)Z" } : Jvm.MethodName) prog_64_method_5_code (3 : Nat) (Option.some Jvm.ClassFile.FieldType.boolean)).before args0 about1 = true := code_word (m := ⟨2, 2⟩) (meth := k2m2) (c := k2c2) (by decide +kernel) rfl rfl rfl (by decide +kernel)
set_option maxRecDepth 65536 in
theorem w_c4 : (Jvm.Cond.code ({ cls := "java/lang/Integer", name := "valueOf", desc := "(I)Ljava/lang/Integer;" } : Jvm.MethodName) jdk_33_method_22_code (1 : Nat) (Option.some (Jvm.ClassFile.FieldType.object "java/lang/Integer"))).before args0 about1 = true := code_word (m := ⟨8, 0⟩) (meth := k8m0) (c := k8c0) (by decide +kernel) rfl rfl rfl (by decide +kernel)
set_option maxRecDepth 65536 in
theorem w_c5 : (Jvm.Cond.code ({ cls := "java/lang/Long", name := "valueOf", desc := "(J)Ljava/lang/Long;" } : Jvm.MethodName) jdk_35_method_24_code (3 : Nat) (Option.some (Jvm.ClassFile.FieldType.object "java/lang/Long"))).before args0 about1 = true := code_word (m := ⟨10, 0⟩) (meth := k10m0) (c := k10c0) (by decide +kernel) rfl rfl rfl (by decide +kernel)
set_option maxRecDepth 65536 in
theorem w_c6 : (Jvm.Cond.code ({ cls := "java/lang/Long", name := "<init>", desc := "(J)V" } : Jvm.MethodName) jdk_35_method_26_code (3 : Nat) (Option.none : Option Jvm.ClassFile.FieldType)).before args0 about1 = true := code_word (m := ⟨10, 1⟩) (meth := k10m1) (c := k10c1) (by decide +kernel) rfl rfl rfl (by decide +kernel)
set_option maxRecDepth 65536 in
theorem w_c7 : (Jvm.Cond.code ({ cls := "java/lang/Number", name := "<init>", desc := "()V" } : Jvm.MethodName) jdk_18_method_1_code (1 : Nat) (Option.none : Option Jvm.ClassFile.FieldType)).before args0 about1 = true := code_word (m := ⟨4, 0⟩) (meth := k4m0) (c := k4c0) (by decide +kernel) rfl rfl rfl (by decide +kernel)
set_option maxRecDepth 65536 in
theorem w_c8 : (Jvm.Cond.code ({ cls := "java/util/ArrayList", name := "<init>", desc := "()V" } : Jvm.MethodName) jdk_38_method_2_code (1 : Nat) (Option.none : Option Jvm.ClassFile.FieldType)).before args0 about1 = true := code_word (m := ⟨19, 0⟩) (meth := k19m0) (c := k19c0) (by decide +kernel) rfl rfl rfl (by decide +kernel)
set_option maxRecDepth 65536 in
theorem w_c9 : (Jvm.Cond.code ({ cls := "java/util/AbstractList", name := "<init>", desc := "()V" } : Jvm.MethodName) jdk_39_method_1_code (1 : Nat) (Option.none : Option Jvm.ClassFile.FieldType)).before args0 about1 = true := code_word (m := ⟨16, 0⟩) (meth := k16m0) (c := k16c0) (by decide +kernel) rfl rfl rfl (by decide +kernel)
set_option maxRecDepth 65536 in
theorem w_c10 : (Jvm.Cond.code ({ cls := "java/util/AbstractCollection", name := "<init>", desc := "()V" } : Jvm.MethodName) jdk_22_method_1_code (1 : Nat) (Option.none : Option Jvm.ClassFile.FieldType)).before args0 about1 = true := code_word (m := ⟨13, 0⟩) (meth := k13m0) (c := k13c0) (by decide +kernel) rfl rfl rfl (by decide +kernel)
set_option maxRecDepth 65536 in
theorem w_c11 : (Jvm.Cond.code ({ cls := "java/lang/Integer", name := "<init>", desc := "(I)V" } : Jvm.MethodName) jdk_33_method_23_code (2 : Nat) (Option.none : Option Jvm.ClassFile.FieldType)).before args0 about1 = true := code_word (m := ⟨8, 1⟩) (meth := k8m1) (c := k8c1) (by decide +kernel) rfl rfl rfl (by decide +kernel)
def codes1 : List Jvm.Cond := [Jvm.Cond.code x code maxLocals ret, Jvm.Cond.code ({ cls := "com/example/statement_mapper/statementmapper/service/RowBounds", name := "<init>", desc := "(II)V" } : Jvm.MethodName) prog_64_method_2_code (3 : Nat) (Option.none : Option Jvm.ClassFile.FieldType), Jvm.Cond.code ({ cls := "java/lang/Object", name := "<init>", desc := "()V" } : Jvm.MethodName) object_method_1_code (1 : Nat) (Option.none : Option Jvm.ClassFile.FieldType), Jvm.Cond.code ({ cls := "com/example/statement_mapper/statementmapper/service/RowBounds", name := "equals", desc := "(Ljava/lang/Object;)Z" } : Jvm.MethodName) prog_64_method_5_code (3 : Nat) (Option.some Jvm.ClassFile.FieldType.boolean), Jvm.Cond.code ({ cls := "java/lang/Integer", name := "valueOf", desc := "(I)Ljava/lang/Integer;" } : Jvm.MethodName) jdk_33_method_22_code (1 : Nat) (Option.some (Jvm.ClassFile.FieldType.object "java/lang/Integer")), Jvm.Cond.code ({ cls := "java/lang/Long", name := "valueOf", desc := "(J)Ljava/lang/Long;" } : Jvm.MethodName) jdk_35_method_24_code (3 : Nat) (Option.some (Jvm.ClassFile.FieldType.object "java/lang/Long")), Jvm.Cond.code ({ cls := "java/lang/Long", name := "<init>", desc := "(J)V" } : Jvm.MethodName) jdk_35_method_26_code (3 : Nat) (Option.none : Option Jvm.ClassFile.FieldType), Jvm.Cond.code ({ cls := "java/lang/Number", name := "<init>", desc := "()V" } : Jvm.MethodName) jdk_18_method_1_code (1 : Nat) (Option.none : Option Jvm.ClassFile.FieldType), Jvm.Cond.code ({ cls := "java/util/ArrayList", name := "<init>", desc := "()V" } : Jvm.MethodName) jdk_38_method_2_code (1 : Nat) (Option.none : Option Jvm.ClassFile.FieldType), Jvm.Cond.code ({ cls := "java/util/AbstractList", name := "<init>", desc := "()V" } : Jvm.MethodName) jdk_39_method_1_code (1 : Nat) (Option.none : Option Jvm.ClassFile.FieldType), Jvm.Cond.code ({ cls := "java/util/AbstractCollection", name := "<init>", desc := "()V" } : Jvm.MethodName) jdk_22_method_1_code (1 : Nat) (Option.none : Option Jvm.ClassFile.FieldType), Jvm.Cond.code ({ cls := "java/lang/Integer", name := "<init>", desc := "(I)V" } : Jvm.MethodName) jdk_33_method_23_code (2 : Nat) (Option.none : Option Jvm.ClassFile.FieldType)]
set_option maxRecDepth 65536 in
theorem codes_eq : words1.filter isCode = codes1 := rfl
theorem w_codes : ∀ c ∈ words1.filter isCode, c.before args0 about1 = true := by
  rw [codes_eq]
  intro c hc
  simp only [codes1, List.mem_cons, List.not_mem_nil, or_false] at hc
  rcases hc with rfl | rfl | rfl | rfl | rfl | rfl | rfl | rfl | rfl | rfl | rfl | rfl
  · exact w_c0
  · exact w_c1
  · exact w_c2
  · exact w_c3
  · exact w_c4
  · exact w_c5
  · exact w_c6
  · exact w_c7
  · exact w_c8
  · exact w_c9
  · exact w_c10
  · exact w_c11
set_option maxRecDepth 65536 in
theorem w_t1 : (words1.take 24).all (fun c => isCode c || c.before args0 about1) = true := by decide +kernel
set_option maxRecDepth 65536 in
theorem w_t2 : ((words1.drop 24).take 24).all (fun c => isCode c || c.before args0 about1) = true := by decide +kernel
set_option maxRecDepth 65536 in
theorem w_t3 : (((words1.drop 24).drop 24).take 24).all (fun c => isCode c || c.before args0 about1) = true := by decide +kernel
set_option maxRecDepth 65536 in
theorem w_t4 : (((words1.drop 24).drop 24).drop 24).all (fun c => isCode c || c.before args0 about1) = true := by decide +kernel
theorem w_tables : (allAtoms (Jvm.Cond.code x code maxLocals ret :: tables_1)).before args0 about1 = true := by
  rw [allAtoms_all]
  show words1.all (fun c => c.before args0 about1) = true
  refine all_split ?_ w_codes
  rw [← List.take_append_drop 24 words1, List.all_append, w_t1, ← List.take_append_drop 24 (words1.drop 24), List.all_append, w_t2, ← List.take_append_drop 24 ((words1.drop 24).drop 24), List.all_append, w_t3, w_t4]
  rfl
set_option maxRecDepth 65536 in
theorem w_rest : rest_1_c.before args0 about1 = true := by decide +kernel
set_option maxRecDepth 65536 in
theorem w_case : (Jvm.Cond.and given_1 narrow_1).before args0 about1 = true := by decide +kernel
theorem w_applies : (headSpec (Jvm.Cond.code x code maxLocals ret :: tables_1) room_1).applies x e0.platform about1 = true :=
  (Spec.applies_iff w_frames).mpr ⟨w_running, w_runnable, w_alone, w_named, w_hears, w_ripe, w_room, w_tables⟩
theorem atStart : AtStart classFile x code maxLocals ret World_1 tables_1 room_1 Calls_1 rest_1 Pre_1 launch0 p0 e0 about1 theMethod args0 below0 :=
  ⟨lists_1, trivial, launch0.admits_env _ _ _, launch0.least_env, fairChoices_fair.cas, fairChoices_fair.clock, w_frames, w_args, w_heap, w_applies, trivial, w_rest, w_case⟩
end start1
theorem witness_1 : WitnessClaimed_1 := ⟨start1.p0, start1.e0, start1.about1, start1.theMethod, start1.args0, start1.below0, start1.atStart⟩
end Jvm.Pilot.@@N@@
