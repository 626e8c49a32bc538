import JvmDerived
import JvmDerived.Pilot.@@N@@Statement
import JvmDerived.Pilot.@@N@@Code
set_option linter.unusedVariables false
set_option linter.unusedSimpArgs false

namespace Jvm.Own
open Sem ClassFile Op Lib Jvm.Stand Jvm.Free Jvm.LawKit Jvm.RoadKit
def Go (p : Program) (e : Env) (below : List Frame) (G : State → Outcome → Prop) (σ : State) : Prop := ∃ s₂ o, Steps p.tables e below σ s₂ ∧ s₂.status = .running ∧ Ended s₂ below o ∧ G s₂ o
theorem Go.step {p : Program} {e : Env} {below : List Frame} {G : State → Outcome → Prop} {σ σ' : State} (h : ∀ t, Steps p.tables e below σ' t → Steps p.tables e below σ t) (k : Go p e below G σ') : Go p e below G σ := by
  obtain ⟨s₂, o, h1, h2⟩ := k
  exact ⟨s₂, o, h _ h1, h2⟩
def RetG (s : State) (Q : Option Value → Heap → List Loc → Prop) (cells slots : Nat) (s₂ : State) (o : Outcome) : Prop := ∃ v L, o = .returned v ∧ Q v s₂.heap L ∧ FrameEnd s o s₂ L cells slots
section
variable {p : Program} {l : Launch} {e : Env} {R : Room} {s : State} {m : MethodId} {args : Array Value} {below : List Frame} {meth : Method} {c : Code} {T : State} {locs : List Loc} {k n : Nat} {G : State → Outcome → Prop} {code : ByteArray} {pc : Nat} {Ls : Array Slot} {st : List Value} {Z : State} {a0 : Array Value} {h : Heap} {n0 : Nat}
theorem Go.leave (X : Stand p l e R s m args below meth c T locs k n) {v : Option Value} (hv : meth.sig.returnType = none → v = none) (hlocks : meth.locks = false) {Q : Option Value → Heap → List Loc → Prop} {cells slots : Nat} {σ : State} (eT : T.heap = h) (hq : Q v h locs) (hk : k ≤ cells) (hn : n ≤ slots)
    (st : ∀ fs, (∀ (f : JFrame) (acts : List Action), f.method = m → f.locked = none → f.entered = [] → (doReturn e (T.setTop f) acts v).1 = T.setFrames fs) → Steps p.tables e below σ (T.setFrames fs)) : Go p e below (RetG s Q cells slots) σ := by
  obtain ⟨fs, hr, hrun, hended, hW, hsame⟩ := X.leave (v := v) hv hlocks
  subst eT
  exact ⟨_, _, st fs hr, hrun, hended, _, _, rfl, hq, ⟨_, rfl⟩, hW, hsame.mono hk hn⟩
/-- null or some object -/
def Rf (v : Value) : Prop := v = .null ∨ ∃ a, v = .ref a
theorem Rf.is {v : Value} (r : Rf v) : v.isRef = true := by rcases r with rfl | ⟨a, rfl⟩ <;> rfl
theorem Rf.cat {v : Value} (r : Rf v) : v.category = 1 := by rcases r with rfl | ⟨a, rfl⟩ <;> rfl
theorem Rf.nar {v : Value} (r : Rf v) {c : String} : narrow (.object c) v = v := by rcases r with rfl | ⟨a, rfl⟩ <;> rfl
theorem Rf.fit {v : Value} (r : Rf v) {c : String} : fits (.object c) v = true := by rcases r with rfl | ⟨a, rfl⟩ <;> rfl
theorem Rf.store {v : Value} (r : Rf v) {ls ls' : Array Slot} {i : Nat} {o : Slot} (hold : ls[i]? = some o) (ho : One o) (hl : ls.setIfInBounds i (.val v) = ls') : storeLocals ls i v = some ls' := by rw [XS.store1 hold ho r.cat, hl]
theorem Rf.of {v : Value} (h : v.isRef = true) : Rf v := ref_cases h
theorem selOf {U : State} {as : Array Value} {y : MethodName} {n : Nat} (wi : (Cond.instantiable y.cls n).before as U = true) (wp : (Cond.privateMethod y).before #[] U = true) (wm : (Cond.instanceMethod y).before as U = true) (hy : y.cls ≠ "java/lang/invoke/MethodHandle" ∧ y.cls ≠ "java/lang/invoke/VarHandle") : (Cond.selects y.cls y y).before as U = true := by
  obtain ⟨c, k, h1, h2, -, h4, -⟩ := Cond.instantiable_spec wi
  exact selects_self_of_private h1 h2 (Bool.or_eq_false_iff.mp h4).1 (Cond.privateMethod_at wp) wm hy
theorem g_iload (X : Stand p l e R s m args below meth c T locs k n) (hx : p.tables.exec = Jvm.exec) (hby : c.code = code) {j : Nat} {v : Int32} (hd : decode code pc = .ok (.iload j, 2)) (hl : Ls[j]? = some (.val (.int v))) (K : Go p e below G (T.setTop (mkF m (pc + 2) Ls (.int v :: st)))) : Go p e below G (T.setTop (mkF m pc Ls st)) := Go.step (fun t q => XS.iload X.here hx rfl (hb hby hd) hl q) K
theorem g_iloadN (X : Stand p l e R s m args below meth c T locs k n) (hx : p.tables.exec = Jvm.exec) (hby : c.code = code) {j : Fin 4} {v : Int32} (hd : decode code pc = .ok (.iload_n j, 1)) (hl : Ls[j.val]? = some (.val (.int v))) (K : Go p e below G (T.setTop (mkF m (pc + 1) Ls (.int v :: st)))) : Go p e below G (T.setTop (mkF m pc Ls st)) := Go.step (fun t q => XS.iloadN X.here hx rfl (hb hby hd) hl q) K
theorem g_lload (X : Stand p l e R s m args below meth c T locs k n) (hx : p.tables.exec = Jvm.exec) (hby : c.code = code) {j : Nat} {v : Int64} (hd : decode code pc = .ok (.lload j, 2)) (hl : Ls[j]? = some (.val (.long v))) (K : Go p e below G (T.setTop (mkF m (pc + 2) Ls (.long v :: st)))) : Go p e below G (T.setTop (mkF m pc Ls st)) := Go.step (fun t q => XS.lload X.here hx rfl (hb hby hd) hl q) K
theorem g_lloadN (X : Stand p l e R s m args below meth c T locs k n) (hx : p.tables.exec = Jvm.exec) (hby : c.code = code) {j : Fin 4} {v : Int64} (hd : decode code pc = .ok (.lload_n j, 1)) (hl : Ls[j.val]? = some (.val (.long v))) (K : Go p e below G (T.setTop (mkF m (pc + 1) Ls (.long v :: st)))) : Go p e below G (T.setTop (mkF m pc Ls st)) := Go.step (fun t q => XS.lloadN X.here hx rfl (hb hby hd) hl q) K
theorem g_aload (X : Stand p l e R s m args below meth c T locs k n) (hx : p.tables.exec = Jvm.exec) (hby : c.code = code) {j : Nat} {v : Value} (hd : decode code pc = .ok (.aload j, 2)) (hl : Ls[j]? = some (.val v)) (hv : v.isRef = true) (K : Go p e below G (T.setTop (mkF m (pc + 2) Ls (v :: st)))) : Go p e below G (T.setTop (mkF m pc Ls st)) := Go.step (fun t q => XS.aload X.here hx rfl (hb hby hd) hl hv q) K
theorem g_aloadN (X : Stand p l e R s m args below meth c T locs k n) (hx : p.tables.exec = Jvm.exec) (hby : c.code = code) {j : Fin 4} {v : Value} (hd : decode code pc = .ok (.aload_n j, 1)) (hl : Ls[j.val]? = some (.val v)) (hv : v.isRef = true) (K : Go p e below G (T.setTop (mkF m (pc + 1) Ls (v :: st)))) : Go p e below G (T.setTop (mkF m pc Ls st)) := Go.step (fun t q => XS.aloadN X.here hx rfl (hb hby hd) hl hv q) K
theorem g_istore (X : Stand p l e R s m args below meth c T locs k n) (hx : p.tables.exec = Jvm.exec) (hby : c.code = code) {j : Nat} {x : Int32} {rest : List Value} {l' : Array Slot} (hd : decode code pc = .ok (.istore j, 2)) (hl : storeLocals Ls j (.int x) = some l') (K : Go p e below G (T.setTop (mkF m (pc + 2) l' rest))) : Go p e below G (T.setTop (mkF m pc Ls (.int x :: rest))) := Go.step (fun t q => XS.istore X.here hx rfl (hb hby hd) rfl hl q) K
theorem g_istoreN (X : Stand p l e R s m args below meth c T locs k n) (hx : p.tables.exec = Jvm.exec) (hby : c.code = code) {j : Fin 4} {x : Int32} {rest : List Value} {l' : Array Slot} (hd : decode code pc = .ok (.istore_n j, 1)) (hl : storeLocals Ls j.val (.int x) = some l') (K : Go p e below G (T.setTop (mkF m (pc + 1) l' rest))) : Go p e below G (T.setTop (mkF m pc Ls (.int x :: rest))) := Go.step (fun t q => XS.istoreN X.here hx rfl (hb hby hd) rfl hl q) K
theorem g_lstore (X : Stand p l e R s m args below meth c T locs k n) (hx : p.tables.exec = Jvm.exec) (hby : c.code = code) {j : Nat} {x : Int64} {rest : List Value} {l' : Array Slot} (hd : decode code pc = .ok (.lstore j, 2)) (hl : storeLocals Ls j (.long x) = some l') (K : Go p e below G (T.setTop (mkF m (pc + 2) l' rest))) : Go p e below G (T.setTop (mkF m pc Ls (.long x :: rest))) := Go.step (fun t q => XS.lstore X.here hx rfl (hb hby hd) rfl hl q) K
theorem g_lstoreN (X : Stand p l e R s m args below meth c T locs k n) (hx : p.tables.exec = Jvm.exec) (hby : c.code = code) {j : Fin 4} {x : Int64} {rest : List Value} {l' : Array Slot} (hd : decode code pc = .ok (.lstore_n j, 1)) (hl : storeLocals Ls j.val (.long x) = some l') (K : Go p e below G (T.setTop (mkF m (pc + 1) l' rest))) : Go p e below G (T.setTop (mkF m pc Ls (.long x :: rest))) := Go.step (fun t q => XS.lstoreN X.here hx rfl (hb hby hd) rfl hl q) K
theorem g_astore (X : Stand p l e R s m args below meth c T locs k n) (hx : p.tables.exec = Jvm.exec) (hby : c.code = code) {j : Nat} {x : Value} {rest : List Value} {l' : Array Slot} (hd : decode code pc = .ok (.astore j, 2)) (hv : x.isRef = true) (hl : storeLocals Ls j x = some l') (K : Go p e below G (T.setTop (mkF m (pc + 2) l' rest))) : Go p e below G (T.setTop (mkF m pc Ls (x :: rest))) := Go.step (fun t q => XS.astore X.here hx rfl (hb hby hd) rfl hv hl q) K
theorem g_astoreN (X : Stand p l e R s m args below meth c T locs k n) (hx : p.tables.exec = Jvm.exec) (hby : c.code = code) {j : Fin 4} {x : Value} {rest : List Value} {l' : Array Slot} (hd : decode code pc = .ok (.astore_n j, 1)) (hv : x.isRef = true) (hl : storeLocals Ls j.val x = some l') (K : Go p e below G (T.setTop (mkF m (pc + 1) l' rest))) : Go p e below G (T.setTop (mkF m pc Ls (x :: rest))) := Go.step (fun t q => XS.astoreN X.here hx rfl (hb hby hd) rfl hv hl q) K
theorem g_iconst (X : Stand p l e R s m args below meth c T locs k n) (hx : p.tables.exec = Jvm.exec) (hby : c.code = code) {i : Int} (v : Int32) (hd : decode code pc = .ok (.iconst i, 1)) (hv : Int32.ofInt i = v) (K : Go p e below G (T.setTop (mkF m (pc + 1) Ls (.int v :: st)))) : Go p e below G (T.setTop (mkF m pc Ls st)) := Go.step (fun t q => XS.iconst X.here hx rfl (hb hby hd) (by rw [hv]; exact q)) K
theorem g_bipush (X : Stand p l e R s m args below meth c T locs k n) (hx : p.tables.exec = Jvm.exec) (hby : c.code = code) {i : Int} (v : Int32) (hd : decode code pc = .ok (.bipush i, 2)) (hv : (Int8.ofInt i).toInt32 = v) (K : Go p e below G (T.setTop (mkF m (pc + 2) Ls (.int v :: st)))) : Go p e below G (T.setTop (mkF m pc Ls st)) := Go.step (fun t q => XS.bipush X.here hx rfl (hb hby hd) (by rw [hv]; exact q)) K
theorem g_sipush (X : Stand p l e R s m args below meth c T locs k n) (hx : p.tables.exec = Jvm.exec) (hby : c.code = code) {i : Int} (v : Int32) (hd : decode code pc = .ok (.sipush i, 3)) (hv : (Int16.ofInt i).toInt32 = v) (K : Go p e below G (T.setTop (mkF m (pc + 3) Ls (.int v :: st)))) : Go p e below G (T.setTop (mkF m pc Ls st)) := Go.step (fun t q => XS.sipush X.here hx rfl (hb hby hd) (by rw [hv]; exact q)) K
theorem g_lconst (X : Stand p l e R s m args below meth c T locs k n) (hx : p.tables.exec = Jvm.exec) (hby : c.code = code) {j : Fin 2} (v : Int64) (hd : decode code pc = .ok (.lconst j, 1)) (hv : Int64.ofNat j = v) (K : Go p e below G (T.setTop (mkF m (pc + 1) Ls (.long v :: st)))) : Go p e below G (T.setTop (mkF m pc Ls st)) := Go.step (fun t q => XS.lconst X.here hx rfl (hb hby hd) (by rw [hv]; exact q)) K
theorem g_topI {x : Int32} (y : Int32) (q : x = y) {rest : List Value} (K : Go p e below G (T.setTop (mkF m pc Ls (.int y :: rest)))) : Go p e below G (T.setTop (mkF m pc Ls (.int x :: rest))) := q ▸ K
theorem g_topJ {x : Int64} (y : Int64) (q : x = y) {rest : List Value} (K : Go p e below G (T.setTop (mkF m pc Ls (.long y :: rest)))) : Go p e below G (T.setTop (mkF m pc Ls (.long x :: rest))) := q ▸ K
theorem g_at {ls ls' : Array Slot} {st' : List Value} (pc' : Nat) (h1 : pc = pc') (h2 : ls = ls') (h3 : st = st') (K : Go p e below G (T.setTop (mkF m pc' ls' st'))) : Go p e below G (T.setTop (mkF m pc ls st)) := h1 ▸ h2 ▸ h3 ▸ K
theorem g_aconst_null (X : Stand p l e R s m args below meth c T locs k n) (hx : p.tables.exec = Jvm.exec) (hby : c.code = code)  (hd : decode code pc = .ok (.aconst_null, 1)) (K : Go p e below G (T.setTop (mkF m (pc + 1) Ls (.null :: st)))) : Go p e below G (T.setTop (mkF m pc Ls st)) := Go.step (fun t q => XS.aconstNull X.here hx rfl (hb hby hd)  q) K
theorem g_iadd (X : Stand p l e R s m args below meth c T locs k n) (hx : p.tables.exec = Jvm.exec) (hby : c.code = code) {x y : Int32} {rest : List Value} (hd : decode code pc = .ok (.iadd, 1)) (K : Go p e below G (T.setTop (mkF m (pc + 1) Ls (.int (x + y) :: rest)))) : Go p e below G (T.setTop (mkF m pc Ls (.int y :: .int x :: rest))) := Go.step (fun t q => XS.iadd X.here hx rfl (hb hby hd) rfl q) K
theorem g_ladd (X : Stand p l e R s m args below meth c T locs k n) (hx : p.tables.exec = Jvm.exec) (hby : c.code = code) {x y : Int64} {rest : List Value} (hd : decode code pc = .ok (.ladd, 1)) (K : Go p e below G (T.setTop (mkF m (pc + 1) Ls (.long (x + y) :: rest)))) : Go p e below G (T.setTop (mkF m pc Ls (.long y :: .long x :: rest))) := Go.step (fun t q => XS.ladd X.here hx rfl (hb hby hd) rfl q) K
theorem g_isub (X : Stand p l e R s m args below meth c T locs k n) (hx : p.tables.exec = Jvm.exec) (hby : c.code = code) {x y : Int32} {rest : List Value} (hd : decode code pc = .ok (.isub, 1)) (K : Go p e below G (T.setTop (mkF m (pc + 1) Ls (.int (x - y) :: rest)))) : Go p e below G (T.setTop (mkF m pc Ls (.int y :: .int x :: rest))) := Go.step (fun t q => XS.isub X.here hx rfl (hb hby hd) rfl q) K
theorem g_lsub (X : Stand p l e R s m args below meth c T locs k n) (hx : p.tables.exec = Jvm.exec) (hby : c.code = code) {x y : Int64} {rest : List Value} (hd : decode code pc = .ok (.lsub, 1)) (K : Go p e below G (T.setTop (mkF m (pc + 1) Ls (.long (x - y) :: rest)))) : Go p e below G (T.setTop (mkF m pc Ls (.long y :: .long x :: rest))) := Go.step (fun t q => XS.lsub X.here hx rfl (hb hby hd) rfl q) K
theorem g_imul (X : Stand p l e R s m args below meth c T locs k n) (hx : p.tables.exec = Jvm.exec) (hby : c.code = code) {x y : Int32} {rest : List Value} (hd : decode code pc = .ok (.imul, 1)) (K : Go p e below G (T.setTop (mkF m (pc + 1) Ls (.int (x * y) :: rest)))) : Go p e below G (T.setTop (mkF m pc Ls (.int y :: .int x :: rest))) := Go.step (fun t q => XS.imul X.here hx rfl (hb hby hd) rfl q) K
theorem g_lmul (X : Stand p l e R s m args below meth c T locs k n) (hx : p.tables.exec = Jvm.exec) (hby : c.code = code) {x y : Int64} {rest : List Value} (hd : decode code pc = .ok (.lmul, 1)) (K : Go p e below G (T.setTop (mkF m (pc + 1) Ls (.long (x * y) :: rest)))) : Go p e below G (T.setTop (mkF m pc Ls (.long y :: .long x :: rest))) := Go.step (fun t q => XS.lmul X.here hx rfl (hb hby hd) rfl q) K
theorem g_iand (X : Stand p l e R s m args below meth c T locs k n) (hx : p.tables.exec = Jvm.exec) (hby : c.code = code) {x y : Int32} {rest : List Value} (hd : decode code pc = .ok (.iand, 1)) (K : Go p e below G (T.setTop (mkF m (pc + 1) Ls (.int (x &&& y) :: rest)))) : Go p e below G (T.setTop (mkF m pc Ls (.int y :: .int x :: rest))) := Go.step (fun t q => XS.iand X.here hx rfl (hb hby hd) rfl q) K
theorem g_land (X : Stand p l e R s m args below meth c T locs k n) (hx : p.tables.exec = Jvm.exec) (hby : c.code = code) {x y : Int64} {rest : List Value} (hd : decode code pc = .ok (.land, 1)) (K : Go p e below G (T.setTop (mkF m (pc + 1) Ls (.long (x &&& y) :: rest)))) : Go p e below G (T.setTop (mkF m pc Ls (.long y :: .long x :: rest))) := Go.step (fun t q => XS.land X.here hx rfl (hb hby hd) rfl q) K
theorem g_ior (X : Stand p l e R s m args below meth c T locs k n) (hx : p.tables.exec = Jvm.exec) (hby : c.code = code) {x y : Int32} {rest : List Value} (hd : decode code pc = .ok (.ior, 1)) (K : Go p e below G (T.setTop (mkF m (pc + 1) Ls (.int (x ||| y) :: rest)))) : Go p e below G (T.setTop (mkF m pc Ls (.int y :: .int x :: rest))) := Go.step (fun t q => XS.ior X.here hx rfl (hb hby hd) rfl q) K
theorem g_lor (X : Stand p l e R s m args below meth c T locs k n) (hx : p.tables.exec = Jvm.exec) (hby : c.code = code) {x y : Int64} {rest : List Value} (hd : decode code pc = .ok (.lor, 1)) (K : Go p e below G (T.setTop (mkF m (pc + 1) Ls (.long (x ||| y) :: rest)))) : Go p e below G (T.setTop (mkF m pc Ls (.long y :: .long x :: rest))) := Go.step (fun t q => XS.lor X.here hx rfl (hb hby hd) rfl q) K
theorem g_ixor (X : Stand p l e R s m args below meth c T locs k n) (hx : p.tables.exec = Jvm.exec) (hby : c.code = code) {x y : Int32} {rest : List Value} (hd : decode code pc = .ok (.ixor, 1)) (K : Go p e below G (T.setTop (mkF m (pc + 1) Ls (.int (x ^^^ y) :: rest)))) : Go p e below G (T.setTop (mkF m pc Ls (.int y :: .int x :: rest))) := Go.step (fun t q => XS.ixor X.here hx rfl (hb hby hd) rfl q) K
theorem g_lxor (X : Stand p l e R s m args below meth c T locs k n) (hx : p.tables.exec = Jvm.exec) (hby : c.code = code) {x y : Int64} {rest : List Value} (hd : decode code pc = .ok (.lxor, 1)) (K : Go p e below G (T.setTop (mkF m (pc + 1) Ls (.long (x ^^^ y) :: rest)))) : Go p e below G (T.setTop (mkF m pc Ls (.long y :: .long x :: rest))) := Go.step (fun t q => XS.lxor X.here hx rfl (hb hby hd) rfl q) K
theorem g_ishl (X : Stand p l e R s m args below meth c T locs k n) (hx : p.tables.exec = Jvm.exec) (hby : c.code = code) {x y : Int32} {rest : List Value} (hd : decode code pc = .ok (.ishl, 1)) (K : Go p e below G (T.setTop (mkF m (pc + 1) Ls (.int (x <<< (y &&& 31)) :: rest)))) : Go p e below G (T.setTop (mkF m pc Ls (.int y :: .int x :: rest))) := Go.step (fun t q => XS.ishl X.here hx rfl (hb hby hd) rfl q) K
theorem g_ishr (X : Stand p l e R s m args below meth c T locs k n) (hx : p.tables.exec = Jvm.exec) (hby : c.code = code) {x y : Int32} {rest : List Value} (hd : decode code pc = .ok (.ishr, 1)) (K : Go p e below G (T.setTop (mkF m (pc + 1) Ls (.int (x >>> (y &&& 31)) :: rest)))) : Go p e below G (T.setTop (mkF m pc Ls (.int y :: .int x :: rest))) := Go.step (fun t q => XS.ishr X.here hx rfl (hb hby hd) rfl q) K
theorem g_iushr (X : Stand p l e R s m args below meth c T locs k n) (hx : p.tables.exec = Jvm.exec) (hby : c.code = code) {x y : Int32} {rest : List Value} (hd : decode code pc = .ok (.iushr, 1)) (K : Go p e below G (T.setTop (mkF m (pc + 1) Ls (.int ((x.toUInt32 >>> (y &&& 31).toUInt32).toInt32) :: rest)))) : Go p e below G (T.setTop (mkF m pc Ls (.int y :: .int x :: rest))) := Go.step (fun t q => XS.iushr X.here hx rfl (hb hby hd) rfl q) K
theorem g_lshl (X : Stand p l e R s m args below meth c T locs k n) (hx : p.tables.exec = Jvm.exec) (hby : c.code = code) {x : Int64} {y : Int32} {rest : List Value} (hd : decode code pc = .ok (.lshl, 1)) (K : Go p e below G (T.setTop (mkF m (pc + 1) Ls (.long (x <<< (y &&& 0x3f).toInt64) :: rest)))) : Go p e below G (T.setTop (mkF m pc Ls (.int y :: .long x :: rest))) := Go.step (fun t q => XS.lshl X.here hx rfl (hb hby hd) rfl q) K
theorem g_lshr (X : Stand p l e R s m args below meth c T locs k n) (hx : p.tables.exec = Jvm.exec) (hby : c.code = code) {x : Int64} {y : Int32} {rest : List Value} (hd : decode code pc = .ok (.lshr, 1)) (K : Go p e below G (T.setTop (mkF m (pc + 1) Ls (.long (x >>> (y &&& 0x3f).toInt64) :: rest)))) : Go p e below G (T.setTop (mkF m pc Ls (.int y :: .long x :: rest))) := Go.step (fun t q => XS.lshr X.here hx rfl (hb hby hd) rfl q) K
theorem g_lushr (X : Stand p l e R s m args below meth c T locs k n) (hx : p.tables.exec = Jvm.exec) (hby : c.code = code) {x : Int64} {y : Int32} {rest : List Value} (hd : decode code pc = .ok (.lushr, 1)) (K : Go p e below G (T.setTop (mkF m (pc + 1) Ls (.long ((x.toUInt64 >>> (y &&& 0x3f).toInt64.toUInt64).toInt64) :: rest)))) : Go p e below G (T.setTop (mkF m pc Ls (.int y :: .long x :: rest))) := Go.step (fun t q => XS.lushr X.here hx rfl (hb hby hd) rfl q) K
theorem g_ineg (X : Stand p l e R s m args below meth c T locs k n) (hx : p.tables.exec = Jvm.exec) (hby : c.code = code) {x : Int32} {rest : List Value} (hd : decode code pc = .ok (.ineg, 1)) (K : Go p e below G (T.setTop (mkF m (pc + 1) Ls (.int (-x) :: rest)))) : Go p e below G (T.setTop (mkF m pc Ls (.int x :: rest))) := Go.step (fun t q => XS.ineg X.here hx rfl (hb hby hd) rfl q) K
theorem g_lneg (X : Stand p l e R s m args below meth c T locs k n) (hx : p.tables.exec = Jvm.exec) (hby : c.code = code) {x : Int64} {rest : List Value} (hd : decode code pc = .ok (.lneg, 1)) (K : Go p e below G (T.setTop (mkF m (pc + 1) Ls (.long (-x) :: rest)))) : Go p e below G (T.setTop (mkF m pc Ls (.long x :: rest))) := Go.step (fun t q => XS.lneg X.here hx rfl (hb hby hd) rfl q) K
theorem g_i2l (X : Stand p l e R s m args below meth c T locs k n) (hx : p.tables.exec = Jvm.exec) (hby : c.code = code) {x : Int32} {rest : List Value} (hd : decode code pc = .ok (.i2l, 1)) (K : Go p e below G (T.setTop (mkF m (pc + 1) Ls (.long (x.toInt64) :: rest)))) : Go p e below G (T.setTop (mkF m pc Ls (.int x :: rest))) := Go.step (fun t q => XS.i2l X.here hx rfl (hb hby hd) rfl q) K
theorem g_l2i (X : Stand p l e R s m args below meth c T locs k n) (hx : p.tables.exec = Jvm.exec) (hby : c.code = code) {x : Int64} {rest : List Value} (hd : decode code pc = .ok (.l2i, 1)) (K : Go p e below G (T.setTop (mkF m (pc + 1) Ls (.int (x.toInt32) :: rest)))) : Go p e below G (T.setTop (mkF m pc Ls (.long x :: rest))) := Go.step (fun t q => XS.l2i X.here hx rfl (hb hby hd) rfl q) K
theorem g_i2b (X : Stand p l e R s m args below meth c T locs k n) (hx : p.tables.exec = Jvm.exec) (hby : c.code = code) {x : Int32} {rest : List Value} (hd : decode code pc = .ok (.i2b, 1)) (K : Go p e below G (T.setTop (mkF m (pc + 1) Ls (.int (x.toInt8.toInt32) :: rest)))) : Go p e below G (T.setTop (mkF m pc Ls (.int x :: rest))) := Go.step (fun t q => XS.i2b X.here hx rfl (hb hby hd) rfl q) K
theorem g_i2s (X : Stand p l e R s m args below meth c T locs k n) (hx : p.tables.exec = Jvm.exec) (hby : c.code = code) {x : Int32} {rest : List Value} (hd : decode code pc = .ok (.i2s, 1)) (K : Go p e below G (T.setTop (mkF m (pc + 1) Ls (.int (x.toInt16.toInt32) :: rest)))) : Go p e below G (T.setTop (mkF m pc Ls (.int x :: rest))) := Go.step (fun t q => XS.i2s X.here hx rfl (hb hby hd) rfl q) K
theorem g_i2c (X : Stand p l e R s m args below meth c T locs k n) (hx : p.tables.exec = Jvm.exec) (hby : c.code = code) {x : Int32} {rest : List Value} (hd : decode code pc = .ok (.i2c, 1)) (K : Go p e below G (T.setTop (mkF m (pc + 1) Ls (.int (x.toUInt32.toUInt16.toUInt32.toInt32) :: rest)))) : Go p e below G (T.setTop (mkF m pc Ls (.int x :: rest))) := Go.step (fun t q => XS.i2c X.here hx rfl (hb hby hd) rfl q) K
theorem g_lcmp (X : Stand p l e R s m args below meth c T locs k n) (hx : p.tables.exec = Jvm.exec) (hby : c.code = code) {x y : Int64} {rest : List Value} (hd : decode code pc = .ok (.lcmp, 1)) (K : Go p e below G (T.setTop (mkF m (pc + 1) Ls (.int (lcmpW x y) :: rest)))) : Go p e below G (T.setTop (mkF m pc Ls (.long y :: .long x :: rest))) := Go.step (fun t q => XS.lcmp X.here hx rfl (hb hby hd) rfl q) K
theorem g_idiv (X : Stand p l e R s m args below meth c T locs k n) (hx : p.tables.exec = Jvm.exec) (hby : c.code = code) {x y : Int32} {rest : List Value} (hd : decode code pc = .ok (.idiv, 1)) (hy : y ≠ 0) (K : Go p e below G (T.setTop (mkF m (pc + 1) Ls (.int (x / y) :: rest)))) : Go p e below G (T.setTop (mkF m pc Ls (.int y :: .int x :: rest))) := Go.step (fun t q => XS.idiv X.here hx rfl (hb hby hd) rfl hy q) K
theorem g_irem (X : Stand p l e R s m args below meth c T locs k n) (hx : p.tables.exec = Jvm.exec) (hby : c.code = code) {x y : Int32} {rest : List Value} (hd : decode code pc = .ok (.irem, 1)) (hy : y ≠ 0) (K : Go p e below G (T.setTop (mkF m (pc + 1) Ls (.int (x % y) :: rest)))) : Go p e below G (T.setTop (mkF m pc Ls (.int y :: .int x :: rest))) := Go.step (fun t q => iremM X hx rfl (hb hby hd) rfl hy q) K
theorem g_iinc (X : Stand p l e R s m args below meth c T locs k n) (hx : p.tables.exec = Jvm.exec) (hby : c.code = code) {j : Nat} {cst : Int} {x : Int32} {l' : Array Slot} (v : Int32) (hd : decode code pc = .ok (.iinc j cst, 3)) (hl : Ls[j]? = some (.val (.int x))) (hv : x + Int32.ofInt cst = v) (hl' : storeLocals Ls j (.int v) = some l') (K : Go p e below G (T.setTop (mkF m (pc + 3) l' st))) : Go p e below G (T.setTop (mkF m pc Ls st)) := Go.step (fun t q => XS.iinc X.here hx rfl (hb hby hd) hl (by rw [hv]; exact hl') q) K
theorem g_dup (X : Stand p l e R s m args below meth c T locs k n) (hx : p.tables.exec = Jvm.exec) (hby : c.code = code) {x : Value} {rest : List Value} (hd : decode code pc = .ok (.dup, 1)) (hc : x.category = 1) (K : Go p e below G (T.setTop (mkF m (pc + 1) Ls (x :: x :: rest)))) : Go p e below G (T.setTop (mkF m pc Ls (x :: rest))) := Go.step (fun t q => XS.dup X.here hx rfl (hb hby hd) rfl hc q) K
theorem g_dup_x1 (X : Stand p l e R s m args below meth c T locs k n) (hx : p.tables.exec = Jvm.exec) (hby : c.code = code) {x y : Value} {rest : List Value} (hd : decode code pc = .ok (.dup_x1, 1)) (hc : x.category = 1) (hc2 : y.category = 1) (K : Go p e below G (T.setTop (mkF m (pc + 1) Ls (x :: y :: x :: rest)))) : Go p e below G (T.setTop (mkF m pc Ls (x :: y :: rest))) := Go.step (fun t q => XS.dupX1 X.here hx rfl (hb hby hd) rfl hc hc2 q) K
theorem g_pop (X : Stand p l e R s m args below meth c T locs k n) (hx : p.tables.exec = Jvm.exec) (hby : c.code = code) {x : Value} {rest : List Value} (hd : decode code pc = .ok (.pop, 1)) (hc : x.category = 1) (K : Go p e below G (T.setTop (mkF m (pc + 1) Ls rest))) : Go p e below G (T.setTop (mkF m pc Ls (x :: rest))) := Go.step (fun t q => XS.pop X.here hx rfl (hb hby hd) rfl hc q) K
theorem g_dup2 (X : Stand p l e R s m args below meth c T locs k n) (hx : p.tables.exec = Jvm.exec) (hby : c.code = code) {x y : Value} {rest : List Value} (hd : decode code pc = .ok (.dup2, 1)) (hc : x.category = 1) (hc2 : y.category = 1) (K : Go p e below G (T.setTop (mkF m (pc + 1) Ls (x :: y :: x :: y :: rest)))) : Go p e below G (T.setTop (mkF m pc Ls (x :: y :: rest))) := Go.step (fun t q => XT.dup2 X.here hx rfl (hb hby hd) rfl hc hc2 q) K
theorem g_dup2L (X : Stand p l e R s m args below meth c T locs k n) (hx : p.tables.exec = Jvm.exec) (hby : c.code = code) {x : Int64} {rest : List Value} (hd : decode code pc = .ok (.dup2, 1)) (K : Go p e below G (T.setTop (mkF m (pc + 1) Ls (.long x :: .long x :: rest)))) : Go p e below G (T.setTop (mkF m pc Ls (.long x :: rest))) := Go.step (fun t q => XT.dup2L X.here hx rfl (hb hby hd) rfl q) K
theorem g_pop2J (X : Stand p l e R s m args below meth c T locs k n) (hx : p.tables.exec = Jvm.exec) (hby : c.code = code) {x : Int64} {rest : List Value} (hd : decode code pc = .ok (.pop2, 1)) (K : Go p e below G (T.setTop (mkF m (pc + 1) Ls rest))) : Go p e below G (T.setTop (mkF m pc Ls (.long x :: rest))) := Go.step (fun t q => by
  have hd' := hb hby hd
  show Steps p.tables e below (T.setTop { method := m, pc := pc, locals := Ls, stack := .long x :: rest, locked := none }) t
  jvm_step X.here [X.here.top, hx, hd', Value.category]
  exact q) K
theorem g_goto (X : Stand p l e R s m args below meth c T locs k n) (hx : p.tables.exec = Jvm.exec) (hby : c.code = code) {d : Int} (pc' : Nat) (hd : decode code pc = .ok (.goto d, 3)) (ho : 0 ≤ (pc : Int) + d) (hp : ((pc : Int) + d).toNat = pc') (K : Go p e below G (T.setTop (mkF m pc' Ls st))) : Go p e below G (T.setTop (mkF m pc Ls st)) := Go.step (fun t q => XS.goto X.here hx rfl (pc0 := pc) (pc' := pc') rfl (hb hby hd) ho hp q) K
theorem g_ifY (X : Stand p l e R s m args below meth c T locs k n) (hx : p.tables.exec = Jvm.exec) (hby : c.code = code) {cd : ClassFile.Cond} {x : Int32} {rest : List Value} {d : Int} (pc' : Nat) (hd : decode code pc = .ok (.ifCond cd d, 3)) (hc : if_icmp.holds cd x 0 = true) (ho : 0 ≤ (pc : Int) + d) (hp : ((pc : Int) + d).toNat = pc') (K : Go p e below G (T.setTop (mkF m pc' Ls rest))) : Go p e below G (T.setTop (mkF m pc Ls (.int x :: rest))) := Go.step (fun t q => XS.ifYes X.here hx rfl (pc0 := pc) (pc' := pc') rfl (hb hby hd) rfl ((if0 _ _).trans hc) ho hp q) K
theorem g_ifN (X : Stand p l e R s m args below meth c T locs k n) (hx : p.tables.exec = Jvm.exec) (hby : c.code = code) {cd : ClassFile.Cond} {x : Int32} {rest : List Value} {d : Int} (hd : decode code pc = .ok (.ifCond cd d, 3)) (hc : if_icmp.holds cd x 0 = false) (K : Go p e below G (T.setTop (mkF m (pc + 3) Ls rest))) : Go p e below G (T.setTop (mkF m pc Ls (.int x :: rest))) := Go.step (fun t q => XS.ifNo X.here hx rfl (hb hby hd) rfl ((if0 _ _).trans hc) q) K
theorem g_icY (X : Stand p l e R s m args below meth c T locs k n) (hx : p.tables.exec = Jvm.exec) (hby : c.code = code) {cd : ClassFile.Cond} {x y : Int32} {rest : List Value} {d : Int} (pc' : Nat) (hd : decode code pc = .ok (.if_icmp cd d, 3)) (hc : if_icmp.holds cd x y = true) (ho : 0 ≤ (pc : Int) + d) (hp : ((pc : Int) + d).toNat = pc') (K : Go p e below G (T.setTop (mkF m pc' Ls rest))) : Go p e below G (T.setTop (mkF m pc Ls (.int y :: .int x :: rest))) := Go.step (fun t q => XS.icmpYes X.here hx rfl (pc0 := pc) (pc' := pc') rfl (hb hby hd) rfl hc ho hp q) K
theorem g_icN (X : Stand p l e R s m args below meth c T locs k n) (hx : p.tables.exec = Jvm.exec) (hby : c.code = code) {cd : ClassFile.Cond} {x y : Int32} {rest : List Value} {d : Int} (hd : decode code pc = .ok (.if_icmp cd d, 3)) (hc : if_icmp.holds cd x y = false) (K : Go p e below G (T.setTop (mkF m (pc + 3) Ls rest))) : Go p e below G (T.setTop (mkF m pc Ls (.int y :: .int x :: rest))) := Go.step (fun t q => XS.icmpNo X.here hx rfl (hb hby hd) rfl hc q) K
theorem g_acmp (X : Stand p l e R s m args below meth c T locs k n) (hx : p.tables.exec = Jvm.exec) (hby : c.code = code) {cd : ACond} {x y : Value} (h1 : x.isRef = true) (h2 : y.isRef = true) {rest : List Value} {d : Int} (pc' : Nat) (same : Bool) (hd : decode code pc = .ok (.if_acmp cd d, 3)) (hq : decide (x = y) = same) (ho : 0 ≤ (pc : Int) + d) (hp : pc' = if acV cd same = true then ((pc : Int) + d).toNat else pc + 3) (K : Go p e below G (T.setTop (mkF m pc' Ls rest))) : Go p e below G (T.setTop (mkF m pc Ls (y :: x :: rest))) := Go.step (fun t q => Jvm.RoadKit.acmp (g := mkF m pc Ls (y :: x :: rest)) X hx rfl h1 h2 (pc0 := pc) (pc' := pc') (same := same) rfl (hb hby hd) rfl hq ho hp q) K
theorem g_ifnullY (X : Stand p l e R s m args below meth c T locs k n) (hx : p.tables.exec = Jvm.exec) (hby : c.code = code) {rest : List Value} {d : Int} (pc' : Nat) (hd : decode code pc = .ok (.ifnull d, 3)) (ho : 0 ≤ (pc : Int) + d) (hp : ((pc : Int) + d).toNat = pc') (K : Go p e below G (T.setTop (mkF m pc' Ls rest))) : Go p e below G (T.setTop (mkF m pc Ls (.null :: rest))) := Go.step (fun t q => XS.ifnullYes X.here hx rfl (pc0 := pc) (pc' := pc') rfl (hb hby hd) rfl ho hp q) K
theorem g_ifnullN (X : Stand p l e R s m args below meth c T locs k n) (hx : p.tables.exec = Jvm.exec) (hby : c.code = code) {b : Addr} {rest : List Value} {d : Int} (hd : decode code pc = .ok (.ifnull d, 3)) (K : Go p e below G (T.setTop (mkF m (pc + 3) Ls rest))) : Go p e below G (T.setTop (mkF m pc Ls (.ref b :: rest))) := Go.step (fun t q => XS.ifnullNo X.here hx rfl (hb hby hd) rfl q) K
theorem g_ifnonnullY (X : Stand p l e R s m args below meth c T locs k n) (hx : p.tables.exec = Jvm.exec) (hby : c.code = code) {b : Addr} {rest : List Value} {d : Int} (pc' : Nat) (hd : decode code pc = .ok (.ifnonnull d, 3)) (ho : 0 ≤ (pc : Int) + d) (hp : ((pc : Int) + d).toNat = pc') (K : Go p e below G (T.setTop (mkF m pc' Ls rest))) : Go p e below G (T.setTop (mkF m pc Ls (.ref b :: rest))) := Go.step (fun t q => XS.ifnonnullYes X.here hx rfl (pc0 := pc) (pc' := pc') rfl (hb hby hd) rfl ho hp q) K
theorem g_ifnonnullN (X : Stand p l e R s m args below meth c T locs k n) (hx : p.tables.exec = Jvm.exec) (hby : c.code = code) {rest : List Value} {d : Int} (hd : decode code pc = .ok (.ifnonnull d, 3)) (K : Go p e below G (T.setTop (mkF m (pc + 3) Ls rest))) : Go p e below G (T.setTop (mkF m pc Ls (.null :: rest))) := Go.step (fun t q => XS.ifnonnullNo X.here hx rfl (hb hby hd) rfl q) K
theorem g_ldcI (X : Stand p l e R s m args below meth c T locs k n) (hx : p.tables.exec = Jvm.exec) (hby : c.code = code) (hZ : Z.Warmed39 s.vm) {own : String} (hown : s.vm.findClass own = some m.cls) {index : Nat} {v : Int32} (w : (Cond.constant own index v).before a0 Z = true) (hd : decode code pc = .ok (.ldc index, 2)) (K : Go p e below G (T.setTop (mkF m (pc + 2) Ls (.int v :: st)))) : Go p e below G (T.setTop (mkF m pc Ls st)) := Go.step (fun t q => X.ldcInt hx hown (mvT hZ w) (g := mkF m pc Ls st) rfl (hb hby hd) t q) K
theorem g_ldcwI (X : Stand p l e R s m args below meth c T locs k n) (hx : p.tables.exec = Jvm.exec) (hby : c.code = code) (hZ : Z.Warmed39 s.vm) {own : String} (hown : s.vm.findClass own = some m.cls) {index : Nat} {v : Int32} (w : (Cond.constant own index v).before a0 Z = true) (hd : decode code pc = .ok (.ldc_w index, 3)) (K : Go p e below G (T.setTop (mkF m (pc + 3) Ls (.int v :: st)))) : Go p e below G (T.setTop (mkF m pc Ls st)) := Go.step (fun t q => X.ldcwInt hx hown (mvT hZ w) (g := mkF m pc Ls st) rfl (hb hby hd) t q) K
theorem g_ldc2J (X : Stand p l e R s m args below meth c T locs k n) (hx : p.tables.exec = Jvm.exec) (hby : c.code = code) (hZ : Z.Warmed39 s.vm) {own : String} (hown : s.vm.findClass own = some m.cls) {index : Nat} {v : Int64} (w : (Cond.constantLong own index v).before a0 Z = true) (hd : decode code pc = .ok (.ldc2_w index, 3)) (K : Go p e below G (T.setTop (mkF m (pc + 3) Ls (.long v :: st)))) : Go p e below G (T.setTop (mkF m pc Ls st)) := Go.step (fun t q => X.ldc2Long hx hown (mvT hZ w) (g := mkF m pc Ls st) rfl (hb hby hd) t q) K
theorem g_getF (X : Stand p l e R s m args below meth c T locs k n) (hx : p.tables.exec = Jvm.exec) (hby : c.code = code) (hZ : Z.Warmed39 s.vm) {own : String} (hown : s.vm.findClass own = some m.cls) {R0 O f d host : String} {index : Nat} (w : (Cond.fieldLink own index R0 f d).before a0 Z = true ∨ (Cond.fieldLinkNest own index R0 f d host).before a0 Z = true) (via : Via Z R0 O f d) (eT : T.heap = h) {a : Addr} {v : Value} (F : Fld Z h a O f d v) {rest : List Value} (hd : decode code pc = .ok (.getfield index, 3)) (K : ∀ T', Stand p l e R s m args below meth c T' locs k n → T'.heap = h → Go p e below G (T'.setTop (mkF m (pc + 3) Ls (v :: rest)))) : Go p e below G (T.setTop (mkF m pc Ls (.ref a :: rest))) := by
  obtain ⟨T', X', e', q⟩ := getF X hx hZ hown w via eT F (g := mkF m pc Ls (.ref a :: rest)) rfl rfl (hb hby hd)
  exact Go.step q (K T' X' e')
theorem g_getS (X : Stand p l e R s m args below meth c T locs k n) (hx : p.tables.exec = Jvm.exec) (hby : c.code = code) (hZ : Z.Warmed39 s.vm) {own : String} (hown : s.vm.findClass own = some m.cls) {R0 O f d host : String} {index : Nat} (w : (Cond.fieldLink own index R0 f d).before a0 Z = true ∨ (Cond.fieldLinkNest own index R0 f d host).before a0 Z = true) (via : Via Z R0 O f d) (eT : T.heap = h) {v : Value} (F : Sta Z h O f d v) (hd : decode code pc = .ok (.getstatic index, 3)) (K : ∀ T', Stand p l e R s m args below meth c T' locs k n → T'.heap = h → Go p e below G (T'.setTop (mkF m (pc + 3) Ls (v :: st)))) : Go p e below G (T.setTop (mkF m pc Ls st)) := by
  obtain ⟨T', X', e', q⟩ := getS2 X hx hZ hown w via eT F (g := mkF m pc Ls st) rfl (hb hby hd)
  exact Go.step q (K T' X' e')
theorem g_putF (X : Stand p l e R s m args below meth c T locs k n) (hx : p.tables.exec = Jvm.exec) (hby : c.code = code) (hZ : Z.Warmed39 s.vm) {own : String} (hown : s.vm.findClass own = some m.cls) {R0 O f d host : String} {index : Nat} (w : (Cond.fieldLink own index R0 f d).before a0 Z = true ∨ (Cond.fieldLinkNest own index R0 f d host).before a0 Z = true) (via : Via Z R0 O f d) (eT : T.heap = h) {C : String} {kk : Nat} {a : Addr} {v old : Value} (F : Fld Z h a O f d old) (E : Exa Z h a C) (L : (Cond.lays C O f d).before a0 Z = true ∨ ((Cond.laysFinal C O f d).before a0 Z = true ∧ own = O ∧ meth.name = "<init>")) (wi : (Cond.instantiable C kk).before a0 Z = true) (ty : FieldType) (hty : parseFieldDescriptor d = some ty) (hn : narrow ty v = v) (hf : fits ty v = true) (N : Fr n0 locs) (ga : n0 ≤ a) {rest : List Value} (hd : decode code pc = .ok (.putfield index, 3)) (K : ∀ T' h', Stand p l e R s m args below meth c T' (locs ++ [⟨a, Jvm.RoadKit.slotOf Z O f d⟩]) k n → T'.heap = h' → Wr h h' a (Jvm.RoadKit.slotOf Z O f d) v → Fld Z h' a O f d v → Fr n0 (locs ++ [⟨a, Jvm.RoadKit.slotOf Z O f d⟩]) → Go p e below G (T'.setTop (mkF m (pc + 3) Ls rest))) : Go p e below G (T.setTop (mkF m pc Ls (v :: .ref a :: rest))) := by
  obtain ⟨T', h', X', e', W, q⟩ := putF X hx hZ hown w via eT F E L wi hty hn hf (g := mkF m pc Ls (v :: .ref a :: rest)) rfl rfl (hb hby hd)
  exact Go.step q (K T' h' X' e' W (F.same W) (Fr.snoc X' N ga))
theorem g_putFN (X : Stand p l e R s m args below meth c T locs k n) (hx : p.tables.exec = Jvm.exec) (hby : c.code = code) (hZ : Z.Warmed39 s.vm) {own : String} (hown : s.vm.findClass own = some m.cls) {R0 O f d : String} {index : Nat} (w : (Cond.fieldLink own index R0 f d).before a0 Z = true) (via : Via Z R0 O f d) (eT : T.heap = h) {C : String} {kk : Nat} {a : Addr} {v old : Value} (F : Fld Z h a O f d old) (E : Exa Z h a C) (L : (Cond.lays C O f d).before a0 Z = true ∨ ((Cond.laysFinal C O f d).before a0 Z = true ∧ own = O ∧ meth.name = "<init>")) (wi : (Cond.instantiable C kk).before a0 Z = true) (ty : FieldType) (hty : parseFieldDescriptor d = some ty) (v' : Value) (hn : narrow ty v = v') (hf : fits ty v' = true) (N : Fr n0 locs) (ga : n0 ≤ a) {rest : List Value} (hd : decode code pc = .ok (.putfield index, 3)) (K : ∀ T' h', Stand p l e R s m args below meth c T' (locs ++ [⟨a, Jvm.RoadKit.slotOf Z O f d⟩]) k n → T'.heap = h' → Wr h h' a (Jvm.RoadKit.slotOf Z O f d) v' → Fld Z h' a O f d v' → Fr n0 (locs ++ [⟨a, Jvm.RoadKit.slotOf Z O f d⟩]) → Go p e below G (T'.setTop (mkF m (pc + 3) Ls rest))) : Go p e below G (T.setTop (mkF m pc Ls (v :: .ref a :: rest))) := by
  obtain ⟨T', h', X', e', W, q⟩ := putFN X hx hZ hown w via eT F E L wi hty hn hf (g := mkF m pc Ls (v :: .ref a :: rest)) rfl rfl (hb hby hd)
  exact Go.step q (K T' h' X' e' W (F.same W) (Fr.snoc X' N ga))
theorem g_new (X : Stand p l e R s m args below meth c T locs k n) (hx : p.tables.exec = Jvm.exec) (hby : c.code = code) (hZ : Z.Warmed39 s.vm) {own : String} (hown : s.vm.findClass own = some m.cls) {C : String} {index j : Nat} (w : (Cond.classLink own index C).before a0 Z = true) (wi : (Cond.instantiable C j).before a0 Z = true) (wz : (Cond.initialized C).before a0 Z = true) (eT : T.heap = h) (hc : k + 1 ≤ R.cells) (hl : n + j ≤ R.slots) (hd : decode code pc = .ok (.new index, 3)) (K : ∀ T' h' x, h.size = x → Stand p l e R s m args below meth c T' locs (k + 1) (n + j) → T'.heap = h' → Ext h h' → Exa Z h' x C → (∀ {O nm d : String} {ty : FieldType}, Laid Z a0 C O nm d → parseFieldDescriptor d = some ty → Fld Z h' x O nm d (defaultValue ty)) → Go p e below G (T'.setTop (mkF m (pc + 3) Ls (.ref x :: st)))) : Go p e below G (T.setTop (mkF m pc Ls st)) := by
  obtain ⟨T', h', X', e', E, A, D, -, q⟩ := newO X hx hZ hown w wi wz eT (g := mkF m pc Ls st) rfl (hb hby hd) hc hl
  exact Go.step q (K T' h' _ rfl X' e' E A D)
theorem g_newarray (X : Stand p l e R s m args below meth c T locs k n) (hx : p.tables.exec = Jvm.exec) (hby : c.code = code) (hZ : Z.Warmed39 s.vm) (aty : ArrayType) (ty : FieldType) (dv : Value) (vs : List Value) (hty : newarray.typeOf aty = ty) (hdv : defaultValue ty = dv) (w : (Cond.arrayClass ty).before a0 Z = true) (eT : T.heap = h) {z : Int32} {rest : List Value} (hn : ¬ z < 0) (cap : Nat) (hvs : List.replicate cap dv = vs) (hcap : z.toNatClampNeg ≤ cap) (hbig : cap * 8 ≤ 536870912) (hc : k + 1 ≤ R.cells) (hl : n + cap ≤ R.slots) (hd : decode code pc = .ok (.newarray aty, 2)) (K : ∀ T' h' kc x, h.size = x → Stand p l e R s m args below meth c T' locs (k + 1) (n + cap) → T'.heap = h' → Ext h h' → Arv Z h' x kc ty z vs dv → Go p e below G (T'.setTop (mkF m (pc + 2) Ls (.ref x :: rest)))) : Go p e below G (T.setTop (mkF m pc Ls (.int z :: rest))) := by
  subst hty hdv hvs
  obtain ⟨T', h', kc, X', e', E, A, q⟩ := newP X hx hZ w eT (g := mkF m pc Ls (.int z :: rest)) rfl (hb hby hd) rfl hn (cap := cap) hcap hbig hc hl
  exact Go.step q (K T' h' kc _ rfl X' e' E ((Arv.new A hn).pad (pad_rep [] _ cap)))
theorem g_anewarray (X : Stand p l e R s m args below meth c T locs k n) (hx : p.tables.exec = Jvm.exec) (hby : c.code = code) (hZ : Z.Warmed39 s.vm) {own : String} (hown : s.vm.findClass own = some m.cls) {C ad : String} {index : Nat} (w1 : (Cond.classLink own index C).before a0 Z = true) (w2 : (Cond.arrayOver (.object C)).before a0 Z = true) (had : "[" ++ (FieldType.object C).toString = ad) (vs : List Value) (eT : T.heap = h) {z : Int32} {rest : List Value} (hn : ¬ z < 0) (cap : Nat) (hvs : List.replicate cap Value.null = vs) (hcap : z.toNatClampNeg ≤ cap) (hbig : cap * 8 ≤ 536870912) (hc : k + 1 ≤ R.cells) (hl : n + cap ≤ R.slots) (hd : decode code pc = .ok (.anewarray index, 3)) (K : ∀ T' h' kc x, h.size = x → Stand p l e R s m args below meth c T' locs (k + 1) (n + cap) → T'.heap = h' → Ext h h' → Arv Z h' x kc (.object C) z vs .null → Exa Z h' x ad → Ovr Z kc C → Go p e below G (T'.setTop (mkF m (pc + 3) Ls (.ref x :: rest)))) : Go p e below G (T.setTop (mkF m pc Ls (.int z :: rest))) := by
  subst hvs
  obtain ⟨T', h', kc, X', e', E, A, Ex, O, q⟩ := newRE X hx hZ hown w1 w2 eT (g := mkF m pc Ls (.int z :: rest)) rfl (hb hby hd) rfl hn (cap := cap) hcap hbig hc hl had
  exact Go.step q (K T' h' kc _ rfl X' e' E ((Arv.new A hn).pad (pad_rep [] _ cap)) Ex O)
theorem g_aastore (X : Stand p l e R s m args below meth c T locs k n) (hx : p.tables.exec = Jvm.exec) (hby : c.code = code) (hZ : Z.Warmed39 s.vm) (eT : T.heap = h) {a : Addr} {kc : ClassId} {C : String} {z : Int32} {vs : List Value} {dv : Value} (V : Arv Z h a kc (.object C) z vs dv) (O : Ovr Z kc C) {j : Int32} {x : Value} (hst : x = .null ∨ ∃ y, x = .ref y ∧ Ins Z h y C true) (i : Nat) (vs' : List Value) (hvs : vs.set i x = vs') (hj : ¬ j < 0 ∧ j < z) (hi : j.toNatClampNeg = i) (hlen : i < vs.length) (N : Fr n0 locs) (ga : n0 ≤ a) {rest : List Value} (hd : decode code pc = .ok (.aastore, 1)) (K : ∀ T' h', Stand p l e R s m args below meth c T' (locs ++ [⟨a, j.toNatClampNeg⟩]) k n → T'.heap = h' → Wr h h' a j.toNatClampNeg x → Arv Z h' a kc (.object C) z vs' dv → Fr n0 (locs ++ [⟨a, j.toNatClampNeg⟩]) → Go p e below G (T'.setTop (mkF m (pc + 1) Ls rest))) : Go p e below G (T.setTop (mkF m pc Ls (x :: .int j :: .ref a :: rest))) := by
  subst hvs
  obtain ⟨cl, Ar, q1, S, M, H, F⟩ := V
  have So : Sto Z h a x := by
    rcases hst with rfl | ⟨y, rfl, I⟩
    · exact Or.inl rfl
    · exact Sto.ofV Ar q1 O I
  have fi : fits (.object C) x = true := by rcases hst with rfl | ⟨y, rfl, I⟩ <;> rfl
  obtain ⟨T', h', X', e', W, q⟩ := stR X hx hZ eT Ar (j := j) (inb_of S hj) rfl So (g := mkF m pc Ls (x :: .int j :: .ref a :: rest)) rfl rfl (hb hby hd)
  exact Go.step q (K T' h' X' e' W (Arv.set Ar q1 S M H F fi W i hi hlen) (Fr.snoc X' N ga))
theorem g_arraycopy (X : Stand p l e R s m args below meth c T locs k n) (hx : p.tables.exec = Jvm.exec) (hby : c.code = code) (hZ : Z.Warmed39 s.vm) {own : String} (hown : s.vm.findClass own = some m.cls) {index : Nat} (w1 : (Cond.methodLink own index Jvm.Stand.acN).before a0 Z = true) (w2 : (Cond.native Jvm.Stand.acN).before a0 Z = true) (w3 : (Cond.static Jvm.Stand.acN).before a0 Z = true) (w4 : (Cond.initialized "java/lang/System").before a0 Z = true) (eT : T.heap = h) {a b : Addr} {ka kb : ClassId} {ty ty' : FieldType} {z z' sp dp nn : Int32} {vs vd us : List Value} {dv dd : Value} (A : Arv Z h a ka ty z vs dv) (B : Arv Z h b kb ty' z' vd dd) (hty : (ty = ty' ∧ refKind ty = false) ∨ (refKind ty = true ∧ refKind ty' = true ∧ StoL Z h b us)) (h1 : ¬ sp < 0) (h2 : ¬ dp < 0) (h3 : ¬ nn < 0) (h4 : sp.toNatClampNeg + nn.toNatClampNeg ≤ z.toNatClampNeg) (h5 : dp.toNatClampNeg + nn.toNatClampNeg ≤ z'.toNatClampNeg) (hus : us = (List.range nn.toNatClampNeg).map fun i => vs.getD (sp.toNatClampNeg + i) dv) (hl : dp.toNatClampNeg + nn.toNatClampNeg ≤ vd.length) (N : Fr n0 locs) (ge : n0 ≤ b) (hsize : Ls.size = c.maxLocals) {rest : List Value} (hd : decode code pc = .ok (.invokestatic index, 3)) (hf : 1 ≤ R.frames) (hlo : (rest.map fun v => v.category).sum + 18 ≤ R.locals) (K : ∀ T' h' L, Stand p l e R s m args below meth c T' L k n → T'.heap = h' → Fr n0 L → Keep h h' [b] → Arv Z h' b kb ty' z' (vd.take dp.toNatClampNeg ++ us ++ vd.drop (dp.toNatClampNeg + nn.toNatClampNeg)) dd → Go p e below G (T'.setTop (mkF m (pc + 3) Ls rest))) : Go p e below G (T.setTop (mkF m pc Ls (.int nn :: .int dp :: .ref b :: .int sp :: .ref a :: rest))) := by
  obtain ⟨T', h', L, X', e', N', K', V', q⟩ := cpA X hx hZ hown w1 w2 w3 w4 eT A B hty h1 h2 h3 h4 h5 hus hl N ge (g := mkF m pc Ls (.int nn :: .int dp :: .ref b :: .int sp :: .ref a :: rest)) rfl hsize rfl (hb hby hd) hf (W := (rest.map fun v => v.category).sum) (by show 2 * 0 + _ ≤ _; omega) (by show _ + (7 + 11) ≤ _; omega)
  exact Go.step q (K T' h' L X' e' N' K' V')
theorem g_iastore (X : Stand p l e R s m args below meth c T locs k n) (hx : p.tables.exec = Jvm.exec) (hby : c.code = code) (hZ : Z.Warmed39 s.vm) (eT : T.heap = h) {a : Addr} {kc : ClassId} {z : Int32} {vs : List Value} {dv : Value} (V : Arv Z h a kc .int z vs dv) {j : Int32} {x : Int32} (i : Nat) (vs' : List Value) (hvs : vs.set i (.int x) = vs') (hj : ¬ j < 0 ∧ j < z) (hi : j.toNatClampNeg = i) (hlen : i < vs.length) (N : Fr n0 locs) (ga : n0 ≤ a) {rest : List Value} (hd : decode code pc = .ok (.iastore, 1)) (K : ∀ T' h', Stand p l e R s m args below meth c T' (locs ++ [⟨a, j.toNatClampNeg⟩]) k n → T'.heap = h' → Wr h h' a j.toNatClampNeg (.int x) → Arv Z h' a kc .int z vs' dv → Fr n0 (locs ++ [⟨a, j.toNatClampNeg⟩]) → Go p e below G (T'.setTop (mkF m (pc + 1) Ls rest))) : Go p e below G (T.setTop (mkF m pc Ls (.int x :: .int j :: .ref a :: rest))) := by
  subst hvs
  obtain ⟨cl, Ar, q1, S, M, H, F⟩ := V
  obtain ⟨T', h', X', e', W, q⟩ := stI X hx hZ eT Ar (j := j) (inb_of S hj) (g := mkF m pc Ls (.int x :: .int j :: .ref a :: rest)) rfl rfl (hb hby hd)
  exact Go.step q (K T' h' X' e' W (Arv.set Ar q1 S M H F rfl W i hi hlen) (Fr.snoc X' N ga))
theorem g_castore (X : Stand p l e R s m args below meth c T locs k n) (hx : p.tables.exec = Jvm.exec) (hby : c.code = code) (hZ : Z.Warmed39 s.vm) (eT : T.heap = h) {a : Addr} {kc : ClassId} {z : Int32} {vs : List Value} {dv : Value} (V : Arv Z h a kc .char z vs dv) {j : Int32} {x : Int32} (i : Nat) (vs' : List Value) (hvs : vs.set i (.int (nar .char x)) = vs') (hj : ¬ j < 0 ∧ j < z) (hi : j.toNatClampNeg = i) (hlen : i < vs.length) (N : Fr n0 locs) (ga : n0 ≤ a) {rest : List Value} (hd : decode code pc = .ok (.castore, 1)) (K : ∀ T' h', Stand p l e R s m args below meth c T' (locs ++ [⟨a, j.toNatClampNeg⟩]) k n → T'.heap = h' → Wr h h' a j.toNatClampNeg (.int (nar .char x)) → Arv Z h' a kc .char z vs' dv → Fr n0 (locs ++ [⟨a, j.toNatClampNeg⟩]) → Go p e below G (T'.setTop (mkF m (pc + 1) Ls rest))) : Go p e below G (T.setTop (mkF m pc Ls (.int x :: .int j :: .ref a :: rest))) := by
  subst hvs
  obtain ⟨cl, Ar, q1, S, M, H, F⟩ := V
  obtain ⟨T', h', X', e', W, q⟩ := stC X hx hZ eT Ar (j := j) (inb_of S hj) (g := mkF m pc Ls (.int x :: .int j :: .ref a :: rest)) rfl rfl (hb hby hd)
  exact Go.step q (K T' h' X' e' W (Arv.set Ar q1 S M H F (fits_nar_char _) W i hi hlen) (Fr.snoc X' N ga))
theorem g_sastore (X : Stand p l e R s m args below meth c T locs k n) (hx : p.tables.exec = Jvm.exec) (hby : c.code = code) (hZ : Z.Warmed39 s.vm) (eT : T.heap = h) {a : Addr} {kc : ClassId} {z : Int32} {vs : List Value} {dv : Value} (V : Arv Z h a kc .short z vs dv) {j : Int32} {x : Int32} (i : Nat) (vs' : List Value) (hvs : vs.set i (.int (nar .short x)) = vs') (hj : ¬ j < 0 ∧ j < z) (hi : j.toNatClampNeg = i) (hlen : i < vs.length) (N : Fr n0 locs) (ga : n0 ≤ a) {rest : List Value} (hd : decode code pc = .ok (.sastore, 1)) (K : ∀ T' h', Stand p l e R s m args below meth c T' (locs ++ [⟨a, j.toNatClampNeg⟩]) k n → T'.heap = h' → Wr h h' a j.toNatClampNeg (.int (nar .short x)) → Arv Z h' a kc .short z vs' dv → Fr n0 (locs ++ [⟨a, j.toNatClampNeg⟩]) → Go p e below G (T'.setTop (mkF m (pc + 1) Ls rest))) : Go p e below G (T.setTop (mkF m pc Ls (.int x :: .int j :: .ref a :: rest))) := by
  subst hvs
  obtain ⟨cl, Ar, q1, S, M, H, F⟩ := V
  obtain ⟨T', h', X', e', W, q⟩ := stS X hx hZ eT Ar (j := j) (inb_of S hj) (g := mkF m pc Ls (.int x :: .int j :: .ref a :: rest)) rfl rfl (hb hby hd)
  exact Go.step q (K T' h' X' e' W (Arv.set Ar q1 S M H F (fits_nar_short _) W i hi hlen) (Fr.snoc X' N ga))
theorem g_bastore (X : Stand p l e R s m args below meth c T locs k n) (hx : p.tables.exec = Jvm.exec) (hby : c.code = code) (hZ : Z.Warmed39 s.vm) (eT : T.heap = h) {a : Addr} {kc : ClassId} {z : Int32} {vs : List Value} {dv : Value} (V : Arv Z h a kc .byte z vs dv) {j : Int32} {x : Int32} (i : Nat) (vs' : List Value) (hvs : vs.set i (.int (nar .byte x)) = vs') (hj : ¬ j < 0 ∧ j < z) (hi : j.toNatClampNeg = i) (hlen : i < vs.length) (N : Fr n0 locs) (ga : n0 ≤ a) {rest : List Value} (hd : decode code pc = .ok (.bastore, 1)) (K : ∀ T' h', Stand p l e R s m args below meth c T' (locs ++ [⟨a, j.toNatClampNeg⟩]) k n → T'.heap = h' → Wr h h' a j.toNatClampNeg (.int (nar .byte x)) → Arv Z h' a kc .byte z vs' dv → Fr n0 (locs ++ [⟨a, j.toNatClampNeg⟩]) → Go p e below G (T'.setTop (mkF m (pc + 1) Ls rest))) : Go p e below G (T.setTop (mkF m pc Ls (.int x :: .int j :: .ref a :: rest))) := by
  subst hvs
  obtain ⟨cl, Ar, q1, S, M, H, F⟩ := V
  obtain ⟨T', h', X', e', W, q⟩ := stB X hx hZ eT Ar (j := j) (inb_of S hj) (g := mkF m pc Ls (.int x :: .int j :: .ref a :: rest)) rfl rfl (hb hby hd)
  exact Go.step q (K T' h' X' e' W (Arv.set Ar q1 S M H F (fits_nar_byte _) W i hi hlen) (Fr.snoc X' N ga))
theorem g_lastore (X : Stand p l e R s m args below meth c T locs k n) (hx : p.tables.exec = Jvm.exec) (hby : c.code = code) (hZ : Z.Warmed39 s.vm) (eT : T.heap = h) {a : Addr} {kc : ClassId} {z : Int32} {vs : List Value} {dv : Value} (V : Arv Z h a kc .long z vs dv) {j : Int32} {x : Int64} (i : Nat) (vs' : List Value) (hvs : vs.set i (.long x) = vs') (hj : ¬ j < 0 ∧ j < z) (hi : j.toNatClampNeg = i) (hlen : i < vs.length) (N : Fr n0 locs) (ga : n0 ≤ a) {rest : List Value} (hd : decode code pc = .ok (.lastore, 1)) (K : ∀ T' h', Stand p l e R s m args below meth c T' (locs ++ [⟨a, j.toNatClampNeg⟩]) k n → T'.heap = h' → Wr h h' a j.toNatClampNeg (.long x) → Arv Z h' a kc .long z vs' dv → Fr n0 (locs ++ [⟨a, j.toNatClampNeg⟩]) → Go p e below G (T'.setTop (mkF m (pc + 1) Ls rest))) : Go p e below G (T.setTop (mkF m pc Ls (.long x :: .int j :: .ref a :: rest))) := by
  subst hvs
  obtain ⟨cl, Ar, q1, S, M, H, F⟩ := V
  obtain ⟨T', h', X', e', W, q⟩ := stJ X hx hZ eT Ar (j := j) (inb_of S hj) (g := mkF m pc Ls (.long x :: .int j :: .ref a :: rest)) rfl rfl (hb hby hd)
  exact Go.step q (K T' h' X' e' W (Arv.set Ar q1 S M H F rfl W i hi hlen) (Fr.snoc X' N ga))
theorem g_iaload (X : Stand p l e R s m args below meth c T locs k n) (hx : p.tables.exec = Jvm.exec) (hby : c.code = code) (hZ : Z.Warmed39 s.vm) (eT : T.heap = h) {a : Addr} {kc : ClassId} {z : Int32} {vs : List Value} {dv : Value} (V : Arv Z h a kc .int z vs dv) {j : Int32} (v : Value) (hj : ¬ j < 0 ∧ j < z) (hv : vs.getD j.toNatClampNeg dv = v) {rest : List Value} (hd : decode code pc = .ok (.iaload, 1)) (K : Go p e below G (T.setTop (mkF m (pc + 1) Ls (v :: rest)))) : Go p e below G (T.setTop (mkF m pc Ls (.int j :: .ref a :: rest))) := by
  obtain ⟨cl, Ar, q1, S, M, H, F⟩ := V
  have hin := inb_of S hj
  exact Go.step (fun t q => X.iaload hx (j := j) (v := v) (by rw [eT]; exact Ar.1) (State.isArrayOf_alike hZ.alike Ar.2.1) Ar.2.2 hin (H.at hin hv) (g := mkF m pc Ls (.int j :: .ref a :: rest)) rfl rfl (hb hby hd) t q) K
theorem g_caload (X : Stand p l e R s m args below meth c T locs k n) (hx : p.tables.exec = Jvm.exec) (hby : c.code = code) (hZ : Z.Warmed39 s.vm) (eT : T.heap = h) {a : Addr} {kc : ClassId} {z : Int32} {vs : List Value} {dv : Value} (V : Arv Z h a kc .char z vs dv) {j : Int32} (v : Value) (hj : ¬ j < 0 ∧ j < z) (hv : vs.getD j.toNatClampNeg dv = v) {rest : List Value} (hd : decode code pc = .ok (.caload, 1)) (K : Go p e below G (T.setTop (mkF m (pc + 1) Ls (v :: rest)))) : Go p e below G (T.setTop (mkF m pc Ls (.int j :: .ref a :: rest))) := by
  obtain ⟨cl, Ar, q1, S, M, H, F⟩ := V
  have hin := inb_of S hj
  exact Go.step (fun t q => X.caload hx (j := j) (v := v) (by rw [eT]; exact Ar.1) (State.isArrayOf_alike hZ.alike Ar.2.1) Ar.2.2 hin (H.at hin hv) (g := mkF m pc Ls (.int j :: .ref a :: rest)) rfl rfl (hb hby hd) t q) K
theorem g_saload (X : Stand p l e R s m args below meth c T locs k n) (hx : p.tables.exec = Jvm.exec) (hby : c.code = code) (hZ : Z.Warmed39 s.vm) (eT : T.heap = h) {a : Addr} {kc : ClassId} {z : Int32} {vs : List Value} {dv : Value} (V : Arv Z h a kc .short z vs dv) {j : Int32} (v : Value) (hj : ¬ j < 0 ∧ j < z) (hv : vs.getD j.toNatClampNeg dv = v) {rest : List Value} (hd : decode code pc = .ok (.saload, 1)) (K : Go p e below G (T.setTop (mkF m (pc + 1) Ls (v :: rest)))) : Go p e below G (T.setTop (mkF m pc Ls (.int j :: .ref a :: rest))) := by
  obtain ⟨cl, Ar, q1, S, M, H, F⟩ := V
  have hin := inb_of S hj
  exact Go.step (fun t q => X.saload hx (j := j) (v := v) (by rw [eT]; exact Ar.1) (State.isArrayOf_alike hZ.alike Ar.2.1) Ar.2.2 hin (H.at hin hv) (g := mkF m pc Ls (.int j :: .ref a :: rest)) rfl rfl (hb hby hd) t q) K
theorem g_baload (X : Stand p l e R s m args below meth c T locs k n) (hx : p.tables.exec = Jvm.exec) (hby : c.code = code) (hZ : Z.Warmed39 s.vm) (eT : T.heap = h) {a : Addr} {kc : ClassId} {z : Int32} {vs : List Value} {dv : Value} (V : Arv Z h a kc .byte z vs dv) {j : Int32} (v : Value) (hj : ¬ j < 0 ∧ j < z) (hv : vs.getD j.toNatClampNeg dv = v) {rest : List Value} (hd : decode code pc = .ok (.baload, 1)) (K : Go p e below G (T.setTop (mkF m (pc + 1) Ls (v :: rest)))) : Go p e below G (T.setTop (mkF m pc Ls (.int j :: .ref a :: rest))) := by
  obtain ⟨cl, Ar, q1, S, M, H, F⟩ := V
  have hin := inb_of S hj
  exact Go.step (fun t q => X.baloadBytes hx (j := j) (v := v) (by rw [eT]; exact Ar.1) (State.isArrayOf_alike hZ.alike Ar.2.1) Ar.2.2 hin (H.at hin hv) (g := mkF m pc Ls (.int j :: .ref a :: rest)) rfl rfl (hb hby hd) t q) K
theorem g_laload (X : Stand p l e R s m args below meth c T locs k n) (hx : p.tables.exec = Jvm.exec) (hby : c.code = code) (hZ : Z.Warmed39 s.vm) (eT : T.heap = h) {a : Addr} {kc : ClassId} {z : Int32} {vs : List Value} {dv : Value} (V : Arv Z h a kc .long z vs dv) {j : Int32} (v : Value) (hj : ¬ j < 0 ∧ j < z) (hv : vs.getD j.toNatClampNeg dv = v) {rest : List Value} (hd : decode code pc = .ok (.laload, 1)) (K : Go p e below G (T.setTop (mkF m (pc + 1) Ls (v :: rest)))) : Go p e below G (T.setTop (mkF m pc Ls (.int j :: .ref a :: rest))) := by
  obtain ⟨cl, Ar, q1, S, M, H, F⟩ := V
  have hin := inb_of S hj
  exact Go.step (fun t q => X.laload hx (j := j) (v := v) (by rw [eT]; exact Ar.1) (State.isArrayOf_alike hZ.alike Ar.2.1) Ar.2.2 hin (H.at hin hv) (g := mkF m pc Ls (.int j :: .ref a :: rest)) rfl rfl (hb hby hd) t q) K
theorem g_aaload (X : Stand p l e R s m args below meth c T locs k n) (hx : p.tables.exec = Jvm.exec) (hby : c.code = code) (hZ : Z.Warmed39 s.vm) (eT : T.heap = h) {a : Addr} {kc : ClassId} {ty : FieldType} {z : Int32} {vs : List Value} {dv : Value} (V : Arv Z h a kc ty z vs dv) (hty : ty.isReference = true) {j : Int32} (v : Value) (hj : ¬ j < 0 ∧ j < z) (hv : vs.getD j.toNatClampNeg dv = v) {rest : List Value} (hd : decode code pc = .ok (.aaload, 1)) (K : Go p e below G (T.setTop (mkF m (pc + 1) Ls (v :: rest)))) : Go p e below G (T.setTop (mkF m pc Ls (.int j :: .ref a :: rest))) := by
  obtain ⟨cl, Ar, q1, S, M, H, F⟩ := V
  have hin := inb_of S hj
  exact Go.step (fun t q => X.aaload hx (j := j) (v := v) (by rw [eT]; exact Ar.1) (State.isArrayOf_alike hZ.alike Ar.2.1) hty Ar.2.2 hin (H.at hin hv) (g := mkF m pc Ls (.int j :: .ref a :: rest)) rfl rfl (hb hby hd) t q) K
theorem g_arraylength (X : Stand p l e R s m args below meth c T locs k n) (hx : p.tables.exec = Jvm.exec) (hby : c.code = code) (hZ : Z.Warmed39 s.vm) (eT : T.heap = h) {a : Addr} {kc : ClassId} {ty : FieldType} {z : Int32} {vs : List Value} {dv : Value} (V : Arv Z h a kc ty z vs dv) {rest : List Value} (hd : decode code pc = .ok (.arraylength, 1)) (K : Go p e below G (T.setTop (mkF m (pc + 1) Ls (.int z :: rest)))) : Go p e below G (T.setTop (mkF m pc Ls (.ref a :: rest))) := by
  obtain ⟨cl, Ar, q1, S, M, H, F⟩ := V
  refine Go.step (fun t q => X.arraylength hx (by rw [eT]; exact Ar.1) (State.isArrayOf_alike hZ.alike Ar.2.1) (g := mkF m pc Ls (.ref a :: rest)) rfl rfl (hb hby hd) t q) ?_
  rw [len_of S M]
  exact K
theorem g_checkcast (X : Stand p l e R s m args below meth c T locs k n) (hx : p.tables.exec = Jvm.exec) (hby : c.code = code) (hZ : Z.Warmed39 s.vm) {own : String} (hown : s.vm.findClass own = some m.cls) {C : String} {index : Nat} (w : (Cond.classLink own index C).before a0 Z = true) (eT : T.heap = h) {a : Addr} (I : Ins Z h a C true) {rest : List Value} (hd : decode code pc = .ok (.checkcast index, 3)) (K : ∀ T', Stand p l e R s m args below meth c T' locs k n → T'.heap = h → Go p e below G (T'.setTop (mkF m (pc + 3) Ls (.ref a :: rest)))) : Go p e below G (T.setTop (mkF m pc Ls (.ref a :: rest))) := by
  obtain ⟨T', X', e', q⟩ := castY X hx hZ hown w eT I (g := mkF m pc Ls (.ref a :: rest)) rfl rfl (hb hby hd)
  exact Go.step q (K T' X' e')
theorem g_instanceof (X : Stand p l e R s m args below meth c T locs k n) (hx : p.tables.exec = Jvm.exec) (hby : c.code = code) (hZ : Z.Warmed39 s.vm) {own : String} (hown : s.vm.findClass own = some m.cls) {C : String} {index : Nat} (w : (Cond.classLink own index C).before a0 Z = true) (eT : T.heap = h) {a : Addr} (I : Ins Z h a C true) {rest : List Value} (hd : decode code pc = .ok (.instanceof index, 3)) (K : ∀ T', Stand p l e R s m args below meth c T' locs k n → T'.heap = h → Go p e below G (T'.setTop (mkF m (pc + 3) Ls (.int 1 :: rest)))) : Go p e below G (T.setTop (mkF m pc Ls (.ref a :: rest))) := by
  obtain ⟨T', X', e', q⟩ := instY X hx hZ hown w eT I (g := mkF m pc Ls (.ref a :: rest)) rfl rfl (hb hby hd)
  exact Go.step q (K T' X' e')
theorem g_instNo (X : Stand p l e R s m args below meth c T locs k n) (hx : p.tables.exec = Jvm.exec) (hby : c.code = code) (hZ : Z.Warmed39 s.vm) {own : String} (hown : s.vm.findClass own = some m.cls) {C K : String} {index : Nat} (w : (Cond.classLink own index K).before a0 Z = true) (eT : T.heap = h) {a : Addr} (E : Exa Z h a C) (F : ∃ c t, Z.vm.findClass C = some c ∧ Z.vm.findClass K = some t ∧ Z.vm.assignable c t = false) {rest : List Value} (hd : decode code pc = .ok (.instanceof index, 3)) (K' : ∀ T', Stand p l e R s m args below meth c T' locs k n → T'.heap = h → Go p e below G (T'.setTop (mkF m (pc + 3) Ls (.int 0 :: rest)))) : Go p e below G (T.setTop (mkF m pc Ls (.ref a :: rest))) := by
  obtain ⟨T', X', e', q⟩ := instNo X hx hZ hown w eT E F (g := mkF m pc Ls (.ref a :: rest)) rfl rfl (hb hby hd)
  exact Go.step q (K' T' X' e')
theorem g_instanceofNull (X : Stand p l e R s m args below meth c T locs k n) (hx : p.tables.exec = Jvm.exec) (hby : c.code = code) {index : Nat} {rest : List Value} (hd : decode code pc = .ok (.instanceof index, 3)) (K : Go p e below G (T.setTop (mkF m (pc + 3) Ls (.int 0 :: rest)))) : Go p e below G (T.setTop (mkF m pc Ls (.null :: rest))) := Go.step (fun t q => X.instanceofNull hx (g := mkF m pc Ls (.null :: rest)) rfl rfl (hb hby hd) t q) K
theorem g_checkcastNull (X : Stand p l e R s m args below meth c T locs k n) (hx : p.tables.exec = Jvm.exec) (hby : c.code = code) {index : Nat} {rest : List Value} (hd : decode code pc = .ok (.checkcast index, 3)) (K : Go p e below G (T.setTop (mkF m (pc + 3) Ls (.null :: rest)))) : Go p e below G (T.setTop (mkF m pc Ls (.null :: rest))) := Go.step (fun t q => X.checkcastNull hx (g := mkF m pc Ls (.null :: rest)) rfl rfl (hb hby hd) t q) K
theorem g_initO (X : Stand p l e R s m args below meth c T locs k n) (hx : p.tables.exec = Jvm.exec) (hby : c.code = code) (hZ : Z.Warmed39 s.vm) {own : String} (hown : s.vm.findClass own = some m.cls) {idx : Nat} (w1 : (Cond.methodLink own idx Lib.objectInit).before a0 Z = true) (w2 : (Cond.instanceMethod Lib.objectInit).before a0 Z = true) (w3 : (Cond.code Lib.objectInit ⟨#[0xb1]⟩ 1 none).before a0 Z = true) (eT : T.heap = h) (hsize : Ls.size = c.maxLocals) {a : Addr} {rest : List Value} (hf : 1 ≤ R.frames) (hl : (rest.map fun v => v.category).sum + 12 ≤ R.locals) (hd : decode code pc = .ok (.invokespecial idx, 3)) (K : ∀ T', Stand p l e R s m args below meth c T' locs k n → T'.heap = h → Go p e below G (T'.setTop (mkF m (pc + 3) Ls rest))) : Go p e below G (T.setTop (mkF m pc Ls (.ref a :: rest))) := by
  obtain ⟨T', X', e', q⟩ := initO X hx hZ hown w1 w2 w3 eT (g := mkF m pc Ls (.ref a :: rest)) rfl hsize rfl (hb hby hd) hf (W := (rest.map fun v => v.category).sum) (by show 2 * 0 + _ ≤ _; omega) hl
  exact Go.step q (K T' X' e')
theorem g_static (X : Stand p l e R s m args below meth c T locs k n) (hx : p.tables.exec = Jvm.exec) (hby : c.code = code) (hZ : Z.Warmed39 s.vm) {own : String} (hown : s.vm.findClass own = some m.cls) {index : Nat} {y : MethodName} {bytes : ByteArray} {maxL : Nat} {ret : Option FieldType} {rm : Room} {as' : Array Value} {Q : Option Value → Heap → List Loc → Prop} (hM : MetFree l y (head1 [Cond.code y bytes maxL ret] rm) (fun a U => a = as' ∧ Z.Warmed39 U.vm ∧ U.heap = h) (fun _ _ _ _ _ => True) (fun _ U o U' => RetG U Q rm.cells rm.slots U' o)) (wl : (Cond.methodLink own index y).before a0 Z = true) (ws : (Cond.static y).before a0 Z = true) (wz : (Cond.initialized y.cls).before a0 Z = true) (wc : (Cond.code y bytes maxL ret).before a0 Z = true) (hy : y.cls ≠ "java/lang/invoke/MethodHandle" ∧ y.cls ≠ "java/lang/invoke/VarHandle") (eT : T.heap = h) (hsize : Ls.size = c.maxLocals) (argsL : List Value) {rest : List Value} (hlen : ∀ sig, parseMethodDescriptor y.desc = some sig → argsL.length = sig.parameters.length) (has : argsL.toArray = as') (hst : st = argsL.reverse ++ rest) (hf : rm.frames + 1 ≤ R.frames) (hl : (rest.map fun v => v.category).sum + (maxL + 11) + rm.locals ≤ R.locals) (hc : k + rm.cells ≤ R.cells) (hs : n + rm.slots ≤ R.slots) (hd : decode code pc = .ok (.invokestatic index, 3)) (K : ∀ v T' L, Stand p l e R s m args below meth c T' (locs ++ L) (k + rm.cells) (n + rm.slots) → Q v T'.heap L → Go p e below G (T'.setTop (mkF m (pc + 3) Ls (v.toList ++ rest)))) : Go p e below G (T.setTop (mkF m pc Ls st)) := by
  obtain ⟨v, _, ⟨T', L', k', n'⟩, -, X', ⟨L, hq, l1, l2, l3⟩, q⟩ := Jvm.LawKit.callS X hx (y := y) hown (mvT hZ wl) (mvT hZ ws) (mvT hZ wz) (mvT hZ wc) hy (backOf (W := (rest.map fun v => v.category).sum) hM hZ wc wz hf hl) (g := mkF m pc Ls st) rfl hsize (argsL := argsL) (rest := rest) hlen hst (by show 2 * 0 + _ ≤ _; omega) (hb hby hd) (fun _ _ => ⟨has, eT, hc, hs⟩)
  dsimp only [Pt.U, Pt.locs, Pt.cells, Pt.slots] at X' l1 l2 l3 q hq
  subst l1 l2 l3
  exact Go.step q (K v T' L X' hq)
theorem g_special (X : Stand p l e R s m args below meth c T locs k n) (hx : p.tables.exec = Jvm.exec) (hby : c.code = code) (hZ : Z.Warmed39 s.vm) {own : String} (hown : s.vm.findClass own = some m.cls) {index : Nat} {y : MethodName} {bytes : ByteArray} {maxL : Nat} {ret : Option FieldType} {rm : Room} {as' : Array Value} {Q : Option Value → Heap → List Loc → Prop} (hM : MetFree l y (head1 [Cond.code y bytes maxL ret] rm) (fun a U => a = as' ∧ Z.Warmed39 U.vm ∧ U.heap = h) (fun _ _ _ _ _ => True) (fun _ U o U' => RetG U Q rm.cells rm.slots U' o)) (hy1 : y.name = "<init>") (hret : ret = none) (wl : (Cond.methodLink own index y).before a0 Z = true) (ws : (Cond.instanceMethod y).before a0 Z = true) (wz : (Cond.initialized y.cls).before a0 Z = true) (wc : (Cond.code y bytes maxL ret).before a0 Z = true) (hy : y.cls ≠ "java/lang/invoke/MethodHandle" ∧ y.cls ≠ "java/lang/invoke/VarHandle") (eT : T.heap = h) (hsize : Ls.size = c.maxLocals) {a : Addr} (argsL : List Value) {rest : List Value} (hlen : ∀ sig, parseMethodDescriptor y.desc = some sig → argsL.length = sig.parameters.length) (has : (.ref a :: argsL).toArray = as') (hst : st = argsL.reverse ++ .ref a :: rest) (hf : rm.frames + 1 ≤ R.frames) (hl : (rest.map fun v => v.category).sum + (maxL + 11) + rm.locals ≤ R.locals) (hc : k + rm.cells ≤ R.cells) (hs : n + rm.slots ≤ R.slots) (hd : decode code pc = .ok (.invokespecial index, 3)) (K : ∀ v T' L, Stand p l e R s m args below meth c T' (locs ++ L) (k + rm.cells) (n + rm.slots) → Q v T'.heap L → Go p e below G (T'.setTop (mkF m (pc + 3) Ls (v.toList ++ rest)))) : Go p e below G (T.setTop (mkF m pc Ls st)) := by
  subst hret
  obtain ⟨v, _, ⟨T', L', k', n'⟩, -, X', ⟨L, hq, l1, l2, l3⟩, q⟩ := X.specialBack hx (y := y) hy1 hown (mvT hZ wl) (mvT hZ ws) (mvT hZ wc) hy (backOf (W := (rest.map fun v => v.category).sum) hM hZ wc wz hf hl) (g := mkF m pc Ls st) rfl hsize (Steps.refl _) (a := a) (argsL := argsL) (rest := rest) hlen hst (by show 2 * 0 + _ ≤ _; omega) (hb hby hd) (fun _ _ => ⟨has, eT, hc, hs⟩)
  dsimp only [Pt.U, Pt.locs, Pt.cells, Pt.slots] at X' l1 l2 l3 q hq
  subst l1 l2 l3
  exact Go.step (fun t r => q.trans r) (K v T' L X' hq)
theorem g_virtual (X : Stand p l e R s m args below meth c T locs k n) (hx : p.tables.exec = Jvm.exec) (hby : c.code = code) (hZ : Z.Warmed39 s.vm) {own : String} (hown : s.vm.findClass own = some m.cls) {C : String} {index : Nat} {z : MethodName} {y : MethodName} {bytes : ByteArray} {maxL : Nat} {ret : Option FieldType} {rm : Room} {as' : Array Value} {Q : Option Value → Heap → List Loc → Prop} (hM : MetFree l y (head1 [Cond.code y bytes maxL ret] rm) (fun a U => a = as' ∧ Z.Warmed39 U.vm ∧ U.heap = h) (fun _ _ _ _ _ => True) (fun _ U o U' => RetG U Q rm.cells rm.slots U' o)) (wl : (Cond.methodLink own index z).before a0 Z = true) (wd : (Cond.declares z).before a0 Z = true) (hnf : NotFace s z) (wsel : (Cond.selects C z y).before a0 Z = true) (ws : (Cond.instanceMethod y).before a0 Z = true) (wz : (Cond.initialized y.cls).before a0 Z = true) (wc : (Cond.code y bytes maxL ret).before a0 Z = true) (hy : z.cls ≠ "java/lang/invoke/MethodHandle" ∧ z.cls ≠ "java/lang/invoke/VarHandle") (eT : T.heap = h) {a : Addr} (E : Exa Z h a C) (hsize : Ls.size = c.maxLocals) (argsL : List Value) {rest : List Value} (hlen : ∀ sig, parseMethodDescriptor z.desc = some sig → argsL.length = sig.parameters.length) (has : (.ref a :: argsL).toArray = as') (hst : st = argsL.reverse ++ .ref a :: rest) (hf : rm.frames + 1 ≤ R.frames) (hl : (rest.map fun v => v.category).sum + (maxL + 11) + rm.locals ≤ R.locals) (hc : k + rm.cells ≤ R.cells) (hs : n + rm.slots ≤ R.slots) (hd : decode code pc = .ok (.invokevirtual index, 3)) (K : ∀ v T' L, Stand p l e R s m args below meth c T' (locs ++ L) (k + rm.cells) (n + rm.slots) → Q v T'.heap L → Go p e below G (T'.setTop (mkF m (pc + 3) Ls (v.toList ++ rest)))) : Go p e below G (T.setTop (mkF m pc Ls st)) := by
  obtain ⟨cq, kq, qa, qb, qc⟩ := isOf hZ eT E
  obtain ⟨v, _, ⟨T', L', k', n'⟩, -, X', ⟨L, hq, l1, l2, l3⟩, q⟩ := X.virtualBack hx (y := z) (z := y) hown (mvT hZ wl) (mvT hZ wd) hnf (mvT hZ wsel) (mvT hZ ws) hy (backOf (W := (rest.map fun v => v.category).sum) hM hZ wc wz hf hl) qa qc (g := mkF m pc Ls st) rfl hsize (Steps.refl _) (argsL := argsL) (rest := rest) hlen hst (by show 2 * 0 + _ ≤ _; omega) (hb hby hd) (fun _ _ => ⟨has, eT, hc, hs⟩)
  dsimp only [Pt.U, Pt.locs, Pt.cells, Pt.slots] at X' l1 l2 l3 q hq
  subst l1 l2 l3
  exact Go.step (fun t r => q.trans r) (K v T' L X' hq)
theorem g_private (X : Stand p l e R s m args below meth c T locs k n) (hx : p.tables.exec = Jvm.exec) (hby : c.code = code) (hZ : Z.Warmed39 s.vm) {own : String} (hown : s.vm.findClass own = some m.cls) {index j : Nat} {y : MethodName} {bytes : ByteArray} {maxL : Nat} {ret : Option FieldType} {rm : Room} {as' : Array Value} {Q : Option Value → Heap → List Loc → Prop} (hM : MetFree l y (head1 [Cond.code y bytes maxL ret] rm) (fun a U => a = as' ∧ Z.Warmed39 U.vm ∧ U.heap = h) (fun _ _ _ _ _ => True) (fun _ U o U' => RetG U Q rm.cells rm.slots U' o)) (wl : (Cond.methodLink own index y).before a0 Z = true) (ws : (Cond.instanceMethod y).before a0 Z = true) (wi : (Cond.instantiable y.cls j).before a0 Z = true) (wp : (Cond.privateMethod y).before a0 Z = true) (wz : (Cond.initialized y.cls).before a0 Z = true) (wc : (Cond.code y bytes maxL ret).before a0 Z = true) (hy : y.cls ≠ "java/lang/invoke/MethodHandle" ∧ y.cls ≠ "java/lang/invoke/VarHandle") (eT : T.heap = h) {a : Addr} {C : String} (E : Exa Z h a C) (hsize : Ls.size = c.maxLocals) (argsL : List Value) {rest : List Value} (hlen : ∀ sig, parseMethodDescriptor y.desc = some sig → argsL.length = sig.parameters.length) (has : (.ref a :: argsL).toArray = as') (hst : st = argsL.reverse ++ .ref a :: rest) (hf : rm.frames + 1 ≤ R.frames) (hl : (rest.map fun v => v.category).sum + (maxL + 11) + rm.locals ≤ R.locals) (hc : k + rm.cells ≤ R.cells) (hs : n + rm.slots ≤ R.slots) (hd : decode code pc = .ok (.invokevirtual index, 3)) (K : ∀ v T' L, Stand p l e R s m args below meth c T' (locs ++ L) (k + rm.cells) (n + rm.slots) → Q v T'.heap L → Go p e below G (T'.setTop (mkF m (pc + 3) Ls (v.toList ++ rest)))) : Go p e below G (T.setTop (mkF m pc Ls st)) := by
  obtain ⟨cq, q1, q2⟩ := E.cell
  obtain ⟨v, _, ⟨T', L', k', n'⟩, -, X', ⟨L, hq, l1, l2, l3⟩, q⟩ := X.privateBack hx (y := y) hown (mvT hZ wl) (mvT hZ ws) (selOf (mvT hZ wi) (mvP hZ wp) (mvT hZ ws) hy) (Cond.privateMethod_at (mvP hZ wp (args := #[]))) (mvT hZ wc) hy (backOf (W := (rest.map fun v => v.category).sum) hM hZ wc wz hf hl) (g := mkF m pc Ls st) rfl hsize (Steps.refl _) (a := a) (by rw [eT]; exact q1) q2 (argsL := argsL) (rest := rest) hlen hst (by show 2 * 0 + _ ≤ _; omega) (hb hby hd) (fun _ _ => ⟨has, eT, hc, hs⟩)
  dsimp only [Pt.U, Pt.locs, Pt.cells, Pt.slots] at X' l1 l2 l3 q hq
  subst l1 l2 l3
  exact Go.step (fun t r => q.trans r) (K v T' L X' hq)
theorem g_interface (X : Stand p l e R s m args below meth c T locs k n) (hx : p.tables.exec = Jvm.exec) (hby : c.code = code) (hZ : Z.Warmed39 s.vm) {own : String} (hown : s.vm.findClass own = some m.cls) {C : String} {index count : Nat} {z : MethodName} {y : MethodName} {bytes : ByteArray} {maxL : Nat} {ret : Option FieldType} {rm : Room} {as' : Array Value} {Q : Option Value → Heap → List Loc → Prop} (hM : MetFree l y (head1 [Cond.code y bytes maxL ret] rm) (fun a U => a = as' ∧ Z.Warmed39 U.vm ∧ U.heap = h) (fun _ _ _ _ _ => True) (fun _ U o U' => RetG U Q rm.cells rm.slots U' o)) (wl : (Cond.methodLink own index z).before a0 Z = true) (wd : (Cond.declares z).before a0 Z = true) (wf : (Cond.interfaceMethod z.cls z.cls z.name z.desc).before a0 Z = true) (wsel : (Cond.selects C z y).before a0 Z = true) (ws : (Cond.instanceMethod y).before a0 Z = true) (wp : (Cond.publicMethod y).before a0 Z = true) (wu : (Cond.unhidden C z.name z.desc).before a0 Z = true) (wca : (Cond.castable C z.cls).before a0 Z = true) (wz : (Cond.initialized y.cls).before a0 Z = true) (wc : (Cond.code y bytes maxL ret).before a0 Z = true) (hy : z.cls ≠ "java/lang/invoke/MethodHandle" ∧ z.cls ≠ "java/lang/invoke/VarHandle") (eT : T.heap = h) {a : Addr} (E : Exa Z h a C) (hsize : Ls.size = c.maxLocals) (argsL : List Value) {rest : List Value} (hlen : ∀ sig, parseMethodDescriptor z.desc = some sig → argsL.length = sig.parameters.length) (has : (.ref a :: argsL).toArray = as') (hst : st = argsL.reverse ++ .ref a :: rest) (hf : rm.frames + 1 ≤ R.frames) (hl : (rest.map fun v => v.category).sum + (maxL + 11) + rm.locals ≤ R.locals) (hc : k + rm.cells ≤ R.cells) (hs : n + rm.slots ≤ R.slots) (hd : decode code pc = .ok (.invokeinterface index count, 5)) (K : ∀ v T' L, Stand p l e R s m args below meth c T' (locs ++ L) (k + rm.cells) (n + rm.slots) → Q v T'.heap L → Go p e below G (T'.setTop (mkF m (pc + 5) Ls (v.toList ++ rest)))) : Go p e below G (T.setTop (mkF m pc Ls st)) := by
  obtain ⟨cq, kq, qa, qb, qc⟩ := isOf hZ eT E
  obtain ⟨v, _, ⟨T', L', k', n'⟩, -, X', ⟨L, hq, l1, l2, l3⟩, q⟩ := X.interfaceBack hx (xi := z) (y := y) hown (mvT hZ wl) (mvT hZ wd) (mvT hZ wf (by simp [Cond.onTables, Cond.keepsFace, Cond.keeps, Cond.steady, Cond.faceAtom, hy.1, hy.2])) (mvT hZ wsel) (mvT hZ ws) (mvT hZ wp) (mvT hZ wu) (mvT hZ wca) hy (backOf (W := (rest.map fun v => v.category).sum) hM hZ wc wz hf hl) qa qb qc (g := mkF m pc Ls st) rfl hsize (Steps.refl _) (argsL := argsL) (rest := rest) hlen hst (by show 2 * 0 + _ ≤ _; omega) (hb hby hd) (fun _ _ => ⟨has, eT, hc, hs⟩)
  dsimp only [Pt.U, Pt.locs, Pt.cells, Pt.slots] at X' l1 l2 l3 q hq
  subst l1 l2 l3
  exact Go.step (fun t r => q.trans r) (K v T' L X' hq)
theorem g_ret (X : Stand p l e R s m args below meth c T locs k n) (hx : p.tables.exec = Jvm.exec) (hby : c.code = code) (hret : meth.sig.returnType = none) (hlocks : meth.locks = false) {Q : Option Value → Heap → List Loc → Prop} {cells slots : Nat} (hd : decode code pc = .ok (.return_, 1)) (eT : T.heap = h) (hk : k ≤ cells) (hn : n ≤ slots) (hq : Q none h locs) : Go p e below (RetG s Q cells slots) (T.setTop (mkF m pc Ls [])) := Go.leave X (v := none) (fun _ => rfl) hlocks eT hq hk hn (fun fs hr => X.returnOut hx hret (hb hby hd) hr)
theorem g_iret (X : Stand p l e R s m args below meth c T locs k n) (hx : p.tables.exec = Jvm.exec) (hby : c.code = code) {z : Int32} {rest : List Value} (hret : meth.sig.returnType = some .int) (hlocks : meth.locks = false) {Q : Option Value → Heap → List Loc → Prop} {cells slots : Nat} (hd : decode code pc = .ok (.ireturn, 1)) (eT : T.heap = h) (hk : k ≤ cells) (hn : n ≤ slots) (hq : Q (some (.int z)) h locs) : Go p e below (RetG s Q cells slots) (T.setTop (mkF m pc Ls (.int z :: rest))) := Go.leave X (v := some (.int z)) (fun q => by rw [hret] at q; cases q) hlocks eT hq hk hn (fun fs hr => retOut X hx (t := .int) hret rfl (Or.inl ⟨rfl, Or.inl rfl, z, rfl⟩) (hb hby hd) hr)
theorem g_nret (X : Stand p l e R s m args below meth c T locs k n) (hx : p.tables.exec = Jvm.exec) (hby : c.code = code) {z : Int32} {rest : List Value} {t : FieldType} (ht : t = .boolean ∨ t = .byte ∨ t = .char ∨ t = .short) (hret : meth.sig.returnType = some t) (hlocks : meth.locks = false) {Q : Option Value → Heap → List Loc → Prop} {cells slots : Nat} (hd : decode code pc = .ok (.ireturn, 1)) (eT : T.heap = h) (hk : k ≤ cells) (hn : n ≤ slots) (hq : Q (some (.int (nar t z))) h locs) : Go p e below (RetG s Q cells slots) (T.setTop (mkF m pc Ls (.int z :: rest))) := Go.leave X (v := some (.int (nar t z))) (fun q => by rw [hret] at q; cases q) hlocks eT hq hk hn (fun fs hr => retN X hx (t := t) hret ht (hb hby hd) hr)
theorem g_lret (X : Stand p l e R s m args below meth c T locs k n) (hx : p.tables.exec = Jvm.exec) (hby : c.code = code) {z : Int64} {rest : List Value} (hret : meth.sig.returnType = some .long) (hlocks : meth.locks = false) {Q : Option Value → Heap → List Loc → Prop} {cells slots : Nat} (hd : decode code pc = .ok (.lreturn, 1)) (eT : T.heap = h) (hk : k ≤ cells) (hn : n ≤ slots) (hq : Q (some (.long z)) h locs) : Go p e below (RetG s Q cells slots) (T.setTop (mkF m pc Ls (.long z :: rest))) := Go.leave X (v := some (.long z)) (fun q => by rw [hret] at q; cases q) hlocks eT hq hk hn (fun fs hr => retOut X hx (t := .long) hret rfl (Or.inr (Or.inl ⟨rfl, rfl, z, rfl⟩)) (hb hby hd) hr)
theorem g_aret (X : Stand p l e R s m args below meth c T locs k n) (hx : p.tables.exec = Jvm.exec) (hby : c.code = code) {z : Value} {rest : List Value} {t : FieldType} (ht : t.isReference = true) (hz : z.isRef = true) (hnar : narrow t z = z) (hret : meth.sig.returnType = some t) (hlocks : meth.locks = false) {Q : Option Value → Heap → List Loc → Prop} {cells slots : Nat} (hd : decode code pc = .ok (.areturn, 1)) (eT : T.heap = h) (hk : k ≤ cells) (hn : n ≤ slots) (hq : Q (some z) h locs) : Go p e below (RetG s Q cells slots) (T.setTop (mkF m pc Ls (z :: rest))) := Go.leave X (v := some z) (fun q => by rw [hret] at q; cases q) hlocks eT hq hk hn (fun fs hr => retOut X hx (t := t) hret hnar (Or.inr (Or.inr (Or.inr (Or.inr ⟨rfl, ht, hz⟩)))) (hb hby hd) hr)
end
end Jvm.Own

namespace Jvm.Own
open Sem ClassFile Op Lib Jvm.Stand Jvm.Free Jvm.LawKit Jvm.RoadKit
def RetW (s : State) (Q : Option Value → Heap → List Loc → Prop) (cells slots : Nat) (s₂ : State) (o : Outcome) : Prop := ∃ v L, o = .returned v ∧ Q v s₂.heap L ∧ ReturnedEndW s o s₂ L cells slots
theorem own_widen {s u : State} {o : Outcome} {L L' : List Loc} {a b c d : Nat} (hq : ReturnedEndW s o u L a b) (N : Fr s.heap.size L) (hc : a ≤ c) (hd : b ≤ d) : ReturnedEndW s o u L' c d :=
  ⟨hq.1, hq.2.1, hq.2.2.1, (hq.2.2.2.sift fun y hy => Or.inr (N y hy)).mono hc hd⟩
section
variable {p : Program} {l : Launch} {e : Env} {R : Room} {s : State} {vm0 : Vm} {m : MethodId} {args : Array Value} {below : List Frame} {meth : Method} {c : Code} {T : State} {locs : List Loc} {k n k0 : Nat} {G : State → Outcome → Prop} {code : ByteArray} {pc : Nat} {Ls : Array Slot} {st : List Value} {Z : State} {a0 : Array Value} {h : Heap} {n0 : Nat}
theorem Go.leaveW (X : Stand p l e R (s.setVm vm0) m args below meth c T locs k n) {v : Option Value} (hv : meth.sig.returnType = none → v = none) (hlocks : meth.locks = false) {Q : Option Value → Heap → List Loc → Prop} {cells slots : Nat} {σ : State} (hS : s.Since vm0 k0) (eT : T.heap = h) (hkk : k0 ≤ h.size) (hq : Q v h locs) (hk : k ≤ cells) (hn : n ≤ slots)
    (st : ∀ fs, (∀ (f : JFrame) (acts : List Action), f.method = m → f.locked = none → f.entered = [] → (doReturn e (T.setTop f) acts v).1 = T.setFrames fs) → Steps p.tables e below σ (T.setFrames fs)) : Go p e below (RetW s Q cells slots) σ := by
  subst eT
  obtain ⟨fs, hr, hrun, hended, h1, h2, h3, h4⟩ := X.leaveW hS hkk (v := v) hv hlocks
  exact ⟨_, _, st fs hr, hrun, hended, _, _, rfl, hq, h1, h2, h3, h4.mono hk hn⟩
theorem g_retW (X : Stand p l e R (s.setVm vm0) m args below meth c T locs k n) (hx : p.tables.exec = Jvm.exec) (hby : c.code = code) (hret : meth.sig.returnType = none) (hlocks : meth.locks = false) {Q : Option Value → Heap → List Loc → Prop} {cells slots : Nat} (hS : s.Since vm0 k0) (hd : decode code pc = .ok (.return_, 1)) (eT : T.heap = h) (hkk : k0 ≤ h.size) (hk : k ≤ cells) (hn : n ≤ slots) (hq : Q none h locs) : Go p e below (RetW s Q cells slots) (T.setTop (mkF m pc Ls [])) := Go.leaveW X (v := none) (fun _ => rfl) hlocks hS eT hkk hq hk hn (fun fs hr => X.returnOut hx hret (hb hby hd) hr)
theorem g_iretW (X : Stand p l e R (s.setVm vm0) m args below meth c T locs k n) (hx : p.tables.exec = Jvm.exec) (hby : c.code = code) {z : Int32} {rest : List Value} (hret : meth.sig.returnType = some .int) (hlocks : meth.locks = false) {Q : Option Value → Heap → List Loc → Prop} {cells slots : Nat} (hS : s.Since vm0 k0) (hd : decode code pc = .ok (.ireturn, 1)) (eT : T.heap = h) (hkk : k0 ≤ h.size) (hk : k ≤ cells) (hn : n ≤ slots) (hq : Q (some (.int z)) h locs) : Go p e below (RetW s Q cells slots) (T.setTop (mkF m pc Ls (.int z :: rest))) := Go.leaveW X (v := some (.int z)) (fun q => by rw [hret] at q; cases q) hlocks hS eT hkk hq hk hn (fun fs hr => retOut X hx (t := .int) hret rfl (Or.inl ⟨rfl, Or.inl rfl, z, rfl⟩) (hb hby hd) hr)
theorem g_nretW (X : Stand p l e R (s.setVm vm0) m args below meth c T locs k n) (hx : p.tables.exec = Jvm.exec) (hby : c.code = code) {z : Int32} {rest : List Value} {t : FieldType} (ht : t = .boolean ∨ t = .byte ∨ t = .char ∨ t = .short) (hret : meth.sig.returnType = some t) (hlocks : meth.locks = false) {Q : Option Value → Heap → List Loc → Prop} {cells slots : Nat} (hS : s.Since vm0 k0) (hd : decode code pc = .ok (.ireturn, 1)) (eT : T.heap = h) (hkk : k0 ≤ h.size) (hk : k ≤ cells) (hn : n ≤ slots) (hq : Q (some (.int (nar t z))) h locs) : Go p e below (RetW s Q cells slots) (T.setTop (mkF m pc Ls (.int z :: rest))) := Go.leaveW X (v := some (.int (nar t z))) (fun q => by rw [hret] at q; cases q) hlocks hS eT hkk hq hk hn (fun fs hr => retN X hx (t := t) hret ht (hb hby hd) hr)
theorem g_lretW (X : Stand p l e R (s.setVm vm0) m args below meth c T locs k n) (hx : p.tables.exec = Jvm.exec) (hby : c.code = code) {z : Int64} {rest : List Value} (hret : meth.sig.returnType = some .long) (hlocks : meth.locks = false) {Q : Option Value → Heap → List Loc → Prop} {cells slots : Nat} (hS : s.Since vm0 k0) (hd : decode code pc = .ok (.lreturn, 1)) (eT : T.heap = h) (hkk : k0 ≤ h.size) (hk : k ≤ cells) (hn : n ≤ slots) (hq : Q (some (.long z)) h locs) : Go p e below (RetW s Q cells slots) (T.setTop (mkF m pc Ls (.long z :: rest))) := Go.leaveW X (v := some (.long z)) (fun q => by rw [hret] at q; cases q) hlocks hS eT hkk hq hk hn (fun fs hr => retOut X hx (t := .long) hret rfl (Or.inr (Or.inl ⟨rfl, rfl, z, rfl⟩)) (hb hby hd) hr)
theorem g_aretW (X : Stand p l e R (s.setVm vm0) m args below meth c T locs k n) (hx : p.tables.exec = Jvm.exec) (hby : c.code = code) {z : Value} {rest : List Value} {t : FieldType} (ht : t.isReference = true) (hz : z.isRef = true) (hnar : narrow t z = z) (hret : meth.sig.returnType = some t) (hlocks : meth.locks = false) {Q : Option Value → Heap → List Loc → Prop} {cells slots : Nat} (hS : s.Since vm0 k0) (hd : decode code pc = .ok (.areturn, 1)) (eT : T.heap = h) (hkk : k0 ≤ h.size) (hk : k ≤ cells) (hn : n ≤ slots) (hq : Q (some z) h locs) : Go p e below (RetW s Q cells slots) (T.setTop (mkF m pc Ls (z :: rest))) := Go.leaveW X (v := some z) (fun q => by rw [hret] at q; cases q) hlocks hS eT hkk hq hk hn (fun fs hr => retOut X hx (t := t) hret hnar (Or.inr (Or.inr (Or.inr (Or.inr ⟨rfl, ht, hz⟩)))) (hb hby hd) hr)
theorem g_ldcS (X : Stand p l e R (s.setVm vm0) m args below meth c T locs k n) (hx : p.tables.exec = Jvm.exec) (hby : c.code = code) (hZ : Z.Warmed39 (s.setVm vm0).vm) {own : String} (hown : (s.setVm vm0).vm.findClass own = some m.cls) {text : String} {index : Nat} (w : (Cond.stringLink own index text).before a0 Z = true) (wS : ∀ a ∈ Bundle.stringAtoms, a.before a0 Z = true) (eT : T.heap = h) (hS : s.Since vm0 k0) (hk : k0 ≤ h.size) (nn : Nat) (hnn : 4 * text.toList.length ≤ nn) (hbig : nn ≤ 536870912) (hc : k + 2 ≤ R.cells) (hl : n + (nn + 4) ≤ R.slots) (hd : decode code pc = .ok (.ldc index, 2)) (K : ∀ a T' h' k1, Stand p l e R (s.setVm T'.vm) m args below meth c T' locs (k + 2) (n + (nn + 4)) → T'.heap = h' → Ext h h' → s.Since T'.vm k1 → k1 ≤ h'.size → Z.Warmed39 (s.setVm T'.vm).vm → (s.setVm T'.vm).vm.findClass own = some m.cls → Go p e below G (T'.setTop (mkF m (pc + 2) Ls (.ref a :: st)))) : Go p e below G (T.setTop (mkF m pc Ls st)) := by
  obtain ⟨a, T', h', k1, X', e', E, hS', hk', hZ', ho', q⟩ := ldcS X hx hZ hown w wS eT hS hk (g := mkF m pc Ls st) rfl (hb hby hd) hnn hbig hc hl
  exact Go.step q (K a T' h' k1 X' e' E hS' hk' hZ' ho')
theorem g_ldcwS (X : Stand p l e R (s.setVm vm0) m args below meth c T locs k n) (hx : p.tables.exec = Jvm.exec) (hby : c.code = code) (hZ : Z.Warmed39 (s.setVm vm0).vm) {own : String} (hown : (s.setVm vm0).vm.findClass own = some m.cls) {text : String} {index : Nat} (w : (Cond.stringLink own index text).before a0 Z = true) (wS : ∀ a ∈ Bundle.stringAtoms, a.before a0 Z = true) (eT : T.heap = h) (hS : s.Since vm0 k0) (hk : k0 ≤ h.size) (nn : Nat) (hnn : 4 * text.toList.length ≤ nn) (hbig : nn ≤ 536870912) (hc : k + 2 ≤ R.cells) (hl : n + (nn + 4) ≤ R.slots) (hd : decode code pc = .ok (.ldc_w index, 3)) (K : ∀ a T' h' k1, Stand p l e R (s.setVm T'.vm) m args below meth c T' locs (k + 2) (n + (nn + 4)) → T'.heap = h' → Ext h h' → s.Since T'.vm k1 → k1 ≤ h'.size → Z.Warmed39 (s.setVm T'.vm).vm → (s.setVm T'.vm).vm.findClass own = some m.cls → Go p e below G (T'.setTop (mkF m (pc + 3) Ls (.ref a :: st)))) : Go p e below G (T.setTop (mkF m pc Ls st)) := by
  obtain ⟨a, T', h', k1, X', e', E, hS', hk', hZ', ho', q⟩ := ldcSW X hx hZ hown w wS eT hS hk (g := mkF m pc Ls st) rfl (hb hby hd) hnn hbig hc hl
  exact Go.step q (K a T' h' k1 X' e' E hS' hk' hZ' ho')
theorem g_ldcSV (X : Stand p l e R (s.setVm vm0) m args below meth c T locs k n) (hx : p.tables.exec = Jvm.exec) (hby : c.code = code) (hZ : Z.Warmed39 (s.setVm vm0).vm) {own : String} (hown : (s.setVm vm0).vm.findClass own = some m.cls) {text : String} {index : Nat} (w : (Cond.stringLink own index text).before a0 Z = true) (wS : ∀ a ∈ Bundle.stringAtoms, a.before a0 Z = true) (eT : T.heap = h) (hS : s.Since vm0 k0) (hk : k0 ≤ h.size) (N : Fr s.heap.size locs) (hkeep : ∀ (b : Addr) (cl : Cell), Z.heap[b]? = some cl → s.heap[b]? = some cl) (hI : vm0.interned = Z.vm.interned) (hh : Jvm.Lit.constHeld Z own index) (hcw : Jvm.Lit.compactW.before a0 Z = true) (vs : List Value) (z : Int32) (ht : (∀ c ∈ text.toList, c.toNat < 256) ∧ text.toList.map (fun c => Value.int (Jvm.Lit.byteI c.toNat.toUInt16)) = vs) (hz : ¬ z < 0) (hlz : z.toNatClampNeg = vs.length) (nn : Nat) (hnn : 4 * text.toList.length ≤ nn) (hbig : nn ≤ 536870912) (hc : k + 2 ≤ R.cells) (hl : n + (nn + 4) ≤ R.slots) (hd : decode code pc = .ok (.ldc index, 2)) (K : ∀ a T' h' k1 b kb, Stand p l e R (s.setVm T'.vm) m args below meth c T' locs (k + 2) (n + (nn + 4)) → T'.heap = h' → Ext h h' → s.Since T'.vm k1 → k1 ≤ h'.size → Z.Warmed39 (s.setVm T'.vm).vm → (s.setVm T'.vm).vm.findClass own = some m.cls → Exa Z h' a "java/lang/String" → Fld Z h' a "java/lang/String" "coder" "B" (.int 0) → Fld Z h' a "java/lang/String" "value" "[B" (.ref b) → Arv Z h' b kb .byte z vs (.int 0) → Lit (s.setVm T'.vm) own index a → Go p e below G (T'.setTop (mkF m (pc + 2) Ls (.ref a :: st)))) : Go p e below G (T.setTop (mkF m pc Ls st)) := by
  obtain ⟨a, T', h', k1, b, kb, X', e', E, hS', hk', hZ', ho', r1, r2, r3, r4, -, -, -, r5, q⟩ := ldcSVL X hx hZ hown w wS eT hS hk N hkeep (Ts := []) ⟨#[], by rw [hI]; simp, fun q hq => by simp at hq⟩ (by simp) hh hcw ht hz hlz (g := mkF m pc Ls st) rfl (hb hby hd) hnn hbig hc hl
  exact Go.step q (K a T' h' k1 b kb X' e' E hS' hk' hZ' ho' r1 r2 r3 r4 r5)
theorem g_ldcAgain (X : Stand p l e R (s.setVm vm0) m args below meth c T locs k n) (hx : p.tables.exec = Jvm.exec) (hby : c.code = code) (hZ : Z.Warmed39 (s.setVm vm0).vm) {own : String} (hown : (s.setVm vm0).vm.findClass own = some m.cls) {text : String} {index : Nat} (w : (Cond.stringLink own index text).before a0 Z = true) {a : Addr} (L : Lit (s.setVm vm0) own index a) (hd : decode code pc = .ok (.ldc index, 2)) (K : Go p e below G (T.setTop (mkF m (pc + 2) Ls (.ref a :: st)))) : Go p e below G (T.setTop (mkF m pc Ls st)) := Go.step (ldcAgain X hx hZ hown w L (g := mkF m pc Ls st) rfl (hb hby hd)) K
theorem backW {y : MethodName} {bytes : ByteArray} {maxL : Nat} {ret : Option FieldType} {rm : Room} {len W : Nat} {as' : Array Value} {Q : Option Value → Heap → List Loc → Prop} {PV : Vm → Prop}
    (hM : MetFree l y (head1 [Cond.code y bytes maxL ret] rm) (fun a U => a = as' ∧ PV U.vm ∧ U.heap = h) (fun _ _ _ _ _ => True) (fun _ U o U' => RetW U Q rm.cells rm.slots U' o))
    (hZ : Z.Warmed39 s.vm) (hPV : ∀ vm, s.WarmedH vm → PV vm) (wc : (Cond.code y bytes maxL ret).before a0 Z = true) (wz : (Cond.initialized y.cls).before a0 Z = true) (hf : rm.frames + 1 ≤ R.frames) (hl : W + (maxL + 11) + rm.locals ≤ R.locals) :
    BackS l R p e below s args y len W (fun A a => a = as' ∧ A.U.heap = h ∧ A.cells + rm.cells ≤ R.cells ∧ A.slots + rm.slots ≤ R.slots)
      (fun A _ v B => ∃ L, Q v B.U.heap L ∧ B.locs = A.locs ++ L ∧ B.cells = A.cells + rm.cells ∧ B.slots = A.slots + rm.slots) :=
  BackS.of_freeW (bytes := bytes) (maxL := maxL) (ret := ret) (E := fun _ _ o t L k n => k = rm.cells ∧ n = rm.slots ∧ ∃ v, o = .returned v ∧ Q v t.heap L) hM hf hl
    (fun m meth c A a Y hp => have hU : Z.Warmed39 A.U.vm := wtrans hZ Y.warmed
      ⟨by show (Cond.and _ .tt).before a A.U = true; rw [Cond.before_and, mv hU wc]; rfl, mv hU wc, mv hU wz, hp.2.2.1, hp.2.2.2⟩)
    (fun m meth c A a g mk Y hp => ⟨hp.1, hPV _ Y.warmed, hp.2.1⟩) (fun _ _ _ _ _ _ _ _ _ => trivial)
    (fun _ _ _ _ ⟨v, L, h1, h2, h3⟩ => ⟨L, _, _, h3, rfl, rfl, v, h1, h2⟩)
    (fun m meth c A a g mk v t L k n Y hp _ _ ⟨e1, e2, v', e3, e4⟩ => by cases e3; subst e1 e2; exact ⟨L, e4, rfl, rfl, rfl⟩)
theorem g_staticW (X : Stand p l e R (s.setVm vm0) m args below meth c T locs k n) (hx : p.tables.exec = Jvm.exec) (hby : c.code = code) (hZ : Z.Warmed39 (s.setVm vm0).vm) {own : String} (hown : (s.setVm vm0).vm.findClass own = some m.cls) {index : Nat} {y : MethodName} {bytes : ByteArray} {maxL : Nat} {ret : Option FieldType} {rm : Room} {as' : Array Value} {Q : Option Value → Heap → List Loc → Prop} {PV : Vm → Prop} (hM : MetFree l y (head1 [Cond.code y bytes maxL ret] rm) (fun a U => a = as' ∧ PV U.vm ∧ U.heap = h) (fun _ _ _ _ _ => True) (fun _ U o U' => RetW U Q rm.cells rm.slots U' o)) (hPV : ∀ vm, (s.setVm vm0).WarmedH vm → PV vm) (hS : s.Since vm0 k0) (hkk : k0 ≤ h.size) (wl : (Cond.methodLink own index y).before a0 Z = true) (ws : (Cond.static y).before a0 Z = true) (wz : (Cond.initialized y.cls).before a0 Z = true) (wc : (Cond.code y bytes maxL ret).before a0 Z = true) (hy : y.cls ≠ "java/lang/invoke/MethodHandle" ∧ y.cls ≠ "java/lang/invoke/VarHandle") (eT : T.heap = h) (hsize : Ls.size = c.maxLocals) (argsL : List Value) {rest : List Value} (hlen : ∀ sig, parseMethodDescriptor y.desc = some sig → argsL.length = sig.parameters.length) (has : argsL.toArray = as') (hst : st = argsL.reverse ++ rest) (hf : rm.frames + 1 ≤ R.frames) (hl : (rest.map fun v => v.category).sum + (maxL + 11) + rm.locals ≤ R.locals) (hc : k + rm.cells ≤ R.cells) (hs : n + rm.slots ≤ R.slots) (hd : decode code pc = .ok (.invokestatic index, 3)) (K : ∀ v T' L, Stand p l e R (s.setVm T'.vm) m args below meth c T' (locs ++ L) (k + rm.cells) (n + rm.slots) → s.Since T'.vm T'.heap.size → Z.Warmed39 (s.setVm T'.vm).vm → (s.setVm T'.vm).vm.findClass own = some m.cls → Q v T'.heap L → Go p e below G (T'.setTop (mkF m (pc + 3) Ls (v.toList ++ rest)))) : Go p e below G (T.setTop (mkF m pc Ls st)) := by
  obtain ⟨v, _, ⟨T', L', k', n'⟩, -, X', hs', hg', ⟨L, hq, l1, l2, l3⟩, q⟩ := callSS X hx (y := y) hown (mvT hZ wl) (mvT hZ ws) (mvT hZ wz) (mvT hZ wc) hy (backW (W := (rest.map fun v => v.category).sum) hM hZ hPV wc wz hf hl) (g := mkF m pc Ls st) rfl hsize (argsL := argsL) (rest := rest) hlen hst (by show 2 * 0 + _ ≤ _; omega) (hb hby hd) (fun _ _ => ⟨has, eT, hc, hs⟩)
  dsimp only [Pt.U, Pt.locs, Pt.cells, Pt.slots] at X' hs' hg' l1 l2 l3 q hq
  subst l1 l2 l3
  obtain ⟨X2, hS2, hZ2, ho2⟩ := rebS hS (Nat.le_trans hkk (by rw [← eT]; exact Nat.le_refl _)) X' hs' hg' hZ hown
  exact Go.step (fun t r => q.trans r) (K v T' L X2 hS2 hZ2 ho2 hq)
theorem g_specialW (X : Stand p l e R (s.setVm vm0) m args below meth c T locs k n) (hx : p.tables.exec = Jvm.exec) (hby : c.code = code) (hZ : Z.Warmed39 (s.setVm vm0).vm) {own : String} (hown : (s.setVm vm0).vm.findClass own = some m.cls) {index : Nat} {y : MethodName} {bytes : ByteArray} {maxL : Nat} {ret : Option FieldType} {rm : Room} {as' : Array Value} {Q : Option Value → Heap → List Loc → Prop} {PV : Vm → Prop} (hM : MetFree l y (head1 [Cond.code y bytes maxL ret] rm) (fun a U => a = as' ∧ PV U.vm ∧ U.heap = h) (fun _ _ _ _ _ => True) (fun _ U o U' => RetW U Q rm.cells rm.slots U' o)) (hPV : ∀ vm, (s.setVm vm0).WarmedH vm → PV vm) (hS : s.Since vm0 k0) (hkk : k0 ≤ h.size) (hy1 : y.name = "<init>") (hret : ret = none) (wl : (Cond.methodLink own index y).before a0 Z = true) (ws : (Cond.instanceMethod y).before a0 Z = true) (wz : (Cond.initialized y.cls).before a0 Z = true) (wc : (Cond.code y bytes maxL ret).before a0 Z = true) (hy : y.cls ≠ "java/lang/invoke/MethodHandle" ∧ y.cls ≠ "java/lang/invoke/VarHandle") (eT : T.heap = h) (hsize : Ls.size = c.maxLocals) {a : Addr} (argsL : List Value) {rest : List Value} (hlen : ∀ sig, parseMethodDescriptor y.desc = some sig → argsL.length = sig.parameters.length) (has : (.ref a :: argsL).toArray = as') (hst : st = argsL.reverse ++ .ref a :: rest) (hf : rm.frames + 1 ≤ R.frames) (hl : (rest.map fun v => v.category).sum + (maxL + 11) + rm.locals ≤ R.locals) (hc : k + rm.cells ≤ R.cells) (hs : n + rm.slots ≤ R.slots) (hd : decode code pc = .ok (.invokespecial index, 3)) (K : ∀ v T' L, Stand p l e R (s.setVm T'.vm) m args below meth c T' (locs ++ L) (k + rm.cells) (n + rm.slots) → s.Since T'.vm T'.heap.size → Z.Warmed39 (s.setVm T'.vm).vm → (s.setVm T'.vm).vm.findClass own = some m.cls → Q v T'.heap L → Go p e below G (T'.setTop (mkF m (pc + 3) Ls (v.toList ++ rest)))) : Go p e below G (T.setTop (mkF m pc Ls st)) := by
  subst hret
  obtain ⟨v, _, ⟨T', L', k', n'⟩, -, X', hs', hg', ⟨L, hq, l1, l2, l3⟩, q⟩ := X.specialBackS hx (y := y) hy1 hown (mvT hZ wl) (mvT hZ ws) (mvT hZ wc) hy (backW (W := (rest.map fun v => v.category).sum) hM hZ hPV wc wz hf hl) (g := mkF m pc Ls st) rfl hsize (Steps.refl _) (a := a) (argsL := argsL) (rest := rest) hlen hst (by show 2 * 0 + _ ≤ _; omega) (hb hby hd) (fun _ _ => ⟨has, eT, hc, hs⟩)
  dsimp only [Pt.U, Pt.locs, Pt.cells, Pt.slots] at X' hs' hg' l1 l2 l3 q hq
  subst l1 l2 l3
  obtain ⟨X2, hS2, hZ2, ho2⟩ := rebS hS (Nat.le_trans hkk (by rw [← eT]; exact Nat.le_refl _)) X' hs' hg' hZ hown
  exact Go.step (fun t r => q.trans r) (K v T' L X2 hS2 hZ2 ho2 hq)
theorem g_virtualW (X : Stand p l e R (s.setVm vm0) m args below meth c T locs k n) (hx : p.tables.exec = Jvm.exec) (hby : c.code = code) (hZ : Z.Warmed39 (s.setVm vm0).vm) {own : String} (hown : (s.setVm vm0).vm.findClass own = some m.cls) {C : String} {index : Nat} {z : MethodName} {y : MethodName} {bytes : ByteArray} {maxL : Nat} {ret : Option FieldType} {rm : Room} {as' : Array Value} {Q : Option Value → Heap → List Loc → Prop} {PV : Vm → Prop} (hM : MetFree l y (head1 [Cond.code y bytes maxL ret] rm) (fun a U => a = as' ∧ PV U.vm ∧ U.heap = h) (fun _ _ _ _ _ => True) (fun _ U o U' => RetW U Q rm.cells rm.slots U' o)) (hPV : ∀ vm, (s.setVm vm0).WarmedH vm → PV vm) (hS : s.Since vm0 k0) (hkk : k0 ≤ h.size) (wl : (Cond.methodLink own index z).before a0 Z = true) (wd : (Cond.declares z).before a0 Z = true) (hnf : NotFace (s.setVm vm0) z) (wsel : (Cond.selects C z y).before a0 Z = true) (ws : (Cond.instanceMethod y).before a0 Z = true) (wz : (Cond.initialized y.cls).before a0 Z = true) (wc : (Cond.code y bytes maxL ret).before a0 Z = true) (hy : z.cls ≠ "java/lang/invoke/MethodHandle" ∧ z.cls ≠ "java/lang/invoke/VarHandle") (eT : T.heap = h) {a : Addr} (E : Exa Z h a C) (hsize : Ls.size = c.maxLocals) (argsL : List Value) {rest : List Value} (hlen : ∀ sig, parseMethodDescriptor z.desc = some sig → argsL.length = sig.parameters.length) (has : (.ref a :: argsL).toArray = as') (hst : st = argsL.reverse ++ .ref a :: rest) (hf : rm.frames + 1 ≤ R.frames) (hl : (rest.map fun v => v.category).sum + (maxL + 11) + rm.locals ≤ R.locals) (hc : k + rm.cells ≤ R.cells) (hs : n + rm.slots ≤ R.slots) (hd : decode code pc = .ok (.invokevirtual index, 3)) (K : ∀ v T' L, Stand p l e R (s.setVm T'.vm) m args below meth c T' (locs ++ L) (k + rm.cells) (n + rm.slots) → s.Since T'.vm T'.heap.size → Z.Warmed39 (s.setVm T'.vm).vm → (s.setVm T'.vm).vm.findClass own = some m.cls → Q v T'.heap L → Go p e below G (T'.setTop (mkF m (pc + 3) Ls (v.toList ++ rest)))) : Go p e below G (T.setTop (mkF m pc Ls st)) := by
  obtain ⟨cq, kq, qa, qb, qc⟩ := isOf hZ eT E
  obtain ⟨v, _, ⟨T', L', k', n'⟩, -, X', hs', hg', ⟨L, hq, l1, l2, l3⟩, q⟩ := X.virtualBackS hx (y := z) (z := y) hown (mvT hZ wl) (mvT hZ wd) hnf (mvT hZ wsel) (mvT hZ ws) hy (backW (W := (rest.map fun v => v.category).sum) hM hZ hPV wc wz hf hl) qa qc (g := mkF m pc Ls st) rfl hsize (Steps.refl _) (argsL := argsL) (rest := rest) hlen hst (by show 2 * 0 + _ ≤ _; omega) (hb hby hd) (fun _ _ => ⟨has, eT, hc, hs⟩)
  dsimp only [Pt.U, Pt.locs, Pt.cells, Pt.slots] at X' hs' hg' l1 l2 l3 q hq
  subst l1 l2 l3
  obtain ⟨X2, hS2, hZ2, ho2⟩ := rebS hS (Nat.le_trans hkk (by rw [← eT]; exact Nat.le_refl _)) X' hs' hg' hZ hown
  exact Go.step (fun t r => q.trans r) (K v T' L X2 hS2 hZ2 ho2 hq)
end
end Jvm.Own

namespace Jvm.Pilot.@@N@@
open Jvm Jvm.ClassFile Sem Op Lib Jvm.Free Jvm.Stand Jvm.LawKit Jvm.RoadKit Bundle Jvm.Own Jvm.Pilot.@@N@@.Jvm.D


theorem own_up (j : Nat) : Int32.ofNat j + (1 : Int32) = Int32.ofNat (j + 1) := by rw [Int32.ofNat_add]; rfl
theorem own_up2 (q : Int32) (j : Nat) : q + Int32.ofNat j + (1 : Int32) = q + Int32.ofNat (j + 1) := by rw [Int32.add_assoc, own_up]
theorem own_shr0 (n : Int32) : n >>> ((0 : Int32) &&& 31) = n := by
  rw [show (0 : Int32) &&& 31 = 0 from rfl]; simp
theorem own_sm {j N : Nat} {n : Int32} (hn : n.toInt = N) (h : j ≤ N) : (Int32.ofNat j).toInt = j := by
  have r := rng32 n
  exact Int32.toInt_ofNat_of_lt (by omega)
theorem own_tn {j N : Nat} {n : Int32} (hn : n.toInt = N) (h : j ≤ N) : (Int32.ofNat j).toNatClampNeg = j := by
  simp only [Int32.toNatClampNeg, own_sm hn h]; omega
theorem own_nN {N : Nat} {n : Int32} (hn : n.toInt = N) : n.toNatClampNeg = N := by simp only [Int32.toNatClampNeg, hn]; omega
theorem own_ltn {j N : Nat} {n : Int32} (hn : n.toInt = N) (h : j < N) : Int32.ofNat j < n := by rw [Int32.lt_iff_toInt_lt, own_sm hn (by omega)]; omega
theorem own_nltn {N : Nat} {n : Int32} (hn : n.toInt = N) : ¬ Int32.ofNat N < n := by rw [Int32.lt_iff_toInt_lt, own_sm hn (Nat.le_refl _)]; omega
theorem own_inn {j N : Nat} {n : Int32} (hn : n.toInt = N) (h : j < N) : ¬ Int32.ofNat j < 0 ∧ Int32.ofNat j < n := by
  refine ⟨?_, own_ltn hn h⟩
  have e0 : (0 : Int32).toInt = 0 := rfl
  rw [Int32.lt_iff_toInt_lt, own_sm hn (by omega)]; omega
theorem own_offs {off n cap : Int32} {j N : Nat} (h0 : 0 ≤ off.toInt) (hn : n.toInt = N) (hc : off.toInt + n.toInt ≤ cap.toInt) (h : j ≤ N) : (off + Int32.ofNat j).toInt = off.toInt + j := by
  have h1 := c_iadd off (Int32.ofNat j)
  have h2 := rng32 (off + Int32.ofNat j)
  have h3 := rng32 cap
  rw [own_sm hn h] at h1
  omega
theorem own_offin {off n cap : Int32} {j N : Nat} (h0 : 0 ≤ off.toInt) (hn : n.toInt = N) (hc : off.toInt + n.toInt ≤ cap.toInt) (h : j < N) : ¬ (off + Int32.ofNat j) < 0 ∧ off + Int32.ofNat j < cap := by
  have e := own_offs h0 hn hc (Nat.le_of_lt h)
  have e0 : (0 : Int32).toInt = 0 := rfl
  rw [Int32.lt_iff_toInt_lt, Int32.lt_iff_toInt_lt]; omega
theorem own_len {i n : Int32} {L : Nat} (h : ¬ i < 0 ∧ i < n) (q : n.toNatClampNeg ≤ L) : i.toNatClampNeg < L := by
  obtain ⟨h1, h2⟩ := h
  have e0 : (0 : Int32).toInt = 0 := rfl
  rw [Int32.lt_iff_toInt_lt] at h1 h2
  simp only [Int32.toNatClampNeg] at *; omega
theorem own_ib {Z : State} {h : Heap} {b : Addr} {kb : ClassId} {n : Int32} {bs : List Value} {d : Value} (V : Arv Z h b kb .byte n bs d) {i : Nat} (hi : i < n.toNatClampNeg) : ∃ x : Int32, bs.getD i d = .int x := by
  obtain ⟨c, A, q1, S, M, H, F⟩ := V
  have q := F i (by omega)
  cases hq : bs.getD i d <;> rw [hq] at q <;> first | exact ⟨_, rfl⟩ | (simp [fits] at q)
def own_max (a b : Int32) : Int32 := if a < b then b else a
theorem own_nn {x : Int32} (h : 0 ≤ x.toInt) : ¬ x < 0 := by
  have e0 : (0 : Int32).toInt = 0 := rfl
  rw [Int32.lt_iff_toInt_lt]; omega
theorem own_le {x y : Int32} (h : x.toInt ≤ y.toInt) : ¬ y < x := by rw [Int32.lt_iff_toInt_lt]; omega
theorem own_or3 {a b c : Int32} (h1 : 0 ≤ a.toInt) (h2 : 0 ≤ b.toInt) (h3 : 0 ≤ c.toInt) : ¬ (a ||| b) ||| c < 0 := own_nn ((c_orS (a ||| b) c).1 ((c_orS a b).1 h1 h2) h3)
theorem own_fits {off n cap : Int32} (h0 : 0 ≤ off.toInt) (h1 : 0 ≤ n.toInt) (hc : off.toInt + n.toInt ≤ cap.toInt) : ¬ (cap - off) < n := by
  have h2 := c_isub cap off
  have h3 := rng32 (cap - off)
  have h4 := rng32 cap
  rw [Int32.lt_iff_toInt_lt]; omega
theorem own_tc {n : Int32} (h : 0 ≤ n.toInt) : (n.toNatClampNeg : Int) = n.toInt := by simp only [Int32.toNatClampNeg]; omega

def own_grow (cap e : Int32) : Int32 := if cap < e then own_max ((2 : Int32) * cap) e else cap
theorem own_add {e n : Int32} (h0 : 0 ≤ e.toInt) (h1 : 0 ≤ n.toInt) (h2 : e.toInt ≤ 10000) (h3 : n.toInt ≤ 10000) : (e + n).toInt = e.toInt + n.toInt := by
  have h := c_iadd e n
  have r := rng32 (e + n)
  omega
theorem own_dbl {cap : Int32} (h0 : 0 ≤ cap.toInt) (h1 : cap.toInt ≤ 10000) : ((2 : Int32) * cap).toInt = 2 * cap.toInt := by
  have h := c_imul 2 cap
  have r := rng32 ((2 : Int32) * cap)
  have ex2 : (2 : Int32).toInt = 2 := rfl
  rw [ex2] at h
  omega
theorem own_nl {cap e : Int32} {B : Int} (h0 : 0 ≤ cap.toInt) (h1 : cap.toInt ≤ 10000) (h2 : cap < e) (h3 : 2 * cap.toInt ≤ B) (h4 : e.toInt ≤ B) : cap.toInt < (own_max ((2 : Int32) * cap) e).toInt ∧ (own_max ((2 : Int32) * cap) e).toInt ≤ B ∧ e.toInt ≤ (own_max ((2 : Int32) * cap) e).toInt := by
  have d := own_dbl h0 h1
  rw [Int32.lt_iff_toInt_lt] at h2
  unfold own_max
  split
  · omega
  · rename_i q
    rw [Int32.lt_iff_toInt_lt] at q
    omega
theorem own_growb {cap e : Int32} {B : Int} (h0 : 1024 ≤ cap.toInt) (h1 : cap.toInt ≤ 10000) (h3 : 2 * cap.toInt ≤ B) (h4 : e.toInt ≤ B) : 1024 ≤ (own_grow cap e).toInt ∧ (own_grow cap e).toInt ≤ B := by
  unfold own_grow
  split
  · rename_i q
    have := own_nl (B := B) (by omega) h1 q h3 h4
    omega
  · omega
theorem own_setD {l : List Value} {i : Nat} {x d : Value} (h : i < l.length) : (l.set i x).getD i d = x := by
  simp [List.getD_eq_getElem?_getD, List.getElem?_set_self h]
theorem own_repD {N : Nat} {i : Nat} (h : i < N) : ∃ x : Int32, (List.replicate N (Value.int (0 : Int32))).getD i (.int (0 : Int32)) = .int x ∧ ¬ (255 : Int32) < x := by
  refine ⟨0, ?_, by decide⟩
  simp [List.getD_eq_getElem?_getD, h]
theorem own_nech {x ch ch1 : Addr} {h : Heap} (h1 : x ≠ ch) (h2 : x < h.size) (q : ch1 = ch ∨ h.size ≤ ch1) : x ≠ ch1 := by
  rcases q with rfl | q
  · exact h1
  · exact Nat.ne_of_lt (Nat.lt_of_lt_of_le h2 q)
theorem own_loch {ch ch1 n0 : Nat} {h : Heap} (h1 : n0 ≤ ch) (h2 : n0 ≤ h.size) (q : ch1 = ch ∨ h.size ≤ ch1) : n0 ≤ ch1 := by
  rcases q with rfl | q
  · exact h1
  · exact Nat.le_trans h2 q

theorem own_nbyte (x : Int32) : nar .byte x = x.toInt8.toInt32 := rfl
theorem own_byte1 {c : Int32} (h : 0 ≤ c.toInt ∧ c.toInt ≤ 255) : nar .char (((nar .byte (c.toInt8.toInt32)) &&& (255 : Int32)).toUInt32.toUInt16.toUInt32.toInt32) = c := by
  have h1 := c_i2b c
  have h2 := c_i2b c.toInt8.toInt32
  have h3 := c_mask (nar .byte c.toInt8.toInt32) 255 8 (by decide) (by decide)
  rw [own_nbyte] at h3 ⊢
  have h4 := c_i2c (c.toInt8.toInt32.toInt8.toInt32 &&& 255)
  have h5 := c_i2c ((c.toInt8.toInt32.toInt8.toInt32 &&& 255).toUInt32.toUInt16.toUInt32.toInt32)
  exact Int32.toInt_inj.mp (by show ((c.toInt8.toInt32.toInt8.toInt32 &&& 255).toUInt32.toUInt16.toUInt32.toInt32).toUInt32.toUInt16.toUInt32.toInt32.toInt = _; omega)
theorem own_cr (x : Int32) : 0 ≤ (nar .char ((x &&& (255 : Int32)).toUInt32.toUInt16.toUInt32.toInt32)).toInt ∧ (nar .char ((x &&& (255 : Int32)).toUInt32.toUInt16.toUInt32.toInt32)).toInt ≤ 255 := by
  have h1 := c_mask x 255 8 (by decide) (by decide)
  have h2 := c_i2c (x &&& 255)
  have h3 := c_i2c ((x &&& 255).toUInt32.toUInt16.toUInt32.toInt32)
  show 0 ≤ ((x &&& (255 : Int32)).toUInt32.toUInt16.toUInt32.toInt32).toUInt32.toUInt16.toUInt32.toInt32.toInt ∧ ((x &&& (255 : Int32)).toUInt32.toUInt16.toUInt32.toInt32).toUInt32.toUInt16.toUInt32.toInt32.toInt ≤ 255
  omega
theorem own_c255 (x : Int32) : ¬ (255 : Int32) < nar .char ((x &&& (255 : Int32)).toUInt32.toUInt16.toUInt32.toInt32) := by
  have h := (own_cr x).2
  have e : (255 : Int32).toInt = 255 := rfl
  rw [Int32.lt_iff_toInt_lt, e]; omega
theorem own_s20 {l : List Value} {x y d : Value} (h : 2 ≤ l.length) : ((l.set 0 x).set 1 y).getD 0 d = x := by
  match l, h with
  | _ :: _ :: _, _ => rfl
theorem own_s21 {l : List Value} {x y d : Value} (h : 2 ≤ l.length) : ((l.set 0 x).set 1 y).getD 1 d = y := by
  match l, h with
  | _ :: _ :: _, _ => rfl
theorem own_big {N a b : Nat} {x y : Int32} (hx : ¬ (255 : Int32) < x) (hy : ¬ (255 : Int32) < y) : ∀ i, i < N → ∃ z : Int32, (((List.replicate N (Value.int (0 : Int32))).set a (.int x)).set b (.int y)).getD i (.int (0 : Int32)) = .int z ∧ ¬ (255 : Int32) < z := by
  intro i hi
  simp only [List.getD_eq_getElem?_getD, List.getElem?_set, List.length_set, List.length_replicate]
  split
  · split
    · exact ⟨y, rfl, hy⟩
    · omega
  · split
    · split
      · exact ⟨x, rfl, hx⟩
      · omega
    · refine ⟨0, ?_, by decide⟩
      simp [hi]

theorem d23_0 : decode jdk_43_method_49_code 0 = .ok (.iconst 0, 1) := by decide +kernel
theorem d23_1 : decode jdk_43_method_49_code 1 = .ok (.istore 5, 2) := by decide +kernel
theorem d23_3 : decode jdk_43_method_49_code 3 = .ok (.iload 5, 2) := by decide +kernel
theorem d23_5 : decode jdk_43_method_49_code 5 = .ok (.iload 4, 2) := by decide +kernel
theorem d23_7 : decode jdk_43_method_49_code 7 = .ok (.if_icmp .ge 26, 3) := by decide +kernel
theorem d23_10 : decode jdk_43_method_49_code 10 = .ok (.aload_n 2, 1) := by decide +kernel
theorem d23_11 : decode jdk_43_method_49_code 11 = .ok (.iload_n 3, 1) := by decide +kernel
theorem d23_12 : decode jdk_43_method_49_code 12 = .ok (.iinc 3 1, 3) := by decide +kernel
theorem d23_15 : decode jdk_43_method_49_code 15 = .ok (.aload_n 0, 1) := by decide +kernel
theorem d23_16 : decode jdk_43_method_49_code 16 = .ok (.iload_n 1, 1) := by decide +kernel
theorem d23_17 : decode jdk_43_method_49_code 17 = .ok (.iinc 1 1, 3) := by decide +kernel
theorem d23_20 : decode jdk_43_method_49_code 20 = .ok (.baload, 1) := by decide +kernel
theorem d23_21 : decode jdk_43_method_49_code 21 = .ok (.sipush 255, 3) := by decide +kernel
theorem d23_24 : decode jdk_43_method_49_code 24 = .ok (.iand, 1) := by decide +kernel
theorem d23_25 : decode jdk_43_method_49_code 25 = .ok (.i2c, 1) := by decide +kernel
theorem d23_26 : decode jdk_43_method_49_code 26 = .ok (.castore, 1) := by decide +kernel
theorem d23_27 : decode jdk_43_method_49_code 27 = .ok (.iinc 5 1, 3) := by decide +kernel
theorem d23_30 : decode jdk_43_method_49_code 30 = .ok (.goto (-27), 3) := by decide +kernel
theorem d23_33 : decode jdk_43_method_49_code 33 = .ok (.return_, 1) := by decide +kernel
theorem own_pn0 : plainName "java/lang/StringLatin1" = true := by first | (simp [plainName, overriddenIn]; done) | decide +kernel
def Q_inflU (Z : State) (b : Addr) (kb : ClassId) (ch : Addr) (kc : ClassId) (vc : List Value) (x0 : Int32) (x1 : Int32) (h0 : Heap) (n0 : Nat) (v : Option Value) (h : Heap) (L : List Loc) : Prop := v = none ∧ Fr n0 L ∧ Keep h0 h [ch] ∧ Arv Z h ch kc .char (1024 : Int32) ((vc.set 0 (.int x0)).set 1 (.int x1)) (.int (0 : Int32))
set_option maxRecDepth 65536 in
set_option maxHeartbeats 40000000 in
theorem rm_inflU (l : Launch) (Z : State) (a0 : Array Value) (hw : ∀ d ∈ tables_1, d.before a0 Z = true) (ws : List Jvm.Cond) (b : Addr) (kb : ClassId) (ch : Addr) (kc : ClassId) (vc : List Value) (x0 : Int32) (x1 : Int32) (h0 : Heap) (n0 : Nat) (Z0 : n0 ≤ h0.size) (VB : Arv Z h0 b kb .byte (2 : Int32) [(.int (nar .byte (x0.toInt8.toInt32))), (.int (nar .byte (x1.toInt8.toInt32)))] (.int (0 : Int32))) (VC : Arv Z h0 ch kc .char (1024 : Int32) vc (.int (0 : Int32))) (hl : 2 ≤ vc.length) (gc : n0 ≤ ch) (nbc : b ≠ ch) (hr0 : 0 ≤ x0.toInt ∧ x0.toInt ≤ 255) (hr1 : 0 ≤ x1.toInt ∧ x1.toInt ≤ 255) :
    MetFree l (⟨"java/lang/StringLatin1", "inflate", "([BI[CII)V"⟩ : MethodName) (head1 (Jvm.Cond.code (⟨"java/lang/StringLatin1", "inflate", "([BI[CII)V"⟩ : MethodName) jdk_43_method_49_code 6 none :: ws) ({ frames := 0, cells := 0, slots := 0, locals := 0 } : Room)) (fun aa_ U => aa_ = #[(.ref b), (.int (0 : Int32)), (.ref ch), (.int (0 : Int32)), (.int (2 : Int32))] ∧ Z.Warmed39 U.vm ∧ U.heap = h0) (fun _ _ _ _ _ => True) (fun _ U o_ U' => RetG U (Q_inflU Z b kb ch kc vc x0 x1 h0 n0) 0 0 U' o_) := by
  refine MetFree.of_bodySF (plainFor_of_name own_pn0) hisR ?_
  intro p e s m args below meth c_ s₁ Bd hml0 hP hK
  obtain ⟨rfl, hZ, hh⟩ := hP
  have hx := Bd.exec
  have hby := Bd.bytes
  have hml : c_.maxLocals = 6 := hml0
  have hown : s.vm.findClass "java/lang/StringLatin1" = some m.cls := findClass_of_methodNamed Bd.named
  have hnm := (name_of_methodNamed Bd.named Bd.method).1
  have X0 : Stand p l e ({ frames := 0, cells := 0, slots := 0, locals := 0 } : Room) s m #[(.ref b), (.int (0 : Int32)), (.ref ch), (.int (0 : Int32)), (.int (2 : Int32))] below meth c_ s₁ [] 0 0 := Stand.of_body Bd
  have e0 : s₁.heap = h0 := by rw [← hh, Bd.state]; rfl
  have N0 := Fr.nil n0
  show Go p e below (RetG s (Q_inflU Z b kb ch kc vc x0 x1 h0 n0) 0 0) (s₁.setTop (entryFrame m #[(.ref b), (.int (0 : Int32)), (.ref ch), (.int (0 : Int32)), (.int (2 : Int32))] 6))
  rw [show entryFrame m #[(.ref b), (.int (0 : Int32)), (.ref ch), (.int (0 : Int32)), (.int (2 : Int32))] 6 = mkF m 0 #[.val (.ref b), .val (.int (0 : Int32)), .val (.ref ch), .val (.int (0 : Int32)), .val (.int (2 : Int32)), .unset] [] from by first | (simp [entryFrame, mkF, argsToLocals, Value.category]; done) | rfl]
  refine g_iconst X0 hx hby (0 : Int32) d23_0 rfl ?_
  refine g_istore X0 hx hby d23_1 (l' := #[.val (.ref b), .val (.int (0 : Int32)), .val (.ref ch), .val (.int (0 : Int32)), .val (.int (2 : Int32)), .val (.int (0 : Int32))]) rfl ?_
  refine g_iload X0 hx hby d23_3 rfl ?_
  refine g_iload X0 hx hby d23_5 rfl ?_
  refine g_icN X0 hx hby d23_7 (tlt (by decide : (0 : Int32) < (2 : Int32))).2.1 ?_
  refine g_aloadN X0 hx hby d23_10 rfl rfl ?_
  refine g_iloadN X0 hx hby d23_11 rfl ?_
  refine g_iinc X0 hx hby (1 : Int32) d23_12 rfl (by decide) (l' := #[.val (.ref b), .val (.int (0 : Int32)), .val (.ref ch), .val (.int (1 : Int32)), .val (.int (2 : Int32)), .val (.int (0 : Int32))]) rfl ?_
  refine g_aloadN X0 hx hby d23_15 rfl rfl ?_
  refine g_iloadN X0 hx hby d23_16 rfl ?_
  refine g_iinc X0 hx hby (1 : Int32) d23_17 rfl (by decide) (l' := #[.val (.ref b), .val (.int (1 : Int32)), .val (.ref ch), .val (.int (1 : Int32)), .val (.int (2 : Int32)), .val (.int (0 : Int32))]) rfl ?_
  refine g_baload X0 hx hby hZ e0 VB (.int (nar .byte (x0.toInt8.toInt32))) ⟨by decide, by decide⟩ rfl d23_20 ?_
  refine g_sipush X0 hx hby (255 : Int32) d23_21 rfl ?_
  refine g_iand X0 hx hby d23_24 ?_
  refine g_i2c X0 hx hby d23_25 ?_
  refine g_castore X0 hx hby hZ e0 VC 0 (vc.set 0 (.int x0)) (by rw [own_byte1 hr0]) ⟨by decide, by decide⟩ rfl (by exact Nat.lt_of_lt_of_le (by decide) hl) N0 gc d23_26 (fun T1 h1 X1 e1 W1 V1 N1 => ?_)
  refine g_iinc X1 hx hby (1 : Int32) d23_27 rfl (by decide) (l' := #[.val (.ref b), .val (.int (1 : Int32)), .val (.ref ch), .val (.int (1 : Int32)), .val (.int (2 : Int32)), .val (.int (1 : Int32))]) rfl ?_
  refine g_goto X1 hx hby 3 d23_30 (by decide) (by decide) ?_
  refine g_iload X1 hx hby d23_3 rfl ?_
  refine g_iload X1 hx hby d23_5 rfl ?_
  refine g_icN X1 hx hby d23_7 (tlt (by decide : (1 : Int32) < (2 : Int32))).2.1 ?_
  refine g_aloadN X1 hx hby d23_10 rfl rfl ?_
  refine g_iloadN X1 hx hby d23_11 rfl ?_
  refine g_iinc X1 hx hby (2 : Int32) d23_12 rfl (by decide) (l' := #[.val (.ref b), .val (.int (1 : Int32)), .val (.ref ch), .val (.int (2 : Int32)), .val (.int (2 : Int32)), .val (.int (1 : Int32))]) rfl ?_
  refine g_aloadN X1 hx hby d23_15 rfl rfl ?_
  refine g_iloadN X1 hx hby d23_16 rfl ?_
  refine g_iinc X1 hx hby (2 : Int32) d23_17 rfl (by decide) (l' := #[.val (.ref b), .val (.int (2 : Int32)), .val (.ref ch), .val (.int (2 : Int32)), .val (.int (2 : Int32)), .val (.int (1 : Int32))]) rfl ?_
  have f2 := (VB.other W1 nbc)
  refine g_baload X1 hx hby hZ e1 f2 (.int (nar .byte (x1.toInt8.toInt32))) ⟨by decide, by decide⟩ rfl d23_20 ?_
  refine g_sipush X1 hx hby (255 : Int32) d23_21 rfl ?_
  refine g_iand X1 hx hby d23_24 ?_
  refine g_i2c X1 hx hby d23_25 ?_
  refine g_castore X1 hx hby hZ e1 V1 1 ((vc.set 0 (.int x0)).set 1 (.int x1)) (by rw [own_byte1 hr1]) ⟨by decide, by decide⟩ rfl (by rw [List.length_set]; exact Nat.lt_of_lt_of_le (by decide) hl) N1 gc d23_26 (fun T3 h3 X3 e3 W3 V3 N3 => ?_)
  refine g_iinc X3 hx hby (2 : Int32) d23_27 rfl (by decide) (l' := #[.val (.ref b), .val (.int (2 : Int32)), .val (.ref ch), .val (.int (2 : Int32)), .val (.int (2 : Int32)), .val (.int (2 : Int32))]) rfl ?_
  refine g_goto X3 hx hby 3 d23_30 (by decide) (by decide) ?_
  refine g_iload X3 hx hby d23_3 rfl ?_
  refine g_iload X3 hx hby d23_5 rfl ?_
  refine g_icY X3 hx hby 33 d23_7 (flt (by decide : ¬ ((2 : Int32) < (2 : Int32)))).2.1 (by decide) (by decide) ?_
  refine g_ret X3 hx hby Bd.returns Bd.notSynchronized d23_33 e3 (by decide) (by decide) ?_
  show (Q_inflU Z b kb ch kc vc x0 x1 h0 n0) none _ _
  exact ⟨rfl, N3, (((Keep.refl h0 [ch]).wr W1 (Or.inl (List.mem_of_getElem? (i := 0) rfl))).wr W3 (Or.inl (List.mem_of_getElem? (i := 0) rfl))), V3⟩

theorem d22_0 : decode jdk_43_method_11_code 0 = .ok (.aload_n 0, 1) := by decide +kernel
theorem d22_1 : decode jdk_43_method_11_code 1 = .ok (.iload_n 1, 1) := by decide +kernel
theorem d22_2 : decode jdk_43_method_11_code 2 = .ok (.aload_n 3, 1) := by decide +kernel
theorem d22_3 : decode jdk_43_method_11_code 3 = .ok (.iload 4, 2) := by decide +kernel
theorem d22_5 : decode jdk_43_method_11_code 5 = .ok (.iload_n 2, 1) := by decide +kernel
theorem d22_6 : decode jdk_43_method_11_code 6 = .ok (.iload_n 1, 1) := by decide +kernel
theorem d22_7 : decode jdk_43_method_11_code 7 = .ok (.isub, 1) := by decide +kernel
theorem d22_8 : decode jdk_43_method_11_code 8 = .ok (.invokestatic 13, 3) := by decide +kernel
theorem own_pd0 : parseMethodDescriptor "([BI[CII)V" = some ⟨[(.array .byte), .int, (.array .char), .int, .int], none⟩ := by decide +kernel
theorem d22_11 : decode jdk_43_method_11_code 11 = .ok (.return_, 1) := by decide +kernel
def Q_lgetcU (Z : State) (b : Addr) (kb : ClassId) (ch : Addr) (kc : ClassId) (vc : List Value) (x0 : Int32) (x1 : Int32) (h0 : Heap) (n0 : Nat) (v : Option Value) (h : Heap) (L : List Loc) : Prop := v = none ∧ Fr n0 L ∧ Keep h0 h [ch] ∧ Arv Z h ch kc .char (1024 : Int32) ((vc.set 0 (.int x0)).set 1 (.int x1)) (.int (0 : Int32))
set_option maxRecDepth 65536 in
set_option maxHeartbeats 40000000 in
theorem rm_lgetcU (l : Launch) (Z : State) (a0 : Array Value) (hw : ∀ d ∈ tables_1, d.before a0 Z = true) (ws : List Jvm.Cond) (b : Addr) (kb : ClassId) (ch : Addr) (kc : ClassId) (vc : List Value) (x0 : Int32) (x1 : Int32) (h0 : Heap) (n0 : Nat) (Z0 : n0 ≤ h0.size) (VB : Arv Z h0 b kb .byte (2 : Int32) [(.int (nar .byte (x0.toInt8.toInt32))), (.int (nar .byte (x1.toInt8.toInt32)))] (.int (0 : Int32))) (VC : Arv Z h0 ch kc .char (1024 : Int32) vc (.int (0 : Int32))) (hl : 2 ≤ vc.length) (gc : n0 ≤ ch) (nbc : b ≠ ch) (hr0 : 0 ≤ x0.toInt ∧ x0.toInt ≤ 255) (hr1 : 0 ≤ x1.toInt ∧ x1.toInt ≤ 255) :
    MetFree l (⟨"java/lang/StringLatin1", "getChars", "([BII[CI)V"⟩ : MethodName) (head1 (Jvm.Cond.code (⟨"java/lang/StringLatin1", "getChars", "([BII[CI)V"⟩ : MethodName) jdk_43_method_11_code 5 none :: ws) ({ frames := 1, cells := 0, slots := 0, locals := 17 } : Room)) (fun aa_ U => aa_ = #[(.ref b), (.int (0 : Int32)), (.int (2 : Int32)), (.ref ch), (.int (0 : Int32))] ∧ Z.Warmed39 U.vm ∧ U.heap = h0) (fun _ _ _ _ _ => True) (fun _ U o_ U' => RetG U (Q_lgetcU Z b kb ch kc vc x0 x1 h0 n0) 0 0 U' o_) := by
  refine MetFree.of_bodySF (plainFor_of_name own_pn0) hisR ?_
  intro p e s m args below meth c_ s₁ Bd hml0 hP hK
  obtain ⟨rfl, hZ, hh⟩ := hP
  have hx := Bd.exec
  have hby := Bd.bytes
  have hml : c_.maxLocals = 5 := hml0
  have hown : s.vm.findClass "java/lang/StringLatin1" = some m.cls := findClass_of_methodNamed Bd.named
  have hnm := (name_of_methodNamed Bd.named Bd.method).1
  have X0 : Stand p l e ({ frames := 1, cells := 0, slots := 0, locals := 17 } : Room) s m #[(.ref b), (.int (0 : Int32)), (.int (2 : Int32)), (.ref ch), (.int (0 : Int32))] below meth c_ s₁ [] 0 0 := Stand.of_body Bd
  have e0 : s₁.heap = h0 := by rw [← hh, Bd.state]; rfl
  have N0 := Fr.nil n0
  have w110_ := hw _ (List.mem_of_getElem? (i := 110) rfl)
  have w112_ := hw _ (List.mem_of_getElem? (i := 112) rfl)
  have w113_ := hw _ (List.mem_of_getElem? (i := 113) rfl)
  have w114_ := hw _ (List.mem_of_getElem? (i := 114) rfl)
  show Go p e below (RetG s (Q_lgetcU Z b kb ch kc vc x0 x1 h0 n0) 0 0) (s₁.setTop (entryFrame m #[(.ref b), (.int (0 : Int32)), (.int (2 : Int32)), (.ref ch), (.int (0 : Int32))] 5))
  rw [show entryFrame m #[(.ref b), (.int (0 : Int32)), (.int (2 : Int32)), (.ref ch), (.int (0 : Int32))] 5 = mkF m 0 #[.val (.ref b), .val (.int (0 : Int32)), .val (.int (2 : Int32)), .val (.ref ch), .val (.int (0 : Int32))] [] from by first | (simp [entryFrame, mkF, argsToLocals, Value.category]; done) | rfl]
  refine g_aloadN X0 hx hby d22_0 rfl rfl ?_
  refine g_iloadN X0 hx hby d22_1 rfl ?_
  refine g_aloadN X0 hx hby d22_2 rfl rfl ?_
  refine g_iload X0 hx hby d22_3 rfl ?_
  refine g_iloadN X0 hx hby d22_5 rfl ?_
  refine g_iloadN X0 hx hby d22_6 rfl ?_
  refine g_isub X0 hx hby d22_7 ?_
  refine g_topI (2 : Int32) (by decide) ?_
  refine g_static X0 hx hby hZ hown (rm_inflU l Z a0 hw [] b kb ch kc vc x0 x1 h0 n0 Z0 VB VC hl gc nbc hr0 hr1) w112_ w113_ w110_ w114_ (by decide) e0 (by rw [hml]; rfl) [(.ref b), (.int (0 : Int32)), (.ref ch), (.int (0 : Int32)), (.int (2 : Int32))] (lenOf own_pd0 rfl) rfl rfl (Nat.le_of_ble_eq_true rfl) (Nat.le_of_ble_eq_true rfl) (Nat.le_of_ble_eq_true rfl) (Nat.le_of_ble_eq_true rfl) d22_8 (fun v1 T1 L1 X1 hQ1 => ?_)
  obtain ⟨rfl, N1q, K1, Vc1⟩ := hQ1
  have N1 := Fr.app N0 N1q
  refine g_ret X1 hx hby Bd.returns Bd.notSynchronized d22_11 rfl (by decide) (by decide) ?_
  show (Q_lgetcU Z b kb ch kc vc x0 x1 h0 n0) none _ _
  exact ⟨rfl, N1, ((Keep.refl h0 [ch]).trans K1 (allS (Or.inl (List.mem_of_getElem? (i := 0) rfl)) all0)), Vc1⟩

theorem d18_0 : decode jdk_41_method_12_code 0 = .ok (.iload_n 0, 1) := by decide +kernel
theorem d18_1 : decode jdk_41_method_12_code 1 = .ok (.ifCond .lt 13, 3) := by decide +kernel
theorem d18_4 : decode jdk_41_method_12_code 4 = .ok (.iload_n 0, 1) := by decide +kernel
theorem d18_5 : decode jdk_41_method_12_code 5 = .ok (.iload_n 1, 1) := by decide +kernel
theorem d18_6 : decode jdk_41_method_12_code 6 = .ok (.if_icmp .gt 8, 3) := by decide +kernel
theorem d18_9 : decode jdk_41_method_12_code 9 = .ok (.iload_n 1, 1) := by decide +kernel
theorem d18_10 : decode jdk_41_method_12_code 10 = .ok (.iload_n 2, 1) := by decide +kernel
theorem d18_11 : decode jdk_41_method_12_code 11 = .ok (.if_icmp .le 11, 3) := by decide +kernel
theorem d18_22 : decode jdk_41_method_12_code 22 = .ok (.iload_n 0, 1) := by decide +kernel
theorem d18_23 : decode jdk_41_method_12_code 23 = .ok (.ireturn, 1) := by decide +kernel
theorem own_pn1 : plainName "jdk/internal/util/Preconditions" = true := by first | (simp [plainName, overriddenIn]; done) | decide +kernel
def Q_cfti (Z : State) (nn : Int32) (fz : Value) (h0 : Heap) (n0 : Nat) (v : Option Value) (h : Heap) (L : List Loc) : Prop := v = some (.int (0 : Int32)) ∧ Fr n0 L ∧ h = h0
set_option maxRecDepth 65536 in
set_option maxHeartbeats 40000000 in
theorem rm_cfti (l : Launch) (Z : State) (a0 : Array Value) (hw : ∀ d ∈ tables_1, d.before a0 Z = true) (ws : List Jvm.Cond) (nn : Int32) (fz : Value) (h0 : Heap) (n0 : Nat) (Z0 : n0 ≤ h0.size) (hz : ¬ nn < 0) (rfz : Rf fz) :
    MetFree l (⟨"jdk/internal/util/Preconditions", "checkFromToIndex", "(IIILjava/util/function/BiFunction;)I"⟩ : MethodName) (head1 (Jvm.Cond.code (⟨"jdk/internal/util/Preconditions", "checkFromToIndex", "(IIILjava/util/function/BiFunction;)I"⟩ : MethodName) jdk_41_method_12_code 4 (some .int) :: ws) ({ frames := 0, cells := 0, slots := 0, locals := 0 } : Room)) (fun aa_ U => aa_ = #[(.int (0 : Int32)), (.int nn), (.int nn), fz] ∧ Z.Warmed39 U.vm ∧ U.heap = h0) (fun _ _ _ _ _ => True) (fun _ U o_ U' => RetG U (Q_cfti Z nn fz h0 n0) 0 0 U' o_) := by
  refine MetFree.of_bodySF (plainFor_of_name own_pn1) hisR ?_
  intro p e s m args below meth c_ s₁ Bd hml0 hP hK
  obtain ⟨rfl, hZ, hh⟩ := hP
  have hx := Bd.exec
  have hby := Bd.bytes
  have hml : c_.maxLocals = 4 := hml0
  have hown : s.vm.findClass "jdk/internal/util/Preconditions" = some m.cls := findClass_of_methodNamed Bd.named
  have hnm := (name_of_methodNamed Bd.named Bd.method).1
  have X0 : Stand p l e ({ frames := 0, cells := 0, slots := 0, locals := 0 } : Room) s m #[(.int (0 : Int32)), (.int nn), (.int nn), fz] below meth c_ s₁ [] 0 0 := Stand.of_body Bd
  have e0 : s₁.heap = h0 := by rw [← hh, Bd.state]; rfl
  have N0 := Fr.nil n0
  show Go p e below (RetG s (Q_cfti Z nn fz h0 n0) 0 0) (s₁.setTop (entryFrame m #[(.int (0 : Int32)), (.int nn), (.int nn), fz] 4))
  rw [show entryFrame m #[(.int (0 : Int32)), (.int nn), (.int nn), fz] 4 = mkF m 0 #[.val (.int (0 : Int32)), .val (.int nn), .val (.int nn), .val fz] [] from by rcases rfz with rfl | ⟨_, rfl⟩ <;> first | (simp [entryFrame, mkF, argsToLocals, Value.category]; done) | rfl]
  refine g_iloadN X0 hx hby d18_0 rfl ?_
  refine g_ifN X0 hx hby d18_1 (flt (by decide : ¬ ((0 : Int32) < (0 : Int32)))).1 ?_
  refine g_iloadN X0 hx hby d18_4 rfl ?_
  refine g_iloadN X0 hx hby d18_5 rfl ?_
  refine g_icN X0 hx hby d18_6 (flt (hz : ¬ (nn < (0 : Int32)))).2.2.1 ?_
  refine g_iloadN X0 hx hby d18_9 rfl ?_
  refine g_iloadN X0 hx hby d18_10 rfl ?_
  refine g_icY X0 hx hby 22 d18_11 (flt ((fun q => absurd q (by rw [Int32.lt_iff_toInt_lt]; omega)) : ¬ (nn < nn))).2.2.2 (by decide) (by decide) ?_
  refine g_iloadN X0 hx hby d18_22 rfl ?_
  refine g_iret X0 hx hby Bd.returns Bd.notSynchronized d18_23 e0 (by decide) (by decide) ?_
  show (Q_cfti Z nn fz h0 n0) (some (.int (0 : Int32))) _ _
  exact ⟨rfl, N0, rfl⟩

theorem d17_0 : decode jdk_42_method_158_code 0 = .ok (.iload_n 0, 1) := by decide +kernel
theorem d17_1 : decode jdk_42_method_158_code 1 = .ok (.iload_n 1, 1) := by decide +kernel
theorem d17_2 : decode jdk_42_method_158_code 2 = .ok (.iload_n 2, 1) := by decide +kernel
theorem d17_3 : decode jdk_42_method_158_code 3 = .ok (.getstatic 1053, 3) := by decide +kernel
theorem d17_6 : decode jdk_42_method_158_code 6 = .ok (.invokestatic 1062, 3) := by decide +kernel
theorem own_pd1 : parseMethodDescriptor "(IIILjava/util/function/BiFunction;)I" = some ⟨[.int, .int, .int, (.object "java/util/function/BiFunction")], some .int⟩ := by decide +kernel
theorem d17_9 : decode jdk_42_method_158_code 9 = .ok (.pop, 1) := by decide +kernel
theorem d17_10 : decode jdk_42_method_158_code 10 = .ok (.return_, 1) := by decide +kernel
theorem own_pn2 : plainName "java/lang/String" = true := by first | (simp [plainName, overriddenIn]; done) | decide +kernel
def Q_cbbe (Z : State) (nn : Int32) (fz : Value) (h0 : Heap) (n0 : Nat) (v : Option Value) (h : Heap) (L : List Loc) : Prop := v = none ∧ Fr n0 L ∧ h = h0
set_option maxRecDepth 65536 in
set_option maxHeartbeats 40000000 in
theorem rm_cbbe (l : Launch) (Z : State) (a0 : Array Value) (hw : ∀ d ∈ tables_1, d.before a0 Z = true) (ws : List Jvm.Cond) (nn : Int32) (fz : Value) (h0 : Heap) (n0 : Nat) (Z0 : n0 ≤ h0.size) (hz : ¬ nn < 0) (rfz : Rf fz) (O4 : Sta Z Z.heap "jdk/internal/util/Preconditions" "SIOOBE_FORMATTER" "Ljava/util/function/BiFunction;" fz) (OLD : Old Z n0 h0) :
    MetFree l (⟨"java/lang/String", "checkBoundsBeginEnd", "(III)V"⟩ : MethodName) (head1 (Jvm.Cond.code (⟨"java/lang/String", "checkBoundsBeginEnd", "(III)V"⟩ : MethodName) jdk_42_method_158_code 3 none :: ws) ({ frames := 1, cells := 0, slots := 0, locals := 15 } : Room)) (fun aa_ U => aa_ = #[(.int (0 : Int32)), (.int nn), (.int nn)] ∧ Z.Warmed39 U.vm ∧ U.heap = h0) (fun _ _ _ _ _ => True) (fun _ U o_ U' => RetG U (Q_cbbe Z nn fz h0 n0) 0 0 U' o_) := by
  refine MetFree.of_bodySF (plainFor_of_name own_pn2) hisR ?_
  intro p e s m args below meth c_ s₁ Bd hml0 hP hK
  obtain ⟨rfl, hZ, hh⟩ := hP
  have hx := Bd.exec
  have hby := Bd.bytes
  have hml : c_.maxLocals = 3 := hml0
  have hown : s.vm.findClass "java/lang/String" = some m.cls := findClass_of_methodNamed Bd.named
  have hnm := (name_of_methodNamed Bd.named Bd.method).1
  have X0 : Stand p l e ({ frames := 1, cells := 0, slots := 0, locals := 15 } : Room) s m #[(.int (0 : Int32)), (.int nn), (.int nn)] below meth c_ s₁ [] 0 0 := Stand.of_body Bd
  have e0 : s₁.heap = h0 := by rw [← hh, Bd.state]; rfl
  have N0 := Fr.nil n0
  have w92_ := hw _ (List.mem_of_getElem? (i := 92) rfl)
  have w93_ := hw _ (List.mem_of_getElem? (i := 93) rfl)
  have w94_ := hw _ (List.mem_of_getElem? (i := 94) rfl)
  have w95_ := hw _ (List.mem_of_getElem? (i := 95) rfl)
  have w96_ := hw _ (List.mem_of_getElem? (i := 96) rfl)
  show Go p e below (RetG s (Q_cbbe Z nn fz h0 n0) 0 0) (s₁.setTop (entryFrame m #[(.int (0 : Int32)), (.int nn), (.int nn)] 3))
  rw [show entryFrame m #[(.int (0 : Int32)), (.int nn), (.int nn)] 3 = mkF m 0 #[.val (.int (0 : Int32)), .val (.int nn), .val (.int nn)] [] from by first | (simp [entryFrame, mkF, argsToLocals, Value.category]; done) | rfl]
  refine g_iloadN X0 hx hby d17_0 rfl ?_
  refine g_iloadN X0 hx hby d17_1 rfl ?_
  refine g_iloadN X0 hx hby d17_2 rfl ?_
  refine g_getS X0 hx hby hZ hown (host := "") (Or.inl w92_) Via.refl e0 (O4.ext OLD.2) d17_3 (fun T1 X1 e1 => ?_)
  refine g_static X1 hx hby hZ hown (rm_cfti l Z a0 hw [] nn fz h0 n0 Z0 hz rfz) w94_ w95_ w93_ w96_ (by decide) e1 (by rw [hml]; rfl) [(.int (0 : Int32)), (.int nn), (.int nn), fz] (lenOf own_pd1 rfl) rfl rfl (Nat.le_of_ble_eq_true rfl) (Nat.le_of_ble_eq_true rfl) (Nat.le_of_ble_eq_true rfl) (Nat.le_of_ble_eq_true rfl) d17_6 (fun v2 T2 L2 X2 hQ2 => ?_)
  obtain ⟨rfl, N2q, eh2⟩ := hQ2
  have N2 := Fr.app N0 N2q
  refine g_pop X2 hx hby d17_9 rfl ?_
  refine g_ret X2 hx hby Bd.returns Bd.notSynchronized d17_10 eh2 (by decide) (by decide) ?_
  show (Q_cbbe Z nn fz h0 n0) none _ _
  exact ⟨rfl, N2, rfl⟩

theorem d20_0 : decode jdk_41_method_13_code 0 = .ok (.iload_n 2, 1) := by decide +kernel
theorem d20_1 : decode jdk_41_method_13_code 1 = .ok (.iload_n 0, 1) := by decide +kernel
theorem d20_2 : decode jdk_41_method_13_code 2 = .ok (.ior, 1) := by decide +kernel
theorem d20_3 : decode jdk_41_method_13_code 3 = .ok (.iload_n 1, 1) := by decide +kernel
theorem d20_4 : decode jdk_41_method_13_code 4 = .ok (.ior, 1) := by decide +kernel
theorem d20_5 : decode jdk_41_method_13_code 5 = .ok (.ifCond .lt 10, 3) := by decide +kernel
theorem d20_8 : decode jdk_41_method_13_code 8 = .ok (.iload_n 1, 1) := by decide +kernel
theorem d20_9 : decode jdk_41_method_13_code 9 = .ok (.iload_n 2, 1) := by decide +kernel
theorem d20_10 : decode jdk_41_method_13_code 10 = .ok (.iload_n 0, 1) := by decide +kernel
theorem d20_11 : decode jdk_41_method_13_code 11 = .ok (.isub, 1) := by decide +kernel
theorem d20_12 : decode jdk_41_method_13_code 12 = .ok (.if_icmp .le 11, 3) := by decide +kernel
theorem d20_23 : decode jdk_41_method_13_code 23 = .ok (.iload_n 0, 1) := by decide +kernel
theorem d20_24 : decode jdk_41_method_13_code 24 = .ok (.ireturn, 1) := by decide +kernel
def Q_cfis (Z : State) (off : Int32) (nn : Int32) (cap : Int32) (fz : Value) (h0 : Heap) (n0 : Nat) (v : Option Value) (h : Heap) (L : List Loc) : Prop := v = some (.int off) ∧ Fr n0 L ∧ h = h0
set_option maxRecDepth 65536 in
set_option maxHeartbeats 40000000 in
theorem rm_cfis (l : Launch) (Z : State) (a0 : Array Value) (hw : ∀ d ∈ tables_1, d.before a0 Z = true) (ws : List Jvm.Cond) (off : Int32) (nn : Int32) (cap : Int32) (fz : Value) (h0 : Heap) (n0 : Nat) (Z0 : n0 ≤ h0.size) (ho : 0 ≤ off.toInt) (hz : 0 ≤ nn.toInt) (hcap : off.toInt + nn.toInt ≤ cap.toInt) (rfz : Rf fz) :
    MetFree l (⟨"jdk/internal/util/Preconditions", "checkFromIndexSize", "(IIILjava/util/function/BiFunction;)I"⟩ : MethodName) (head1 (Jvm.Cond.code (⟨"jdk/internal/util/Preconditions", "checkFromIndexSize", "(IIILjava/util/function/BiFunction;)I"⟩ : MethodName) jdk_41_method_13_code 4 (some .int) :: ws) ({ frames := 0, cells := 0, slots := 0, locals := 0 } : Room)) (fun aa_ U => aa_ = #[(.int off), (.int nn), (.int cap), fz] ∧ Z.Warmed39 U.vm ∧ U.heap = h0) (fun _ _ _ _ _ => True) (fun _ U o_ U' => RetG U (Q_cfis Z off nn cap fz h0 n0) 0 0 U' o_) := by
  refine MetFree.of_bodySF (plainFor_of_name own_pn1) hisR ?_
  intro p e s m args below meth c_ s₁ Bd hml0 hP hK
  obtain ⟨rfl, hZ, hh⟩ := hP
  have hx := Bd.exec
  have hby := Bd.bytes
  have hml : c_.maxLocals = 4 := hml0
  have hown : s.vm.findClass "jdk/internal/util/Preconditions" = some m.cls := findClass_of_methodNamed Bd.named
  have hnm := (name_of_methodNamed Bd.named Bd.method).1
  have X0 : Stand p l e ({ frames := 0, cells := 0, slots := 0, locals := 0 } : Room) s m #[(.int off), (.int nn), (.int cap), fz] below meth c_ s₁ [] 0 0 := Stand.of_body Bd
  have e0 : s₁.heap = h0 := by rw [← hh, Bd.state]; rfl
  have N0 := Fr.nil n0
  show Go p e below (RetG s (Q_cfis Z off nn cap fz h0 n0) 0 0) (s₁.setTop (entryFrame m #[(.int off), (.int nn), (.int cap), fz] 4))
  rw [show entryFrame m #[(.int off), (.int nn), (.int cap), fz] 4 = mkF m 0 #[.val (.int off), .val (.int nn), .val (.int cap), .val fz] [] from by rcases rfz with rfl | ⟨_, rfl⟩ <;> first | (simp [entryFrame, mkF, argsToLocals, Value.category]; done) | rfl]
  refine g_iloadN X0 hx hby d20_0 rfl ?_
  refine g_iloadN X0 hx hby d20_1 rfl ?_
  refine g_ior X0 hx hby d20_2 ?_
  refine g_iloadN X0 hx hby d20_3 rfl ?_
  refine g_ior X0 hx hby d20_4 ?_
  refine g_ifN X0 hx hby d20_5 (flt (own_or3 (by omega) ho hz : ¬ (((cap ||| off) ||| nn) < (0 : Int32)))).1 ?_
  refine g_iloadN X0 hx hby d20_8 rfl ?_
  refine g_iloadN X0 hx hby d20_9 rfl ?_
  refine g_iloadN X0 hx hby d20_10 rfl ?_
  refine g_isub X0 hx hby d20_11 ?_
  refine g_icY X0 hx hby 23 d20_12 (flt (own_fits ho hz hcap : ¬ ((cap - off) < nn))).2.2.2 (by decide) (by decide) ?_
  refine g_iloadN X0 hx hby d20_23 rfl ?_
  refine g_iret X0 hx hby Bd.returns Bd.notSynchronized d20_24 e0 (by decide) (by decide) ?_
  show (Q_cfis Z off nn cap fz h0 n0) (some (.int off)) _ _
  exact ⟨rfl, N0, rfl⟩

theorem d19_0 : decode jdk_42_method_157_code 0 = .ok (.iload_n 0, 1) := by decide +kernel
theorem d19_1 : decode jdk_42_method_157_code 1 = .ok (.iload_n 1, 1) := by decide +kernel
theorem d19_2 : decode jdk_42_method_157_code 2 = .ok (.iload_n 2, 1) := by decide +kernel
theorem d19_3 : decode jdk_42_method_157_code 3 = .ok (.getstatic 1053, 3) := by decide +kernel
theorem d19_6 : decode jdk_42_method_157_code 6 = .ok (.invokestatic 1065, 3) := by decide +kernel
theorem d19_9 : decode jdk_42_method_157_code 9 = .ok (.ireturn, 1) := by decide +kernel
def Q_cboc (Z : State) (off : Int32) (nn : Int32) (cap : Int32) (fz : Value) (h0 : Heap) (n0 : Nat) (v : Option Value) (h : Heap) (L : List Loc) : Prop := v = some (.int off) ∧ Fr n0 L ∧ h = h0
set_option maxRecDepth 65536 in
set_option maxHeartbeats 40000000 in
theorem rm_cboc (l : Launch) (Z : State) (a0 : Array Value) (hw : ∀ d ∈ tables_1, d.before a0 Z = true) (ws : List Jvm.Cond) (off : Int32) (nn : Int32) (cap : Int32) (fz : Value) (h0 : Heap) (n0 : Nat) (Z0 : n0 ≤ h0.size) (ho : 0 ≤ off.toInt) (hz : 0 ≤ nn.toInt) (hcap : off.toInt + nn.toInt ≤ cap.toInt) (rfz : Rf fz) (O4 : Sta Z Z.heap "jdk/internal/util/Preconditions" "SIOOBE_FORMATTER" "Ljava/util/function/BiFunction;" fz) (OLD : Old Z n0 h0) :
    MetFree l (⟨"java/lang/String", "checkBoundsOffCount", "(III)I"⟩ : MethodName) (head1 (Jvm.Cond.code (⟨"java/lang/String", "checkBoundsOffCount", "(III)I"⟩ : MethodName) jdk_42_method_157_code 3 (some .int) :: ws) ({ frames := 1, cells := 0, slots := 0, locals := 15 } : Room)) (fun aa_ U => aa_ = #[(.int off), (.int nn), (.int cap)] ∧ Z.Warmed39 U.vm ∧ U.heap = h0) (fun _ _ _ _ _ => True) (fun _ U o_ U' => RetG U (Q_cboc Z off nn cap fz h0 n0) 0 0 U' o_) := by
  refine MetFree.of_bodySF (plainFor_of_name own_pn2) hisR ?_
  intro p e s m args below meth c_ s₁ Bd hml0 hP hK
  obtain ⟨rfl, hZ, hh⟩ := hP
  have hx := Bd.exec
  have hby := Bd.bytes
  have hml : c_.maxLocals = 3 := hml0
  have hown : s.vm.findClass "java/lang/String" = some m.cls := findClass_of_methodNamed Bd.named
  have hnm := (name_of_methodNamed Bd.named Bd.method).1
  have X0 : Stand p l e ({ frames := 1, cells := 0, slots := 0, locals := 15 } : Room) s m #[(.int off), (.int nn), (.int cap)] below meth c_ s₁ [] 0 0 := Stand.of_body Bd
  have e0 : s₁.heap = h0 := by rw [← hh, Bd.state]; rfl
  have N0 := Fr.nil n0
  have w92_ := hw _ (List.mem_of_getElem? (i := 92) rfl)
  have w93_ := hw _ (List.mem_of_getElem? (i := 93) rfl)
  have w100_ := hw _ (List.mem_of_getElem? (i := 100) rfl)
  have w101_ := hw _ (List.mem_of_getElem? (i := 101) rfl)
  have w102_ := hw _ (List.mem_of_getElem? (i := 102) rfl)
  show Go p e below (RetG s (Q_cboc Z off nn cap fz h0 n0) 0 0) (s₁.setTop (entryFrame m #[(.int off), (.int nn), (.int cap)] 3))
  rw [show entryFrame m #[(.int off), (.int nn), (.int cap)] 3 = mkF m 0 #[.val (.int off), .val (.int nn), .val (.int cap)] [] from by first | (simp [entryFrame, mkF, argsToLocals, Value.category]; done) | rfl]
  refine g_iloadN X0 hx hby d19_0 rfl ?_
  refine g_iloadN X0 hx hby d19_1 rfl ?_
  refine g_iloadN X0 hx hby d19_2 rfl ?_
  refine g_getS X0 hx hby hZ hown (host := "") (Or.inl w92_) Via.refl e0 (O4.ext OLD.2) d19_3 (fun T1 X1 e1 => ?_)
  refine g_static X1 hx hby hZ hown (rm_cfis l Z a0 hw [] off nn cap fz h0 n0 Z0 ho hz hcap rfz) w100_ w101_ w93_ w102_ (by decide) e1 (by rw [hml]; rfl) [(.int off), (.int nn), (.int cap), fz] (lenOf own_pd1 rfl) rfl rfl (Nat.le_of_ble_eq_true rfl) (Nat.le_of_ble_eq_true rfl) (Nat.le_of_ble_eq_true rfl) (Nat.le_of_ble_eq_true rfl) d19_6 (fun v2 T2 L2 X2 hQ2 => ?_)
  obtain ⟨rfl, N2q, eh2⟩ := hQ2
  have N2 := Fr.app N0 N2q
  refine g_iret X2 hx hby Bd.returns Bd.notSynchronized d19_9 eh2 (by decide) (by decide) ?_
  show (Q_cboc Z off nn cap fz h0 n0) (some (.int off)) _ _
  exact ⟨rfl, N2, rfl⟩

theorem d12_0 : decode jdk_42_method_152_code 0 = .ok (.getstatic 38, 3) := by decide +kernel
theorem d12_3 : decode jdk_42_method_152_code 3 = .ok (.ifCond .eq 10, 3) := by decide +kernel
theorem d12_6 : decode jdk_42_method_152_code 6 = .ok (.aload_n 0, 1) := by decide +kernel
theorem d12_7 : decode jdk_42_method_152_code 7 = .ok (.getfield 15, 3) := by decide +kernel
theorem d12_10 : decode jdk_42_method_152_code 10 = .ok (.goto 4, 3) := by decide +kernel
theorem d12_14 : decode jdk_42_method_152_code 14 = .ok (.ireturn, 1) := by decide +kernel
def Q_coder (Z : State) (a : Addr) (cd : Int32) (cz : Int32) (h0 : Heap) (n0 : Nat) (v : Option Value) (h : Heap) (L : List Loc) : Prop := v = some (.int (nar .byte cd)) ∧ Fr n0 L ∧ h = h0
set_option maxRecDepth 65536 in
set_option maxHeartbeats 40000000 in
theorem rm_coder (l : Launch) (Z : State) (a0 : Array Value) (hw : ∀ d ∈ tables_1, d.before a0 Z = true) (ws : List Jvm.Cond) (a : Addr) (cd : Int32) (cz : Int32) (h0 : Heap) (n0 : Nat) (Z0 : n0 ≤ h0.size) (O2 : Sta Z Z.heap "java/lang/String" "COMPACT_STRINGS" "Z" (.int cz)) (P5 : ¬ cz = (0 : Int32)) (OLD : Old Z n0 h0) (C : Fld Z h0 a "java/lang/String" "coder" "B" (.int cd)) :
    MetFree l (⟨"java/lang/String", "coder", "()B"⟩ : MethodName) (head1 (Jvm.Cond.code (⟨"java/lang/String", "coder", "()B"⟩ : MethodName) jdk_42_method_152_code 1 (some .byte) :: ws) ({ frames := 0, cells := 0, slots := 0, locals := 0 } : Room)) (fun aa_ U => aa_ = #[(.ref a)] ∧ Z.Warmed39 U.vm ∧ U.heap = h0) (fun _ _ _ _ _ => True) (fun _ U o_ U' => RetG U (Q_coder Z a cd cz h0 n0) 0 0 U' o_) := by
  refine MetFree.of_bodySF (plainFor_of_name own_pn2) hisR ?_
  intro p e s m args below meth c_ s₁ Bd hml0 hP hK
  obtain ⟨rfl, hZ, hh⟩ := hP
  have hx := Bd.exec
  have hby := Bd.bytes
  have hml : c_.maxLocals = 1 := hml0
  have hown : s.vm.findClass "java/lang/String" = some m.cls := findClass_of_methodNamed Bd.named
  have hnm := (name_of_methodNamed Bd.named Bd.method).1
  have X0 : Stand p l e ({ frames := 0, cells := 0, slots := 0, locals := 0 } : Room) s m #[(.ref a)] below meth c_ s₁ [] 0 0 := Stand.of_body Bd
  have e0 : s₁.heap = h0 := by rw [← hh, Bd.state]; rfl
  have N0 := Fr.nil n0
  have w14_ := hw _ (List.mem_of_getElem? (i := 14) rfl)
  have w26_ := hw _ (List.mem_of_getElem? (i := 26) rfl)
  show Go p e below (RetG s (Q_coder Z a cd cz h0 n0) 0 0) (s₁.setTop (entryFrame m #[(.ref a)] 1))
  rw [show entryFrame m #[(.ref a)] 1 = mkF m 0 #[.val (.ref a)] [] from by first | (simp [entryFrame, mkF, argsToLocals, Value.category]; done) | rfl]
  refine g_getS X0 hx hby hZ hown (host := "") (Or.inl w14_) Via.refl e0 (O2.ext OLD.2) d12_0 (fun T1 X1 e1 => ?_)
  refine g_ifN X1 hx hby d12_3 (feq (P5 : ¬ (cz = (0 : Int32)))).1 ?_
  refine g_aloadN X1 hx hby d12_6 rfl rfl ?_
  refine g_getF X1 hx hby hZ hown (host := "") (Or.inl w26_) Via.refl e1 C d12_7 (fun T2 X2 e2 => ?_)
  refine g_goto X2 hx hby 14 d12_10 (by decide) (by decide) ?_
  refine g_nret X2 hx hby (t := .byte) (by simp) Bd.returns Bd.notSynchronized d12_14 e2 (by decide) (by decide) ?_
  show (Q_coder Z a cd cz h0 n0) (some (.int (nar .byte cd))) _ _
  exact ⟨rfl, N0, rfl⟩

theorem d11_0 : decode jdk_42_method_54_code 0 = .ok (.aload_n 0, 1) := by decide +kernel
theorem d11_1 : decode jdk_42_method_54_code 1 = .ok (.getfield 9, 3) := by decide +kernel
theorem d11_4 : decode jdk_42_method_54_code 4 = .ok (.arraylength, 1) := by decide +kernel
theorem d11_5 : decode jdk_42_method_54_code 5 = .ok (.aload_n 0, 1) := by decide +kernel
theorem d11_6 : decode jdk_42_method_54_code 6 = .ok (.invokevirtual 335, 3) := by decide +kernel
theorem own_pd2 : parseMethodDescriptor "()B" = some ⟨[], some .byte⟩ := by decide +kernel
theorem d11_9 : decode jdk_42_method_54_code 9 = .ok (.ishr, 1) := by decide +kernel
theorem d11_10 : decode jdk_42_method_54_code 10 = .ok (.ireturn, 1) := by decide +kernel
def Q_slen_2 (Z : State) (a : Addr) (b : Addr) (kb : ClassId) (bs : List Value) (cz : Int32) (h0 : Heap) (n0 : Nat) (v : Option Value) (h : Heap) (L : List Loc) : Prop := v = some (.int (2 : Int32)) ∧ Fr n0 L ∧ h = h0
set_option maxRecDepth 65536 in
set_option maxHeartbeats 40000000 in
theorem rm_slen_2 (l : Launch) (Z : State) (a0 : Array Value) (hw : ∀ d ∈ tables_1, d.before a0 Z = true) (ws : List Jvm.Cond) (a : Addr) (b : Addr) (kb : ClassId) (bs : List Value) (cz : Int32) (h0 : Heap) (n0 : Nat) (Z0 : n0 ≤ h0.size) (O2 : Sta Z Z.heap "java/lang/String" "COMPACT_STRINGS" "Z" (.int cz)) (P5 : ¬ cz = (0 : Int32)) (OLD : Old Z n0 h0) (E : Exa Z h0 a "java/lang/String") (C : Fld Z h0 a "java/lang/String" "coder" "B" (.int (0 : Int32))) (VF : Fld Z h0 a "java/lang/String" "value" "[B" (.ref b)) (VB : Arv Z h0 b kb .byte (2 : Int32) bs (.int (0 : Int32))) :
    MetFree l (⟨"java/lang/String", "length", "()I"⟩ : MethodName) (head1 (Jvm.Cond.code (⟨"java/lang/String", "length", "()I"⟩ : MethodName) jdk_42_method_54_code 1 (some .int) :: ws) ({ frames := 1, cells := 0, slots := 0, locals := 13 } : Room)) (fun aa_ U => aa_ = #[(.ref a)] ∧ Z.Warmed39 U.vm ∧ U.heap = h0) (fun _ _ _ _ _ => True) (fun _ U o_ U' => RetG U (Q_slen_2 Z a b kb bs cz h0 n0) 0 0 U' o_) := by
  refine MetFree.of_bodySF (plainFor_of_name own_pn2) hisR ?_
  intro p e s m args below meth c_ s₁ Bd hml0 hP hK
  obtain ⟨rfl, hZ, hh⟩ := hP
  have hx := Bd.exec
  have hby := Bd.bytes
  have hml : c_.maxLocals = 1 := hml0
  have hown : s.vm.findClass "java/lang/String" = some m.cls := findClass_of_methodNamed Bd.named
  have hnm := (name_of_methodNamed Bd.named Bd.method).1
  have X0 : Stand p l e ({ frames := 1, cells := 0, slots := 0, locals := 13 } : Room) s m #[(.ref a)] below meth c_ s₁ [] 0 0 := Stand.of_body Bd
  have e0 : s₁.heap = h0 := by rw [← hh, Bd.state]; rfl
  have N0 := Fr.nil n0
  have w3_ := hw _ (List.mem_of_getElem? (i := 3) rfl)
  have w28_ := hw _ (List.mem_of_getElem? (i := 28) rfl)
  have w63_ := hw _ (List.mem_of_getElem? (i := 63) rfl)
  have w64_ := hw _ (List.mem_of_getElem? (i := 64) rfl)
  have w65_ := hw _ (List.mem_of_getElem? (i := 65) rfl)
  have w66_ := hw _ (List.mem_of_getElem? (i := 66) rfl)
  have w67_ := hw _ (List.mem_of_getElem? (i := 67) rfl)
  show Go p e below (RetG s (Q_slen_2 Z a b kb bs cz h0 n0) 0 0) (s₁.setTop (entryFrame m #[(.ref a)] 1))
  rw [show entryFrame m #[(.ref a)] 1 = mkF m 0 #[.val (.ref a)] [] from by first | (simp [entryFrame, mkF, argsToLocals, Value.category]; done) | rfl]
  refine g_aloadN X0 hx hby d11_0 rfl rfl ?_
  refine g_getF X0 hx hby hZ hown (host := "") (Or.inl w28_) Via.refl e0 VF d11_1 (fun T1 X1 e1 => ?_)
  refine g_arraylength X1 hx hby hZ e1 VB d11_4 ?_
  refine g_aloadN X1 hx hby d11_5 rfl rfl ?_
  refine g_virtual X1 hx hby hZ hown (rm_coder l Z a0 hw [] a (0 : Int32) cz h0 n0 Z0 O2 P5 OLD C) w63_ w64_ (notFace_of_selects (args := #[]) (mvT hZ w66_)) w66_ w65_ w3_ w67_ (by decide) e1 E (by rw [hml]; rfl) [] (lenOf own_pd2 rfl) rfl rfl (Nat.le_of_ble_eq_true rfl) (Nat.le_of_ble_eq_true rfl) (Nat.le_of_ble_eq_true rfl) (Nat.le_of_ble_eq_true rfl) d11_6 (fun v2 T2 L2 X2 hQ2 => ?_)
  obtain ⟨rfl, N2q, eh2⟩ := hQ2
  have N2 := Fr.app N0 N2q
  refine g_topI (T := T2) (0 : Int32) (by decide) ?_
  refine g_ishr X2 hx hby d11_9 ?_
  refine g_topI (2 : Int32) (by decide) ?_
  refine g_iret X2 hx hby Bd.returns Bd.notSynchronized d11_10 eh2 (by decide) (by decide) ?_
  show (Q_slen_2 Z a b kb bs cz h0 n0) (some (.int (2 : Int32))) _ _
  exact ⟨rfl, N2, rfl⟩

theorem d21_0 : decode jdk_42_method_154_code 0 = .ok (.getstatic 38, 3) := by decide +kernel
theorem d21_3 : decode jdk_42_method_154_code 3 = .ok (.ifCond .eq 14, 3) := by decide +kernel
theorem d21_6 : decode jdk_42_method_154_code 6 = .ok (.aload_n 0, 1) := by decide +kernel
theorem d21_7 : decode jdk_42_method_154_code 7 = .ok (.getfield 15, 3) := by decide +kernel
theorem d21_10 : decode jdk_42_method_154_code 10 = .ok (.ifCond .ne 7, 3) := by decide +kernel
theorem d21_13 : decode jdk_42_method_154_code 13 = .ok (.iconst 1, 1) := by decide +kernel
theorem d21_14 : decode jdk_42_method_154_code 14 = .ok (.goto 4, 3) := by decide +kernel
theorem d21_18 : decode jdk_42_method_154_code 18 = .ok (.ireturn, 1) := by decide +kernel
def Q_islat (Z : State) (a : Addr) (cz : Int32) (h0 : Heap) (n0 : Nat) (v : Option Value) (h : Heap) (L : List Loc) : Prop := v = some (.int (1 : Int32)) ∧ Fr n0 L ∧ h = h0
set_option maxRecDepth 65536 in
set_option maxHeartbeats 40000000 in
theorem rm_islat (l : Launch) (Z : State) (a0 : Array Value) (hw : ∀ d ∈ tables_1, d.before a0 Z = true) (ws : List Jvm.Cond) (a : Addr) (cz : Int32) (h0 : Heap) (n0 : Nat) (Z0 : n0 ≤ h0.size) (O2 : Sta Z Z.heap "java/lang/String" "COMPACT_STRINGS" "Z" (.int cz)) (P5 : ¬ cz = (0 : Int32)) (OLD : Old Z n0 h0) (C : Fld Z h0 a "java/lang/String" "coder" "B" (.int (0 : Int32))) :
    MetFree l (⟨"java/lang/String", "isLatin1", "()Z"⟩ : MethodName) (head1 (Jvm.Cond.code (⟨"java/lang/String", "isLatin1", "()Z"⟩ : MethodName) jdk_42_method_154_code 1 (some .boolean) :: ws) ({ frames := 0, cells := 0, slots := 0, locals := 0 } : Room)) (fun aa_ U => aa_ = #[(.ref a)] ∧ Z.Warmed39 U.vm ∧ U.heap = h0) (fun _ _ _ _ _ => True) (fun _ U o_ U' => RetG U (Q_islat Z a cz h0 n0) 0 0 U' o_) := by
  refine MetFree.of_bodySF (plainFor_of_name own_pn2) hisR ?_
  intro p e s m args below meth c_ s₁ Bd hml0 hP hK
  obtain ⟨rfl, hZ, hh⟩ := hP
  have hx := Bd.exec
  have hby := Bd.bytes
  have hml : c_.maxLocals = 1 := hml0
  have hown : s.vm.findClass "java/lang/String" = some m.cls := findClass_of_methodNamed Bd.named
  have hnm := (name_of_methodNamed Bd.named Bd.method).1
  have X0 : Stand p l e ({ frames := 0, cells := 0, slots := 0, locals := 0 } : Room) s m #[(.ref a)] below meth c_ s₁ [] 0 0 := Stand.of_body Bd
  have e0 : s₁.heap = h0 := by rw [← hh, Bd.state]; rfl
  have N0 := Fr.nil n0
  have w14_ := hw _ (List.mem_of_getElem? (i := 14) rfl)
  have w26_ := hw _ (List.mem_of_getElem? (i := 26) rfl)
  show Go p e below (RetG s (Q_islat Z a cz h0 n0) 0 0) (s₁.setTop (entryFrame m #[(.ref a)] 1))
  rw [show entryFrame m #[(.ref a)] 1 = mkF m 0 #[.val (.ref a)] [] from by first | (simp [entryFrame, mkF, argsToLocals, Value.category]; done) | rfl]
  refine g_getS X0 hx hby hZ hown (host := "") (Or.inl w14_) Via.refl e0 (O2.ext OLD.2) d21_0 (fun T1 X1 e1 => ?_)
  refine g_ifN X1 hx hby d21_3 (feq (P5 : ¬ (cz = (0 : Int32)))).1 ?_
  refine g_aloadN X1 hx hby d21_6 rfl rfl ?_
  refine g_getF X1 hx hby hZ hown (host := "") (Or.inl w26_) Via.refl e1 C d21_7 (fun T2 X2 e2 => ?_)
  refine g_ifN X2 hx hby d21_10 (teq (by decide : (0 : Int32) = (0 : Int32))).2 ?_
  refine g_iconst X2 hx hby (1 : Int32) d21_13 rfl ?_
  refine g_goto X2 hx hby 18 d21_14 (by decide) (by decide) ?_
  refine g_nret X2 hx hby (t := .boolean) (by simp) Bd.returns Bd.notSynchronized d21_18 e2 (by decide) (by decide) ?_
  show (Q_islat Z a cz h0 n0) (some (.int (1 : Int32))) _ _
  exact ⟨rfl, N0, rfl⟩

theorem d16_0 : decode jdk_42_method_61_code 0 = .ok (.iload_n 1, 1) := by decide +kernel
theorem d16_1 : decode jdk_42_method_61_code 1 = .ok (.iload_n 2, 1) := by decide +kernel
theorem d16_2 : decode jdk_42_method_61_code 2 = .ok (.aload_n 0, 1) := by decide +kernel
theorem d16_3 : decode jdk_42_method_61_code 3 = .ok (.invokevirtual 505, 3) := by decide +kernel
theorem own_pd3 : parseMethodDescriptor "()I" = some ⟨[], some .int⟩ := by decide +kernel
theorem d16_6 : decode jdk_42_method_61_code 6 = .ok (.invokestatic 521, 3) := by decide +kernel
theorem own_pd4 : parseMethodDescriptor "(III)V" = some ⟨[.int, .int, .int], none⟩ := by decide +kernel
theorem d16_9 : decode jdk_42_method_61_code 9 = .ok (.iload 4, 2) := by decide +kernel
theorem d16_11 : decode jdk_42_method_61_code 11 = .ok (.iload_n 2, 1) := by decide +kernel
theorem d16_12 : decode jdk_42_method_61_code 12 = .ok (.iload_n 1, 1) := by decide +kernel
theorem d16_13 : decode jdk_42_method_61_code 13 = .ok (.isub, 1) := by decide +kernel
theorem d16_14 : decode jdk_42_method_61_code 14 = .ok (.aload_n 3, 1) := by decide +kernel
theorem d16_15 : decode jdk_42_method_61_code 15 = .ok (.arraylength, 1) := by decide +kernel
theorem d16_16 : decode jdk_42_method_61_code 16 = .ok (.invokestatic 34, 3) := by decide +kernel
theorem own_pd5 : parseMethodDescriptor "(III)I" = some ⟨[.int, .int, .int], some .int⟩ := by decide +kernel
theorem d16_19 : decode jdk_42_method_61_code 19 = .ok (.pop, 1) := by decide +kernel
theorem d16_20 : decode jdk_42_method_61_code 20 = .ok (.aload_n 0, 1) := by decide +kernel
theorem d16_21 : decode jdk_42_method_61_code 21 = .ok (.invokevirtual 492, 3) := by decide +kernel
theorem own_pd6 : parseMethodDescriptor "()Z" = some ⟨[], some .boolean⟩ := by decide +kernel
theorem d16_24 : decode jdk_42_method_61_code 24 = .ok (.ifCond .eq 18, 3) := by decide +kernel
theorem d16_27 : decode jdk_42_method_61_code 27 = .ok (.aload_n 0, 1) := by decide +kernel
theorem d16_28 : decode jdk_42_method_61_code 28 = .ok (.getfield 9, 3) := by decide +kernel
theorem d16_31 : decode jdk_42_method_61_code 31 = .ok (.iload_n 1, 1) := by decide +kernel
theorem d16_32 : decode jdk_42_method_61_code 32 = .ok (.iload_n 2, 1) := by decide +kernel
theorem d16_33 : decode jdk_42_method_61_code 33 = .ok (.aload_n 3, 1) := by decide +kernel
theorem d16_34 : decode jdk_42_method_61_code 34 = .ok (.iload 4, 2) := by decide +kernel
theorem d16_36 : decode jdk_42_method_61_code 36 = .ok (.invokestatic 525, 3) := by decide +kernel
theorem own_pd7 : parseMethodDescriptor "([BII[CI)V" = some ⟨[(.array .byte), .int, .int, (.array .char), .int], none⟩ := by decide +kernel
theorem d16_39 : decode jdk_42_method_61_code 39 = .ok (.goto 15, 3) := by decide +kernel
theorem d16_54 : decode jdk_42_method_61_code 54 = .ok (.return_, 1) := by decide +kernel
def Q_getcU (Z : State) (a : Addr) (b : Addr) (kb : ClassId) (ch : Addr) (kc : ClassId) (vc : List Value) (x0 : Int32) (x1 : Int32) (cz : Int32) (fz : Value) (h0 : Heap) (n0 : Nat) (v : Option Value) (h : Heap) (L : List Loc) : Prop := v = none ∧ Fr n0 L ∧ Keep h0 h [ch] ∧ Arv Z h ch kc .char (1024 : Int32) ((vc.set 0 (.int x0)).set 1 (.int x1)) (.int (0 : Int32))
set_option maxRecDepth 65536 in
set_option maxHeartbeats 40000000 in
theorem rm_getcU (l : Launch) (Z : State) (a0 : Array Value) (hw : ∀ d ∈ tables_1, d.before a0 Z = true) (ws : List Jvm.Cond) (a : Addr) (b : Addr) (kb : ClassId) (ch : Addr) (kc : ClassId) (vc : List Value) (x0 : Int32) (x1 : Int32) (cz : Int32) (fz : Value) (h0 : Heap) (n0 : Nat) (Z0 : n0 ≤ h0.size) (O2 : Sta Z Z.heap "java/lang/String" "COMPACT_STRINGS" "Z" (.int cz)) (P5 : ¬ cz = (0 : Int32)) (OLD : Old Z n0 h0) (rfz : Rf fz) (O4 : Sta Z Z.heap "jdk/internal/util/Preconditions" "SIOOBE_FORMATTER" "Ljava/util/function/BiFunction;" fz) (E : Exa Z h0 a "java/lang/String") (C : Fld Z h0 a "java/lang/String" "coder" "B" (.int (0 : Int32))) (VF : Fld Z h0 a "java/lang/String" "value" "[B" (.ref b)) (VB : Arv Z h0 b kb .byte (2 : Int32) [(.int (nar .byte (x0.toInt8.toInt32))), (.int (nar .byte (x1.toInt8.toInt32)))] (.int (0 : Int32))) (VC : Arv Z h0 ch kc .char (1024 : Int32) vc (.int (0 : Int32))) (hl : 2 ≤ vc.length) (gc : n0 ≤ ch) (nbc : b ≠ ch) (hr0 : 0 ≤ x0.toInt ∧ x0.toInt ≤ 255) (hr1 : 0 ≤ x1.toInt ∧ x1.toInt ≤ 255) :
    MetFree l (⟨"java/lang/String", "getChars", "(II[CI)V"⟩ : MethodName) (head1 (Jvm.Cond.code (⟨"java/lang/String", "getChars", "(II[CI)V"⟩ : MethodName) jdk_42_method_61_code 5 none :: ws) ({ frames := 2, cells := 0, slots := 0, locals := 33 } : Room)) (fun aa_ U => aa_ = #[(.ref a), (.int (0 : Int32)), (.int (2 : Int32)), (.ref ch), (.int (0 : Int32))] ∧ Z.Warmed39 U.vm ∧ U.heap = h0) (fun _ _ _ _ _ => True) (fun _ U o_ U' => RetG U (Q_getcU Z a b kb ch kc vc x0 x1 cz fz h0 n0) 0 0 U' o_) := by
  refine MetFree.of_bodySF (plainFor_of_name own_pn2) hisR ?_
  intro p e s m args below meth c_ s₁ Bd hml0 hP hK
  obtain ⟨rfl, hZ, hh⟩ := hP
  have hx := Bd.exec
  have hby := Bd.bytes
  have hml : c_.maxLocals = 5 := hml0
  have hown : s.vm.findClass "java/lang/String" = some m.cls := findClass_of_methodNamed Bd.named
  have hnm := (name_of_methodNamed Bd.named Bd.method).1
  have X0 : Stand p l e ({ frames := 2, cells := 0, slots := 0, locals := 33 } : Room) s m #[(.ref a), (.int (0 : Int32)), (.int (2 : Int32)), (.ref ch), (.int (0 : Int32))] below meth c_ s₁ [] 0 0 := Stand.of_body Bd
  have e0 : s₁.heap = h0 := by rw [← hh, Bd.state]; rfl
  have N0 := Fr.nil n0
  have w3_ := hw _ (List.mem_of_getElem? (i := 3) rfl)
  have w28_ := hw _ (List.mem_of_getElem? (i := 28) rfl)
  have w59_ := hw _ (List.mem_of_getElem? (i := 59) rfl)
  have w60_ := hw _ (List.mem_of_getElem? (i := 60) rfl)
  have w61_ := hw _ (List.mem_of_getElem? (i := 61) rfl)
  have w62_ := hw _ (List.mem_of_getElem? (i := 62) rfl)
  have w88_ := hw _ (List.mem_of_getElem? (i := 88) rfl)
  have w89_ := hw _ (List.mem_of_getElem? (i := 89) rfl)
  have w90_ := hw _ (List.mem_of_getElem? (i := 90) rfl)
  have w91_ := hw _ (List.mem_of_getElem? (i := 91) rfl)
  have w97_ := hw _ (List.mem_of_getElem? (i := 97) rfl)
  have w98_ := hw _ (List.mem_of_getElem? (i := 98) rfl)
  have w99_ := hw _ (List.mem_of_getElem? (i := 99) rfl)
  have w103_ := hw _ (List.mem_of_getElem? (i := 103) rfl)
  have w104_ := hw _ (List.mem_of_getElem? (i := 104) rfl)
  have w105_ := hw _ (List.mem_of_getElem? (i := 105) rfl)
  have w106_ := hw _ (List.mem_of_getElem? (i := 106) rfl)
  have w107_ := hw _ (List.mem_of_getElem? (i := 107) rfl)
  have w108_ := hw _ (List.mem_of_getElem? (i := 108) rfl)
  have w109_ := hw _ (List.mem_of_getElem? (i := 109) rfl)
  have w110_ := hw _ (List.mem_of_getElem? (i := 110) rfl)
  have w111_ := hw _ (List.mem_of_getElem? (i := 111) rfl)
  show Go p e below (RetG s (Q_getcU Z a b kb ch kc vc x0 x1 cz fz h0 n0) 0 0) (s₁.setTop (entryFrame m #[(.ref a), (.int (0 : Int32)), (.int (2 : Int32)), (.ref ch), (.int (0 : Int32))] 5))
  rw [show entryFrame m #[(.ref a), (.int (0 : Int32)), (.int (2 : Int32)), (.ref ch), (.int (0 : Int32))] 5 = mkF m 0 #[.val (.ref a), .val (.int (0 : Int32)), .val (.int (2 : Int32)), .val (.ref ch), .val (.int (0 : Int32))] [] from by first | (simp [entryFrame, mkF, argsToLocals, Value.category]; done) | rfl]
  refine g_iloadN X0 hx hby d16_0 rfl ?_
  refine g_iloadN X0 hx hby d16_1 rfl ?_
  refine g_aloadN X0 hx hby d16_2 rfl rfl ?_
  refine g_virtual X0 hx hby hZ hown (rm_slen_2 l Z a0 hw [] a b kb [(.int (nar .byte (x0.toInt8.toInt32))), (.int (nar .byte (x1.toInt8.toInt32)))] cz h0 n0 Z0 O2 P5 OLD E C VF VB) w88_ w59_ (notFace_of_selects (args := #[]) (mvT hZ w61_)) w61_ w60_ w3_ w62_ (by decide) e0 E (by rw [hml]; rfl) [] (lenOf own_pd3 rfl) rfl rfl (Nat.le_of_ble_eq_true rfl) (Nat.le_of_ble_eq_true rfl) (Nat.le_of_ble_eq_true rfl) (Nat.le_of_ble_eq_true rfl) d16_3 (fun v1 T1 L1 X1 hQ1 => ?_)
  obtain ⟨rfl, N1q, eh1⟩ := hQ1
  have N1 := Fr.app N0 N1q
  refine g_static X1 hx hby hZ hown (rm_cbbe l Z a0 hw [] (2 : Int32) fz h0 n0 Z0 (by decide) rfz O4 OLD) w89_ w90_ w3_ w91_ (by decide) eh1 (by rw [hml]; rfl) [(.int (0 : Int32)), (.int (2 : Int32)), (.int (2 : Int32))] (lenOf own_pd4 rfl) rfl rfl (Nat.le_of_ble_eq_true rfl) (Nat.le_of_ble_eq_true rfl) (Nat.le_of_ble_eq_true rfl) (Nat.le_of_ble_eq_true rfl) d16_6 (fun v2 T2 L2 X2 hQ2 => ?_)
  obtain ⟨rfl, N2q, eh2⟩ := hQ2
  have N2 := Fr.app N1 N2q
  refine g_iload X2 hx hby d16_9 rfl ?_
  refine g_iloadN X2 hx hby d16_11 rfl ?_
  refine g_iloadN X2 hx hby d16_12 rfl ?_
  refine g_isub X2 hx hby d16_13 ?_
  refine g_topI (2 : Int32) (by decide) ?_
  refine g_aloadN X2 hx hby d16_14 rfl rfl ?_
  refine g_arraylength X2 hx hby hZ eh2 VC d16_15 ?_
  refine g_static X2 hx hby hZ hown (rm_cboc l Z a0 hw [] (0 : Int32) (2 : Int32) (1024 : Int32) fz h0 n0 Z0 (by decide) (by decide) (by decide) rfz O4 OLD) w97_ w98_ w3_ w99_ (by decide) eh2 (by rw [hml]; rfl) [(.int (0 : Int32)), (.int (2 : Int32)), (.int (1024 : Int32))] (lenOf own_pd5 rfl) rfl rfl (Nat.le_of_ble_eq_true rfl) (Nat.le_of_ble_eq_true rfl) (Nat.le_of_ble_eq_true rfl) (Nat.le_of_ble_eq_true rfl) d16_16 (fun v3 T3 L3 X3 hQ3 => ?_)
  obtain ⟨rfl, N3q, eh3⟩ := hQ3
  have N3 := Fr.app N2 N3q
  refine g_at 19 rfl rfl rfl ?_
  refine g_pop X3 hx hby d16_19 rfl ?_
  refine g_aloadN X3 hx hby d16_20 rfl rfl ?_
  refine g_virtual X3 hx hby hZ hown (rm_islat l Z a0 hw [] a cz h0 n0 Z0 O2 P5 OLD C) w103_ w104_ (notFace_of_selects (args := #[]) (mvT hZ w106_)) w106_ w105_ w3_ w107_ (by decide) eh3 E (by rw [hml]; rfl) [] (lenOf own_pd6 rfl) rfl rfl (Nat.le_of_ble_eq_true rfl) (Nat.le_of_ble_eq_true rfl) (Nat.le_of_ble_eq_true rfl) (Nat.le_of_ble_eq_true rfl) d16_21 (fun v4 T4 L4 X4 hQ4 => ?_)
  obtain ⟨rfl, N4q, eh4⟩ := hQ4
  have N4 := Fr.app N3 N4q
  refine g_ifN X4 hx hby d16_24 (feq (by decide : ¬ ((1 : Int32) = (0 : Int32)))).1 ?_
  refine g_aloadN X4 hx hby d16_27 rfl rfl ?_
  refine g_getF X4 hx hby hZ hown (host := "") (Or.inl w28_) Via.refl eh4 VF d16_28 (fun T5 X5 e5 => ?_)
  refine g_iloadN X5 hx hby d16_31 rfl ?_
  refine g_iloadN X5 hx hby d16_32 rfl ?_
  refine g_aloadN X5 hx hby d16_33 rfl rfl ?_
  refine g_iload X5 hx hby d16_34 rfl ?_
  refine g_static X5 hx hby hZ hown (rm_lgetcU l Z a0 hw [] b kb ch kc vc x0 x1 h0 n0 Z0 VB VC hl gc nbc hr0 hr1) w108_ w109_ w110_ w111_ (by decide) e5 (by rw [hml]; rfl) [(.ref b), (.int (0 : Int32)), (.int (2 : Int32)), (.ref ch), (.int (0 : Int32))] (lenOf own_pd7 rfl) rfl rfl (Nat.le_of_ble_eq_true rfl) (Nat.le_of_ble_eq_true rfl) (Nat.le_of_ble_eq_true rfl) (Nat.le_of_ble_eq_true rfl) d16_36 (fun v6 T6 L6 X6 hQ6 => ?_)
  obtain ⟨rfl, N6q, K6, Vc6⟩ := hQ6
  have N6 := Fr.app N4 N6q
  refine g_goto X6 hx hby 54 d16_39 (by decide) (by decide) ?_
  refine g_ret X6 hx hby Bd.returns Bd.notSynchronized d16_54 rfl (by decide) (by decide) ?_
  show (Q_getcU Z a b kb ch kc vc x0 x1 cz fz h0 n0) none _ _
  exact ⟨rfl, N6, ((Keep.refl h0 [ch]).trans K6 (allS (Or.inl (List.mem_of_getElem? (i := 0) rfl)) all0)), Vc6⟩

theorem d10_0 : decode prog_79_method_12_code 0 = .ok (.iload_n 1, 1) := by decide +kernel
theorem d10_1 : decode prog_79_method_12_code 1 = .ok (.ifCond .ne 7, 3) := by decide +kernel
theorem d10_4 : decode prog_79_method_12_code 4 = .ok (.iconst 0, 1) := by decide +kernel
theorem d10_5 : decode prog_79_method_12_code 5 = .ok (.goto 11, 3) := by decide +kernel
theorem d10_16 : decode prog_79_method_12_code 16 = .ok (.ireturn, 1) := by decide +kernel
theorem own_pn3 : plainName "com/example/invix/invix/sort/KeyBuffer" = true := by first | (simp [plainName, overriddenIn]; done) | decide +kernel
def Q_start_0 (Z : State) (ko : Addr) (h0 : Heap) (n0 : Nat) (v : Option Value) (h : Heap) (L : List Loc) : Prop := v = some (.int (0 : Int32)) ∧ Fr n0 L ∧ h = h0
set_option maxRecDepth 65536 in
set_option maxHeartbeats 40000000 in
theorem rm_start_0 (l : Launch) (Z : State) (a0 : Array Value) (hw : ∀ d ∈ tables_1, d.before a0 Z = true) (ws : List Jvm.Cond) (ko : Addr) (h0 : Heap) (n0 : Nat) (Z0 : n0 ≤ h0.size) :
    MetFree l (⟨"com/example/invix/invix/sort/KeyBuffer", "start", "(I)I"⟩ : MethodName) (head1 (Jvm.Cond.code (⟨"com/example/invix/invix/sort/KeyBuffer", "start", "(I)I"⟩ : MethodName) prog_79_method_12_code 2 (some .int) :: ws) ({ frames := 0, cells := 0, slots := 0, locals := 0 } : Room)) (fun aa_ U => aa_ = #[(.ref ko), (.int (0 : Int32))] ∧ Z.Warmed39 U.vm ∧ U.heap = h0) (fun _ _ _ _ _ => True) (fun _ U o_ U' => RetG U (Q_start_0 Z ko h0 n0) 0 0 U' o_) := by
  refine MetFree.of_bodySF (plainFor_of_name own_pn3) hisR ?_
  intro p e s m args below meth c_ s₁ Bd hml0 hP hK
  obtain ⟨rfl, hZ, hh⟩ := hP
  have hx := Bd.exec
  have hby := Bd.bytes
  have hml : c_.maxLocals = 2 := hml0
  have hown : s.vm.findClass "com/example/invix/invix/sort/KeyBuffer" = some m.cls := findClass_of_methodNamed Bd.named
  have hnm := (name_of_methodNamed Bd.named Bd.method).1
  have X0 : Stand p l e ({ frames := 0, cells := 0, slots := 0, locals := 0 } : Room) s m #[(.ref ko), (.int (0 : Int32))] below meth c_ s₁ [] 0 0 := Stand.of_body Bd
  have e0 : s₁.heap = h0 := by rw [← hh, Bd.state]; rfl
  have N0 := Fr.nil n0
  show Go p e below (RetG s (Q_start_0 Z ko h0 n0) 0 0) (s₁.setTop (entryFrame m #[(.ref ko), (.int (0 : Int32))] 2))
  rw [show entryFrame m #[(.ref ko), (.int (0 : Int32))] 2 = mkF m 0 #[.val (.ref ko), .val (.int (0 : Int32))] [] from by first | (simp [entryFrame, mkF, argsToLocals, Value.category]; done) | rfl]
  refine g_iloadN X0 hx hby d10_0 rfl ?_
  refine g_ifN X0 hx hby d10_1 (teq (by decide : (0 : Int32) = (0 : Int32))).2 ?_
  refine g_iconst X0 hx hby (0 : Int32) d10_4 rfl ?_
  refine g_goto X0 hx hby 16 d10_5 (by decide) (by decide) ?_
  refine g_iret X0 hx hby Bd.returns Bd.notSynchronized d10_16 e0 (by decide) (by decide) ?_
  show (Q_start_0 Z ko h0 n0) (some (.int (0 : Int32))) _ _
  exact ⟨rfl, N0, rfl⟩

theorem d9_0 : decode prog_79_method_2_code 0 = .ok (.aload_n 0, 1) := by decide +kernel
theorem d9_1 : decode prog_79_method_2_code 1 = .ok (.aload_n 0, 1) := by decide +kernel
theorem d9_2 : decode prog_79_method_2_code 2 = .ok (.getfield 12, 3) := by decide +kernel
theorem d9_5 : decode prog_79_method_2_code 5 = .ok (.invokevirtual 16, 3) := by decide +kernel
theorem own_pd8 : parseMethodDescriptor "(I)I" = some ⟨[.int], some .int⟩ := by decide +kernel
theorem d9_8 : decode prog_79_method_2_code 8 = .ok (.istore_n 2, 1) := by decide +kernel
theorem d9_9 : decode prog_79_method_2_code 9 = .ok (.iload_n 2, 1) := by decide +kernel
theorem d9_10 : decode prog_79_method_2_code 10 = .ok (.aload_n 1, 1) := by decide +kernel
theorem d9_11 : decode prog_79_method_2_code 11 = .ok (.invokevirtual 20, 3) := by decide +kernel
theorem d9_14 : decode prog_79_method_2_code 14 = .ok (.iadd, 1) := by decide +kernel
theorem d9_15 : decode prog_79_method_2_code 15 = .ok (.istore_n 3, 1) := by decide +kernel
theorem d9_16 : decode prog_79_method_2_code 16 = .ok (.iload_n 3, 1) := by decide +kernel
theorem d9_17 : decode prog_79_method_2_code 17 = .ok (.aload_n 0, 1) := by decide +kernel
theorem d9_18 : decode prog_79_method_2_code 18 = .ok (.getfield 26, 3) := by decide +kernel
theorem d9_21 : decode prog_79_method_2_code 21 = .ok (.arraylength, 1) := by decide +kernel
theorem d9_22 : decode prog_79_method_2_code 22 = .ok (.if_icmp .le 25, 3) := by decide +kernel
theorem d9_47 : decode prog_79_method_2_code 47 = .ok (.aload_n 1, 1) := by decide +kernel
theorem d9_48 : decode prog_79_method_2_code 48 = .ok (.iconst 0, 1) := by decide +kernel
theorem d9_49 : decode prog_79_method_2_code 49 = .ok (.aload_n 1, 1) := by decide +kernel
theorem d9_50 : decode prog_79_method_2_code 50 = .ok (.invokevirtual 20, 3) := by decide +kernel
theorem d9_53 : decode prog_79_method_2_code 53 = .ok (.aload_n 0, 1) := by decide +kernel
theorem d9_54 : decode prog_79_method_2_code 54 = .ok (.getfield 26, 3) := by decide +kernel
theorem d9_57 : decode prog_79_method_2_code 57 = .ok (.iload_n 2, 1) := by decide +kernel
theorem d9_58 : decode prog_79_method_2_code 58 = .ok (.invokevirtual 42, 3) := by decide +kernel
theorem own_pd9 : parseMethodDescriptor "(II[CI)V" = some ⟨[.int, .int, (.array .char), .int], none⟩ := by decide +kernel
theorem d9_61 : decode prog_79_method_2_code 61 = .ok (.aload_n 0, 1) := by decide +kernel
theorem d9_62 : decode prog_79_method_2_code 62 = .ok (.getfield 12, 3) := by decide +kernel
theorem d9_65 : decode prog_79_method_2_code 65 = .ok (.aload_n 0, 1) := by decide +kernel
theorem d9_66 : decode prog_79_method_2_code 66 = .ok (.getfield 46, 3) := by decide +kernel
theorem d9_69 : decode prog_79_method_2_code 69 = .ok (.arraylength, 1) := by decide +kernel
theorem d9_70 : decode prog_79_method_2_code 70 = .ok (.if_icmp .ne 20, 3) := by decide +kernel
theorem d9_90 : decode prog_79_method_2_code 90 = .ok (.aload_n 0, 1) := by decide +kernel
theorem d9_91 : decode prog_79_method_2_code 91 = .ok (.getfield 46, 3) := by decide +kernel
theorem d9_94 : decode prog_79_method_2_code 94 = .ok (.aload_n 0, 1) := by decide +kernel
theorem d9_95 : decode prog_79_method_2_code 95 = .ok (.getfield 12, 3) := by decide +kernel
theorem d9_98 : decode prog_79_method_2_code 98 = .ok (.iload_n 3, 1) := by decide +kernel
theorem d9_99 : decode prog_79_method_2_code 99 = .ok (.iastore, 1) := by decide +kernel
theorem d9_100 : decode prog_79_method_2_code 100 = .ok (.aload_n 0, 1) := by decide +kernel
theorem d9_101 : decode prog_79_method_2_code 101 = .ok (.dup, 1) := by decide +kernel
theorem d9_102 : decode prog_79_method_2_code 102 = .ok (.getfield 12, 3) := by decide +kernel
theorem d9_105 : decode prog_79_method_2_code 105 = .ok (.dup_x1, 1) := by decide +kernel
theorem d9_106 : decode prog_79_method_2_code 106 = .ok (.iconst 1, 1) := by decide +kernel
theorem d9_107 : decode prog_79_method_2_code 107 = .ok (.iadd, 1) := by decide +kernel
theorem d9_108 : decode prog_79_method_2_code 108 = .ok (.putfield 12, 3) := by decide +kernel
theorem d9_111 : decode prog_79_method_2_code 111 = .ok (.ireturn, 1) := by decide +kernel
def Q_addU (Z : State) (ko : Addr) (en : Addr) (ke : ClassId) (ve : List Value) (a : Addr) (b : Addr) (kb : ClassId) (ch : Addr) (kc : ClassId) (vc : List Value) (x0 : Int32) (x1 : Int32) (cz : Int32) (fz : Value) (h0 : Heap) (n0 : Nat) (v : Option Value) (h : Heap) (L : List Loc) : Prop := v = some (.int (0 : Int32)) ∧ Fr n0 L ∧ Keep h0 h [ko, ch, en] ∧ Exa Z h ko "com/example/invix/invix/sort/KeyBuffer" ∧ Fld Z h ko "com/example/invix/invix/sort/KeyBuffer" "characters" "[C" (.ref ch) ∧ Fld Z h ko "com/example/invix/invix/sort/KeyBuffer" "ends" "[I" (.ref en) ∧ Fld Z h ko "com/example/invix/invix/sort/KeyBuffer" "count" "I" (.int (1 : Int32)) ∧ Arv Z h ch kc .char (1024 : Int32) ((vc.set 0 (.int x0)).set 1 (.int x1)) (.int (0 : Int32)) ∧ Arv Z h en ke .int (128 : Int32) (ve.set 0 (.int (2 : Int32))) (.int (0 : Int32))
set_option maxRecDepth 65536 in
set_option maxHeartbeats 40000000 in
theorem rm_addU (l : Launch) (Z : State) (a0 : Array Value) (hw : ∀ d ∈ tables_1, d.before a0 Z = true) (ws : List Jvm.Cond) (ko : Addr) (en : Addr) (ke : ClassId) (ve : List Value) (a : Addr) (b : Addr) (kb : ClassId) (ch : Addr) (kc : ClassId) (vc : List Value) (x0 : Int32) (x1 : Int32) (cz : Int32) (fz : Value) (h0 : Heap) (n0 : Nat) (Z0 : n0 ≤ h0.size) (O2 : Sta Z Z.heap "java/lang/String" "COMPACT_STRINGS" "Z" (.int cz)) (P5 : ¬ cz = (0 : Int32)) (OLD : Old Z n0 h0) (rfz : Rf fz) (O4 : Sta Z Z.heap "jdk/internal/util/Preconditions" "SIOOBE_FORMATTER" "Ljava/util/function/BiFunction;" fz) (E : Exa Z h0 a "java/lang/String") (C : Fld Z h0 a "java/lang/String" "coder" "B" (.int (0 : Int32))) (VF : Fld Z h0 a "java/lang/String" "value" "[B" (.ref b)) (VB : Arv Z h0 b kb .byte (2 : Int32) [(.int (nar .byte (x0.toInt8.toInt32))), (.int (nar .byte (x1.toInt8.toInt32)))] (.int (0 : Int32))) (VC : Arv Z h0 ch kc .char (1024 : Int32) vc (.int (0 : Int32))) (hl : 2 ≤ vc.length) (gc : n0 ≤ ch) (nbc : b ≠ ch) (hr0 : 0 ≤ x0.toInt ∧ x0.toInt ≤ 255) (hr1 : 0 ≤ x1.toInt ∧ x1.toInt ≤ 255) (KE : Exa Z h0 ko "com/example/invix/invix/sort/KeyBuffer") (F1 : Fld Z h0 ko "com/example/invix/invix/sort/KeyBuffer" "characters" "[C" (.ref ch)) (F2 : Fld Z h0 ko "com/example/invix/invix/sort/KeyBuffer" "ends" "[I" (.ref en)) (F3 : Fld Z h0 ko "com/example/invix/invix/sort/KeyBuffer" "count" "I" (.int (0 : Int32))) (VE : Arv Z h0 en ke .int (128 : Int32) ve (.int (0 : Int32))) (hve : 128 ≤ ve.length) (gk : n0 ≤ ko) (gen : n0 ≤ en) (nce : ch ≠ en) :
    MetFree l (⟨"com/example/invix/invix/sort/KeyBuffer", "add", "(Ljava/lang/String;)I"⟩ : MethodName) (head1 (Jvm.Cond.code (⟨"com/example/invix/invix/sort/KeyBuffer", "add", "(Ljava/lang/String;)I"⟩ : MethodName) prog_79_method_2_code 4 (some .int) :: ws) ({ frames := 3, cells := 0, slots := 0, locals := 49 } : Room)) (fun aa_ U => aa_ = #[(.ref ko), (.ref a)] ∧ Z.Warmed39 U.vm ∧ U.heap = h0) (fun _ _ _ _ _ => True) (fun _ U o_ U' => RetG U (Q_addU Z ko en ke ve a b kb ch kc vc x0 x1 cz fz h0 n0) 0 0 U' o_) := by
  refine MetFree.of_bodySF (plainFor_of_name own_pn3) hisR ?_
  intro p e s m args below meth c_ s₁ Bd hml0 hP hK
  obtain ⟨rfl, hZ, hh⟩ := hP
  have hx := Bd.exec
  have hby := Bd.bytes
  have hml : c_.maxLocals = 4 := hml0
  have hown : s.vm.findClass "com/example/invix/invix/sort/KeyBuffer" = some m.cls := findClass_of_methodNamed Bd.named
  have hnm := (name_of_methodNamed Bd.named Bd.method).1
  have X0 : Stand p l e ({ frames := 3, cells := 0, slots := 0, locals := 49 } : Room) s m #[(.ref ko), (.ref a)] below meth c_ s₁ [] 0 0 := Stand.of_body Bd
  have e0 : s₁.heap = h0 := by rw [← hh, Bd.state]; rfl
  have N0 := Fr.nil n0
  have w3_ := hw _ (List.mem_of_getElem? (i := 3) rfl)
  have w31_ := hw _ (List.mem_of_getElem? (i := 31) rfl)
  have w32_ := hw _ (List.mem_of_getElem? (i := 32) rfl)
  have w42_ := hw _ (List.mem_of_getElem? (i := 42) rfl)
  have w43_ := hw _ (List.mem_of_getElem? (i := 43) rfl)
  have w45_ := hw _ (List.mem_of_getElem? (i := 45) rfl)
  have w46_ := hw _ (List.mem_of_getElem? (i := 46) rfl)
  have w47_ := hw _ (List.mem_of_getElem? (i := 47) rfl)
  have w48_ := hw _ (List.mem_of_getElem? (i := 48) rfl)
  have w54_ := hw _ (List.mem_of_getElem? (i := 54) rfl)
  have w55_ := hw _ (List.mem_of_getElem? (i := 55) rfl)
  have w56_ := hw _ (List.mem_of_getElem? (i := 56) rfl)
  have w57_ := hw _ (List.mem_of_getElem? (i := 57) rfl)
  have w58_ := hw _ (List.mem_of_getElem? (i := 58) rfl)
  have w59_ := hw _ (List.mem_of_getElem? (i := 59) rfl)
  have w60_ := hw _ (List.mem_of_getElem? (i := 60) rfl)
  have w61_ := hw _ (List.mem_of_getElem? (i := 61) rfl)
  have w62_ := hw _ (List.mem_of_getElem? (i := 62) rfl)
  have w83_ := hw _ (List.mem_of_getElem? (i := 83) rfl)
  have w84_ := hw _ (List.mem_of_getElem? (i := 84) rfl)
  have w85_ := hw _ (List.mem_of_getElem? (i := 85) rfl)
  have w86_ := hw _ (List.mem_of_getElem? (i := 86) rfl)
  have w87_ := hw _ (List.mem_of_getElem? (i := 87) rfl)
  show Go p e below (RetG s (Q_addU Z ko en ke ve a b kb ch kc vc x0 x1 cz fz h0 n0) 0 0) (s₁.setTop (entryFrame m #[(.ref ko), (.ref a)] 4))
  rw [show entryFrame m #[(.ref ko), (.ref a)] 4 = mkF m 0 #[.val (.ref ko), .val (.ref a), .unset, .unset] [] from by first | (simp [entryFrame, mkF, argsToLocals, Value.category]; done) | rfl]
  refine g_aloadN X0 hx hby d9_0 rfl rfl ?_
  refine g_aloadN X0 hx hby d9_1 rfl rfl ?_
  refine g_getF X0 hx hby hZ hown (host := "") (Or.inl w47_) Via.refl e0 F3 d9_2 (fun T1 X1 e1 => ?_)
  refine g_private X1 hx hby hZ hown (rm_start_0 l Z a0 hw [] ko h0 n0 Z0 ) w54_ w55_ w31_ w56_ w32_ w57_ (by decide) e1 KE (by rw [hml]; rfl) [(.int (0 : Int32))] (lenOf own_pd8 rfl) rfl rfl (Nat.le_of_ble_eq_true rfl) (Nat.le_of_ble_eq_true rfl) (Nat.le_of_ble_eq_true rfl) (Nat.le_of_ble_eq_true rfl) d9_5 (fun v2 T2 L2 X2 hQ2 => ?_)
  obtain ⟨rfl, N2q, eh2⟩ := hQ2
  have N2 := Fr.app N0 N2q
  refine g_istoreN X2 hx hby d9_8 (l' := #[.val (.ref ko), .val (.ref a), .val (.int (0 : Int32)), .unset]) rfl ?_
  refine g_iloadN X2 hx hby d9_9 rfl ?_
  refine g_aloadN X2 hx hby d9_10 rfl rfl ?_
  refine g_virtual X2 hx hby hZ hown (rm_slen_2 l Z a0 hw [] a b kb [(.int (nar .byte (x0.toInt8.toInt32))), (.int (nar .byte (x1.toInt8.toInt32)))] cz h0 n0 Z0 O2 P5 OLD E C VF VB) w58_ w59_ (notFace_of_selects (args := #[]) (mvT hZ w61_)) w61_ w60_ w3_ w62_ (by decide) eh2 E (by rw [hml]; rfl) [] (lenOf own_pd3 rfl) rfl rfl (Nat.le_of_ble_eq_true rfl) (Nat.le_of_ble_eq_true rfl) (Nat.le_of_ble_eq_true rfl) (Nat.le_of_ble_eq_true rfl) d9_11 (fun v3 T3 L3 X3 hQ3 => ?_)
  obtain ⟨rfl, N3q, eh3⟩ := hQ3
  have N3 := Fr.app N2 N3q
  refine g_iadd X3 hx hby d9_14 ?_
  refine g_topI (2 : Int32) (by decide) ?_
  refine g_istoreN X3 hx hby d9_15 (l' := #[.val (.ref ko), .val (.ref a), .val (.int (0 : Int32)), .val (.int (2 : Int32))]) rfl ?_
  refine g_iloadN X3 hx hby d9_16 rfl ?_
  refine g_aloadN X3 hx hby d9_17 rfl rfl ?_
  refine g_getF X3 hx hby hZ hown (host := "") (Or.inl w42_) Via.refl eh3 F1 d9_18 (fun T4 X4 e4 => ?_)
  refine g_arraylength X4 hx hby hZ e4 VC d9_21 ?_
  refine g_icY X4 hx hby 47 d9_22 (flt (by decide : ¬ ((1024 : Int32) < (2 : Int32)))).2.2.2 (by decide) (by decide) ?_
  refine g_aloadN X4 hx hby d9_47 rfl rfl ?_
  refine g_iconst X4 hx hby (0 : Int32) d9_48 rfl ?_
  refine g_aloadN X4 hx hby d9_49 rfl rfl ?_
  refine g_virtual X4 hx hby hZ hown (rm_slen_2 l Z a0 hw [] a b kb [(.int (nar .byte (x0.toInt8.toInt32))), (.int (nar .byte (x1.toInt8.toInt32)))] cz h0 n0 Z0 O2 P5 OLD E C VF VB) w58_ w59_ (notFace_of_selects (args := #[]) (mvT hZ w61_)) w61_ w60_ w3_ w62_ (by decide) e4 E (by rw [hml]; rfl) [] (lenOf own_pd3 rfl) rfl rfl (Nat.le_of_ble_eq_true rfl) (Nat.le_of_ble_eq_true rfl) (Nat.le_of_ble_eq_true rfl) (Nat.le_of_ble_eq_true rfl) d9_50 (fun v5 T5 L5 X5 hQ5 => ?_)
  obtain ⟨rfl, N5q, eh5⟩ := hQ5
  have N5 := Fr.app N3 N5q
  refine g_aloadN X5 hx hby d9_53 rfl rfl ?_
  refine g_getF X5 hx hby hZ hown (host := "") (Or.inl w42_) Via.refl eh5 F1 d9_54 (fun T6 X6 e6 => ?_)
  refine g_iloadN X6 hx hby d9_57 rfl ?_
  refine g_virtual X6 hx hby hZ hown (rm_getcU l Z a0 hw [] a b kb ch kc vc x0 x1 cz fz h0 n0 Z0 O2 P5 OLD rfz O4 E C VF VB VC hl gc nbc hr0 hr1) w83_ w84_ (notFace_of_selects (args := #[]) (mvT hZ w86_)) w86_ w85_ w3_ w87_ (by decide) e6 E (by rw [hml]; rfl) [(.int (0 : Int32)), (.int (2 : Int32)), (.ref ch), (.int (0 : Int32))] (lenOf own_pd9 rfl) rfl rfl (Nat.le_of_ble_eq_true rfl) (Nat.le_of_ble_eq_true rfl) (Nat.le_of_ble_eq_true rfl) (Nat.le_of_ble_eq_true rfl) d9_58 (fun v7 T7 L7 X7 hQ7 => ?_)
  obtain ⟨rfl, N7q, K7, Vc7⟩ := hQ7
  have N7 := Fr.app N5 N7q
  refine g_aloadN X7 hx hby d9_61 rfl rfl ?_
  have ne8 : ko ≠ ch := (Exa.neArv (KE.keep K7) Vc7 w31_)
  have f9 := (F3.keep K7 (ninS ne8 nin0))
  refine g_getF X7 hx hby hZ hown (host := "") (Or.inl w47_) Via.refl rfl f9 d9_62 (fun T10 X10 e10 => ?_)
  refine g_aloadN X10 hx hby d9_65 rfl rfl ?_
  have f11 := (F2.keep K7 (ninS ne8 nin0))
  refine g_getF X10 hx hby hZ hown (host := "") (Or.inl w45_) Via.refl e10 f11 d9_66 (fun T12 X12 e12 => ?_)
  have f13 := (VE.keep K7 (ninS (Ne.symm nce) nin0))
  refine g_arraylength X12 hx hby hZ e12 f13 d9_69 ?_
  refine g_icY X12 hx hby 90 d9_70 (feq (by decide : ¬ ((0 : Int32) = (128 : Int32)))).2 (by decide) (by decide) ?_
  refine g_aloadN X12 hx hby d9_90 rfl rfl ?_
  refine g_getF X12 hx hby hZ hown (host := "") (Or.inl w45_) Via.refl e12 f11 d9_91 (fun T14 X14 e14 => ?_)
  refine g_aloadN X14 hx hby d9_94 rfl rfl ?_
  refine g_getF X14 hx hby hZ hown (host := "") (Or.inl w47_) Via.refl e14 f9 d9_95 (fun T15 X15 e15 => ?_)
  refine g_iloadN X15 hx hby d9_98 rfl ?_
  refine g_iastore X15 hx hby hZ e15 f13 0 (ve.set 0 (.int (2 : Int32))) rfl ⟨by decide, by decide⟩ rfl (Nat.lt_of_lt_of_le (by decide) hve) N7 gen d9_99 (fun T16 h16 X16 e16 W16 V16 N16 => ?_)
  refine g_aloadN X16 hx hby d9_100 rfl rfl ?_
  refine g_dup X16 hx hby d9_101 rfl ?_
  have ne17 : ko ≠ en := (Exa.neArv ((KE.keep K7).wr W16) V16 w31_)
  have f18 := (f9.other W16 (Or.inl ne17))
  refine g_getF X16 hx hby hZ hown (host := "") (Or.inl w47_) Via.refl e16 f18 d9_102 (fun T19 X19 e19 => ?_)
  refine g_dup_x1 X19 hx hby d9_105 rfl rfl ?_
  refine g_iconst X19 hx hby (1 : Int32) d9_106 rfl ?_
  refine g_iadd X19 hx hby d9_107 ?_
  refine g_topI (1 : Int32) (by decide) ?_
  have f20 := ((KE.keep K7).wr W16)
  refine g_putF X19 hx hby hZ hown (host := "") (Or.inl w47_) Via.refl e19 f18 f20 (Or.inl w48_) w31_ .int (by decide) rfl rfl N16 gk d9_108 (fun T21 h21 X21 e21 W21 F21 N21 => ?_)
  have f22 := (f20.wr W21)
  have f23 := (((F1.keep K7 (ninS ne8 nin0)).other W16 (Or.inl ne17)).other W21 (Or.inr (slot_ne (Or.inl w43_) (Or.inl w48_) (by decide) (t := (.array .char)) (t' := .int) (by decide) (by decide))))
  have f24 := ((f11.other W16 (Or.inl ne17)).other W21 (Or.inr (slot_ne (Or.inl w46_) (Or.inl w48_) (by decide) (t := (.array .int)) (t' := .int) (by decide) (by decide))))
  have f25 := ((Vc7.other W16 nce).other W21 (Ne.symm ne8))
  have f26 := (V16.other W21 (Ne.symm ne17))
  refine g_iret X21 hx hby Bd.returns Bd.notSynchronized d9_111 e21 (by decide) (by decide) ?_
  show (Q_addU Z ko en ke ve a b kb ch kc vc x0 x1 cz fz h0 n0) (some (.int (0 : Int32))) _ _
  exact ⟨rfl, N21, ((((Keep.refl h0 [ko, ch, en]).trans K7 (allS (Or.inl (List.mem_of_getElem? (i := 1) rfl)) all0)).wr W16 (Or.inl (List.mem_of_getElem? (i := 2) rfl))).wr W21 (Or.inl (List.mem_of_getElem? (i := 0) rfl))), f22, f23, f24, F21, f25, f26⟩

theorem d5_0 : decode jdk_52_method_21_code 0 = .ok (.iconst 0, 1) := by decide +kernel
theorem d5_1 : decode jdk_52_method_21_code 1 = .ok (.istore 5, 2) := by decide +kernel
theorem d5_3 : decode jdk_52_method_21_code 3 = .ok (.iload 5, 2) := by decide +kernel
theorem d5_5 : decode jdk_52_method_21_code 5 = .ok (.iload 4, 2) := by decide +kernel
theorem d5_7 : decode jdk_52_method_21_code 7 = .ok (.if_icmp .ge 37, 3) := by decide +kernel
theorem d5_10 : decode jdk_52_method_21_code 10 = .ok (.aload_n 0, 1) := by decide +kernel
theorem d5_11 : decode jdk_52_method_21_code 11 = .ok (.iload_n 1, 1) := by decide +kernel
theorem d5_12 : decode jdk_52_method_21_code 12 = .ok (.caload, 1) := by decide +kernel
theorem d5_13 : decode jdk_52_method_21_code 13 = .ok (.istore 6, 2) := by decide +kernel
theorem d5_15 : decode jdk_52_method_21_code 15 = .ok (.iload 6, 2) := by decide +kernel
theorem d5_17 : decode jdk_52_method_21_code 17 = .ok (.sipush 255, 3) := by decide +kernel
theorem d5_20 : decode jdk_52_method_21_code 20 = .ok (.if_icmp .le 6, 3) := by decide +kernel
theorem d5_26 : decode jdk_52_method_21_code 26 = .ok (.aload_n 2, 1) := by decide +kernel
theorem d5_27 : decode jdk_52_method_21_code 27 = .ok (.iload_n 3, 1) := by decide +kernel
theorem d5_28 : decode jdk_52_method_21_code 28 = .ok (.iload 6, 2) := by decide +kernel
theorem d5_30 : decode jdk_52_method_21_code 30 = .ok (.i2b, 1) := by decide +kernel
theorem d5_31 : decode jdk_52_method_21_code 31 = .ok (.bastore, 1) := by decide +kernel
theorem d5_32 : decode jdk_52_method_21_code 32 = .ok (.iinc 1 1, 3) := by decide +kernel
theorem d5_35 : decode jdk_52_method_21_code 35 = .ok (.iinc 3 1, 3) := by decide +kernel
theorem d5_38 : decode jdk_52_method_21_code 38 = .ok (.iinc 5 1, 3) := by decide +kernel
theorem d5_41 : decode jdk_52_method_21_code 41 = .ok (.goto (-38), 3) := by decide +kernel
theorem d5_44 : decode jdk_52_method_21_code 44 = .ok (.iload 4, 2) := by decide +kernel
theorem d5_46 : decode jdk_52_method_21_code 46 = .ok (.ireturn, 1) := by decide +kernel
theorem own_pn4 : plainName "java/lang/StringUTF16" = true := by first | (simp [plainName, overriddenIn]; done) | decide +kernel
def Q_cmp5K (Z : State) (ca : Addr) (kc : ClassId) (cs : List Value) (x0 : Int32) (x1 : Int32) (ba : Addr) (kb : ClassId) (h0 : Heap) (n0 : Nat) (v : Option Value) (h : Heap) (L : List Loc) : Prop := v = some (.int (2 : Int32)) ∧ Fr n0 L ∧ Keep h0 h [ba] ∧ Arv Z h ba kb .byte (2 : Int32) [(.int (nar .byte (x0.toInt8.toInt32))), (.int (nar .byte (x1.toInt8.toInt32)))] (.int (0 : Int32))
set_option maxRecDepth 65536 in
set_option maxHeartbeats 40000000 in
theorem rm_cmp5K (l : Launch) (Z : State) (a0 : Array Value) (hw : ∀ d ∈ tables_1, d.before a0 Z = true) (ws : List Jvm.Cond) (ca : Addr) (kc : ClassId) (cs : List Value) (x0 : Int32) (x1 : Int32) (ba : Addr) (kb : ClassId) (h0 : Heap) (n0 : Nat) (Z0 : n0 ≤ h0.size) (VC : Arv Z h0 ca kc .char (1024 : Int32) cs (.int (0 : Int32))) (gd0 : cs.getD 0 (.int (0 : Int32)) = .int x0) (gd1 : cs.getD 1 (.int (0 : Int32)) = .int x1) (hc0 : ¬ (255 : Int32) < x0) (hc1 : ¬ (255 : Int32) < x1) (VB : Arv Z h0 ba kb .byte (2 : Int32) [(.int (0 : Int32)), (.int (0 : Int32))] (.int (0 : Int32))) (nab : ca ≠ ba) (gb : n0 ≤ ba) :
    MetFree l (⟨"java/lang/StringUTF16", "compress", "([CI[BII)I"⟩ : MethodName) (head1 (Jvm.Cond.code (⟨"java/lang/StringUTF16", "compress", "([CI[BII)I"⟩ : MethodName) jdk_52_method_21_code 7 (some .int) :: ws) ({ frames := 0, cells := 0, slots := 0, locals := 0 } : Room)) (fun aa_ U => aa_ = #[(.ref ca), (.int (0 : Int32)), (.ref ba), (.int (0 : Int32)), (.int (2 : Int32))] ∧ Z.Warmed39 U.vm ∧ U.heap = h0) (fun _ _ _ _ _ => True) (fun _ U o_ U' => RetG U (Q_cmp5K Z ca kc cs x0 x1 ba kb h0 n0) 0 0 U' o_) := by
  refine MetFree.of_bodySF (plainFor_of_name own_pn4) hisR ?_
  intro p e s m args below meth c_ s₁ Bd hml0 hP hK
  obtain ⟨rfl, hZ, hh⟩ := hP
  have hx := Bd.exec
  have hby := Bd.bytes
  have hml : c_.maxLocals = 7 := hml0
  have hown : s.vm.findClass "java/lang/StringUTF16" = some m.cls := findClass_of_methodNamed Bd.named
  have hnm := (name_of_methodNamed Bd.named Bd.method).1
  have X0 : Stand p l e ({ frames := 0, cells := 0, slots := 0, locals := 0 } : Room) s m #[(.ref ca), (.int (0 : Int32)), (.ref ba), (.int (0 : Int32)), (.int (2 : Int32))] below meth c_ s₁ [] 0 0 := Stand.of_body Bd
  have e0 : s₁.heap = h0 := by rw [← hh, Bd.state]; rfl
  have N0 := Fr.nil n0
  show Go p e below (RetG s (Q_cmp5K Z ca kc cs x0 x1 ba kb h0 n0) 0 0) (s₁.setTop (entryFrame m #[(.ref ca), (.int (0 : Int32)), (.ref ba), (.int (0 : Int32)), (.int (2 : Int32))] 7))
  rw [show entryFrame m #[(.ref ca), (.int (0 : Int32)), (.ref ba), (.int (0 : Int32)), (.int (2 : Int32))] 7 = mkF m 0 #[.val (.ref ca), .val (.int (0 : Int32)), .val (.ref ba), .val (.int (0 : Int32)), .val (.int (2 : Int32)), .unset, .unset] [] from by first | (simp [entryFrame, mkF, argsToLocals, Value.category]; done) | rfl]
  refine g_iconst X0 hx hby (0 : Int32) d5_0 rfl ?_
  refine g_istore X0 hx hby d5_1 (l' := #[.val (.ref ca), .val (.int (0 : Int32)), .val (.ref ba), .val (.int (0 : Int32)), .val (.int (2 : Int32)), .val (.int (0 : Int32)), .unset]) rfl ?_
  refine g_iload X0 hx hby d5_3 rfl ?_
  refine g_iload X0 hx hby d5_5 rfl ?_
  refine g_icN X0 hx hby d5_7 (tlt (by decide : (0 : Int32) < (2 : Int32))).2.1 ?_
  refine g_aloadN X0 hx hby d5_10 rfl rfl ?_
  refine g_iloadN X0 hx hby d5_11 rfl ?_
  refine g_caload X0 hx hby hZ e0 VC (.int x0) ⟨by decide, by decide⟩ (by exact gd0) d5_12 ?_
  refine g_istore X0 hx hby d5_13 (l' := #[.val (.ref ca), .val (.int (0 : Int32)), .val (.ref ba), .val (.int (0 : Int32)), .val (.int (2 : Int32)), .val (.int (0 : Int32)), .val (.int x0)]) rfl ?_
  refine g_iload X0 hx hby d5_15 rfl ?_
  refine g_sipush X0 hx hby (255 : Int32) d5_17 rfl ?_
  refine g_icY X0 hx hby 26 d5_20 (flt (hc0 : ¬ ((255 : Int32) < x0))).2.2.2 (by decide) (by decide) ?_
  refine g_aloadN X0 hx hby d5_26 rfl rfl ?_
  refine g_iloadN X0 hx hby d5_27 rfl ?_
  refine g_iload X0 hx hby d5_28 rfl ?_
  refine g_i2b X0 hx hby d5_30 ?_
  refine g_bastore X0 hx hby hZ e0 VB 0 [(.int (nar .byte (x0.toInt8.toInt32))), (.int (0 : Int32))] rfl ⟨by decide, by decide⟩ rfl (Nat.le_of_ble_eq_true rfl) N0 gb d5_31 (fun T1 h1 X1 e1 W1 V1 N1 => ?_)
  refine g_iinc X1 hx hby (1 : Int32) d5_32 rfl (by decide) (l' := #[.val (.ref ca), .val (.int (1 : Int32)), .val (.ref ba), .val (.int (0 : Int32)), .val (.int (2 : Int32)), .val (.int (0 : Int32)), .val (.int x0)]) rfl ?_
  refine g_iinc X1 hx hby (1 : Int32) d5_35 rfl (by decide) (l' := #[.val (.ref ca), .val (.int (1 : Int32)), .val (.ref ba), .val (.int (1 : Int32)), .val (.int (2 : Int32)), .val (.int (0 : Int32)), .val (.int x0)]) rfl ?_
  refine g_iinc X1 hx hby (1 : Int32) d5_38 rfl (by decide) (l' := #[.val (.ref ca), .val (.int (1 : Int32)), .val (.ref ba), .val (.int (1 : Int32)), .val (.int (2 : Int32)), .val (.int (1 : Int32)), .val (.int x0)]) rfl ?_
  refine g_goto X1 hx hby 3 d5_41 (by decide) (by decide) ?_
  refine g_iload X1 hx hby d5_3 rfl ?_
  refine g_iload X1 hx hby d5_5 rfl ?_
  refine g_icN X1 hx hby d5_7 (tlt (by decide : (1 : Int32) < (2 : Int32))).2.1 ?_
  refine g_aloadN X1 hx hby d5_10 rfl rfl ?_
  refine g_iloadN X1 hx hby d5_11 rfl ?_
  have f2 := (VC.other W1 nab)
  refine g_caload X1 hx hby hZ e1 f2 (.int x1) ⟨by decide, by decide⟩ (by exact gd1) d5_12 ?_
  refine g_istore X1 hx hby d5_13 (l' := #[.val (.ref ca), .val (.int (1 : Int32)), .val (.ref ba), .val (.int (1 : Int32)), .val (.int (2 : Int32)), .val (.int (1 : Int32)), .val (.int x1)]) rfl ?_
  refine g_iload X1 hx hby d5_15 rfl ?_
  refine g_sipush X1 hx hby (255 : Int32) d5_17 rfl ?_
  refine g_icY X1 hx hby 26 d5_20 (flt (hc1 : ¬ ((255 : Int32) < x1))).2.2.2 (by decide) (by decide) ?_
  refine g_aloadN X1 hx hby d5_26 rfl rfl ?_
  refine g_iloadN X1 hx hby d5_27 rfl ?_
  refine g_iload X1 hx hby d5_28 rfl ?_
  refine g_i2b X1 hx hby d5_30 ?_
  refine g_bastore X1 hx hby hZ e1 V1 1 [(.int (nar .byte (x0.toInt8.toInt32))), (.int (nar .byte (x1.toInt8.toInt32)))] rfl ⟨by decide, by decide⟩ rfl (Nat.le_of_ble_eq_true rfl) N1 gb d5_31 (fun T3 h3 X3 e3 W3 V3 N3 => ?_)
  refine g_iinc X3 hx hby (2 : Int32) d5_32 rfl (by decide) (l' := #[.val (.ref ca), .val (.int (2 : Int32)), .val (.ref ba), .val (.int (1 : Int32)), .val (.int (2 : Int32)), .val (.int (1 : Int32)), .val (.int x1)]) rfl ?_
  refine g_iinc X3 hx hby (2 : Int32) d5_35 rfl (by decide) (l' := #[.val (.ref ca), .val (.int (2 : Int32)), .val (.ref ba), .val (.int (2 : Int32)), .val (.int (2 : Int32)), .val (.int (1 : Int32)), .val (.int x1)]) rfl ?_
  refine g_iinc X3 hx hby (2 : Int32) d5_38 rfl (by decide) (l' := #[.val (.ref ca), .val (.int (2 : Int32)), .val (.ref ba), .val (.int (2 : Int32)), .val (.int (2 : Int32)), .val (.int (2 : Int32)), .val (.int x1)]) rfl ?_
  refine g_goto X3 hx hby 3 d5_41 (by decide) (by decide) ?_
  refine g_iload X3 hx hby d5_3 rfl ?_
  refine g_iload X3 hx hby d5_5 rfl ?_
  refine g_icY X3 hx hby 44 d5_7 (flt (by decide : ¬ ((2 : Int32) < (2 : Int32)))).2.1 (by decide) (by decide) ?_
  refine g_iload X3 hx hby d5_44 rfl ?_
  refine g_iret X3 hx hby Bd.returns Bd.notSynchronized d5_46 e3 (by decide) (by decide) ?_
  show (Q_cmp5K Z ca kc cs x0 x1 ba kb h0 n0) (some (.int (2 : Int32))) _ _
  exact ⟨rfl, N3, (((Keep.refl h0 [ba]).wr W1 (Or.inl (List.mem_of_getElem? (i := 0) rfl))).wr W3 (Or.inl (List.mem_of_getElem? (i := 0) rfl))), V3⟩

theorem d4_0 : decode jdk_52_method_16_code 0 = .ok (.iload_n 2, 1) := by decide +kernel
theorem d4_1 : decode jdk_52_method_16_code 1 = .ok (.newarray .byte, 2) := by decide +kernel
theorem d4_3 : decode jdk_52_method_16_code 3 = .ok (.astore_n 3, 1) := by decide +kernel
theorem d4_4 : decode jdk_52_method_16_code 4 = .ok (.aload_n 0, 1) := by decide +kernel
theorem d4_5 : decode jdk_52_method_16_code 5 = .ok (.iload_n 1, 1) := by decide +kernel
theorem d4_6 : decode jdk_52_method_16_code 6 = .ok (.aload_n 3, 1) := by decide +kernel
theorem d4_7 : decode jdk_52_method_16_code 7 = .ok (.iconst 0, 1) := by decide +kernel
theorem d4_8 : decode jdk_52_method_16_code 8 = .ok (.iload_n 2, 1) := by decide +kernel
theorem d4_9 : decode jdk_52_method_16_code 9 = .ok (.invokestatic 115, 3) := by decide +kernel
theorem own_pd10 : parseMethodDescriptor "([CI[BII)I" = some ⟨[(.array .char), .int, (.array .byte), .int, .int], some .int⟩ := by decide +kernel
theorem d4_12 : decode jdk_52_method_16_code 12 = .ok (.istore 4, 2) := by decide +kernel
theorem d4_14 : decode jdk_52_method_16_code 14 = .ok (.iload 4, 2) := by decide +kernel
theorem d4_16 : decode jdk_52_method_16_code 16 = .ok (.iload_n 2, 1) := by decide +kernel
theorem d4_17 : decode jdk_52_method_16_code 17 = .ok (.if_icmp .eq 40, 3) := by decide +kernel
theorem d4_57 : decode jdk_52_method_16_code 57 = .ok (.aload_n 3, 1) := by decide +kernel
theorem d4_58 : decode jdk_52_method_16_code 58 = .ok (.areturn, 1) := by decide +kernel
def Q_cmpK (Z : State) (ca : Addr) (kc : ClassId) (cs : List Value) (x0 : Int32) (x1 : Int32) (h0 : Heap) (n0 : Nat) (v : Option Value) (h : Heap) (L : List Loc) : Prop := Fr n0 L ∧ Keep h0 h [] ∧ ∃ (b : Addr) (kb : ClassId), v = some (.ref b) ∧ h0.size ≤ b ∧ Arv Z h b kb .byte (2 : Int32) [(.int (nar .byte (x0.toInt8.toInt32))), (.int (nar .byte (x1.toInt8.toInt32)))] (.int (0 : Int32))
set_option maxRecDepth 65536 in
set_option maxHeartbeats 40000000 in
theorem rm_cmpK (l : Launch) (Z : State) (a0 : Array Value) (hw : ∀ d ∈ tables_1, d.before a0 Z = true) (ws : List Jvm.Cond) (ca : Addr) (kc : ClassId) (cs : List Value) (x0 : Int32) (x1 : Int32) (h0 : Heap) (n0 : Nat) (Z0 : n0 ≤ h0.size) (VC : Arv Z h0 ca kc .char (1024 : Int32) cs (.int (0 : Int32))) (gd0 : cs.getD 0 (.int (0 : Int32)) = .int x0) (gd1 : cs.getD 1 (.int (0 : Int32)) = .int x1) (hc0 : ¬ (255 : Int32) < x0) (hc1 : ¬ (255 : Int32) < x1) :
    MetFree l (⟨"java/lang/StringUTF16", "compress", "([CII)[B"⟩ : MethodName) (head1 (Jvm.Cond.code (⟨"java/lang/StringUTF16", "compress", "([CII)[B"⟩ : MethodName) jdk_52_method_16_code 6 (some (.array .byte)) :: ws) ({ frames := 1, cells := 1, slots := 2, locals := 18 } : Room)) (fun aa_ U => aa_ = #[(.ref ca), (.int (0 : Int32)), (.int (2 : Int32))] ∧ Z.Warmed39 U.vm ∧ U.heap = h0) (fun _ _ _ _ _ => True) (fun _ U o_ U' => RetG U (Q_cmpK Z ca kc cs x0 x1 h0 n0) 1 2 U' o_) := by
  refine MetFree.of_bodySF (plainFor_of_name own_pn4) hisR ?_
  intro p e s m args below meth c_ s₁ Bd hml0 hP hK
  obtain ⟨rfl, hZ, hh⟩ := hP
  have hx := Bd.exec
  have hby := Bd.bytes
  have hml : c_.maxLocals = 6 := hml0
  have hown : s.vm.findClass "java/lang/StringUTF16" = some m.cls := findClass_of_methodNamed Bd.named
  have hnm := (name_of_methodNamed Bd.named Bd.method).1
  have X0 : Stand p l e ({ frames := 1, cells := 1, slots := 2, locals := 18 } : Room) s m #[(.ref ca), (.int (0 : Int32)), (.int (2 : Int32))] below meth c_ s₁ [] 0 0 := Stand.of_body Bd
  have e0 : s₁.heap = h0 := by rw [← hh, Bd.state]; rfl
  have N0 := Fr.nil n0
  have w17_ := hw _ (List.mem_of_getElem? (i := 17) rfl)
  have w19_ := hw _ (List.mem_of_getElem? (i := 19) rfl)
  have w20_ := hw _ (List.mem_of_getElem? (i := 20) rfl)
  have w21_ := hw _ (List.mem_of_getElem? (i := 21) rfl)
  have w22_ := hw _ (List.mem_of_getElem? (i := 22) rfl)
  show Go p e below (RetG s (Q_cmpK Z ca kc cs x0 x1 h0 n0) 1 2) (s₁.setTop (entryFrame m #[(.ref ca), (.int (0 : Int32)), (.int (2 : Int32))] 6))
  rw [show entryFrame m #[(.ref ca), (.int (0 : Int32)), (.int (2 : Int32))] 6 = mkF m 0 #[.val (.ref ca), .val (.int (0 : Int32)), .val (.int (2 : Int32)), .unset, .unset, .unset] [] from by first | (simp [entryFrame, mkF, argsToLocals, Value.category]; done) | rfl]
  refine g_iloadN X0 hx hby d4_0 rfl ?_
  refine g_newarray X0 hx hby hZ .byte .byte (.int (0 : Int32)) [(.int (0 : Int32)), (.int (0 : Int32))] rfl rfl w19_ e0 (by decide) 2 rfl (by decide) (by decide) (by decide) (by decide) d4_1 (fun T1 h1 k1 b1 g1 X1 e1 E1 V1 => ?_)
  refine g_astoreN X1 hx hby d4_3 rfl (l' := #[.val (.ref ca), .val (.int (0 : Int32)), .val (.int (2 : Int32)), .val (.ref b1), .unset, .unset]) rfl ?_
  refine g_aloadN X1 hx hby d4_4 rfl rfl ?_
  refine g_iloadN X1 hx hby d4_5 rfl ?_
  refine g_aloadN X1 hx hby d4_6 rfl rfl ?_
  refine g_iconst X1 hx hby (0 : Int32) d4_7 rfl ?_
  refine g_iloadN X1 hx hby d4_8 rfl ?_
  have f3 := (VC.ext E1)
  have ne4 : ca ≠ b1 := (Nat.ne_of_lt (Nat.lt_of_lt_of_le VC.lt (Nat.le_of_eq g1)))
  have g_b1 : n0 ≤ b1 := Nat.le_trans Z0 (Nat.le_of_eq g1)
  have z5 := (Nat.le_trans Z0 E1.1)
  refine g_static X1 hx hby hZ hown (rm_cmp5K l Z a0 hw [] ca kc cs x0 x1 b1 k1 h1 n0 z5 f3 gd0 gd1 hc0 hc1 V1 ne4 g_b1) w20_ w21_ w17_ w22_ (by decide) e1 (by rw [hml]; rfl) [(.ref ca), (.int (0 : Int32)), (.ref b1), (.int (0 : Int32)), (.int (2 : Int32))] (lenOf own_pd10 rfl) rfl rfl (Nat.le_of_ble_eq_true rfl) (Nat.le_of_ble_eq_true rfl) (Nat.le_of_ble_eq_true rfl) (Nat.le_of_ble_eq_true rfl) d4_9 (fun v2 T2 L2 X2 hQ2 => ?_)
  obtain ⟨rfl, N2q, K2, V2⟩ := hQ2
  have N2 := Fr.app N0 N2q
  refine g_istore X2 hx hby d4_12 (l' := #[.val (.ref ca), .val (.int (0 : Int32)), .val (.int (2 : Int32)), .val (.ref b1), .val (.int (2 : Int32)), .unset]) rfl ?_
  refine g_iload X2 hx hby d4_14 rfl ?_
  refine g_iloadN X2 hx hby d4_16 rfl ?_
  refine g_icY X2 hx hby 57 d4_17 (teq (by decide : (2 : Int32) = (2 : Int32))).1 (by decide) (by decide) ?_
  refine g_aloadN X2 hx hby d4_57 rfl rfl ?_
  refine g_aret X2 hx hby (t := (.array .byte)) rfl rfl rfl Bd.returns Bd.notSynchronized d4_58 rfl (by decide) (by decide) ?_
  show (Q_cmpK Z ca kc cs x0 x1 h0 n0) (some (.ref b1)) _ _
  exact ⟨N2, (((Keep.refl h0 []).ext E1).trans K2 (allS (Or.inr (Nat.le_trans (Nat.le_refl _) (Nat.le_of_eq g1))) all0)), b1, k1, rfl, (Nat.le_trans (Nat.le_refl _) (Nat.le_of_eq g1)), V2⟩

theorem d6_0 : decode jdk_52_method_15_code 0 = .ok (.iload_n 1, 1) := by decide +kernel
theorem d6_1 : decode jdk_52_method_15_code 1 = .ok (.aload_n 0, 1) := by decide +kernel
theorem d6_2 : decode jdk_52_method_15_code 2 = .ok (.arraylength, 1) := by decide +kernel
theorem d6_3 : decode jdk_52_method_15_code 3 = .ok (.isub, 1) := by decide +kernel
theorem d6_4 : decode jdk_52_method_15_code 4 = .ok (.bipush 31, 2) := by decide +kernel
theorem d6_6 : decode jdk_52_method_15_code 6 = .ok (.iushr, 1) := by decide +kernel
theorem d6_7 : decode jdk_52_method_15_code 7 = .ok (.i2b, 1) := by decide +kernel
theorem d6_8 : decode jdk_52_method_15_code 8 = .ok (.ireturn, 1) := by decide +kernel
def Q_cfal_2_2 (Z : State) (ba : Addr) (kb : ClassId) (bs : List Value) (h0 : Heap) (n0 : Nat) (v : Option Value) (h : Heap) (L : List Loc) : Prop := v = some (.int (0 : Int32)) ∧ Fr n0 L ∧ h = h0
set_option maxRecDepth 65536 in
set_option maxHeartbeats 40000000 in
theorem rm_cfal_2_2 (l : Launch) (Z : State) (a0 : Array Value) (hw : ∀ d ∈ tables_1, d.before a0 Z = true) (ws : List Jvm.Cond) (ba : Addr) (kb : ClassId) (bs : List Value) (h0 : Heap) (n0 : Nat) (Z0 : n0 ≤ h0.size) (VB : Arv Z h0 ba kb .byte (2 : Int32) bs (.int (0 : Int32))) :
    MetFree l (⟨"java/lang/StringUTF16", "coderFromArrayLen", "([BI)B"⟩ : MethodName) (head1 (Jvm.Cond.code (⟨"java/lang/StringUTF16", "coderFromArrayLen", "([BI)B"⟩ : MethodName) jdk_52_method_15_code 2 (some .byte) :: ws) ({ frames := 0, cells := 0, slots := 0, locals := 0 } : Room)) (fun aa_ U => aa_ = #[(.ref ba), (.int (2 : Int32))] ∧ Z.Warmed39 U.vm ∧ U.heap = h0) (fun _ _ _ _ _ => True) (fun _ U o_ U' => RetG U (Q_cfal_2_2 Z ba kb bs h0 n0) 0 0 U' o_) := by
  refine MetFree.of_bodySF (plainFor_of_name own_pn4) hisR ?_
  intro p e s m args below meth c_ s₁ Bd hml0 hP hK
  obtain ⟨rfl, hZ, hh⟩ := hP
  have hx := Bd.exec
  have hby := Bd.bytes
  have hml : c_.maxLocals = 2 := hml0
  have hown : s.vm.findClass "java/lang/StringUTF16" = some m.cls := findClass_of_methodNamed Bd.named
  have hnm := (name_of_methodNamed Bd.named Bd.method).1
  have X0 : Stand p l e ({ frames := 0, cells := 0, slots := 0, locals := 0 } : Room) s m #[(.ref ba), (.int (2 : Int32))] below meth c_ s₁ [] 0 0 := Stand.of_body Bd
  have e0 : s₁.heap = h0 := by rw [← hh, Bd.state]; rfl
  have N0 := Fr.nil n0
  show Go p e below (RetG s (Q_cfal_2_2 Z ba kb bs h0 n0) 0 0) (s₁.setTop (entryFrame m #[(.ref ba), (.int (2 : Int32))] 2))
  rw [show entryFrame m #[(.ref ba), (.int (2 : Int32))] 2 = mkF m 0 #[.val (.ref ba), .val (.int (2 : Int32))] [] from by first | (simp [entryFrame, mkF, argsToLocals, Value.category]; done) | rfl]
  refine g_iloadN X0 hx hby d6_0 rfl ?_
  refine g_aloadN X0 hx hby d6_1 rfl rfl ?_
  refine g_arraylength X0 hx hby hZ e0 VB d6_2 ?_
  refine g_isub X0 hx hby d6_3 ?_
  refine g_topI (0 : Int32) (by decide) ?_
  refine g_bipush X0 hx hby (31 : Int32) d6_4 rfl ?_
  refine g_iushr X0 hx hby d6_6 ?_
  refine g_topI (0 : Int32) (by decide) ?_
  refine g_i2b X0 hx hby d6_7 ?_
  refine g_topI (0 : Int32) (by decide) ?_
  refine g_nret X0 hx hby (t := .byte) (by simp) Bd.returns Bd.notSynchronized d6_8 e0 (by decide) (by decide) ?_
  show (Q_cfal_2_2 Z ba kb bs h0 n0) (some (.int (0 : Int32))) _ _
  exact ⟨rfl, N0, rfl⟩

theorem d2_0 : decode jdk_42_method_149_code 0 = .ok (.aload_n 0, 1) := by decide +kernel
theorem d2_1 : decode jdk_42_method_149_code 1 = .ok (.invokespecial 1, 3) := by decide +kernel
theorem d2_4 : decode jdk_42_method_149_code 4 = .ok (.iload_n 3, 1) := by decide +kernel
theorem d2_5 : decode jdk_42_method_149_code 5 = .ok (.ifCond .ne 22, 3) := by decide +kernel
theorem d2_27 : decode jdk_42_method_149_code 27 = .ok (.getstatic 38, 3) := by decide +kernel
theorem d2_30 : decode jdk_42_method_149_code 30 = .ok (.ifCond .eq 28, 3) := by decide +kernel
theorem d2_33 : decode jdk_42_method_149_code 33 = .ok (.aload_n 1, 1) := by decide +kernel
theorem d2_34 : decode jdk_42_method_149_code 34 = .ok (.iload_n 2, 1) := by decide +kernel
theorem d2_35 : decode jdk_42_method_149_code 35 = .ok (.iload_n 3, 1) := by decide +kernel
theorem d2_36 : decode jdk_42_method_149_code 36 = .ok (.invokestatic 177, 3) := by decide +kernel
theorem own_pd11 : parseMethodDescriptor "([CII)[B" = some ⟨[(.array .char), .int, .int], some (.array .byte)⟩ := by decide +kernel
theorem d2_39 : decode jdk_42_method_149_code 39 = .ok (.astore 5, 2) := by decide +kernel
theorem d2_41 : decode jdk_42_method_149_code 41 = .ok (.aload_n 0, 1) := by decide +kernel
theorem d2_42 : decode jdk_42_method_149_code 42 = .ok (.aload 5, 2) := by decide +kernel
theorem d2_44 : decode jdk_42_method_149_code 44 = .ok (.iload_n 3, 1) := by decide +kernel
theorem d2_45 : decode jdk_42_method_149_code 45 = .ok (.invokestatic 47, 3) := by decide +kernel
theorem own_pd12 : parseMethodDescriptor "([BI)B" = some ⟨[(.array .byte), .int], some .byte⟩ := by decide +kernel
theorem d2_48 : decode jdk_42_method_149_code 48 = .ok (.putfield 15, 3) := by decide +kernel
theorem d2_51 : decode jdk_42_method_149_code 51 = .ok (.aload_n 0, 1) := by decide +kernel
theorem d2_52 : decode jdk_42_method_149_code 52 = .ok (.aload 5, 2) := by decide +kernel
theorem d2_54 : decode jdk_42_method_149_code 54 = .ok (.putfield 9, 3) := by decide +kernel
theorem d2_57 : decode jdk_42_method_149_code 57 = .ok (.return_, 1) := by decide +kernel
def Q_ini4K (Z : State) (a : Addr) (ca : Addr) (kc : ClassId) (cs : List Value) (x0 : Int32) (x1 : Int32) (cz : Int32) (h0 : Heap) (n0 : Nat) (v : Option Value) (h : Heap) (L : List Loc) : Prop := v = none ∧ Fr n0 L ∧ Keep h0 h [a] ∧ ∃ (b : Addr) (kb : ClassId), h0.size ≤ b ∧ Exa Z h a "java/lang/String" ∧ Fld Z h a "java/lang/String" "coder" "B" (.int (0 : Int32)) ∧ Fld Z h a "java/lang/String" "value" "[B" (.ref b) ∧ Arv Z h b kb .byte (2 : Int32) [(.int (nar .byte (x0.toInt8.toInt32))), (.int (nar .byte (x1.toInt8.toInt32)))] (.int (0 : Int32))
set_option maxRecDepth 65536 in
set_option maxHeartbeats 40000000 in
theorem rm_ini4K (l : Launch) (Z : State) (a0 : Array Value) (hw : ∀ d ∈ tables_1, d.before a0 Z = true) (ws : List Jvm.Cond) (a : Addr) (ca : Addr) (kc : ClassId) (cs : List Value) (x0 : Int32) (x1 : Int32) (cz : Int32) (h0 : Heap) (n0 : Nat) (Z0 : n0 ≤ h0.size) (O2 : Sta Z Z.heap "java/lang/String" "COMPACT_STRINGS" "Z" (.int cz)) (P5 : ¬ cz = (0 : Int32)) (OLD : Old Z n0 h0) (E : Exa Z h0 a "java/lang/String") (FC : Fld Z h0 a "java/lang/String" "coder" "B" (.int (0 : Int32))) (FV : Fld Z h0 a "java/lang/String" "value" "[B" .null) (ga : n0 ≤ a) (VC : Arv Z h0 ca kc .char (1024 : Int32) cs (.int (0 : Int32))) (gd0 : cs.getD 0 (.int (0 : Int32)) = .int x0) (gd1 : cs.getD 1 (.int (0 : Int32)) = .int x1) (hc0 : ¬ (255 : Int32) < x0) (hc1 : ¬ (255 : Int32) < x1) :
    MetFree l (⟨"java/lang/String", "<init>", "([CIILjava/lang/Void;)V"⟩ : MethodName) (head1 (Jvm.Cond.code (⟨"java/lang/String", "<init>", "([CIILjava/lang/Void;)V"⟩ : MethodName) jdk_42_method_149_code 6 none :: ws) ({ frames := 2, cells := 1, slots := 2, locals := 35 } : Room)) (fun aa_ U => aa_ = #[(.ref a), (.ref ca), (.int (0 : Int32)), (.int (2 : Int32)), .null] ∧ Z.Warmed39 U.vm ∧ U.heap = h0) (fun _ _ _ _ _ => True) (fun _ U o_ U' => RetG U (Q_ini4K Z a ca kc cs x0 x1 cz h0 n0) 1 2 U' o_) := by
  refine MetFree.of_bodySF (plainFor_of_name own_pn2) hisR ?_
  intro p e s m args below meth c_ s₁ Bd hml0 hP hK
  obtain ⟨rfl, hZ, hh⟩ := hP
  have hx := Bd.exec
  have hby := Bd.bytes
  have hml : c_.maxLocals = 6 := hml0
  have hown : s.vm.findClass "java/lang/String" = some m.cls := findClass_of_methodNamed Bd.named
  have hnm := (name_of_methodNamed Bd.named Bd.method).1
  have X0 : Stand p l e ({ frames := 2, cells := 1, slots := 2, locals := 35 } : Room) s m #[(.ref a), (.ref ca), (.int (0 : Int32)), (.int (2 : Int32)), .null] below meth c_ s₁ [] 0 0 := Stand.of_body Bd
  have e0 : s₁.heap = h0 := by rw [← hh, Bd.state]; rfl
  have N0 := Fr.nil n0
  have w2_ := hw _ (List.mem_of_getElem? (i := 2) rfl)
  have w11_ := hw _ (List.mem_of_getElem? (i := 11) rfl)
  have w12_ := hw _ (List.mem_of_getElem? (i := 12) rfl)
  have w13_ := hw _ (List.mem_of_getElem? (i := 13) rfl)
  have w14_ := hw _ (List.mem_of_getElem? (i := 14) rfl)
  have w15_ := hw _ (List.mem_of_getElem? (i := 15) rfl)
  have w16_ := hw _ (List.mem_of_getElem? (i := 16) rfl)
  have w17_ := hw _ (List.mem_of_getElem? (i := 17) rfl)
  have w18_ := hw _ (List.mem_of_getElem? (i := 18) rfl)
  have w23_ := hw _ (List.mem_of_getElem? (i := 23) rfl)
  have w24_ := hw _ (List.mem_of_getElem? (i := 24) rfl)
  have w25_ := hw _ (List.mem_of_getElem? (i := 25) rfl)
  have w26_ := hw _ (List.mem_of_getElem? (i := 26) rfl)
  have w27_ := hw _ (List.mem_of_getElem? (i := 27) rfl)
  have w28_ := hw _ (List.mem_of_getElem? (i := 28) rfl)
  have w29_ := hw _ (List.mem_of_getElem? (i := 29) rfl)
  show Go p e below (RetG s (Q_ini4K Z a ca kc cs x0 x1 cz h0 n0) 1 2) (s₁.setTop (entryFrame m #[(.ref a), (.ref ca), (.int (0 : Int32)), (.int (2 : Int32)), .null] 6))
  rw [show entryFrame m #[(.ref a), (.ref ca), (.int (0 : Int32)), (.int (2 : Int32)), .null] 6 = mkF m 0 #[.val (.ref a), .val (.ref ca), .val (.int (0 : Int32)), .val (.int (2 : Int32)), .val .null, .unset] [] from by first | (simp [entryFrame, mkF, argsToLocals, Value.category]; done) | rfl]
  refine g_aloadN X0 hx hby d2_0 rfl rfl ?_
  refine g_initO X0 hx hby hZ hown w11_ w12_ w13_ e0 (by rw [hml]; rfl) (Nat.le_of_ble_eq_true rfl) (Nat.le_of_ble_eq_true rfl) d2_1 (fun T1 X1 e1 => ?_)
  refine g_iloadN X1 hx hby d2_4 rfl ?_
  refine g_ifY X1 hx hby 27 d2_5 (feq (by decide : ¬ ((2 : Int32) = (0 : Int32)))).2 (by decide) (by decide) ?_
  refine g_getS X1 hx hby hZ hown (host := "") (Or.inl w14_) Via.refl e1 (O2.ext OLD.2) d2_27 (fun T2 X2 e2 => ?_)
  refine g_ifN X2 hx hby d2_30 (feq (P5 : ¬ (cz = (0 : Int32)))).1 ?_
  refine g_aloadN X2 hx hby d2_33 rfl rfl ?_
  refine g_iloadN X2 hx hby d2_34 rfl ?_
  refine g_iloadN X2 hx hby d2_35 rfl ?_
  refine g_static X2 hx hby hZ hown (rm_cmpK l Z a0 hw [] ca kc cs x0 x1 h0 n0 Z0 VC gd0 gd1 hc0 hc1) w15_ w16_ w17_ w18_ (by decide) e2 (by rw [hml]; rfl) [(.ref ca), (.int (0 : Int32)), (.int (2 : Int32))] (lenOf own_pd11 rfl) rfl rfl (Nat.le_of_ble_eq_true rfl) (Nat.le_of_ble_eq_true rfl) (Nat.le_of_ble_eq_true rfl) (Nat.le_of_ble_eq_true rfl) d2_36 (fun v3 T3 L3 X3 hQ3 => ?_)
  obtain ⟨N3q, K3, bb, kb, rfl, lob, Vb⟩ := hQ3
  have N3 := Fr.app N0 N3q
  refine g_astore X3 hx hby d2_39 rfl (l' := #[.val (.ref a), .val (.ref ca), .val (.int (0 : Int32)), .val (.int (2 : Int32)), .val .null, .val (.ref bb)]) rfl ?_
  refine g_aloadN X3 hx hby d2_41 rfl rfl ?_
  refine g_aload X3 hx hby d2_42 rfl rfl ?_
  refine g_iloadN X3 hx hby d2_44 rfl ?_
  have z5 := (Nat.le_trans Z0 K3.1)
  refine g_static X3 hx hby hZ hown (rm_cfal_2_2 l Z a0 hw [] bb kb [(.int (nar .byte (x0.toInt8.toInt32))), (.int (nar .byte (x1.toInt8.toInt32)))] T3.heap n0 z5 Vb) w23_ w24_ w17_ w25_ (by decide) rfl (by rw [hml]; rfl) [(.ref bb), (.int (2 : Int32))] (lenOf own_pd12 rfl) rfl rfl (Nat.le_of_ble_eq_true rfl) (Nat.le_of_ble_eq_true rfl) (Nat.le_of_ble_eq_true rfl) (Nat.le_of_ble_eq_true rfl) d2_45 (fun v4 T4 L4 X4 hQ4 => ?_)
  obtain ⟨rfl, N4q, eh4⟩ := hQ4
  have N4 := Fr.app N3 N4q
  have f6 := (E.keep K3)
  have f7 := (FC.keep K3 nin0)
  refine g_putFN X4 hx hby hZ hown w26_ Via.refl eh4 f7 f6 (Or.inr ⟨w27_, rfl, hnm⟩) w2_ .byte (by decide) (.int (0 : Int32)) rfl rfl N4 ga d2_48 (fun T8 h8 X8 e8 W8 F8 N8 => ?_)
  refine g_aloadN X8 hx hby d2_51 rfl rfl ?_
  refine g_aload X8 hx hby d2_52 rfl rfl ?_
  have f9 := (f6.wr W8)
  have f10 := ((FV.keep K3 nin0).other W8 (Or.inr (slot_ne (Or.inr w29_) (Or.inr w27_) (by decide) (t := (.array .byte)) (t' := .byte) (by decide) (by decide))))
  refine g_putF X8 hx hby hZ hown (host := "") (Or.inl w28_) Via.refl e8 f10 f9 (Or.inr ⟨w29_, rfl, hnm⟩) w2_ (.array .byte) (by decide) rfl rfl N8 ga d2_54 (fun T11 h11 X11 e11 W11 F11 N11 => ?_)
  have f12 := (f9.wr W11)
  have f13 := (F8.other W11 (Or.inr (slot_ne (Or.inr w27_) (Or.inr w29_) (by decide) (t := .byte) (t' := (.array .byte)) (by decide) (by decide))))
  have ne14 : bb ≠ a := (Ne.symm (Nat.ne_of_lt (Nat.lt_of_lt_of_le E.lt lob)))
  have f15 := ((Vb.other W8 ne14).other W11 ne14)
  refine g_ret X11 hx hby Bd.returns Bd.notSynchronized d2_57 e11 (by decide) (by decide) ?_
  show (Q_ini4K Z a ca kc cs x0 x1 cz h0 n0) none _ _
  exact ⟨rfl, N11, ((((Keep.refl h0 [a]).trans K3 all0).wr W8 (Or.inl (List.mem_of_getElem? (i := 0) rfl))).wr W11 (Or.inl (List.mem_of_getElem? (i := 0) rfl))), bb, kb, (Nat.le_trans (Nat.le_refl _) lob), f12, f13, F11, f15⟩

theorem d28_0 : decode jdk_42_method_5_code 0 = .ok (.iload_n 1, 1) := by decide +kernel
theorem d28_1 : decode jdk_42_method_5_code 1 = .ok (.iload_n 2, 1) := by decide +kernel
theorem d28_2 : decode jdk_42_method_5_code 2 = .ok (.aload_n 0, 1) := by decide +kernel
theorem d28_3 : decode jdk_42_method_5_code 3 = .ok (.arraylength, 1) := by decide +kernel
theorem d28_4 : decode jdk_42_method_5_code 4 = .ok (.invokestatic 34, 3) := by decide +kernel
theorem d28_7 : decode jdk_42_method_5_code 7 = .ok (.pop, 1) := by decide +kernel
theorem d28_8 : decode jdk_42_method_5_code 8 = .ok (.aconst_null, 1) := by decide +kernel
theorem d28_9 : decode jdk_42_method_5_code 9 = .ok (.areturn, 1) := by decide +kernel
def Q_rchk (Z : State) (ca : Addr) (kc : ClassId) (cs : List Value) (fz : Value) (h0 : Heap) (n0 : Nat) (v : Option Value) (h : Heap) (L : List Loc) : Prop := v = some .null ∧ Fr n0 L ∧ h = h0
set_option maxRecDepth 65536 in
set_option maxHeartbeats 40000000 in
theorem rm_rchk (l : Launch) (Z : State) (a0 : Array Value) (hw : ∀ d ∈ tables_1, d.before a0 Z = true) (ws : List Jvm.Cond) (ca : Addr) (kc : ClassId) (cs : List Value) (fz : Value) (h0 : Heap) (n0 : Nat) (Z0 : n0 ≤ h0.size) (VC : Arv Z h0 ca kc .char (1024 : Int32) cs (.int (0 : Int32))) (rfz : Rf fz) (O4 : Sta Z Z.heap "jdk/internal/util/Preconditions" "SIOOBE_FORMATTER" "Ljava/util/function/BiFunction;" fz) (OLD : Old Z n0 h0) :
    MetFree l (⟨"java/lang/String", "rangeCheck", "([CII)Ljava/lang/Void;"⟩ : MethodName) (head1 (Jvm.Cond.code (⟨"java/lang/String", "rangeCheck", "([CII)Ljava/lang/Void;"⟩ : MethodName) jdk_42_method_5_code 3 (some (.object "java/lang/Void")) :: ws) ({ frames := 2, cells := 0, slots := 0, locals := 29 } : Room)) (fun aa_ U => aa_ = #[(.ref ca), (.int (0 : Int32)), (.int (2 : Int32))] ∧ Z.Warmed39 U.vm ∧ U.heap = h0) (fun _ _ _ _ _ => True) (fun _ U o_ U' => RetG U (Q_rchk Z ca kc cs fz h0 n0) 0 0 U' o_) := by
  refine MetFree.of_bodySF (plainFor_of_name own_pn2) hisR ?_
  intro p e s m args below meth c_ s₁ Bd hml0 hP hK
  obtain ⟨rfl, hZ, hh⟩ := hP
  have hx := Bd.exec
  have hby := Bd.bytes
  have hml : c_.maxLocals = 3 := hml0
  have hown : s.vm.findClass "java/lang/String" = some m.cls := findClass_of_methodNamed Bd.named
  have hnm := (name_of_methodNamed Bd.named Bd.method).1
  have X0 : Stand p l e ({ frames := 2, cells := 0, slots := 0, locals := 29 } : Room) s m #[(.ref ca), (.int (0 : Int32)), (.int (2 : Int32))] below meth c_ s₁ [] 0 0 := Stand.of_body Bd
  have e0 : s₁.heap = h0 := by rw [← hh, Bd.state]; rfl
  have N0 := Fr.nil n0
  have w3_ := hw _ (List.mem_of_getElem? (i := 3) rfl)
  have w97_ := hw _ (List.mem_of_getElem? (i := 97) rfl)
  have w98_ := hw _ (List.mem_of_getElem? (i := 98) rfl)
  have w99_ := hw _ (List.mem_of_getElem? (i := 99) rfl)
  show Go p e below (RetG s (Q_rchk Z ca kc cs fz h0 n0) 0 0) (s₁.setTop (entryFrame m #[(.ref ca), (.int (0 : Int32)), (.int (2 : Int32))] 3))
  rw [show entryFrame m #[(.ref ca), (.int (0 : Int32)), (.int (2 : Int32))] 3 = mkF m 0 #[.val (.ref ca), .val (.int (0 : Int32)), .val (.int (2 : Int32))] [] from by first | (simp [entryFrame, mkF, argsToLocals, Value.category]; done) | rfl]
  refine g_iloadN X0 hx hby d28_0 rfl ?_
  refine g_iloadN X0 hx hby d28_1 rfl ?_
  refine g_aloadN X0 hx hby d28_2 rfl rfl ?_
  refine g_arraylength X0 hx hby hZ e0 VC d28_3 ?_
  refine g_static X0 hx hby hZ hown (rm_cboc l Z a0 hw [] (0 : Int32) (2 : Int32) (1024 : Int32) fz h0 n0 Z0 (by decide) (by decide) (by decide) rfz O4 OLD) w97_ w98_ w3_ w99_ (by decide) e0 (by rw [hml]; rfl) [(.int (0 : Int32)), (.int (2 : Int32)), (.int (1024 : Int32))] (lenOf own_pd5 rfl) rfl rfl (Nat.le_of_ble_eq_true rfl) (Nat.le_of_ble_eq_true rfl) (Nat.le_of_ble_eq_true rfl) (Nat.le_of_ble_eq_true rfl) d28_4 (fun v1 T1 L1 X1 hQ1 => ?_)
  obtain ⟨rfl, N1q, eh1⟩ := hQ1
  have N1 := Fr.app N0 N1q
  refine g_pop X1 hx hby d28_7 rfl ?_
  refine g_aconst_null X1 hx hby d28_8 ?_
  refine g_aret X1 hx hby (t := (.object "java/lang/Void")) rfl rfl rfl Bd.returns Bd.notSynchronized d28_9 eh1 (by decide) (by decide) ?_
  show (Q_rchk Z ca kc cs fz h0 n0) (some .null) _ _
  exact ⟨rfl, N1, rfl⟩

theorem d27_0 : decode jdk_42_method_4_code 0 = .ok (.aload_n 0, 1) := by decide +kernel
theorem d27_1 : decode jdk_42_method_4_code 1 = .ok (.aload_n 1, 1) := by decide +kernel
theorem d27_2 : decode jdk_42_method_4_code 2 = .ok (.iload_n 2, 1) := by decide +kernel
theorem d27_3 : decode jdk_42_method_4_code 3 = .ok (.iload_n 3, 1) := by decide +kernel
theorem d27_4 : decode jdk_42_method_4_code 4 = .ok (.aload_n 1, 1) := by decide +kernel
theorem d27_5 : decode jdk_42_method_4_code 5 = .ok (.iload_n 2, 1) := by decide +kernel
theorem d27_6 : decode jdk_42_method_4_code 6 = .ok (.iload_n 3, 1) := by decide +kernel
theorem d27_7 : decode jdk_42_method_4_code 7 = .ok (.invokestatic 30, 3) := by decide +kernel
theorem own_pd13 : parseMethodDescriptor "([CII)Ljava/lang/Void;" = some ⟨[(.array .char), .int, .int], some (.object "java/lang/Void")⟩ := by decide +kernel
theorem d27_10 : decode jdk_42_method_4_code 10 = .ok (.invokespecial 27, 3) := by decide +kernel
theorem own_pd14 : parseMethodDescriptor "([CIILjava/lang/Void;)V" = some ⟨[(.array .char), .int, .int, (.object "java/lang/Void")], none⟩ := by decide +kernel
theorem d27_13 : decode jdk_42_method_4_code 13 = .ok (.return_, 1) := by decide +kernel
def Q_ini3K (Z : State) (a : Addr) (ca : Addr) (kc : ClassId) (cs : List Value) (x0 : Int32) (x1 : Int32) (cz : Int32) (fz : Value) (h0 : Heap) (n0 : Nat) (v : Option Value) (h : Heap) (L : List Loc) : Prop := v = none ∧ Fr n0 L ∧ Keep h0 h [a] ∧ ∃ (b : Addr) (kb : ClassId), h0.size ≤ b ∧ Exa Z h a "java/lang/String" ∧ Fld Z h a "java/lang/String" "coder" "B" (.int (0 : Int32)) ∧ Fld Z h a "java/lang/String" "value" "[B" (.ref b) ∧ Arv Z h b kb .byte (2 : Int32) [(.int (nar .byte (x0.toInt8.toInt32))), (.int (nar .byte (x1.toInt8.toInt32)))] (.int (0 : Int32))
set_option maxRecDepth 65536 in
set_option maxHeartbeats 40000000 in
theorem rm_ini3K (l : Launch) (Z : State) (a0 : Array Value) (hw : ∀ d ∈ tables_1, d.before a0 Z = true) (ws : List Jvm.Cond) (a : Addr) (ca : Addr) (kc : ClassId) (cs : List Value) (x0 : Int32) (x1 : Int32) (cz : Int32) (fz : Value) (h0 : Heap) (n0 : Nat) (Z0 : n0 ≤ h0.size) (O2 : Sta Z Z.heap "java/lang/String" "COMPACT_STRINGS" "Z" (.int cz)) (P5 : ¬ cz = (0 : Int32)) (OLD : Old Z n0 h0) (rfz : Rf fz) (O4 : Sta Z Z.heap "jdk/internal/util/Preconditions" "SIOOBE_FORMATTER" "Ljava/util/function/BiFunction;" fz) (E : Exa Z h0 a "java/lang/String") (FC : Fld Z h0 a "java/lang/String" "coder" "B" (.int (0 : Int32))) (FV : Fld Z h0 a "java/lang/String" "value" "[B" .null) (ga : n0 ≤ a) (VC : Arv Z h0 ca kc .char (1024 : Int32) cs (.int (0 : Int32))) (gd0 : cs.getD 0 (.int (0 : Int32)) = .int x0) (gd1 : cs.getD 1 (.int (0 : Int32)) = .int x1) (hc0 : ¬ (255 : Int32) < x0) (hc1 : ¬ (255 : Int32) < x1) :
    MetFree l (⟨"java/lang/String", "<init>", "([CII)V"⟩ : MethodName) (head1 (Jvm.Cond.code (⟨"java/lang/String", "<init>", "([CII)V"⟩ : MethodName) jdk_42_method_4_code 4 none :: ws) ({ frames := 3, cells := 1, slots := 2, locals := 52 } : Room)) (fun aa_ U => aa_ = #[(.ref a), (.ref ca), (.int (0 : Int32)), (.int (2 : Int32))] ∧ Z.Warmed39 U.vm ∧ U.heap = h0) (fun _ _ _ _ _ => True) (fun _ U o_ U' => RetG U (Q_ini3K Z a ca kc cs x0 x1 cz fz h0 n0) 1 2 U' o_) := by
  refine MetFree.of_bodySF (plainFor_of_name own_pn2) hisR ?_
  intro p e s m args below meth c_ s₁ Bd hml0 hP hK
  obtain ⟨rfl, hZ, hh⟩ := hP
  have hx := Bd.exec
  have hby := Bd.bytes
  have hml : c_.maxLocals = 4 := hml0
  have hown : s.vm.findClass "java/lang/String" = some m.cls := findClass_of_methodNamed Bd.named
  have hnm := (name_of_methodNamed Bd.named Bd.method).1
  have X0 : Stand p l e ({ frames := 3, cells := 1, slots := 2, locals := 52 } : Room) s m #[(.ref a), (.ref ca), (.int (0 : Int32)), (.int (2 : Int32))] below meth c_ s₁ [] 0 0 := Stand.of_body Bd
  have e0 : s₁.heap = h0 := by rw [← hh, Bd.state]; rfl
  have N0 := Fr.nil n0
  have w3_ := hw _ (List.mem_of_getElem? (i := 3) rfl)
  have w7_ := hw _ (List.mem_of_getElem? (i := 7) rfl)
  have w8_ := hw _ (List.mem_of_getElem? (i := 8) rfl)
  have w10_ := hw _ (List.mem_of_getElem? (i := 10) rfl)
  have w138_ := hw _ (List.mem_of_getElem? (i := 138) rfl)
  have w139_ := hw _ (List.mem_of_getElem? (i := 139) rfl)
  have w140_ := hw _ (List.mem_of_getElem? (i := 140) rfl)
  show Go p e below (RetG s (Q_ini3K Z a ca kc cs x0 x1 cz fz h0 n0) 1 2) (s₁.setTop (entryFrame m #[(.ref a), (.ref ca), (.int (0 : Int32)), (.int (2 : Int32))] 4))
  rw [show entryFrame m #[(.ref a), (.ref ca), (.int (0 : Int32)), (.int (2 : Int32))] 4 = mkF m 0 #[.val (.ref a), .val (.ref ca), .val (.int (0 : Int32)), .val (.int (2 : Int32))] [] from by first | (simp [entryFrame, mkF, argsToLocals, Value.category]; done) | rfl]
  refine g_aloadN X0 hx hby d27_0 rfl rfl ?_
  refine g_aloadN X0 hx hby d27_1 rfl rfl ?_
  refine g_iloadN X0 hx hby d27_2 rfl ?_
  refine g_iloadN X0 hx hby d27_3 rfl ?_
  refine g_aloadN X0 hx hby d27_4 rfl rfl ?_
  refine g_iloadN X0 hx hby d27_5 rfl ?_
  refine g_iloadN X0 hx hby d27_6 rfl ?_
  refine g_static X0 hx hby hZ hown (rm_rchk l Z a0 hw [] ca kc cs fz h0 n0 Z0 VC rfz O4 OLD) w138_ w139_ w3_ w140_ (by decide) e0 (by rw [hml]; rfl) [(.ref ca), (.int (0 : Int32)), (.int (2 : Int32))] (lenOf own_pd13 rfl) rfl rfl (Nat.le_of_ble_eq_true rfl) (Nat.le_of_ble_eq_true rfl) (Nat.le_of_ble_eq_true rfl) (Nat.le_of_ble_eq_true rfl) d27_7 (fun v1 T1 L1 X1 hQ1 => ?_)
  obtain ⟨rfl, N1q, eh1⟩ := hQ1
  have N1 := Fr.app N0 N1q
  refine g_special X1 hx hby hZ hown (rm_ini4K l Z a0 hw [] a ca kc cs x0 x1 cz h0 n0 Z0 O2 P5 OLD E FC FV ga VC gd0 gd1 hc0 hc1) rfl rfl w7_ w8_ w3_ w10_ (by decide) eh1 (by rw [hml]; rfl) [(.ref ca), (.int (0 : Int32)), (.int (2 : Int32)), .null] (lenOf own_pd14 rfl) rfl rfl (Nat.le_of_ble_eq_true rfl) (Nat.le_of_ble_eq_true rfl) (Nat.le_of_ble_eq_true rfl) (Nat.le_of_ble_eq_true rfl) d27_10 (fun v2 T2 L2 X2 hQ2 => ?_)
  obtain ⟨rfl, N2q, R2⟩ := hQ2
  have N2 := Fr.app N1 N2q
  refine g_ret X2 hx hby Bd.returns Bd.notSynchronized d27_13 rfl (by decide) (by decide) ?_
  show (Q_ini3K Z a ca kc cs x0 x1 cz fz h0 n0) none _ _
  exact ⟨rfl, N2, R2⟩

theorem d26_0 : decode prog_79_method_4_code 0 = .ok (.new 21, 3) := by decide +kernel
theorem d26_3 : decode prog_79_method_4_code 3 = .ok (.dup, 1) := by decide +kernel
theorem d26_4 : decode prog_79_method_4_code 4 = .ok (.aload_n 0, 1) := by decide +kernel
theorem d26_5 : decode prog_79_method_4_code 5 = .ok (.getfield 26, 3) := by decide +kernel
theorem d26_8 : decode prog_79_method_4_code 8 = .ok (.aload_n 0, 1) := by decide +kernel
theorem d26_9 : decode prog_79_method_4_code 9 = .ok (.iload_n 1, 1) := by decide +kernel
theorem d26_10 : decode prog_79_method_4_code 10 = .ok (.invokevirtual 16, 3) := by decide +kernel
theorem d26_13 : decode prog_79_method_4_code 13 = .ok (.aload_n 0, 1) := by decide +kernel
theorem d26_14 : decode prog_79_method_4_code 14 = .ok (.getfield 46, 3) := by decide +kernel
theorem d26_17 : decode prog_79_method_4_code 17 = .ok (.iload_n 1, 1) := by decide +kernel
theorem d26_18 : decode prog_79_method_4_code 18 = .ok (.iaload, 1) := by decide +kernel
theorem d26_19 : decode prog_79_method_4_code 19 = .ok (.aload_n 0, 1) := by decide +kernel
theorem d26_20 : decode prog_79_method_4_code 20 = .ok (.iload_n 1, 1) := by decide +kernel
theorem d26_21 : decode prog_79_method_4_code 21 = .ok (.invokevirtual 16, 3) := by decide +kernel
theorem d26_24 : decode prog_79_method_4_code 24 = .ok (.isub, 1) := by decide +kernel
theorem d26_25 : decode prog_79_method_4_code 25 = .ok (.invokespecial 53, 3) := by decide +kernel
theorem own_pd15 : parseMethodDescriptor "([CII)V" = some ⟨[(.array .char), .int, .int], none⟩ := by decide +kernel
theorem d26_28 : decode prog_79_method_4_code 28 = .ok (.areturn, 1) := by decide +kernel
def Q_keyK (Z : State) (ko : Addr) (en : Addr) (ke : ClassId) (ve : List Value) (ca : Addr) (kc : ClassId) (cs : List Value) (x0 : Int32) (x1 : Int32) (cz : Int32) (fz : Value) (h0 : Heap) (n0 : Nat) (v : Option Value) (h : Heap) (L : List Loc) : Prop := Fr n0 L ∧ Keep h0 h [] ∧ ∃ (a b : Addr) (kb : ClassId), v = some (.ref a) ∧ h0.size ≤ a ∧ h0.size ≤ b ∧ Exa Z h a "java/lang/String" ∧ Fld Z h a "java/lang/String" "coder" "B" (.int (0 : Int32)) ∧ Fld Z h a "java/lang/String" "value" "[B" (.ref b) ∧ Arv Z h b kb .byte (2 : Int32) [(.int (nar .byte (x0.toInt8.toInt32))), (.int (nar .byte (x1.toInt8.toInt32)))] (.int (0 : Int32))
set_option maxRecDepth 65536 in
set_option maxHeartbeats 40000000 in
theorem rm_keyK (l : Launch) (Z : State) (a0 : Array Value) (hw : ∀ d ∈ tables_1, d.before a0 Z = true) (ws : List Jvm.Cond) (ko : Addr) (en : Addr) (ke : ClassId) (ve : List Value) (ca : Addr) (kc : ClassId) (cs : List Value) (x0 : Int32) (x1 : Int32) (cz : Int32) (fz : Value) (h0 : Heap) (n0 : Nat) (Z0 : n0 ≤ h0.size) (O2 : Sta Z Z.heap "java/lang/String" "COMPACT_STRINGS" "Z" (.int cz)) (P5 : ¬ cz = (0 : Int32)) (OLD : Old Z n0 h0) (rfz : Rf fz) (O4 : Sta Z Z.heap "jdk/internal/util/Preconditions" "SIOOBE_FORMATTER" "Ljava/util/function/BiFunction;" fz) (KE : Exa Z h0 ko "com/example/invix/invix/sort/KeyBuffer") (F1 : Fld Z h0 ko "com/example/invix/invix/sort/KeyBuffer" "characters" "[C" (.ref ca)) (F2 : Fld Z h0 ko "com/example/invix/invix/sort/KeyBuffer" "ends" "[I" (.ref en)) (VE : Arv Z h0 en ke .int (128 : Int32) ve (.int (0 : Int32))) (hv : ve.getD 0 (.int (0 : Int32)) = .int (2 : Int32)) (VC : Arv Z h0 ca kc .char (1024 : Int32) cs (.int (0 : Int32))) (gd0 : cs.getD 0 (.int (0 : Int32)) = .int x0) (gd1 : cs.getD 1 (.int (0 : Int32)) = .int x1) (hc0 : ¬ (255 : Int32) < x0) (hc1 : ¬ (255 : Int32) < x1) :
    MetFree l (⟨"com/example/invix/invix/sort/KeyBuffer", "key", "(I)Ljava/lang/String;"⟩ : MethodName) (head1 (Jvm.Cond.code (⟨"com/example/invix/invix/sort/KeyBuffer", "key", "(I)Ljava/lang/String;"⟩ : MethodName) prog_79_method_4_code 2 (some (.object "java/lang/String")) :: ws) ({ frames := 4, cells := 2, slots := 6, locals := 68 } : Room)) (fun aa_ U => aa_ = #[(.ref ko), (.int (0 : Int32))] ∧ Z.Warmed39 U.vm ∧ U.heap = h0) (fun _ _ _ _ _ => True) (fun _ U o_ U' => RetG U (Q_keyK Z ko en ke ve ca kc cs x0 x1 cz fz h0 n0) 2 6 U' o_) := by
  refine MetFree.of_bodySF (plainFor_of_name own_pn3) hisR ?_
  intro p e s m args below meth c_ s₁ Bd hml0 hP hK
  obtain ⟨rfl, hZ, hh⟩ := hP
  have hx := Bd.exec
  have hby := Bd.bytes
  have hml : c_.maxLocals = 2 := hml0
  have hown : s.vm.findClass "com/example/invix/invix/sort/KeyBuffer" = some m.cls := findClass_of_methodNamed Bd.named
  have hnm := (name_of_methodNamed Bd.named Bd.method).1
  have X0 : Stand p l e ({ frames := 4, cells := 2, slots := 6, locals := 68 } : Room) s m #[(.ref ko), (.int (0 : Int32))] below meth c_ s₁ [] 0 0 := Stand.of_body Bd
  have e0 : s₁.heap = h0 := by rw [← hh, Bd.state]; rfl
  have N0 := Fr.nil n0
  have w2_ := hw _ (List.mem_of_getElem? (i := 2) rfl)
  have w3_ := hw _ (List.mem_of_getElem? (i := 3) rfl)
  have w27_ := hw _ (List.mem_of_getElem? (i := 27) rfl)
  have w29_ := hw _ (List.mem_of_getElem? (i := 29) rfl)
  have w31_ := hw _ (List.mem_of_getElem? (i := 31) rfl)
  have w32_ := hw _ (List.mem_of_getElem? (i := 32) rfl)
  have w42_ := hw _ (List.mem_of_getElem? (i := 42) rfl)
  have w45_ := hw _ (List.mem_of_getElem? (i := 45) rfl)
  have w54_ := hw _ (List.mem_of_getElem? (i := 54) rfl)
  have w55_ := hw _ (List.mem_of_getElem? (i := 55) rfl)
  have w56_ := hw _ (List.mem_of_getElem? (i := 56) rfl)
  have w57_ := hw _ (List.mem_of_getElem? (i := 57) rfl)
  have w134_ := hw _ (List.mem_of_getElem? (i := 134) rfl)
  have w135_ := hw _ (List.mem_of_getElem? (i := 135) rfl)
  have w136_ := hw _ (List.mem_of_getElem? (i := 136) rfl)
  have w137_ := hw _ (List.mem_of_getElem? (i := 137) rfl)
  show Go p e below (RetG s (Q_keyK Z ko en ke ve ca kc cs x0 x1 cz fz h0 n0) 2 6) (s₁.setTop (entryFrame m #[(.ref ko), (.int (0 : Int32))] 2))
  rw [show entryFrame m #[(.ref ko), (.int (0 : Int32))] 2 = mkF m 0 #[.val (.ref ko), .val (.int (0 : Int32))] [] from by first | (simp [entryFrame, mkF, argsToLocals, Value.category]; done) | rfl]
  refine g_new X0 hx hby hZ hown w134_ w2_ w3_ e0 (by decide) (by decide) d26_0 (fun T1 h1 b1 g1 X1 e1 E1 A1 D1 => ?_)
  have F_coder_b1 : Fld Z h1 b1 "java/lang/String" "coder" "B" (.int (0 : Int32)) := D1 (Or.inr w27_) (ty := .byte) (by decide)
  have F_value_b1 : Fld Z h1 b1 "java/lang/String" "value" "[B" .null := D1 (Or.inr w29_) (ty := (.array .byte)) (by decide)
  refine g_dup X1 hx hby d26_3 rfl ?_
  refine g_aloadN X1 hx hby d26_4 rfl rfl ?_
  have f2 := (F1.ext E1)
  refine g_getF X1 hx hby hZ hown (host := "") (Or.inl w42_) Via.refl e1 f2 d26_5 (fun T3 X3 e3 => ?_)
  refine g_aloadN X3 hx hby d26_8 rfl rfl ?_
  refine g_iloadN X3 hx hby d26_9 rfl ?_
  have z5 := (Nat.le_trans Z0 E1.1)
  have f6 := (KE.ext E1)
  refine g_private X3 hx hby hZ hown (rm_start_0 l Z a0 hw [] ko h1 n0 z5 ) w54_ w55_ w31_ w56_ w32_ w57_ (by decide) e3 f6 (by rw [hml]; rfl) [(.int (0 : Int32))] (lenOf own_pd8 rfl) rfl rfl (Nat.le_of_ble_eq_true rfl) (Nat.le_of_ble_eq_true rfl) (Nat.le_of_ble_eq_true rfl) (Nat.le_of_ble_eq_true rfl) d26_10 (fun v4 T4 L4 X4 hQ4 => ?_)
  obtain ⟨rfl, N4q, eh4⟩ := hQ4
  have N4 := Fr.app N0 N4q
  refine g_aloadN X4 hx hby d26_13 rfl rfl ?_
  have f7 := (F2.ext E1)
  refine g_getF X4 hx hby hZ hown (host := "") (Or.inl w45_) Via.refl eh4 f7 d26_14 (fun T8 X8 e8 => ?_)
  refine g_iloadN X8 hx hby d26_17 rfl ?_
  have f9 := (VE.ext E1)
  refine g_iaload X8 hx hby hZ e8 f9 (.int (2 : Int32)) ⟨by decide, by decide⟩ (by exact hv) d26_18 ?_
  refine g_aloadN X8 hx hby d26_19 rfl rfl ?_
  refine g_iloadN X8 hx hby d26_20 rfl ?_
  refine g_private X8 hx hby hZ hown (rm_start_0 l Z a0 hw [] ko h1 n0 z5 ) w54_ w55_ w31_ w56_ w32_ w57_ (by decide) e8 f6 (by rw [hml]; rfl) [(.int (0 : Int32))] (lenOf own_pd8 rfl) rfl rfl (Nat.le_of_ble_eq_true rfl) (Nat.le_of_ble_eq_true rfl) (Nat.le_of_ble_eq_true rfl) (Nat.le_of_ble_eq_true rfl) d26_21 (fun v10 T10 L10 X10 hQ10 => ?_)
  obtain ⟨rfl, N10q, eh10⟩ := hQ10
  have N10 := Fr.app N4 N10q
  refine g_isub X10 hx hby d26_24 ?_
  refine g_topI (2 : Int32) (by decide) ?_
  refine g_at 25 rfl rfl rfl ?_
  have f12 := (OLD.ext E1)
  have g_b1 : n0 ≤ b1 := Nat.le_trans Z0 (Nat.le_of_eq g1)
  have f13 := (VC.ext E1)
  refine g_special X10 hx hby hZ hown (rm_ini3K l Z a0 hw [] b1 ca kc cs x0 x1 cz fz h1 n0 z5 O2 P5 f12 rfz O4 A1 F_coder_b1 F_value_b1 g_b1 f13 gd0 gd1 hc0 hc1) rfl rfl w135_ w136_ w3_ w137_ (by decide) eh10 (by rw [hml]; rfl) [(.ref ca), (.int (0 : Int32)), (.int (2 : Int32))] (lenOf own_pd15 rfl) rfl rfl (Nat.le_of_ble_eq_true rfl) (Nat.le_of_ble_eq_true rfl) (Nat.le_of_ble_eq_true rfl) (Nat.le_of_ble_eq_true rfl) d26_25 (fun v11 T11 L11 X11 hQ11 => ?_)
  obtain ⟨rfl, N11q, K11, t11, kb11, lo11, Es11, Cs11, Vs11, Bs11⟩ := hQ11
  have N11 := Fr.app N10 N11q
  have f14 := (A1.keep K11)
  refine g_aret X11 hx hby (t := (.object "java/lang/String")) rfl rfl rfl Bd.returns Bd.notSynchronized d26_28 rfl (by decide) (by decide) ?_
  show (Q_keyK Z ko en ke ve ca kc cs x0 x1 cz fz h0 n0) (some (.ref b1)) _ _
  exact ⟨N11, (((Keep.refl h0 []).ext E1).trans K11 (allS (Or.inr (Nat.le_trans (Nat.le_refl _) (Nat.le_of_eq g1))) all0)), b1, t11, kb11, rfl, (Nat.le_trans (Nat.le_refl _) (Nat.le_of_eq g1)), (Nat.le_trans E1.1 lo11), f14, Cs11, Vs11, Bs11⟩

theorem d24_0 : decode prog_79_method_3_code 0 = .ok (.aload_n 0, 1) := by decide +kernel
theorem d24_1 : decode prog_79_method_3_code 1 = .ok (.getfield 12, 3) := by decide +kernel
theorem d24_4 : decode prog_79_method_3_code 4 = .ok (.ireturn, 1) := by decide +kernel
def Q_ksize (Z : State) (ko : Addr) (x : Int32) (h0 : Heap) (n0 : Nat) (v : Option Value) (h : Heap) (L : List Loc) : Prop := v = some (.int x) ∧ Fr n0 L ∧ h = h0
set_option maxRecDepth 65536 in
set_option maxHeartbeats 40000000 in
theorem rm_ksize (l : Launch) (Z : State) (a0 : Array Value) (hw : ∀ d ∈ tables_1, d.before a0 Z = true) (ws : List Jvm.Cond) (ko : Addr) (x : Int32) (h0 : Heap) (n0 : Nat) (Z0 : n0 ≤ h0.size) (F : Fld Z h0 ko "com/example/invix/invix/sort/KeyBuffer" "count" "I" (.int x)) :
    MetFree l (⟨"com/example/invix/invix/sort/KeyBuffer", "size", "()I"⟩ : MethodName) (head1 (Jvm.Cond.code (⟨"com/example/invix/invix/sort/KeyBuffer", "size", "()I"⟩ : MethodName) prog_79_method_3_code 1 (some .int) :: ws) ({ frames := 0, cells := 0, slots := 0, locals := 0 } : Room)) (fun aa_ U => aa_ = #[(.ref ko)] ∧ Z.Warmed39 U.vm ∧ U.heap = h0) (fun _ _ _ _ _ => True) (fun _ U o_ U' => RetG U (Q_ksize Z ko x h0 n0) 0 0 U' o_) := by
  refine MetFree.of_bodySF (plainFor_of_name own_pn3) hisR ?_
  intro p e s m args below meth c_ s₁ Bd hml0 hP hK
  obtain ⟨rfl, hZ, hh⟩ := hP
  have hx := Bd.exec
  have hby := Bd.bytes
  have hml : c_.maxLocals = 1 := hml0
  have hown : s.vm.findClass "com/example/invix/invix/sort/KeyBuffer" = some m.cls := findClass_of_methodNamed Bd.named
  have hnm := (name_of_methodNamed Bd.named Bd.method).1
  have X0 : Stand p l e ({ frames := 0, cells := 0, slots := 0, locals := 0 } : Room) s m #[(.ref ko)] below meth c_ s₁ [] 0 0 := Stand.of_body Bd
  have e0 : s₁.heap = h0 := by rw [← hh, Bd.state]; rfl
  have N0 := Fr.nil n0
  have w47_ := hw _ (List.mem_of_getElem? (i := 47) rfl)
  show Go p e below (RetG s (Q_ksize Z ko x h0 n0) 0 0) (s₁.setTop (entryFrame m #[(.ref ko)] 1))
  rw [show entryFrame m #[(.ref ko)] 1 = mkF m 0 #[.val (.ref ko)] [] from by first | (simp [entryFrame, mkF, argsToLocals, Value.category]; done) | rfl]
  refine g_aloadN X0 hx hby d24_0 rfl rfl ?_
  refine g_getF X0 hx hby hZ hown (host := "") (Or.inl w47_) Via.refl e0 F d24_1 (fun T1 X1 e1 => ?_)
  refine g_iret X1 hx hby Bd.returns Bd.notSynchronized d24_4 e1 (by decide) (by decide) ?_
  show (Q_ksize Z ko x h0 n0) (some (.int x)) _ _
  exact ⟨rfl, N0, rfl⟩

def Q_cmp5_2 (Z : State) (ca : Addr) (ba : Addr) (kc : ClassId) (kb : ClassId) (c0 : Int32) (c1 : Int32) (h0 : Heap) (n0 : Nat) (v : Option Value) (h : Heap) (L : List Loc) : Prop := v = some (.int (2 : Int32)) ∧ Fr n0 L ∧ Keep h0 h [ba] ∧ Arv Z h ba kb .byte (2 : Int32) [(.int (nar .byte (c0.toInt8.toInt32))), (.int (nar .byte (c1.toInt8.toInt32)))] (.int (0 : Int32))
set_option maxRecDepth 65536 in
set_option maxHeartbeats 40000000 in
theorem rm_cmp5_2 (l : Launch) (Z : State) (a0 : Array Value) (hw : ∀ d ∈ tables_1, d.before a0 Z = true) (ws : List Jvm.Cond) (ca : Addr) (ba : Addr) (kc : ClassId) (kb : ClassId) (c0 : Int32) (c1 : Int32) (h0 : Heap) (n0 : Nat) (Z0 : n0 ≤ h0.size) (VC : Arv Z h0 ca kc .char (2 : Int32) [(.int c0), (.int c1)] (.int (0 : Int32))) (VB : Arv Z h0 ba kb .byte (2 : Int32) [(.int (0 : Int32)), (.int (0 : Int32))] (.int (0 : Int32))) (nab : ca ≠ ba) (gb : n0 ≤ ba) (hc0 : ¬ (255 : Int32) < c0) (hc1 : ¬ (255 : Int32) < c1) :
    MetFree l (⟨"java/lang/StringUTF16", "compress", "([CI[BII)I"⟩ : MethodName) (head1 (Jvm.Cond.code (⟨"java/lang/StringUTF16", "compress", "([CI[BII)I"⟩ : MethodName) jdk_52_method_21_code 7 (some .int) :: ws) ({ frames := 0, cells := 0, slots := 0, locals := 0 } : Room)) (fun aa_ U => aa_ = #[(.ref ca), (.int (0 : Int32)), (.ref ba), (.int (0 : Int32)), (.int (2 : Int32))] ∧ Z.Warmed39 U.vm ∧ U.heap = h0) (fun _ _ _ _ _ => True) (fun _ U o_ U' => RetG U (Q_cmp5_2 Z ca ba kc kb c0 c1 h0 n0) 0 0 U' o_) := by
  refine MetFree.of_bodySF (plainFor_of_name own_pn4) hisR ?_
  intro p e s m args below meth c_ s₁ Bd hml0 hP hK
  obtain ⟨rfl, hZ, hh⟩ := hP
  have hx := Bd.exec
  have hby := Bd.bytes
  have hml : c_.maxLocals = 7 := hml0
  have hown : s.vm.findClass "java/lang/StringUTF16" = some m.cls := findClass_of_methodNamed Bd.named
  have hnm := (name_of_methodNamed Bd.named Bd.method).1
  have X0 : Stand p l e ({ frames := 0, cells := 0, slots := 0, locals := 0 } : Room) s m #[(.ref ca), (.int (0 : Int32)), (.ref ba), (.int (0 : Int32)), (.int (2 : Int32))] below meth c_ s₁ [] 0 0 := Stand.of_body Bd
  have e0 : s₁.heap = h0 := by rw [← hh, Bd.state]; rfl
  have N0 := Fr.nil n0
  show Go p e below (RetG s (Q_cmp5_2 Z ca ba kc kb c0 c1 h0 n0) 0 0) (s₁.setTop (entryFrame m #[(.ref ca), (.int (0 : Int32)), (.ref ba), (.int (0 : Int32)), (.int (2 : Int32))] 7))
  rw [show entryFrame m #[(.ref ca), (.int (0 : Int32)), (.ref ba), (.int (0 : Int32)), (.int (2 : Int32))] 7 = mkF m 0 #[.val (.ref ca), .val (.int (0 : Int32)), .val (.ref ba), .val (.int (0 : Int32)), .val (.int (2 : Int32)), .unset, .unset] [] from by first | (simp [entryFrame, mkF, argsToLocals, Value.category]; done) | rfl]
  refine g_iconst X0 hx hby (0 : Int32) d5_0 rfl ?_
  refine g_istore X0 hx hby d5_1 (l' := #[.val (.ref ca), .val (.int (0 : Int32)), .val (.ref ba), .val (.int (0 : Int32)), .val (.int (2 : Int32)), .val (.int (0 : Int32)), .unset]) rfl ?_
  refine g_iload X0 hx hby d5_3 rfl ?_
  refine g_iload X0 hx hby d5_5 rfl ?_
  refine g_icN X0 hx hby d5_7 (tlt (by decide : (0 : Int32) < (2 : Int32))).2.1 ?_
  refine g_aloadN X0 hx hby d5_10 rfl rfl ?_
  refine g_iloadN X0 hx hby d5_11 rfl ?_
  refine g_caload X0 hx hby hZ e0 VC (.int c0) ⟨by decide, by decide⟩ rfl d5_12 ?_
  refine g_istore X0 hx hby d5_13 (l' := #[.val (.ref ca), .val (.int (0 : Int32)), .val (.ref ba), .val (.int (0 : Int32)), .val (.int (2 : Int32)), .val (.int (0 : Int32)), .val (.int c0)]) rfl ?_
  refine g_iload X0 hx hby d5_15 rfl ?_
  refine g_sipush X0 hx hby (255 : Int32) d5_17 rfl ?_
  refine g_icY X0 hx hby 26 d5_20 (flt (hc0 : ¬ ((255 : Int32) < c0))).2.2.2 (by decide) (by decide) ?_
  refine g_aloadN X0 hx hby d5_26 rfl rfl ?_
  refine g_iloadN X0 hx hby d5_27 rfl ?_
  refine g_iload X0 hx hby d5_28 rfl ?_
  refine g_i2b X0 hx hby d5_30 ?_
  refine g_bastore X0 hx hby hZ e0 VB 0 [(.int (nar .byte (c0.toInt8.toInt32))), (.int (0 : Int32))] rfl ⟨by decide, by decide⟩ rfl (Nat.le_of_ble_eq_true rfl) N0 gb d5_31 (fun T1 h1 X1 e1 W1 V1 N1 => ?_)
  refine g_iinc X1 hx hby (1 : Int32) d5_32 rfl (by decide) (l' := #[.val (.ref ca), .val (.int (1 : Int32)), .val (.ref ba), .val (.int (0 : Int32)), .val (.int (2 : Int32)), .val (.int (0 : Int32)), .val (.int c0)]) rfl ?_
  refine g_iinc X1 hx hby (1 : Int32) d5_35 rfl (by decide) (l' := #[.val (.ref ca), .val (.int (1 : Int32)), .val (.ref ba), .val (.int (1 : Int32)), .val (.int (2 : Int32)), .val (.int (0 : Int32)), .val (.int c0)]) rfl ?_
  refine g_iinc X1 hx hby (1 : Int32) d5_38 rfl (by decide) (l' := #[.val (.ref ca), .val (.int (1 : Int32)), .val (.ref ba), .val (.int (1 : Int32)), .val (.int (2 : Int32)), .val (.int (1 : Int32)), .val (.int c0)]) rfl ?_
  refine g_goto X1 hx hby 3 d5_41 (by decide) (by decide) ?_
  refine g_iload X1 hx hby d5_3 rfl ?_
  refine g_iload X1 hx hby d5_5 rfl ?_
  refine g_icN X1 hx hby d5_7 (tlt (by decide : (1 : Int32) < (2 : Int32))).2.1 ?_
  refine g_aloadN X1 hx hby d5_10 rfl rfl ?_
  refine g_iloadN X1 hx hby d5_11 rfl ?_
  have f2 := (VC.other W1 nab)
  refine g_caload X1 hx hby hZ e1 f2 (.int c1) ⟨by decide, by decide⟩ rfl d5_12 ?_
  refine g_istore X1 hx hby d5_13 (l' := #[.val (.ref ca), .val (.int (1 : Int32)), .val (.ref ba), .val (.int (1 : Int32)), .val (.int (2 : Int32)), .val (.int (1 : Int32)), .val (.int c1)]) rfl ?_
  refine g_iload X1 hx hby d5_15 rfl ?_
  refine g_sipush X1 hx hby (255 : Int32) d5_17 rfl ?_
  refine g_icY X1 hx hby 26 d5_20 (flt (hc1 : ¬ ((255 : Int32) < c1))).2.2.2 (by decide) (by decide) ?_
  refine g_aloadN X1 hx hby d5_26 rfl rfl ?_
  refine g_iloadN X1 hx hby d5_27 rfl ?_
  refine g_iload X1 hx hby d5_28 rfl ?_
  refine g_i2b X1 hx hby d5_30 ?_
  refine g_bastore X1 hx hby hZ e1 V1 1 [(.int (nar .byte (c0.toInt8.toInt32))), (.int (nar .byte (c1.toInt8.toInt32)))] rfl ⟨by decide, by decide⟩ rfl (Nat.le_of_ble_eq_true rfl) N1 gb d5_31 (fun T3 h3 X3 e3 W3 V3 N3 => ?_)
  refine g_iinc X3 hx hby (2 : Int32) d5_32 rfl (by decide) (l' := #[.val (.ref ca), .val (.int (2 : Int32)), .val (.ref ba), .val (.int (1 : Int32)), .val (.int (2 : Int32)), .val (.int (1 : Int32)), .val (.int c1)]) rfl ?_
  refine g_iinc X3 hx hby (2 : Int32) d5_35 rfl (by decide) (l' := #[.val (.ref ca), .val (.int (2 : Int32)), .val (.ref ba), .val (.int (2 : Int32)), .val (.int (2 : Int32)), .val (.int (1 : Int32)), .val (.int c1)]) rfl ?_
  refine g_iinc X3 hx hby (2 : Int32) d5_38 rfl (by decide) (l' := #[.val (.ref ca), .val (.int (2 : Int32)), .val (.ref ba), .val (.int (2 : Int32)), .val (.int (2 : Int32)), .val (.int (2 : Int32)), .val (.int c1)]) rfl ?_
  refine g_goto X3 hx hby 3 d5_41 (by decide) (by decide) ?_
  refine g_iload X3 hx hby d5_3 rfl ?_
  refine g_iload X3 hx hby d5_5 rfl ?_
  refine g_icY X3 hx hby 44 d5_7 (flt (by decide : ¬ ((2 : Int32) < (2 : Int32)))).2.1 (by decide) (by decide) ?_
  refine g_iload X3 hx hby d5_44 rfl ?_
  refine g_iret X3 hx hby Bd.returns Bd.notSynchronized d5_46 e3 (by decide) (by decide) ?_
  show (Q_cmp5_2 Z ca ba kc kb c0 c1 h0 n0) (some (.int (2 : Int32))) _ _
  exact ⟨rfl, N3, (((Keep.refl h0 [ba]).wr W1 (Or.inl (List.mem_of_getElem? (i := 0) rfl))).wr W3 (Or.inl (List.mem_of_getElem? (i := 0) rfl))), V3⟩

def Q_cmp_2 (Z : State) (ca : Addr) (kc : ClassId) (c0 : Int32) (c1 : Int32) (h0 : Heap) (n0 : Nat) (v : Option Value) (h : Heap) (L : List Loc) : Prop := Fr n0 L ∧ Keep h0 h [] ∧ ∃ (b : Addr) (kb : ClassId), v = some (.ref b) ∧ h0.size ≤ b ∧ Arv Z h b kb .byte (2 : Int32) [(.int (nar .byte (c0.toInt8.toInt32))), (.int (nar .byte (c1.toInt8.toInt32)))] (.int (0 : Int32))
set_option maxRecDepth 65536 in
set_option maxHeartbeats 40000000 in
theorem rm_cmp_2 (l : Launch) (Z : State) (a0 : Array Value) (hw : ∀ d ∈ tables_1, d.before a0 Z = true) (ws : List Jvm.Cond) (ca : Addr) (kc : ClassId) (c0 : Int32) (c1 : Int32) (h0 : Heap) (n0 : Nat) (Z0 : n0 ≤ h0.size) (VC : Arv Z h0 ca kc .char (2 : Int32) [(.int c0), (.int c1)] (.int (0 : Int32))) (hc0 : ¬ (255 : Int32) < c0) (hc1 : ¬ (255 : Int32) < c1) :
    MetFree l (⟨"java/lang/StringUTF16", "compress", "([CII)[B"⟩ : MethodName) (head1 (Jvm.Cond.code (⟨"java/lang/StringUTF16", "compress", "([CII)[B"⟩ : MethodName) jdk_52_method_16_code 6 (some (.array .byte)) :: ws) ({ frames := 1, cells := 1, slots := 2, locals := 18 } : Room)) (fun aa_ U => aa_ = #[(.ref ca), (.int (0 : Int32)), (.int (2 : Int32))] ∧ Z.Warmed39 U.vm ∧ U.heap = h0) (fun _ _ _ _ _ => True) (fun _ U o_ U' => RetG U (Q_cmp_2 Z ca kc c0 c1 h0 n0) 1 2 U' o_) := by
  refine MetFree.of_bodySF (plainFor_of_name own_pn4) hisR ?_
  intro p e s m args below meth c_ s₁ Bd hml0 hP hK
  obtain ⟨rfl, hZ, hh⟩ := hP
  have hx := Bd.exec
  have hby := Bd.bytes
  have hml : c_.maxLocals = 6 := hml0
  have hown : s.vm.findClass "java/lang/StringUTF16" = some m.cls := findClass_of_methodNamed Bd.named
  have hnm := (name_of_methodNamed Bd.named Bd.method).1
  have X0 : Stand p l e ({ frames := 1, cells := 1, slots := 2, locals := 18 } : Room) s m #[(.ref ca), (.int (0 : Int32)), (.int (2 : Int32))] below meth c_ s₁ [] 0 0 := Stand.of_body Bd
  have e0 : s₁.heap = h0 := by rw [← hh, Bd.state]; rfl
  have N0 := Fr.nil n0
  have w17_ := hw _ (List.mem_of_getElem? (i := 17) rfl)
  have w19_ := hw _ (List.mem_of_getElem? (i := 19) rfl)
  have w20_ := hw _ (List.mem_of_getElem? (i := 20) rfl)
  have w21_ := hw _ (List.mem_of_getElem? (i := 21) rfl)
  have w22_ := hw _ (List.mem_of_getElem? (i := 22) rfl)
  show Go p e below (RetG s (Q_cmp_2 Z ca kc c0 c1 h0 n0) 1 2) (s₁.setTop (entryFrame m #[(.ref ca), (.int (0 : Int32)), (.int (2 : Int32))] 6))
  rw [show entryFrame m #[(.ref ca), (.int (0 : Int32)), (.int (2 : Int32))] 6 = mkF m 0 #[.val (.ref ca), .val (.int (0 : Int32)), .val (.int (2 : Int32)), .unset, .unset, .unset] [] from by first | (simp [entryFrame, mkF, argsToLocals, Value.category]; done) | rfl]
  refine g_iloadN X0 hx hby d4_0 rfl ?_
  refine g_newarray X0 hx hby hZ .byte .byte (.int (0 : Int32)) [(.int (0 : Int32)), (.int (0 : Int32))] rfl rfl w19_ e0 (by decide) 2 rfl (by decide) (by decide) (by decide) (by decide) d4_1 (fun T1 h1 k1 b1 g1 X1 e1 E1 V1 => ?_)
  refine g_astoreN X1 hx hby d4_3 rfl (l' := #[.val (.ref ca), .val (.int (0 : Int32)), .val (.int (2 : Int32)), .val (.ref b1), .unset, .unset]) rfl ?_
  refine g_aloadN X1 hx hby d4_4 rfl rfl ?_
  refine g_iloadN X1 hx hby d4_5 rfl ?_
  refine g_aloadN X1 hx hby d4_6 rfl rfl ?_
  refine g_iconst X1 hx hby (0 : Int32) d4_7 rfl ?_
  refine g_iloadN X1 hx hby d4_8 rfl ?_
  have f3 := (VC.ext E1)
  have ne4 : ca ≠ b1 := (Nat.ne_of_lt (Nat.lt_of_lt_of_le VC.lt (Nat.le_of_eq g1)))
  have g_b1 : n0 ≤ b1 := Nat.le_trans Z0 (Nat.le_of_eq g1)
  have z5 := (Nat.le_trans Z0 E1.1)
  refine g_static X1 hx hby hZ hown (rm_cmp5_2 l Z a0 hw [] ca b1 kc k1 c0 c1 h1 n0 z5 f3 V1 ne4 g_b1 hc0 hc1) w20_ w21_ w17_ w22_ (by decide) e1 (by rw [hml]; rfl) [(.ref ca), (.int (0 : Int32)), (.ref b1), (.int (0 : Int32)), (.int (2 : Int32))] (lenOf own_pd10 rfl) rfl rfl (Nat.le_of_ble_eq_true rfl) (Nat.le_of_ble_eq_true rfl) (Nat.le_of_ble_eq_true rfl) (Nat.le_of_ble_eq_true rfl) d4_9 (fun v2 T2 L2 X2 hQ2 => ?_)
  obtain ⟨rfl, N2q, K2, V2⟩ := hQ2
  have N2 := Fr.app N0 N2q
  refine g_istore X2 hx hby d4_12 (l' := #[.val (.ref ca), .val (.int (0 : Int32)), .val (.int (2 : Int32)), .val (.ref b1), .val (.int (2 : Int32)), .unset]) rfl ?_
  refine g_iload X2 hx hby d4_14 rfl ?_
  refine g_iloadN X2 hx hby d4_16 rfl ?_
  refine g_icY X2 hx hby 57 d4_17 (teq (by decide : (2 : Int32) = (2 : Int32))).1 (by decide) (by decide) ?_
  refine g_aloadN X2 hx hby d4_57 rfl rfl ?_
  refine g_aret X2 hx hby (t := (.array .byte)) rfl rfl rfl Bd.returns Bd.notSynchronized d4_58 rfl (by decide) (by decide) ?_
  show (Q_cmp_2 Z ca kc c0 c1 h0 n0) (some (.ref b1)) _ _
  exact ⟨N2, (((Keep.refl h0 []).ext E1).trans K2 (allS (Or.inr (Nat.le_trans (Nat.le_refl _) (Nat.le_of_eq g1))) all0)), b1, k1, rfl, (Nat.le_trans (Nat.le_refl _) (Nat.le_of_eq g1)), V2⟩

def Q_ini2_2 (Z : State) (a : Addr) (ca : Addr) (kc : ClassId) (c0 : Int32) (c1 : Int32) (cz : Int32) (h0 : Heap) (n0 : Nat) (v : Option Value) (h : Heap) (L : List Loc) : Prop := v = none ∧ Fr n0 L ∧ Keep h0 h [a] ∧ ∃ (b : Addr) (kb : ClassId), h0.size ≤ b ∧ Exa Z h a "java/lang/String" ∧ Fld Z h a "java/lang/String" "coder" "B" (.int (0 : Int32)) ∧ Fld Z h a "java/lang/String" "value" "[B" (.ref b) ∧ Arv Z h b kb .byte (2 : Int32) [(.int (nar .byte (c0.toInt8.toInt32))), (.int (nar .byte (c1.toInt8.toInt32)))] (.int (0 : Int32))
set_option maxRecDepth 65536 in
set_option maxHeartbeats 40000000 in
theorem rm_ini2_2 (l : Launch) (Z : State) (a0 : Array Value) (hw : ∀ d ∈ tables_1, d.before a0 Z = true) (ws : List Jvm.Cond) (a : Addr) (ca : Addr) (kc : ClassId) (c0 : Int32) (c1 : Int32) (cz : Int32) (h0 : Heap) (n0 : Nat) (Z0 : n0 ≤ h0.size) (O2 : Sta Z Z.heap "java/lang/String" "COMPACT_STRINGS" "Z" (.int cz)) (P5 : ¬ cz = (0 : Int32)) (OLD : Old Z n0 h0) (E : Exa Z h0 a "java/lang/String") (FC : Fld Z h0 a "java/lang/String" "coder" "B" (.int (0 : Int32))) (FV : Fld Z h0 a "java/lang/String" "value" "[B" .null) (VC : Arv Z h0 ca kc .char (2 : Int32) [(.int c0), (.int c1)] (.int (0 : Int32))) (ga : n0 ≤ a) (hc0 : ¬ (255 : Int32) < c0) (hc1 : ¬ (255 : Int32) < c1) :
    MetFree l (⟨"java/lang/String", "<init>", "([CIILjava/lang/Void;)V"⟩ : MethodName) (head1 (Jvm.Cond.code (⟨"java/lang/String", "<init>", "([CIILjava/lang/Void;)V"⟩ : MethodName) jdk_42_method_149_code 6 none :: ws) ({ frames := 2, cells := 1, slots := 2, locals := 35 } : Room)) (fun aa_ U => aa_ = #[(.ref a), (.ref ca), (.int (0 : Int32)), (.int (2 : Int32)), .null] ∧ Z.Warmed39 U.vm ∧ U.heap = h0) (fun _ _ _ _ _ => True) (fun _ U o_ U' => RetG U (Q_ini2_2 Z a ca kc c0 c1 cz h0 n0) 1 2 U' o_) := by
  refine MetFree.of_bodySF (plainFor_of_name own_pn2) hisR ?_
  intro p e s m args below meth c_ s₁ Bd hml0 hP hK
  obtain ⟨rfl, hZ, hh⟩ := hP
  have hx := Bd.exec
  have hby := Bd.bytes
  have hml : c_.maxLocals = 6 := hml0
  have hown : s.vm.findClass "java/lang/String" = some m.cls := findClass_of_methodNamed Bd.named
  have hnm := (name_of_methodNamed Bd.named Bd.method).1
  have X0 : Stand p l e ({ frames := 2, cells := 1, slots := 2, locals := 35 } : Room) s m #[(.ref a), (.ref ca), (.int (0 : Int32)), (.int (2 : Int32)), .null] below meth c_ s₁ [] 0 0 := Stand.of_body Bd
  have e0 : s₁.heap = h0 := by rw [← hh, Bd.state]; rfl
  have N0 := Fr.nil n0
  have w2_ := hw _ (List.mem_of_getElem? (i := 2) rfl)
  have w11_ := hw _ (List.mem_of_getElem? (i := 11) rfl)
  have w12_ := hw _ (List.mem_of_getElem? (i := 12) rfl)
  have w13_ := hw _ (List.mem_of_getElem? (i := 13) rfl)
  have w14_ := hw _ (List.mem_of_getElem? (i := 14) rfl)
  have w15_ := hw _ (List.mem_of_getElem? (i := 15) rfl)
  have w16_ := hw _ (List.mem_of_getElem? (i := 16) rfl)
  have w17_ := hw _ (List.mem_of_getElem? (i := 17) rfl)
  have w18_ := hw _ (List.mem_of_getElem? (i := 18) rfl)
  have w23_ := hw _ (List.mem_of_getElem? (i := 23) rfl)
  have w24_ := hw _ (List.mem_of_getElem? (i := 24) rfl)
  have w25_ := hw _ (List.mem_of_getElem? (i := 25) rfl)
  have w26_ := hw _ (List.mem_of_getElem? (i := 26) rfl)
  have w27_ := hw _ (List.mem_of_getElem? (i := 27) rfl)
  have w28_ := hw _ (List.mem_of_getElem? (i := 28) rfl)
  have w29_ := hw _ (List.mem_of_getElem? (i := 29) rfl)
  show Go p e below (RetG s (Q_ini2_2 Z a ca kc c0 c1 cz h0 n0) 1 2) (s₁.setTop (entryFrame m #[(.ref a), (.ref ca), (.int (0 : Int32)), (.int (2 : Int32)), .null] 6))
  rw [show entryFrame m #[(.ref a), (.ref ca), (.int (0 : Int32)), (.int (2 : Int32)), .null] 6 = mkF m 0 #[.val (.ref a), .val (.ref ca), .val (.int (0 : Int32)), .val (.int (2 : Int32)), .val .null, .unset] [] from by first | (simp [entryFrame, mkF, argsToLocals, Value.category]; done) | rfl]
  refine g_aloadN X0 hx hby d2_0 rfl rfl ?_
  refine g_initO X0 hx hby hZ hown w11_ w12_ w13_ e0 (by rw [hml]; rfl) (Nat.le_of_ble_eq_true rfl) (Nat.le_of_ble_eq_true rfl) d2_1 (fun T1 X1 e1 => ?_)
  refine g_iloadN X1 hx hby d2_4 rfl ?_
  refine g_ifY X1 hx hby 27 d2_5 (feq (by decide : ¬ ((2 : Int32) = (0 : Int32)))).2 (by decide) (by decide) ?_
  refine g_getS X1 hx hby hZ hown (host := "") (Or.inl w14_) Via.refl e1 (O2.ext OLD.2) d2_27 (fun T2 X2 e2 => ?_)
  refine g_ifN X2 hx hby d2_30 (feq (P5 : ¬ (cz = (0 : Int32)))).1 ?_
  refine g_aloadN X2 hx hby d2_33 rfl rfl ?_
  refine g_iloadN X2 hx hby d2_34 rfl ?_
  refine g_iloadN X2 hx hby d2_35 rfl ?_
  refine g_static X2 hx hby hZ hown (rm_cmp_2 l Z a0 hw [] ca kc c0 c1 h0 n0 Z0 VC hc0 hc1) w15_ w16_ w17_ w18_ (by decide) e2 (by rw [hml]; rfl) [(.ref ca), (.int (0 : Int32)), (.int (2 : Int32))] (lenOf own_pd11 rfl) rfl rfl (Nat.le_of_ble_eq_true rfl) (Nat.le_of_ble_eq_true rfl) (Nat.le_of_ble_eq_true rfl) (Nat.le_of_ble_eq_true rfl) d2_36 (fun v3 T3 L3 X3 hQ3 => ?_)
  obtain ⟨N3q, K3, bb, kb, rfl, lob, Vb⟩ := hQ3
  have N3 := Fr.app N0 N3q
  refine g_astore X3 hx hby d2_39 rfl (l' := #[.val (.ref a), .val (.ref ca), .val (.int (0 : Int32)), .val (.int (2 : Int32)), .val .null, .val (.ref bb)]) rfl ?_
  refine g_aloadN X3 hx hby d2_41 rfl rfl ?_
  refine g_aload X3 hx hby d2_42 rfl rfl ?_
  refine g_iloadN X3 hx hby d2_44 rfl ?_
  have z5 := (Nat.le_trans Z0 K3.1)
  refine g_static X3 hx hby hZ hown (rm_cfal_2_2 l Z a0 hw [] bb kb [(.int (nar .byte (c0.toInt8.toInt32))), (.int (nar .byte (c1.toInt8.toInt32)))] T3.heap n0 z5 Vb) w23_ w24_ w17_ w25_ (by decide) rfl (by rw [hml]; rfl) [(.ref bb), (.int (2 : Int32))] (lenOf own_pd12 rfl) rfl rfl (Nat.le_of_ble_eq_true rfl) (Nat.le_of_ble_eq_true rfl) (Nat.le_of_ble_eq_true rfl) (Nat.le_of_ble_eq_true rfl) d2_45 (fun v4 T4 L4 X4 hQ4 => ?_)
  obtain ⟨rfl, N4q, eh4⟩ := hQ4
  have N4 := Fr.app N3 N4q
  have f6 := (E.keep K3)
  have f7 := (FC.keep K3 nin0)
  refine g_putFN X4 hx hby hZ hown w26_ Via.refl eh4 f7 f6 (Or.inr ⟨w27_, rfl, hnm⟩) w2_ .byte (by decide) (.int (0 : Int32)) rfl rfl N4 ga d2_48 (fun T8 h8 X8 e8 W8 F8 N8 => ?_)
  refine g_aloadN X8 hx hby d2_51 rfl rfl ?_
  refine g_aload X8 hx hby d2_52 rfl rfl ?_
  have f9 := (f6.wr W8)
  have f10 := ((FV.keep K3 nin0).other W8 (Or.inr (slot_ne (Or.inr w29_) (Or.inr w27_) (by decide) (t := (.array .byte)) (t' := .byte) (by decide) (by decide))))
  refine g_putF X8 hx hby hZ hown (host := "") (Or.inl w28_) Via.refl e8 f10 f9 (Or.inr ⟨w29_, rfl, hnm⟩) w2_ (.array .byte) (by decide) rfl rfl N8 ga d2_54 (fun T11 h11 X11 e11 W11 F11 N11 => ?_)
  have f12 := (f9.wr W11)
  have f13 := (F8.other W11 (Or.inr (slot_ne (Or.inr w27_) (Or.inr w29_) (by decide) (t := .byte) (t' := (.array .byte)) (by decide) (by decide))))
  have ne14 : bb ≠ a := (Ne.symm (Nat.ne_of_lt (Nat.lt_of_lt_of_le E.lt lob)))
  have f15 := ((Vb.other W8 ne14).other W11 ne14)
  refine g_ret X11 hx hby Bd.returns Bd.notSynchronized d2_57 e11 (by decide) (by decide) ?_
  show (Q_ini2_2 Z a ca kc c0 c1 cz h0 n0) none _ _
  exact ⟨rfl, N11, ((((Keep.refl h0 [a]).trans K3 all0).wr W8 (Or.inl (List.mem_of_getElem? (i := 0) rfl))).wr W11 (Or.inl (List.mem_of_getElem? (i := 0) rfl))), bb, kb, (Nat.le_trans (Nat.le_refl _) lob), f12, f13, F11, f15⟩

theorem d1_0 : decode jdk_42_method_3_code 0 = .ok (.aload_n 0, 1) := by decide +kernel
theorem d1_1 : decode jdk_42_method_3_code 1 = .ok (.aload_n 1, 1) := by decide +kernel
theorem d1_2 : decode jdk_42_method_3_code 2 = .ok (.iconst 0, 1) := by decide +kernel
theorem d1_3 : decode jdk_42_method_3_code 3 = .ok (.aload_n 1, 1) := by decide +kernel
theorem d1_4 : decode jdk_42_method_3_code 4 = .ok (.arraylength, 1) := by decide +kernel
theorem d1_5 : decode jdk_42_method_3_code 5 = .ok (.aconst_null, 1) := by decide +kernel
theorem d1_6 : decode jdk_42_method_3_code 6 = .ok (.invokespecial 27, 3) := by decide +kernel
theorem d1_9 : decode jdk_42_method_3_code 9 = .ok (.return_, 1) := by decide +kernel
def Q_ini1_2 (Z : State) (a : Addr) (ca : Addr) (kc : ClassId) (c0 : Int32) (c1 : Int32) (cz : Int32) (h0 : Heap) (n0 : Nat) (v : Option Value) (h : Heap) (L : List Loc) : Prop := v = none ∧ Fr n0 L ∧ Keep h0 h [a] ∧ ∃ (b : Addr) (kb : ClassId), h0.size ≤ b ∧ Exa Z h a "java/lang/String" ∧ Fld Z h a "java/lang/String" "coder" "B" (.int (0 : Int32)) ∧ Fld Z h a "java/lang/String" "value" "[B" (.ref b) ∧ Arv Z h b kb .byte (2 : Int32) [(.int (nar .byte (c0.toInt8.toInt32))), (.int (nar .byte (c1.toInt8.toInt32)))] (.int (0 : Int32))
set_option maxRecDepth 65536 in
set_option maxHeartbeats 40000000 in
theorem rm_ini1_2 (l : Launch) (Z : State) (a0 : Array Value) (hw : ∀ d ∈ tables_1, d.before a0 Z = true) (ws : List Jvm.Cond) (a : Addr) (ca : Addr) (kc : ClassId) (c0 : Int32) (c1 : Int32) (cz : Int32) (h0 : Heap) (n0 : Nat) (Z0 : n0 ≤ h0.size) (O2 : Sta Z Z.heap "java/lang/String" "COMPACT_STRINGS" "Z" (.int cz)) (P5 : ¬ cz = (0 : Int32)) (OLD : Old Z n0 h0) (E : Exa Z h0 a "java/lang/String") (FC : Fld Z h0 a "java/lang/String" "coder" "B" (.int (0 : Int32))) (FV : Fld Z h0 a "java/lang/String" "value" "[B" .null) (VC : Arv Z h0 ca kc .char (2 : Int32) [(.int c0), (.int c1)] (.int (0 : Int32))) (ga : n0 ≤ a) (hc0 : ¬ (255 : Int32) < c0) (hc1 : ¬ (255 : Int32) < c1) :
    MetFree l (⟨"java/lang/String", "<init>", "([C)V"⟩ : MethodName) (head1 (Jvm.Cond.code (⟨"java/lang/String", "<init>", "([C)V"⟩ : MethodName) jdk_42_method_3_code 2 none :: ws) ({ frames := 3, cells := 1, slots := 2, locals := 52 } : Room)) (fun aa_ U => aa_ = #[(.ref a), (.ref ca)] ∧ Z.Warmed39 U.vm ∧ U.heap = h0) (fun _ _ _ _ _ => True) (fun _ U o_ U' => RetG U (Q_ini1_2 Z a ca kc c0 c1 cz h0 n0) 1 2 U' o_) := by
  refine MetFree.of_bodySF (plainFor_of_name own_pn2) hisR ?_
  intro p e s m args below meth c_ s₁ Bd hml0 hP hK
  obtain ⟨rfl, hZ, hh⟩ := hP
  have hx := Bd.exec
  have hby := Bd.bytes
  have hml : c_.maxLocals = 2 := hml0
  have hown : s.vm.findClass "java/lang/String" = some m.cls := findClass_of_methodNamed Bd.named
  have hnm := (name_of_methodNamed Bd.named Bd.method).1
  have X0 : Stand p l e ({ frames := 3, cells := 1, slots := 2, locals := 52 } : Room) s m #[(.ref a), (.ref ca)] below meth c_ s₁ [] 0 0 := Stand.of_body Bd
  have e0 : s₁.heap = h0 := by rw [← hh, Bd.state]; rfl
  have N0 := Fr.nil n0
  have w3_ := hw _ (List.mem_of_getElem? (i := 3) rfl)
  have w7_ := hw _ (List.mem_of_getElem? (i := 7) rfl)
  have w8_ := hw _ (List.mem_of_getElem? (i := 8) rfl)
  have w10_ := hw _ (List.mem_of_getElem? (i := 10) rfl)
  show Go p e below (RetG s (Q_ini1_2 Z a ca kc c0 c1 cz h0 n0) 1 2) (s₁.setTop (entryFrame m #[(.ref a), (.ref ca)] 2))
  rw [show entryFrame m #[(.ref a), (.ref ca)] 2 = mkF m 0 #[.val (.ref a), .val (.ref ca)] [] from by first | (simp [entryFrame, mkF, argsToLocals, Value.category]; done) | rfl]
  refine g_aloadN X0 hx hby d1_0 rfl rfl ?_
  refine g_aloadN X0 hx hby d1_1 rfl rfl ?_
  refine g_iconst X0 hx hby (0 : Int32) d1_2 rfl ?_
  refine g_aloadN X0 hx hby d1_3 rfl rfl ?_
  refine g_arraylength X0 hx hby hZ e0 VC d1_4 ?_
  refine g_aconst_null X0 hx hby d1_5 ?_
  refine g_special X0 hx hby hZ hown (rm_ini2_2 l Z a0 hw [] a ca kc c0 c1 cz h0 n0 Z0 O2 P5 OLD E FC FV VC ga hc0 hc1) rfl rfl w7_ w8_ w3_ w10_ (by decide) e0 (by rw [hml]; rfl) [(.ref ca), (.int (0 : Int32)), (.int (2 : Int32)), .null] (lenOf own_pd14 rfl) rfl rfl (Nat.le_of_ble_eq_true rfl) (Nat.le_of_ble_eq_true rfl) (Nat.le_of_ble_eq_true rfl) (Nat.le_of_ble_eq_true rfl) d1_6 (fun v1 T1 L1 X1 hQ1 => ?_)
  obtain ⟨rfl, N1q, R1⟩ := hQ1
  have N1 := Fr.app N0 N1q
  refine g_ret X1 hx hby Bd.returns Bd.notSynchronized d1_9 rfl (by decide) (by decide) ?_
  show (Q_ini1_2 Z a ca kc c0 c1 cz h0 n0) none _ _
  exact ⟨rfl, N1, R1⟩

theorem own_pd16 : parseMethodDescriptor "([C)V" = some ⟨[(.array .char)], none⟩ := by decide +kernel
def Q_cmp5N (Z : State) (ca : Addr) (ba : Addr) (kc : ClassId) (kb : ClassId) (nn : Int32) (N : Nat) (cs : List Value) (bs : List Value) (h0 : Heap) (n0 : Nat) (v : Option Value) (h : Heap) (L : List Loc) : Prop := v = some (.int nn) ∧ Fr n0 L ∧ Keep h0 h [ba] ∧ ∃ bs' : List Value, Arv Z h ba kb .byte nn bs' (.int (0 : Int32))
set_option maxRecDepth 65536 in
set_option maxHeartbeats 40000000 in
theorem rm_cmp5N (l : Launch) (Z : State) (a0 : Array Value) (hw : ∀ d ∈ tables_1, d.before a0 Z = true) (ws : List Jvm.Cond) (ca : Addr) (ba : Addr) (kc : ClassId) (kb : ClassId) (nn : Int32) (N : Nat) (cs : List Value) (bs : List Value) (h0 : Heap) (n0 : Nat) (Z0 : n0 ≤ h0.size) (hn : nn.toInt = N) (VC : Arv Z h0 ca kc .char nn cs (.int (0 : Int32))) (VB : Arv Z h0 ba kb .byte nn bs (.int (0 : Int32))) (nab : ca ≠ ba) (gb : n0 ≤ ba) (hbl : nn.toNatClampNeg ≤ bs.length) (hcs : ∀ i, i < N → ∃ x : Int32, cs.getD i (.int (0 : Int32)) = .int x ∧ ¬ (255 : Int32) < x) :
    MetFree l (⟨"java/lang/StringUTF16", "compress", "([CI[BII)I"⟩ : MethodName) (head1 (Jvm.Cond.code (⟨"java/lang/StringUTF16", "compress", "([CI[BII)I"⟩ : MethodName) jdk_52_method_21_code 7 (some .int) :: ws) ({ frames := 0, cells := 0, slots := 0, locals := 0 } : Room)) (fun aa_ U => aa_ = #[(.ref ca), (.int (0 : Int32)), (.ref ba), (.int (0 : Int32)), (.int nn)] ∧ Z.Warmed39 U.vm ∧ U.heap = h0) (fun _ _ _ _ _ => True) (fun _ U o_ U' => RetG U (Q_cmp5N Z ca ba kc kb nn N cs bs h0 n0) 0 0 U' o_) := by
  refine MetFree.of_bodySF (plainFor_of_name own_pn4) hisR ?_
  intro p e s m args below meth c_ s₁ Bd hml0 hP hK
  obtain ⟨rfl, hZ, hh⟩ := hP
  have hx := Bd.exec
  have hby := Bd.bytes
  have hml : c_.maxLocals = 7 := hml0
  have hown : s.vm.findClass "java/lang/StringUTF16" = some m.cls := findClass_of_methodNamed Bd.named
  have hnm := (name_of_methodNamed Bd.named Bd.method).1
  have X0 : Stand p l e ({ frames := 0, cells := 0, slots := 0, locals := 0 } : Room) s m #[(.ref ca), (.int (0 : Int32)), (.ref ba), (.int (0 : Int32)), (.int nn)] below meth c_ s₁ [] 0 0 := Stand.of_body Bd
  have e0 : s₁.heap = h0 := by rw [← hh, Bd.state]; rfl
  have N0 := Fr.nil n0
  show Go p e below (RetG s (Q_cmp5N Z ca ba kc kb nn N cs bs h0 n0) 0 0) (s₁.setTop (entryFrame m #[(.ref ca), (.int (0 : Int32)), (.ref ba), (.int (0 : Int32)), (.int nn)] 7))
  rw [show entryFrame m #[(.ref ca), (.int (0 : Int32)), (.ref ba), (.int (0 : Int32)), (.int nn)] 7 = mkF m 0 #[.val (.ref ca), .val (.int (0 : Int32)), .val (.ref ba), .val (.int (0 : Int32)), .val (.int nn), .unset, .unset] [] from by first | (simp [entryFrame, mkF, argsToLocals, Value.category]; done) | rfl]
  refine g_iconst X0 hx hby (0 : Int32) d5_0 rfl ?_
  refine g_istore X0 hx hby d5_1 (l' := #[.val (.ref ca), .val (.int (0 : Int32)), .val (.ref ba), .val (.int (0 : Int32)), .val (.int nn), .val (.int (0 : Int32)), .unset]) rfl ?_
  have loop : ∀ (kk j : Nat) (o6 : Slot) (bs9 : List Value) (T9 : State) (locs9 : List Loc) (h9 : Heap), j + kk = N → Stand p l e ({ frames := 0, cells := 0, slots := 0, locals := 0 } : Room) s m #[(.ref ca), (.int (0 : Int32)), (.ref ba), (.int (0 : Int32)), (.int nn)] below meth c_ T9 locs9 0 0 → T9.heap = h9 → Fr n0 locs9 → Keep h0 h9 [ba] → (One o6) → (Arv Z h9 ca kc .char nn cs (.int (0 : Int32))) → (Arv Z h9 ba kb .byte nn bs9 (.int (0 : Int32))) → (nn.toNatClampNeg ≤ bs9.length) →  Go p e below (RetG s (Q_cmp5N Z ca ba kc kb nn N cs bs h0 n0) 0 0) (T9.setTop (mkF m 3 #[.val (.ref ca), .val (.int (Int32.ofNat j)), .val (.ref ba), .val (.int (Int32.ofNat j)), .val (.int nn), .val (.int (Int32.ofNat j)), o6] [])) := by
    intro kk
    induction kk with
    | zero =>
      intro j o6 bs9 T9 locs9 h9 hj X9 e9 N9 K9 ho6 VC9 VB9 hl9
      have z9 : n0 ≤ h9.size := Nat.le_trans Z0 K9.1
      obtain rfl : N = j := by omega
      refine g_iload X9 hx hby d5_3 rfl ?_
      refine g_iload X9 hx hby d5_5 rfl ?_
      refine g_icY X9 hx hby 44 d5_7 (flt (own_nltn hn : ¬ ((Int32.ofNat N) < nn))).2.1 (by decide) (by decide) ?_
      refine g_iload X9 hx hby d5_44 rfl ?_
      refine g_iret X9 hx hby Bd.returns Bd.notSynchronized d5_46 e9 (by decide) (by decide) ?_
      show (Q_cmp5N Z ca ba kc kb nn N cs bs h0 n0) (some (.int nn)) _ _
      exact ⟨rfl, N9, K9, _, VB9⟩
    | succ kk ih =>
      intro j o6 bs9 T9 locs9 h9 hj X9 e9 N9 K9 ho6 VC9 VB9 hl9
      have z9 : n0 ≤ h9.size := Nat.le_trans Z0 K9.1
      refine g_iload X9 hx hby d5_3 rfl ?_
      refine g_iload X9 hx hby d5_5 rfl ?_
      refine g_icN X9 hx hby d5_7 (tlt (own_ltn hn (by omega) : (Int32.ofNat j) < nn)).2.1 ?_
      refine g_aloadN X9 hx hby d5_10 rfl rfl ?_
      refine g_iloadN X9 hx hby d5_11 rfl ?_
      obtain ⟨x9, hx9, hb9⟩ := hcs j (by omega)
      refine g_caload X9 hx hby hZ e9 VC9 (.int x9) (own_inn hn (by omega)) (by rw [own_tn hn (by omega)]; exact hx9) d5_12 ?_
      refine g_istore X9 hx hby d5_13 (l' := #[.val (.ref ca), .val (.int (Int32.ofNat j)), .val (.ref ba), .val (.int (Int32.ofNat j)), .val (.int nn), .val (.int (Int32.ofNat j)), .val (.int x9)]) (by rw [XS.store1 (o := o6) rfl ho6 rfl]; rfl) ?_
      refine g_iload X9 hx hby d5_15 rfl ?_
      refine g_sipush X9 hx hby (255 : Int32) d5_17 rfl ?_
      refine g_icY X9 hx hby 26 d5_20 (flt (hb9 : ¬ ((255 : Int32) < x9))).2.2.2 (by decide) (by decide) ?_
      refine g_aloadN X9 hx hby d5_26 rfl rfl ?_
      refine g_iloadN X9 hx hby d5_27 rfl ?_
      refine g_iload X9 hx hby d5_28 rfl ?_
      refine g_i2b X9 hx hby d5_30 ?_
      refine g_bastore X9 hx hby hZ e9 VB9 j (bs9.set j (.int (nar .byte (x9.toInt8.toInt32)))) rfl (own_inn hn (by omega)) (own_tn hn (by omega)) (by have := own_nN hn; omega) N9 gb d5_31 (fun T1 h1 X1 e1 W1 V1 N1 => ?_)
      refine g_iinc X1 hx hby ((Int32.ofNat j) + (1 : Int32)) d5_32 rfl rfl (l' := #[.val (.ref ca), .val (.int ((Int32.ofNat j) + (1 : Int32))), .val (.ref ba), .val (.int (Int32.ofNat j)), .val (.int nn), .val (.int (Int32.ofNat j)), .val (.int x9)]) rfl ?_
      refine g_iinc X1 hx hby ((Int32.ofNat j) + (1 : Int32)) d5_35 rfl rfl (l' := #[.val (.ref ca), .val (.int ((Int32.ofNat j) + (1 : Int32))), .val (.ref ba), .val (.int ((Int32.ofNat j) + (1 : Int32))), .val (.int nn), .val (.int (Int32.ofNat j)), .val (.int x9)]) rfl ?_
      refine g_iinc X1 hx hby ((Int32.ofNat j) + (1 : Int32)) d5_38 rfl rfl (l' := #[.val (.ref ca), .val (.int ((Int32.ofNat j) + (1 : Int32))), .val (.ref ba), .val (.int ((Int32.ofNat j) + (1 : Int32))), .val (.int nn), .val (.int ((Int32.ofNat j) + (1 : Int32))), .val (.int x9)]) rfl ?_
      refine g_goto X1 hx hby 3 d5_41 (by decide) (by decide) ?_
      have f2 := (VC9.other W1 nab)
      rw [own_up]
      exact ih (j + 1) _ _ _ _ _ (by omega) X1 e1 N1 (K9.wr W1 (Or.inl (List.mem_of_getElem? (i := 0) rfl))) (One.val rfl) f2 V1 (by rw [List.length_set]; exact hl9)
  refine loop N 0 _ _ _ _ _ (by omega) X0 e0 N0 (Keep.refl h0 [ba]) (Or.inl rfl) VC VB hbl

def Q_cmpN_1025 (Z : State) (ca : Addr) (kc : ClassId) (cs : List Value) (h0 : Heap) (n0 : Nat) (v : Option Value) (h : Heap) (L : List Loc) : Prop := Fr n0 L ∧ Keep h0 h [] ∧ ∃ (b : Addr) (kb : ClassId) (bs : List Value), v = some (.ref b) ∧ h0.size ≤ b ∧ Arv Z h b kb .byte (1025 : Int32) bs (.int (0 : Int32))
set_option maxRecDepth 65536 in
set_option maxHeartbeats 40000000 in
theorem rm_cmpN_1025 (l : Launch) (Z : State) (a0 : Array Value) (hw : ∀ d ∈ tables_1, d.before a0 Z = true) (ws : List Jvm.Cond) (ca : Addr) (kc : ClassId) (cs : List Value) (h0 : Heap) (n0 : Nat) (Z0 : n0 ≤ h0.size) (VC : Arv Z h0 ca kc .char (1025 : Int32) cs (.int (0 : Int32))) (hcs : ∀ i, i < 1025 → ∃ x : Int32, cs.getD i (.int (0 : Int32)) = .int x ∧ ¬ (255 : Int32) < x) :
    MetFree l (⟨"java/lang/StringUTF16", "compress", "([CII)[B"⟩ : MethodName) (head1 (Jvm.Cond.code (⟨"java/lang/StringUTF16", "compress", "([CII)[B"⟩ : MethodName) jdk_52_method_16_code 6 (some (.array .byte)) :: ws) ({ frames := 1, cells := 1, slots := 1025, locals := 18 } : Room)) (fun aa_ U => aa_ = #[(.ref ca), (.int (0 : Int32)), (.int (1025 : Int32))] ∧ Z.Warmed39 U.vm ∧ U.heap = h0) (fun _ _ _ _ _ => True) (fun _ U o_ U' => RetG U (Q_cmpN_1025 Z ca kc cs h0 n0) 1 1025 U' o_) := by
  refine MetFree.of_bodySF (plainFor_of_name own_pn4) hisR ?_
  intro p e s m args below meth c_ s₁ Bd hml0 hP hK
  obtain ⟨rfl, hZ, hh⟩ := hP
  have hx := Bd.exec
  have hby := Bd.bytes
  have hml : c_.maxLocals = 6 := hml0
  have hown : s.vm.findClass "java/lang/StringUTF16" = some m.cls := findClass_of_methodNamed Bd.named
  have hnm := (name_of_methodNamed Bd.named Bd.method).1
  have X0 : Stand p l e ({ frames := 1, cells := 1, slots := 1025, locals := 18 } : Room) s m #[(.ref ca), (.int (0 : Int32)), (.int (1025 : Int32))] below meth c_ s₁ [] 0 0 := Stand.of_body Bd
  have e0 : s₁.heap = h0 := by rw [← hh, Bd.state]; rfl
  have N0 := Fr.nil n0
  have w17_ := hw _ (List.mem_of_getElem? (i := 17) rfl)
  have w19_ := hw _ (List.mem_of_getElem? (i := 19) rfl)
  have w20_ := hw _ (List.mem_of_getElem? (i := 20) rfl)
  have w21_ := hw _ (List.mem_of_getElem? (i := 21) rfl)
  have w22_ := hw _ (List.mem_of_getElem? (i := 22) rfl)
  show Go p e below (RetG s (Q_cmpN_1025 Z ca kc cs h0 n0) 1 1025) (s₁.setTop (entryFrame m #[(.ref ca), (.int (0 : Int32)), (.int (1025 : Int32))] 6))
  rw [show entryFrame m #[(.ref ca), (.int (0 : Int32)), (.int (1025 : Int32))] 6 = mkF m 0 #[.val (.ref ca), .val (.int (0 : Int32)), .val (.int (1025 : Int32)), .unset, .unset, .unset] [] from by first | (simp [entryFrame, mkF, argsToLocals, Value.category]; done) | rfl]
  refine g_iloadN X0 hx hby d4_0 rfl ?_
  refine g_newarray X0 hx hby hZ .byte .byte (.int (0 : Int32)) (List.replicate 1025 (.int (0 : Int32))) rfl rfl w19_ e0 (by decide) 1025 rfl (by decide) (by decide) (by decide) (by decide) d4_1 (fun T1 h1 k1 b1 g1 X1 e1 E1 V1 => ?_)
  refine g_astoreN X1 hx hby d4_3 rfl (l' := #[.val (.ref ca), .val (.int (0 : Int32)), .val (.int (1025 : Int32)), .val (.ref b1), .unset, .unset]) rfl ?_
  refine g_aloadN X1 hx hby d4_4 rfl rfl ?_
  refine g_iloadN X1 hx hby d4_5 rfl ?_
  refine g_aloadN X1 hx hby d4_6 rfl rfl ?_
  refine g_iconst X1 hx hby (0 : Int32) d4_7 rfl ?_
  refine g_iloadN X1 hx hby d4_8 rfl ?_
  have f3 := (VC.ext E1)
  have ne4 : ca ≠ b1 := (Nat.ne_of_lt (Nat.lt_of_lt_of_le VC.lt (Nat.le_of_eq g1)))
  have g_b1 : n0 ≤ b1 := Nat.le_trans Z0 (Nat.le_of_eq g1)
  have z5 := (Nat.le_trans Z0 E1.1)
  refine g_static X1 hx hby hZ hown (rm_cmp5N l Z a0 hw [] ca b1 kc k1 (1025 : Int32) 1025 cs (List.replicate 1025 (.int (0 : Int32))) h1 n0 z5 rfl f3 V1 ne4 g_b1 (by rw [List.length_replicate]; exact Nat.le_of_ble_eq_true rfl) hcs) w20_ w21_ w17_ w22_ (by decide) e1 (by rw [hml]; rfl) [(.ref ca), (.int (0 : Int32)), (.ref b1), (.int (0 : Int32)), (.int (1025 : Int32))] (lenOf own_pd10 rfl) rfl rfl (Nat.le_of_ble_eq_true rfl) (Nat.le_of_ble_eq_true rfl) (Nat.le_of_ble_eq_true rfl) (Nat.le_of_ble_eq_true rfl) d4_9 (fun v2 T2 L2 X2 hQ2 => ?_)
  obtain ⟨rfl, N2q, K2, bs2, V2⟩ := hQ2
  have N2 := Fr.app N0 N2q
  refine g_istore X2 hx hby d4_12 (l' := #[.val (.ref ca), .val (.int (0 : Int32)), .val (.int (1025 : Int32)), .val (.ref b1), .val (.int (1025 : Int32)), .unset]) rfl ?_
  refine g_iload X2 hx hby d4_14 rfl ?_
  refine g_iloadN X2 hx hby d4_16 rfl ?_
  refine g_icY X2 hx hby 57 d4_17 (teq (by decide : (1025 : Int32) = (1025 : Int32))).1 (by decide) (by decide) ?_
  refine g_aloadN X2 hx hby d4_57 rfl rfl ?_
  refine g_aret X2 hx hby (t := (.array .byte)) rfl rfl rfl Bd.returns Bd.notSynchronized d4_58 rfl (by decide) (by decide) ?_
  show (Q_cmpN_1025 Z ca kc cs h0 n0) (some (.ref b1)) _ _
  exact ⟨N2, (((Keep.refl h0 []).ext E1).trans K2 (allS (Or.inr (Nat.le_trans (Nat.le_refl _) (Nat.le_of_eq g1))) all0)), b1, k1, _, rfl, (Nat.le_trans (Nat.le_refl _) (Nat.le_of_eq g1)), V2⟩

def Q_cfal_1025_1025 (Z : State) (ba : Addr) (kb : ClassId) (bs : List Value) (h0 : Heap) (n0 : Nat) (v : Option Value) (h : Heap) (L : List Loc) : Prop := v = some (.int (0 : Int32)) ∧ Fr n0 L ∧ h = h0
set_option maxRecDepth 65536 in
set_option maxHeartbeats 40000000 in
theorem rm_cfal_1025_1025 (l : Launch) (Z : State) (a0 : Array Value) (hw : ∀ d ∈ tables_1, d.before a0 Z = true) (ws : List Jvm.Cond) (ba : Addr) (kb : ClassId) (bs : List Value) (h0 : Heap) (n0 : Nat) (Z0 : n0 ≤ h0.size) (VB : Arv Z h0 ba kb .byte (1025 : Int32) bs (.int (0 : Int32))) :
    MetFree l (⟨"java/lang/StringUTF16", "coderFromArrayLen", "([BI)B"⟩ : MethodName) (head1 (Jvm.Cond.code (⟨"java/lang/StringUTF16", "coderFromArrayLen", "([BI)B"⟩ : MethodName) jdk_52_method_15_code 2 (some .byte) :: ws) ({ frames := 0, cells := 0, slots := 0, locals := 0 } : Room)) (fun aa_ U => aa_ = #[(.ref ba), (.int (1025 : Int32))] ∧ Z.Warmed39 U.vm ∧ U.heap = h0) (fun _ _ _ _ _ => True) (fun _ U o_ U' => RetG U (Q_cfal_1025_1025 Z ba kb bs h0 n0) 0 0 U' o_) := by
  refine MetFree.of_bodySF (plainFor_of_name own_pn4) hisR ?_
  intro p e s m args below meth c_ s₁ Bd hml0 hP hK
  obtain ⟨rfl, hZ, hh⟩ := hP
  have hx := Bd.exec
  have hby := Bd.bytes
  have hml : c_.maxLocals = 2 := hml0
  have hown : s.vm.findClass "java/lang/StringUTF16" = some m.cls := findClass_of_methodNamed Bd.named
  have hnm := (name_of_methodNamed Bd.named Bd.method).1
  have X0 : Stand p l e ({ frames := 0, cells := 0, slots := 0, locals := 0 } : Room) s m #[(.ref ba), (.int (1025 : Int32))] below meth c_ s₁ [] 0 0 := Stand.of_body Bd
  have e0 : s₁.heap = h0 := by rw [← hh, Bd.state]; rfl
  have N0 := Fr.nil n0
  show Go p e below (RetG s (Q_cfal_1025_1025 Z ba kb bs h0 n0) 0 0) (s₁.setTop (entryFrame m #[(.ref ba), (.int (1025 : Int32))] 2))
  rw [show entryFrame m #[(.ref ba), (.int (1025 : Int32))] 2 = mkF m 0 #[.val (.ref ba), .val (.int (1025 : Int32))] [] from by first | (simp [entryFrame, mkF, argsToLocals, Value.category]; done) | rfl]
  refine g_iloadN X0 hx hby d6_0 rfl ?_
  refine g_aloadN X0 hx hby d6_1 rfl rfl ?_
  refine g_arraylength X0 hx hby hZ e0 VB d6_2 ?_
  refine g_isub X0 hx hby d6_3 ?_
  refine g_topI (0 : Int32) (by decide) ?_
  refine g_bipush X0 hx hby (31 : Int32) d6_4 rfl ?_
  refine g_iushr X0 hx hby d6_6 ?_
  refine g_topI (0 : Int32) (by decide) ?_
  refine g_i2b X0 hx hby d6_7 ?_
  refine g_topI (0 : Int32) (by decide) ?_
  refine g_nret X0 hx hby (t := .byte) (by simp) Bd.returns Bd.notSynchronized d6_8 e0 (by decide) (by decide) ?_
  show (Q_cfal_1025_1025 Z ba kb bs h0 n0) (some (.int (0 : Int32))) _ _
  exact ⟨rfl, N0, rfl⟩

def Q_iniN4_1025 (Z : State) (a : Addr) (ca : Addr) (kc : ClassId) (cs : List Value) (cz : Int32) (h0 : Heap) (n0 : Nat) (v : Option Value) (h : Heap) (L : List Loc) : Prop := v = none ∧ Fr n0 L ∧ Keep h0 h [a] ∧ ∃ (b : Addr) (kb : ClassId) (bs : List Value), h0.size ≤ b ∧ Exa Z h a "java/lang/String" ∧ Fld Z h a "java/lang/String" "coder" "B" (.int (0 : Int32)) ∧ Fld Z h a "java/lang/String" "value" "[B" (.ref b) ∧ Arv Z h b kb .byte (1025 : Int32) bs (.int (0 : Int32))
set_option maxRecDepth 65536 in
set_option maxHeartbeats 40000000 in
theorem rm_iniN4_1025 (l : Launch) (Z : State) (a0 : Array Value) (hw : ∀ d ∈ tables_1, d.before a0 Z = true) (ws : List Jvm.Cond) (a : Addr) (ca : Addr) (kc : ClassId) (cs : List Value) (cz : Int32) (h0 : Heap) (n0 : Nat) (Z0 : n0 ≤ h0.size) (O2 : Sta Z Z.heap "java/lang/String" "COMPACT_STRINGS" "Z" (.int cz)) (P5 : ¬ cz = (0 : Int32)) (OLD : Old Z n0 h0) (E : Exa Z h0 a "java/lang/String") (FC : Fld Z h0 a "java/lang/String" "coder" "B" (.int (0 : Int32))) (FV : Fld Z h0 a "java/lang/String" "value" "[B" .null) (ga : n0 ≤ a) (VC : Arv Z h0 ca kc .char (1025 : Int32) cs (.int (0 : Int32))) (hcs : ∀ i, i < 1025 → ∃ x : Int32, cs.getD i (.int (0 : Int32)) = .int x ∧ ¬ (255 : Int32) < x) :
    MetFree l (⟨"java/lang/String", "<init>", "([CIILjava/lang/Void;)V"⟩ : MethodName) (head1 (Jvm.Cond.code (⟨"java/lang/String", "<init>", "([CIILjava/lang/Void;)V"⟩ : MethodName) jdk_42_method_149_code 6 none :: ws) ({ frames := 2, cells := 1, slots := 1025, locals := 35 } : Room)) (fun aa_ U => aa_ = #[(.ref a), (.ref ca), (.int (0 : Int32)), (.int (1025 : Int32)), .null] ∧ Z.Warmed39 U.vm ∧ U.heap = h0) (fun _ _ _ _ _ => True) (fun _ U o_ U' => RetG U (Q_iniN4_1025 Z a ca kc cs cz h0 n0) 1 1025 U' o_) := by
  refine MetFree.of_bodySF (plainFor_of_name own_pn2) hisR ?_
  intro p e s m args below meth c_ s₁ Bd hml0 hP hK
  obtain ⟨rfl, hZ, hh⟩ := hP
  have hx := Bd.exec
  have hby := Bd.bytes
  have hml : c_.maxLocals = 6 := hml0
  have hown : s.vm.findClass "java/lang/String" = some m.cls := findClass_of_methodNamed Bd.named
  have hnm := (name_of_methodNamed Bd.named Bd.method).1
  have X0 : Stand p l e ({ frames := 2, cells := 1, slots := 1025, locals := 35 } : Room) s m #[(.ref a), (.ref ca), (.int (0 : Int32)), (.int (1025 : Int32)), .null] below meth c_ s₁ [] 0 0 := Stand.of_body Bd
  have e0 : s₁.heap = h0 := by rw [← hh, Bd.state]; rfl
  have N0 := Fr.nil n0
  have w2_ := hw _ (List.mem_of_getElem? (i := 2) rfl)
  have w11_ := hw _ (List.mem_of_getElem? (i := 11) rfl)
  have w12_ := hw _ (List.mem_of_getElem? (i := 12) rfl)
  have w13_ := hw _ (List.mem_of_getElem? (i := 13) rfl)
  have w14_ := hw _ (List.mem_of_getElem? (i := 14) rfl)
  have w15_ := hw _ (List.mem_of_getElem? (i := 15) rfl)
  have w16_ := hw _ (List.mem_of_getElem? (i := 16) rfl)
  have w17_ := hw _ (List.mem_of_getElem? (i := 17) rfl)
  have w18_ := hw _ (List.mem_of_getElem? (i := 18) rfl)
  have w23_ := hw _ (List.mem_of_getElem? (i := 23) rfl)
  have w24_ := hw _ (List.mem_of_getElem? (i := 24) rfl)
  have w25_ := hw _ (List.mem_of_getElem? (i := 25) rfl)
  have w26_ := hw _ (List.mem_of_getElem? (i := 26) rfl)
  have w27_ := hw _ (List.mem_of_getElem? (i := 27) rfl)
  have w28_ := hw _ (List.mem_of_getElem? (i := 28) rfl)
  have w29_ := hw _ (List.mem_of_getElem? (i := 29) rfl)
  show Go p e below (RetG s (Q_iniN4_1025 Z a ca kc cs cz h0 n0) 1 1025) (s₁.setTop (entryFrame m #[(.ref a), (.ref ca), (.int (0 : Int32)), (.int (1025 : Int32)), .null] 6))
  rw [show entryFrame m #[(.ref a), (.ref ca), (.int (0 : Int32)), (.int (1025 : Int32)), .null] 6 = mkF m 0 #[.val (.ref a), .val (.ref ca), .val (.int (0 : Int32)), .val (.int (1025 : Int32)), .val .null, .unset] [] from by first | (simp [entryFrame, mkF, argsToLocals, Value.category]; done) | rfl]
  refine g_aloadN X0 hx hby d2_0 rfl rfl ?_
  refine g_initO X0 hx hby hZ hown w11_ w12_ w13_ e0 (by rw [hml]; rfl) (Nat.le_of_ble_eq_true rfl) (Nat.le_of_ble_eq_true rfl) d2_1 (fun T1 X1 e1 => ?_)
  refine g_iloadN X1 hx hby d2_4 rfl ?_
  refine g_ifY X1 hx hby 27 d2_5 (feq (by decide : ¬ ((1025 : Int32) = (0 : Int32)))).2 (by decide) (by decide) ?_
  refine g_getS X1 hx hby hZ hown (host := "") (Or.inl w14_) Via.refl e1 (O2.ext OLD.2) d2_27 (fun T2 X2 e2 => ?_)
  refine g_ifN X2 hx hby d2_30 (feq (P5 : ¬ (cz = (0 : Int32)))).1 ?_
  refine g_aloadN X2 hx hby d2_33 rfl rfl ?_
  refine g_iloadN X2 hx hby d2_34 rfl ?_
  refine g_iloadN X2 hx hby d2_35 rfl ?_
  refine g_static X2 hx hby hZ hown (rm_cmpN_1025 l Z a0 hw [] ca kc cs h0 n0 Z0 VC hcs) w15_ w16_ w17_ w18_ (by decide) e2 (by rw [hml]; rfl) [(.ref ca), (.int (0 : Int32)), (.int (1025 : Int32))] (lenOf own_pd11 rfl) rfl rfl (Nat.le_of_ble_eq_true rfl) (Nat.le_of_ble_eq_true rfl) (Nat.le_of_ble_eq_true rfl) (Nat.le_of_ble_eq_true rfl) d2_36 (fun v3 T3 L3 X3 hQ3 => ?_)
  obtain ⟨N3q, K3, t3, kt3, bs3, rfl, lt3, V3⟩ := hQ3
  have N3 := Fr.app N0 N3q
  refine g_astore X3 hx hby d2_39 rfl (l' := #[.val (.ref a), .val (.ref ca), .val (.int (0 : Int32)), .val (.int (1025 : Int32)), .val .null, .val (.ref t3)]) rfl ?_
  refine g_aloadN X3 hx hby d2_41 rfl rfl ?_
  refine g_aload X3 hx hby d2_42 rfl rfl ?_
  refine g_iloadN X3 hx hby d2_44 rfl ?_
  have z5 := (Nat.le_trans Z0 K3.1)
  refine g_static X3 hx hby hZ hown (rm_cfal_1025_1025 l Z a0 hw [] t3 kt3 bs3 T3.heap n0 z5 V3) w23_ w24_ w17_ w25_ (by decide) rfl (by rw [hml]; rfl) [(.ref t3), (.int (1025 : Int32))] (lenOf own_pd12 rfl) rfl rfl (Nat.le_of_ble_eq_true rfl) (Nat.le_of_ble_eq_true rfl) (Nat.le_of_ble_eq_true rfl) (Nat.le_of_ble_eq_true rfl) d2_45 (fun v4 T4 L4 X4 hQ4 => ?_)
  obtain ⟨rfl, N4q, eh4⟩ := hQ4
  have N4 := Fr.app N3 N4q
  have f6 := (E.keep K3)
  have f7 := (FC.keep K3 nin0)
  refine g_putFN X4 hx hby hZ hown w26_ Via.refl eh4 f7 f6 (Or.inr ⟨w27_, rfl, hnm⟩) w2_ .byte (by decide) (.int (0 : Int32)) rfl rfl N4 ga d2_48 (fun T8 h8 X8 e8 W8 F8 N8 => ?_)
  refine g_aloadN X8 hx hby d2_51 rfl rfl ?_
  refine g_aload X8 hx hby d2_52 rfl rfl ?_
  have f9 := (f6.wr W8)
  have f10 := ((FV.keep K3 nin0).other W8 (Or.inr (slot_ne (Or.inr w29_) (Or.inr w27_) (by decide) (t := (.array .byte)) (t' := .byte) (by decide) (by decide))))
  refine g_putF X8 hx hby hZ hown (host := "") (Or.inl w28_) Via.refl e8 f10 f9 (Or.inr ⟨w29_, rfl, hnm⟩) w2_ (.array .byte) (by decide) rfl rfl N8 ga d2_54 (fun T11 h11 X11 e11 W11 F11 N11 => ?_)
  have f12 := (f9.wr W11)
  have f13 := (F8.other W11 (Or.inr (slot_ne (Or.inr w27_) (Or.inr w29_) (by decide) (t := .byte) (t' := (.array .byte)) (by decide) (by decide))))
  have ne14 : t3 ≠ a := (Ne.symm (Nat.ne_of_lt (Nat.lt_of_lt_of_le E.lt lt3)))
  have f15 := ((V3.other W8 ne14).other W11 ne14)
  refine g_ret X11 hx hby Bd.returns Bd.notSynchronized d2_57 e11 (by decide) (by decide) ?_
  show (Q_iniN4_1025 Z a ca kc cs cz h0 n0) none _ _
  exact ⟨rfl, N11, ((((Keep.refl h0 [a]).trans K3 all0).wr W8 (Or.inl (List.mem_of_getElem? (i := 0) rfl))).wr W11 (Or.inl (List.mem_of_getElem? (i := 0) rfl))), t3, kt3, _, (Nat.le_trans (Nat.le_refl _) lt3), f12, f13, F11, f15⟩

def Q_iniN1_1025 (Z : State) (a : Addr) (ca : Addr) (kc : ClassId) (cs : List Value) (cz : Int32) (h0 : Heap) (n0 : Nat) (v : Option Value) (h : Heap) (L : List Loc) : Prop := v = none ∧ Fr n0 L ∧ Keep h0 h [a] ∧ ∃ (b : Addr) (kb : ClassId) (bs : List Value), h0.size ≤ b ∧ Exa Z h a "java/lang/String" ∧ Fld Z h a "java/lang/String" "coder" "B" (.int (0 : Int32)) ∧ Fld Z h a "java/lang/String" "value" "[B" (.ref b) ∧ Arv Z h b kb .byte (1025 : Int32) bs (.int (0 : Int32))
set_option maxRecDepth 65536 in
set_option maxHeartbeats 40000000 in
theorem rm_iniN1_1025 (l : Launch) (Z : State) (a0 : Array Value) (hw : ∀ d ∈ tables_1, d.before a0 Z = true) (ws : List Jvm.Cond) (a : Addr) (ca : Addr) (kc : ClassId) (cs : List Value) (cz : Int32) (h0 : Heap) (n0 : Nat) (Z0 : n0 ≤ h0.size) (O2 : Sta Z Z.heap "java/lang/String" "COMPACT_STRINGS" "Z" (.int cz)) (P5 : ¬ cz = (0 : Int32)) (OLD : Old Z n0 h0) (E : Exa Z h0 a "java/lang/String") (FC : Fld Z h0 a "java/lang/String" "coder" "B" (.int (0 : Int32))) (FV : Fld Z h0 a "java/lang/String" "value" "[B" .null) (ga : n0 ≤ a) (VC : Arv Z h0 ca kc .char (1025 : Int32) cs (.int (0 : Int32))) (hcs : ∀ i, i < 1025 → ∃ x : Int32, cs.getD i (.int (0 : Int32)) = .int x ∧ ¬ (255 : Int32) < x) :
    MetFree l (⟨"java/lang/String", "<init>", "([C)V"⟩ : MethodName) (head1 (Jvm.Cond.code (⟨"java/lang/String", "<init>", "([C)V"⟩ : MethodName) jdk_42_method_3_code 2 none :: ws) ({ frames := 3, cells := 1, slots := 1025, locals := 52 } : Room)) (fun aa_ U => aa_ = #[(.ref a), (.ref ca)] ∧ Z.Warmed39 U.vm ∧ U.heap = h0) (fun _ _ _ _ _ => True) (fun _ U o_ U' => RetG U (Q_iniN1_1025 Z a ca kc cs cz h0 n0) 1 1025 U' o_) := by
  refine MetFree.of_bodySF (plainFor_of_name own_pn2) hisR ?_
  intro p e s m args below meth c_ s₁ Bd hml0 hP hK
  obtain ⟨rfl, hZ, hh⟩ := hP
  have hx := Bd.exec
  have hby := Bd.bytes
  have hml : c_.maxLocals = 2 := hml0
  have hown : s.vm.findClass "java/lang/String" = some m.cls := findClass_of_methodNamed Bd.named
  have hnm := (name_of_methodNamed Bd.named Bd.method).1
  have X0 : Stand p l e ({ frames := 3, cells := 1, slots := 1025, locals := 52 } : Room) s m #[(.ref a), (.ref ca)] below meth c_ s₁ [] 0 0 := Stand.of_body Bd
  have e0 : s₁.heap = h0 := by rw [← hh, Bd.state]; rfl
  have N0 := Fr.nil n0
  have w3_ := hw _ (List.mem_of_getElem? (i := 3) rfl)
  have w7_ := hw _ (List.mem_of_getElem? (i := 7) rfl)
  have w8_ := hw _ (List.mem_of_getElem? (i := 8) rfl)
  have w10_ := hw _ (List.mem_of_getElem? (i := 10) rfl)
  show Go p e below (RetG s (Q_iniN1_1025 Z a ca kc cs cz h0 n0) 1 1025) (s₁.setTop (entryFrame m #[(.ref a), (.ref ca)] 2))
  rw [show entryFrame m #[(.ref a), (.ref ca)] 2 = mkF m 0 #[.val (.ref a), .val (.ref ca)] [] from by first | (simp [entryFrame, mkF, argsToLocals, Value.category]; done) | rfl]
  refine g_aloadN X0 hx hby d1_0 rfl rfl ?_
  refine g_aloadN X0 hx hby d1_1 rfl rfl ?_
  refine g_iconst X0 hx hby (0 : Int32) d1_2 rfl ?_
  refine g_aloadN X0 hx hby d1_3 rfl rfl ?_
  refine g_arraylength X0 hx hby hZ e0 VC d1_4 ?_
  refine g_aconst_null X0 hx hby d1_5 ?_
  refine g_special X0 hx hby hZ hown (rm_iniN4_1025 l Z a0 hw [] a ca kc cs cz h0 n0 Z0 O2 P5 OLD E FC FV ga VC hcs) rfl rfl w7_ w8_ w3_ w10_ (by decide) e0 (by rw [hml]; rfl) [(.ref ca), (.int (0 : Int32)), (.int (1025 : Int32)), .null] (lenOf own_pd14 rfl) rfl rfl (Nat.le_of_ble_eq_true rfl) (Nat.le_of_ble_eq_true rfl) (Nat.le_of_ble_eq_true rfl) (Nat.le_of_ble_eq_true rfl) d1_6 (fun v1 T1 L1 X1 hQ1 => ?_)
  obtain ⟨rfl, N1q, R1⟩ := hQ1
  have N1 := Fr.app N0 N1q
  refine g_ret X1 hx hby Bd.returns Bd.notSynchronized d1_9 rfl (by decide) (by decide) ?_
  show (Q_iniN1_1025 Z a ca kc cs cz h0 n0) none _ _
  exact ⟨rfl, N1, R1⟩

theorem d8_0 : decode prog_79_method_10_code 0 = .ok (.aload_n 0, 1) := by decide +kernel
theorem d8_1 : decode prog_79_method_10_code 1 = .ok (.sipush 1024, 3) := by decide +kernel
theorem d8_4 : decode prog_79_method_10_code 4 = .ok (.newarray .char, 2) := by decide +kernel
theorem d8_6 : decode prog_79_method_10_code 6 = .ok (.putfield 26, 3) := by decide +kernel
theorem d8_9 : decode prog_79_method_10_code 9 = .ok (.aload_n 0, 1) := by decide +kernel
theorem d8_10 : decode prog_79_method_10_code 10 = .ok (.sipush 128, 3) := by decide +kernel
theorem d8_13 : decode prog_79_method_10_code 13 = .ok (.newarray .int, 2) := by decide +kernel
theorem d8_15 : decode prog_79_method_10_code 15 = .ok (.putfield 46, 3) := by decide +kernel
theorem d8_18 : decode prog_79_method_10_code 18 = .ok (.aload_n 0, 1) := by decide +kernel
theorem d8_19 : decode prog_79_method_10_code 19 = .ok (.iconst 0, 1) := by decide +kernel
theorem d8_20 : decode prog_79_method_10_code 20 = .ok (.putfield 12, 3) := by decide +kernel
theorem d8_23 : decode prog_79_method_10_code 23 = .ok (.return_, 1) := by decide +kernel
def Q_clear (Z : State) (ko : Addr) (oc : Value) (oe : Value) (on : Int32) (h0 : Heap) (n0 : Nat) (v : Option Value) (h : Heap) (L : List Loc) : Prop := v = none ∧ Fr n0 L ∧ Keep h0 h [ko] ∧ ∃ (ch en : Addr) (kc ke : ClassId), h0.size ≤ ch ∧ h0.size ≤ en ∧ ch ≠ en ∧ Exa Z h ko "com/example/invix/invix/sort/KeyBuffer" ∧ Fld Z h ko "com/example/invix/invix/sort/KeyBuffer" "characters" "[C" (.ref ch) ∧ Fld Z h ko "com/example/invix/invix/sort/KeyBuffer" "ends" "[I" (.ref en) ∧ Fld Z h ko "com/example/invix/invix/sort/KeyBuffer" "count" "I" (.int (0 : Int32)) ∧ Arv Z h ch kc .char (1024 : Int32) (List.replicate 1024 (.int (0 : Int32))) (.int (0 : Int32)) ∧ Arv Z h en ke .int (128 : Int32) (List.replicate 128 (.int (0 : Int32))) (.int (0 : Int32))
set_option maxRecDepth 65536 in
set_option maxHeartbeats 40000000 in
theorem rm_clear (l : Launch) (Z : State) (a0 : Array Value) (hw : ∀ d ∈ tables_1, d.before a0 Z = true) (ws : List Jvm.Cond) (ko : Addr) (oc : Value) (oe : Value) (on : Int32) (h0 : Heap) (n0 : Nat) (Z0 : n0 ≤ h0.size) (E : Exa Z h0 ko "com/example/invix/invix/sort/KeyBuffer") (F1 : Fld Z h0 ko "com/example/invix/invix/sort/KeyBuffer" "characters" "[C" oc) (F2 : Fld Z h0 ko "com/example/invix/invix/sort/KeyBuffer" "ends" "[I" oe) (F3 : Fld Z h0 ko "com/example/invix/invix/sort/KeyBuffer" "count" "I" (.int on)) (gk : n0 ≤ ko) :
    MetFree l (⟨"com/example/invix/invix/sort/KeyBuffer", "clear", "()V"⟩ : MethodName) (head1 (Jvm.Cond.code (⟨"com/example/invix/invix/sort/KeyBuffer", "clear", "()V"⟩ : MethodName) prog_79_method_10_code 1 none :: ws) ({ frames := 0, cells := 2, slots := 1152, locals := 0 } : Room)) (fun aa_ U => aa_ = #[(.ref ko)] ∧ Z.Warmed39 U.vm ∧ U.heap = h0) (fun _ _ _ _ _ => True) (fun _ U o_ U' => RetG U (Q_clear Z ko oc oe on h0 n0) 2 1152 U' o_) := by
  refine MetFree.of_bodySF (plainFor_of_name own_pn3) hisR ?_
  intro p e s m args below meth c_ s₁ Bd hml0 hP hK
  obtain ⟨rfl, hZ, hh⟩ := hP
  have hx := Bd.exec
  have hby := Bd.bytes
  have hml : c_.maxLocals = 1 := hml0
  have hown : s.vm.findClass "com/example/invix/invix/sort/KeyBuffer" = some m.cls := findClass_of_methodNamed Bd.named
  have hnm := (name_of_methodNamed Bd.named Bd.method).1
  have X0 : Stand p l e ({ frames := 0, cells := 2, slots := 1152, locals := 0 } : Room) s m #[(.ref ko)] below meth c_ s₁ [] 0 0 := Stand.of_body Bd
  have e0 : s₁.heap = h0 := by rw [← hh, Bd.state]; rfl
  have N0 := Fr.nil n0
  have w0_ := hw _ (List.mem_of_getElem? (i := 0) rfl)
  have w31_ := hw _ (List.mem_of_getElem? (i := 31) rfl)
  have w42_ := hw _ (List.mem_of_getElem? (i := 42) rfl)
  have w43_ := hw _ (List.mem_of_getElem? (i := 43) rfl)
  have w44_ := hw _ (List.mem_of_getElem? (i := 44) rfl)
  have w45_ := hw _ (List.mem_of_getElem? (i := 45) rfl)
  have w46_ := hw _ (List.mem_of_getElem? (i := 46) rfl)
  have w47_ := hw _ (List.mem_of_getElem? (i := 47) rfl)
  have w48_ := hw _ (List.mem_of_getElem? (i := 48) rfl)
  show Go p e below (RetG s (Q_clear Z ko oc oe on h0 n0) 2 1152) (s₁.setTop (entryFrame m #[(.ref ko)] 1))
  rw [show entryFrame m #[(.ref ko)] 1 = mkF m 0 #[.val (.ref ko)] [] from by first | (simp [entryFrame, mkF, argsToLocals, Value.category]; done) | rfl]
  refine g_aloadN X0 hx hby d8_0 rfl rfl ?_
  refine g_sipush X0 hx hby (1024 : Int32) d8_1 rfl ?_
  refine g_newarray X0 hx hby hZ .char .char (.int (0 : Int32)) (List.replicate 1024 (.int (0 : Int32))) rfl rfl w0_ e0 (by decide) 1024 rfl (by decide) (by decide) (by decide) (by decide) d8_4 (fun T1 h1 k1 b1 g1 X1 e1 E1 V1 => ?_)
  have f2 := (E.ext E1)
  have f3 := (F1.ext E1)
  refine g_putF X1 hx hby hZ hown (host := "") (Or.inl w42_) Via.refl e1 f3 f2 (Or.inl w43_) w31_ (.array .char) (by decide) rfl rfl N0 gk d8_6 (fun T4 h4 X4 e4 W4 F4 N4 => ?_)
  refine g_aloadN X4 hx hby d8_9 rfl rfl ?_
  refine g_sipush X4 hx hby (128 : Int32) d8_10 rfl ?_
  refine g_newarray X4 hx hby hZ .int .int (.int (0 : Int32)) (List.replicate 128 (.int (0 : Int32))) rfl rfl w44_ e4 (by decide) 128 rfl (by decide) (by decide) (by decide) (by decide) d8_13 (fun T5 h5 k5 b5 g5 X5 e5 E5 V5 => ?_)
  have f6 := ((f2.wr W4).ext E5)
  have f7 := (((F2.ext E1).other W4 (Or.inr (slot_ne (Or.inl w46_) (Or.inl w43_) (by decide) (t := (.array .int)) (t' := (.array .char)) (by decide) (by decide)))).ext E5)
  refine g_putF X5 hx hby hZ hown (host := "") (Or.inl w45_) Via.refl e5 f7 f6 (Or.inl w46_) w31_ (.array .int) (by decide) rfl rfl N4 gk d8_15 (fun T8 h8 X8 e8 W8 F8 N8 => ?_)
  refine g_aloadN X8 hx hby d8_18 rfl rfl ?_
  refine g_iconst X8 hx hby (0 : Int32) d8_19 rfl ?_
  have f9 := (f6.wr W8)
  have f10 := ((((F3.ext E1).other W4 (Or.inr (slot_ne (Or.inl w48_) (Or.inl w43_) (by decide) (t := .int) (t' := (.array .char)) (by decide) (by decide)))).ext E5).other W8 (Or.inr (slot_ne (Or.inl w48_) (Or.inl w46_) (by decide) (t := .int) (t' := (.array .int)) (by decide) (by decide))))
  refine g_putF X8 hx hby hZ hown (host := "") (Or.inl w47_) Via.refl e8 f10 f9 (Or.inl w48_) w31_ .int (by decide) rfl rfl N8 gk d8_20 (fun T11 h11 X11 e11 W11 F11 N11 => ?_)
  have ne12 : b1 ≠ b5 := (Nat.ne_of_lt (Nat.lt_of_lt_of_le V1.lt (Nat.le_trans (Keep.of_wr W4).1 (Nat.le_of_eq g5))))
  have f13 := (f9.wr W11)
  have f14 := (((F4.ext E5).other W8 (Or.inr (slot_ne (Or.inl w43_) (Or.inl w46_) (by decide) (t := (.array .char)) (t' := (.array .int)) (by decide) (by decide)))).other W11 (Or.inr (slot_ne (Or.inl w43_) (Or.inl w48_) (by decide) (t := (.array .char)) (t' := .int) (by decide) (by decide))))
  have f15 := (F8.other W11 (Or.inr (slot_ne (Or.inl w46_) (Or.inl w48_) (by decide) (t := (.array .int)) (t' := .int) (by decide) (by decide))))
  have ne16 : b1 ≠ ko := (Ne.symm (Nat.ne_of_lt (Nat.lt_of_lt_of_le E.lt (Nat.le_of_eq g1))))
  have f17 := ((((V1.other W4 ne16).ext E5).other W8 ne16).other W11 ne16)
  have ne18 : b5 ≠ ko := (Ne.symm (Nat.ne_of_lt (Nat.lt_of_lt_of_le E.lt (Nat.le_trans (Nat.le_trans E1.1 (Keep.of_wr W4).1) (Nat.le_of_eq g5)))))
  have f19 := ((V5.other W8 ne18).other W11 ne18)
  refine g_ret X11 hx hby Bd.returns Bd.notSynchronized d8_23 e11 (by decide) (by decide) ?_
  show (Q_clear Z ko oc oe on h0 n0) none _ _
  exact ⟨rfl, N11, ((((((Keep.refl h0 [ko]).ext E1).wr W4 (Or.inl (List.mem_of_getElem? (i := 0) rfl))).ext E5).wr W8 (Or.inl (List.mem_of_getElem? (i := 0) rfl))).wr W11 (Or.inl (List.mem_of_getElem? (i := 0) rfl))), b1, b5, k1, k5, (Nat.le_trans (Nat.le_refl _) (Nat.le_of_eq g1)), (Nat.le_trans (Nat.le_trans E1.1 (Keep.of_wr W4).1) (Nat.le_of_eq g5)), ne12, f13, f14, f15, F11, f17, f19⟩

theorem d7_0 : decode prog_79_method_1_code 0 = .ok (.aload_n 0, 1) := by decide +kernel
theorem d7_1 : decode prog_79_method_1_code 1 = .ok (.invokespecial 1, 3) := by decide +kernel
theorem d7_4 : decode prog_79_method_1_code 4 = .ok (.aload_n 0, 1) := by decide +kernel
theorem d7_5 : decode prog_79_method_1_code 5 = .ok (.invokevirtual 7, 3) := by decide +kernel
theorem own_pd17 : parseMethodDescriptor "()V" = some ⟨[], none⟩ := by decide +kernel
theorem d7_8 : decode prog_79_method_1_code 8 = .ok (.return_, 1) := by decide +kernel
def Q_kini (Z : State) (ko : Addr) (h0 : Heap) (n0 : Nat) (v : Option Value) (h : Heap) (L : List Loc) : Prop := v = none ∧ Fr n0 L ∧ Keep h0 h [ko] ∧ ∃ (ch en : Addr) (kc ke : ClassId), h0.size ≤ ch ∧ h0.size ≤ en ∧ ch ≠ en ∧ Exa Z h ko "com/example/invix/invix/sort/KeyBuffer" ∧ Fld Z h ko "com/example/invix/invix/sort/KeyBuffer" "characters" "[C" (.ref ch) ∧ Fld Z h ko "com/example/invix/invix/sort/KeyBuffer" "ends" "[I" (.ref en) ∧ Fld Z h ko "com/example/invix/invix/sort/KeyBuffer" "count" "I" (.int (0 : Int32)) ∧ Arv Z h ch kc .char (1024 : Int32) (List.replicate 1024 (.int (0 : Int32))) (.int (0 : Int32)) ∧ Arv Z h en ke .int (128 : Int32) (List.replicate 128 (.int (0 : Int32))) (.int (0 : Int32))
set_option maxRecDepth 65536 in
set_option maxHeartbeats 40000000 in
theorem rm_kini (l : Launch) (Z : State) (a0 : Array Value) (hw : ∀ d ∈ tables_1, d.before a0 Z = true) (ws : List Jvm.Cond) (ko : Addr) (h0 : Heap) (n0 : Nat) (Z0 : n0 ≤ h0.size) (E : Exa Z h0 ko "com/example/invix/invix/sort/KeyBuffer") (F1 : Fld Z h0 ko "com/example/invix/invix/sort/KeyBuffer" "characters" "[C" .null) (F2 : Fld Z h0 ko "com/example/invix/invix/sort/KeyBuffer" "ends" "[I" .null) (F3 : Fld Z h0 ko "com/example/invix/invix/sort/KeyBuffer" "count" "I" (.int (0 : Int32))) (gk : n0 ≤ ko) :
    MetFree l (⟨"com/example/invix/invix/sort/KeyBuffer", "<init>", "()V"⟩ : MethodName) (head1 (Jvm.Cond.code (⟨"com/example/invix/invix/sort/KeyBuffer", "<init>", "()V"⟩ : MethodName) prog_79_method_1_code 1 none :: ws) ({ frames := 1, cells := 2, slots := 1152, locals := 12 } : Room)) (fun aa_ U => aa_ = #[(.ref ko)] ∧ Z.Warmed39 U.vm ∧ U.heap = h0) (fun _ _ _ _ _ => True) (fun _ U o_ U' => RetG U (Q_kini Z ko h0 n0) 2 1152 U' o_) := by
  refine MetFree.of_bodySF (plainFor_of_name own_pn3) hisR ?_
  intro p e s m args below meth c_ s₁ Bd hml0 hP hK
  obtain ⟨rfl, hZ, hh⟩ := hP
  have hx := Bd.exec
  have hby := Bd.bytes
  have hml : c_.maxLocals = 1 := hml0
  have hown : s.vm.findClass "com/example/invix/invix/sort/KeyBuffer" = some m.cls := findClass_of_methodNamed Bd.named
  have hnm := (name_of_methodNamed Bd.named Bd.method).1
  have X0 : Stand p l e ({ frames := 1, cells := 2, slots := 1152, locals := 12 } : Room) s m #[(.ref ko)] below meth c_ s₁ [] 0 0 := Stand.of_body Bd
  have e0 : s₁.heap = h0 := by rw [← hh, Bd.state]; rfl
  have N0 := Fr.nil n0
  have w12_ := hw _ (List.mem_of_getElem? (i := 12) rfl)
  have w13_ := hw _ (List.mem_of_getElem? (i := 13) rfl)
  have w32_ := hw _ (List.mem_of_getElem? (i := 32) rfl)
  have w36_ := hw _ (List.mem_of_getElem? (i := 36) rfl)
  have w37_ := hw _ (List.mem_of_getElem? (i := 37) rfl)
  have w38_ := hw _ (List.mem_of_getElem? (i := 38) rfl)
  have w39_ := hw _ (List.mem_of_getElem? (i := 39) rfl)
  have w40_ := hw _ (List.mem_of_getElem? (i := 40) rfl)
  have w41_ := hw _ (List.mem_of_getElem? (i := 41) rfl)
  show Go p e below (RetG s (Q_kini Z ko h0 n0) 2 1152) (s₁.setTop (entryFrame m #[(.ref ko)] 1))
  rw [show entryFrame m #[(.ref ko)] 1 = mkF m 0 #[.val (.ref ko)] [] from by first | (simp [entryFrame, mkF, argsToLocals, Value.category]; done) | rfl]
  refine g_aloadN X0 hx hby d7_0 rfl rfl ?_
  refine g_initO X0 hx hby hZ hown w36_ w12_ w13_ e0 (by rw [hml]; rfl) (Nat.le_of_ble_eq_true rfl) (Nat.le_of_ble_eq_true rfl) d7_1 (fun T1 X1 e1 => ?_)
  refine g_aloadN X1 hx hby d7_4 rfl rfl ?_
  refine g_virtual X1 hx hby hZ hown (rm_clear l Z a0 hw [] ko .null .null (0 : Int32) h0 n0 Z0 E F1 F2 F3 gk) w37_ w38_ (notFace_of_selects (args := #[]) (mvT hZ w40_)) w40_ w39_ w32_ w41_ (by decide) e1 E (by rw [hml]; rfl) [] (lenOf own_pd17 rfl) rfl rfl (Nat.le_of_ble_eq_true rfl) (Nat.le_of_ble_eq_true rfl) (Nat.le_of_ble_eq_true rfl) (Nat.le_of_ble_eq_true rfl) d7_5 (fun v2 T2 L2 X2 hQ2 => ?_)
  obtain ⟨rfl, N2q, R2⟩ := hQ2
  have N2 := Fr.app N0 N2q
  refine g_ret X2 hx hby Bd.returns Bd.notSynchronized d7_8 rfl (by decide) (by decide) ?_
  show (Q_kini Z ko h0 n0) none _ _
  exact ⟨rfl, N2, R2⟩

theorem d25_0 : decode prog_79_method_7_code 0 = .ok (.ldc2_w 62, 3) := by decide +kernel
theorem d25_3 : decode prog_79_method_7_code 3 = .ok (.aload_n 0, 1) := by decide +kernel
theorem d25_4 : decode prog_79_method_7_code 4 = .ok (.getfield 26, 3) := by decide +kernel
theorem d25_7 : decode prog_79_method_7_code 7 = .ok (.arraylength, 1) := by decide +kernel
theorem d25_8 : decode prog_79_method_7_code 8 = .ok (.i2l, 1) := by decide +kernel
theorem d25_9 : decode prog_79_method_7_code 9 = .ok (.lmul, 1) := by decide +kernel
theorem d25_10 : decode prog_79_method_7_code 10 = .ok (.ldc2_w 66, 3) := by decide +kernel
theorem d25_13 : decode prog_79_method_7_code 13 = .ok (.aload_n 0, 1) := by decide +kernel
theorem d25_14 : decode prog_79_method_7_code 14 = .ok (.getfield 46, 3) := by decide +kernel
theorem d25_17 : decode prog_79_method_7_code 17 = .ok (.arraylength, 1) := by decide +kernel
theorem d25_18 : decode prog_79_method_7_code 18 = .ok (.i2l, 1) := by decide +kernel
theorem d25_19 : decode prog_79_method_7_code 19 = .ok (.lmul, 1) := by decide +kernel
theorem d25_20 : decode prog_79_method_7_code 20 = .ok (.ladd, 1) := by decide +kernel
theorem d25_21 : decode prog_79_method_7_code 21 = .ok (.lreturn, 1) := by decide +kernel
def Q_memory (Z : State) (ko : Addr) (ch : Addr) (en : Addr) (kc : ClassId) (ke : ClassId) (cap : Int32) (vc : List Value) (ve : List Value) (h0 : Heap) (n0 : Nat) (v : Option Value) (h : Heap) (L : List Loc) : Prop := v = some (.long (((2 : Int64) * (cap.toInt64)) + (512 : Int64))) ∧ Fr n0 L ∧ h = h0
set_option maxRecDepth 65536 in
set_option maxHeartbeats 40000000 in
theorem rm_memory (l : Launch) (Z : State) (a0 : Array Value) (hw : ∀ d ∈ tables_1, d.before a0 Z = true) (ws : List Jvm.Cond) (ko : Addr) (ch : Addr) (en : Addr) (kc : ClassId) (ke : ClassId) (cap : Int32) (vc : List Value) (ve : List Value) (h0 : Heap) (n0 : Nat) (Z0 : n0 ≤ h0.size) (F1 : Fld Z h0 ko "com/example/invix/invix/sort/KeyBuffer" "characters" "[C" (.ref ch)) (F2 : Fld Z h0 ko "com/example/invix/invix/sort/KeyBuffer" "ends" "[I" (.ref en)) (VCh : Arv Z h0 ch kc .char cap vc (.int (0 : Int32))) (VE : Arv Z h0 en ke .int (128 : Int32) ve (.int (0 : Int32))) :
    MetFree l (⟨"com/example/invix/invix/sort/KeyBuffer", "memory", "()J"⟩ : MethodName) (head1 (Jvm.Cond.code (⟨"com/example/invix/invix/sort/KeyBuffer", "memory", "()J"⟩ : MethodName) prog_79_method_7_code 1 (some .long) :: ws) ({ frames := 0, cells := 0, slots := 0, locals := 0 } : Room)) (fun aa_ U => aa_ = #[(.ref ko)] ∧ Z.Warmed39 U.vm ∧ U.heap = h0) (fun _ _ _ _ _ => True) (fun _ U o_ U' => RetG U (Q_memory Z ko ch en kc ke cap vc ve h0 n0) 0 0 U' o_) := by
  refine MetFree.of_bodySF (plainFor_of_name own_pn3) hisR ?_
  intro p e s m args below meth c_ s₁ Bd hml0 hP hK
  obtain ⟨rfl, hZ, hh⟩ := hP
  have hx := Bd.exec
  have hby := Bd.bytes
  have hml : c_.maxLocals = 1 := hml0
  have hown : s.vm.findClass "com/example/invix/invix/sort/KeyBuffer" = some m.cls := findClass_of_methodNamed Bd.named
  have hnm := (name_of_methodNamed Bd.named Bd.method).1
  have X0 : Stand p l e ({ frames := 0, cells := 0, slots := 0, locals := 0 } : Room) s m #[(.ref ko)] below meth c_ s₁ [] 0 0 := Stand.of_body Bd
  have e0 : s₁.heap = h0 := by rw [← hh, Bd.state]; rfl
  have N0 := Fr.nil n0
  have w42_ := hw _ (List.mem_of_getElem? (i := 42) rfl)
  have w45_ := hw _ (List.mem_of_getElem? (i := 45) rfl)
  have w126_ := hw _ (List.mem_of_getElem? (i := 126) rfl)
  have w127_ := hw _ (List.mem_of_getElem? (i := 127) rfl)
  show Go p e below (RetG s (Q_memory Z ko ch en kc ke cap vc ve h0 n0) 0 0) (s₁.setTop (entryFrame m #[(.ref ko)] 1))
  rw [show entryFrame m #[(.ref ko)] 1 = mkF m 0 #[.val (.ref ko)] [] from by first | (simp [entryFrame, mkF, argsToLocals, Value.category]; done) | rfl]
  refine g_ldc2J X0 hx hby hZ hown w126_ d25_0 ?_
  refine g_aloadN X0 hx hby d25_3 rfl rfl ?_
  refine g_getF X0 hx hby hZ hown (host := "") (Or.inl w42_) Via.refl e0 F1 d25_4 (fun T1 X1 e1 => ?_)
  refine g_arraylength X1 hx hby hZ e1 VCh d25_7 ?_
  refine g_i2l X1 hx hby d25_8 ?_
  refine g_lmul X1 hx hby d25_9 ?_
  refine g_ldc2J X1 hx hby hZ hown w127_ d25_10 ?_
  refine g_aloadN X1 hx hby d25_13 rfl rfl ?_
  refine g_getF X1 hx hby hZ hown (host := "") (Or.inl w45_) Via.refl e1 F2 d25_14 (fun T2 X2 e2 => ?_)
  refine g_arraylength X2 hx hby hZ e2 VE d25_17 ?_
  refine g_i2l X2 hx hby d25_18 ?_
  refine g_topJ (128 : Int64) (by decide) ?_
  refine g_lmul X2 hx hby d25_19 ?_
  refine g_topJ (512 : Int64) (by decide) ?_
  refine g_ladd X2 hx hby d25_20 ?_
  refine g_lret X2 hx hby Bd.returns Bd.notSynchronized d25_21 e2 (by decide) (by decide) ?_
  show (Q_memory Z ko ch en kc ke cap vc ve h0 n0) (some (.long (((2 : Int64) * (cap.toInt64)) + (512 : Int64)))) _ _
  exact ⟨rfl, N0, rfl⟩

theorem own_pd18 : parseMethodDescriptor "()J" = some ⟨[], some .long⟩ := by decide +kernel
theorem own_pd19 : parseMethodDescriptor "(Ljava/lang/String;)I" = some ⟨[(.object "java/lang/String")], some .int⟩ := by decide +kernel
theorem own_pd20 : parseMethodDescriptor "(I)Ljava/lang/String;" = some ⟨[.int], some (.object "java/lang/String")⟩ := by decide +kernel
theorem d30_0 : decode jdk_43_method_13_code 0 = .ok (.aload_n 0, 1) := by decide +kernel
theorem d30_1 : decode jdk_43_method_13_code 1 = .ok (.arraylength, 1) := by decide +kernel
theorem d30_2 : decode jdk_43_method_13_code 2 = .ok (.aload_n 1, 1) := by decide +kernel
theorem d30_3 : decode jdk_43_method_13_code 3 = .ok (.arraylength, 1) := by decide +kernel
theorem d30_4 : decode jdk_43_method_13_code 4 = .ok (.if_icmp .ne 30, 3) := by decide +kernel
theorem d30_7 : decode jdk_43_method_13_code 7 = .ok (.iconst 0, 1) := by decide +kernel
theorem d30_8 : decode jdk_43_method_13_code 8 = .ok (.istore_n 2, 1) := by decide +kernel
theorem d30_9 : decode jdk_43_method_13_code 9 = .ok (.iload_n 2, 1) := by decide +kernel
theorem d30_10 : decode jdk_43_method_13_code 10 = .ok (.aload_n 0, 1) := by decide +kernel
theorem d30_11 : decode jdk_43_method_13_code 11 = .ok (.arraylength, 1) := by decide +kernel
theorem d30_12 : decode jdk_43_method_13_code 12 = .ok (.if_icmp .ge 20, 3) := by decide +kernel
theorem d30_15 : decode jdk_43_method_13_code 15 = .ok (.aload_n 0, 1) := by decide +kernel
theorem d30_16 : decode jdk_43_method_13_code 16 = .ok (.iload_n 2, 1) := by decide +kernel
theorem d30_17 : decode jdk_43_method_13_code 17 = .ok (.baload, 1) := by decide +kernel
theorem d30_18 : decode jdk_43_method_13_code 18 = .ok (.aload_n 1, 1) := by decide +kernel
theorem d30_19 : decode jdk_43_method_13_code 19 = .ok (.iload_n 2, 1) := by decide +kernel
theorem d30_20 : decode jdk_43_method_13_code 20 = .ok (.baload, 1) := by decide +kernel
theorem d30_21 : decode jdk_43_method_13_code 21 = .ok (.if_icmp .eq 5, 3) := by decide +kernel
theorem d30_26 : decode jdk_43_method_13_code 26 = .ok (.iinc 2 1, 3) := by decide +kernel
theorem d30_29 : decode jdk_43_method_13_code 29 = .ok (.goto (-20), 3) := by decide +kernel
theorem d30_32 : decode jdk_43_method_13_code 32 = .ok (.iconst 1, 1) := by decide +kernel
theorem d30_33 : decode jdk_43_method_13_code 33 = .ok (.ireturn, 1) := by decide +kernel
theorem d30_24 : decode jdk_43_method_13_code 24 = .ok (.iconst 0, 1) := by decide +kernel
theorem d30_25 : decode jdk_43_method_13_code 25 = .ok (.ireturn, 1) := by decide +kernel
def Q_lateq_2 (Z : State) (b : Addr) (kb : ClassId) (b' : Addr) (kb' : ClassId) (x0 : Int32) (x1 : Int32) (y0 : Int32) (y1 : Int32) (h0 : Heap) (n0 : Nat) (v : Option Value) (h : Heap) (L : List Loc) : Prop := v = some (.int (if x0 = y0 ∧ x1 = y1 then 1 else 0 : Int32)) ∧ Fr n0 L ∧ h = h0
set_option maxRecDepth 65536 in
set_option maxHeartbeats 40000000 in
theorem rm_lateq_2 (l : Launch) (Z : State) (a0 : Array Value) (hw : ∀ d ∈ tables_1, d.before a0 Z = true) (ws : List Jvm.Cond) (b : Addr) (kb : ClassId) (b' : Addr) (kb' : ClassId) (x0 : Int32) (x1 : Int32) (y0 : Int32) (y1 : Int32) (h0 : Heap) (n0 : Nat) (Z0 : n0 ≤ h0.size) (VX : Arv Z h0 b kb .byte (2 : Int32) [(.int x0), (.int x1)] (.int (0 : Int32))) (VY : Arv Z h0 b' kb' .byte (2 : Int32) [(.int y0), (.int y1)] (.int (0 : Int32))) :
    MetFree l (⟨"java/lang/StringLatin1", "equals", "([B[B)Z"⟩ : MethodName) (head1 (Jvm.Cond.code (⟨"java/lang/StringLatin1", "equals", "([B[B)Z"⟩ : MethodName) jdk_43_method_13_code 3 (some .boolean) :: ws) ({ frames := 0, cells := 0, slots := 0, locals := 0 } : Room)) (fun aa_ U => aa_ = #[(.ref b), (.ref b')] ∧ Z.Warmed39 U.vm ∧ U.heap = h0) (fun _ _ _ _ _ => True) (fun _ U o_ U' => RetG U (Q_lateq_2 Z b kb b' kb' x0 x1 y0 y1 h0 n0) 0 0 U' o_) := by
  refine MetFree.of_bodySF (plainFor_of_name own_pn0) hisR ?_
  intro p e s m args below meth c_ s₁ Bd hml0 hP hK
  obtain ⟨rfl, hZ, hh⟩ := hP
  have hx := Bd.exec
  have hby := Bd.bytes
  have hml : c_.maxLocals = 3 := hml0
  have hown : s.vm.findClass "java/lang/StringLatin1" = some m.cls := findClass_of_methodNamed Bd.named
  have hnm := (name_of_methodNamed Bd.named Bd.method).1
  have X0 : Stand p l e ({ frames := 0, cells := 0, slots := 0, locals := 0 } : Room) s m #[(.ref b), (.ref b')] below meth c_ s₁ [] 0 0 := Stand.of_body Bd
  have e0 : s₁.heap = h0 := by rw [← hh, Bd.state]; rfl
  have N0 := Fr.nil n0
  show Go p e below (RetG s (Q_lateq_2 Z b kb b' kb' x0 x1 y0 y1 h0 n0) 0 0) (s₁.setTop (entryFrame m #[(.ref b), (.ref b')] 3))
  rw [show entryFrame m #[(.ref b), (.ref b')] 3 = mkF m 0 #[.val (.ref b), .val (.ref b'), .unset] [] from by first | (simp [entryFrame, mkF, argsToLocals, Value.category]; done) | rfl]
  refine g_aloadN X0 hx hby d30_0 rfl rfl ?_
  refine g_arraylength X0 hx hby hZ e0 VX d30_1 ?_
  refine g_aloadN X0 hx hby d30_2 rfl rfl ?_
  refine g_arraylength X0 hx hby hZ e0 VY d30_3 ?_
  refine g_icN X0 hx hby d30_4 (teq (by decide : (2 : Int32) = (2 : Int32))).2 ?_
  refine g_iconst X0 hx hby (0 : Int32) d30_7 rfl ?_
  refine g_istoreN X0 hx hby d30_8 (l' := #[.val (.ref b), .val (.ref b'), .val (.int (0 : Int32))]) rfl ?_
  refine g_iloadN X0 hx hby d30_9 rfl ?_
  refine g_aloadN X0 hx hby d30_10 rfl rfl ?_
  refine g_arraylength X0 hx hby hZ e0 VX d30_11 ?_
  refine g_icN X0 hx hby d30_12 (tlt (by decide : (0 : Int32) < (2 : Int32))).2.1 ?_
  refine g_aloadN X0 hx hby d30_15 rfl rfl ?_
  refine g_iloadN X0 hx hby d30_16 rfl ?_
  refine g_baload X0 hx hby hZ e0 VX (.int x0) ⟨by decide, by decide⟩ rfl d30_17 ?_
  refine g_aloadN X0 hx hby d30_18 rfl rfl ?_
  refine g_iloadN X0 hx hby d30_19 rfl ?_
  refine g_baload X0 hx hby hZ e0 VY (.int y0) ⟨by decide, by decide⟩ rfl d30_20 ?_
  by_cases hc21_1 : x0 = y0
  · skip
    refine g_icY X0 hx hby 26 d30_21 (teq hc21_1).1 (by decide) (by decide) ?_
    refine g_iinc X0 hx hby (1 : Int32) d30_26 rfl (by decide) (l' := #[.val (.ref b), .val (.ref b'), .val (.int (1 : Int32))]) rfl ?_
    refine g_goto X0 hx hby 9 d30_29 (by decide) (by decide) ?_
    refine g_iloadN X0 hx hby d30_9 rfl ?_
    refine g_aloadN X0 hx hby d30_10 rfl rfl ?_
    refine g_arraylength X0 hx hby hZ e0 VX d30_11 ?_
    refine g_icN X0 hx hby d30_12 (tlt (by decide : (1 : Int32) < (2 : Int32))).2.1 ?_
    refine g_aloadN X0 hx hby d30_15 rfl rfl ?_
    refine g_iloadN X0 hx hby d30_16 rfl ?_
    refine g_baload X0 hx hby hZ e0 VX (.int x1) ⟨by decide, by decide⟩ rfl d30_17 ?_
    refine g_aloadN X0 hx hby d30_18 rfl rfl ?_
    refine g_iloadN X0 hx hby d30_19 rfl ?_
    refine g_baload X0 hx hby hZ e0 VY (.int y1) ⟨by decide, by decide⟩ rfl d30_20 ?_
    by_cases hc21_2 : x1 = y1
    · skip
      refine g_icY X0 hx hby 26 d30_21 (teq hc21_2).1 (by decide) (by decide) ?_
      refine g_iinc X0 hx hby (2 : Int32) d30_26 rfl (by decide) (l' := #[.val (.ref b), .val (.ref b'), .val (.int (2 : Int32))]) rfl ?_
      refine g_goto X0 hx hby 9 d30_29 (by decide) (by decide) ?_
      refine g_iloadN X0 hx hby d30_9 rfl ?_
      refine g_aloadN X0 hx hby d30_10 rfl rfl ?_
      refine g_arraylength X0 hx hby hZ e0 VX d30_11 ?_
      refine g_icY X0 hx hby 32 d30_12 (flt (by decide : ¬ ((2 : Int32) < (2 : Int32)))).2.1 (by decide) (by decide) ?_
      refine g_iconst X0 hx hby (1 : Int32) d30_32 rfl ?_
      refine g_nret X0 hx hby (t := .boolean) (by simp) Bd.returns Bd.notSynchronized d30_33 e0 (by decide) (by decide) ?_
      show (Q_lateq_2 Z b kb b' kb' x0 x1 y0 y1 h0 n0) (some (.int (1 : Int32))) _ _
      exact ⟨by simp [hc21_1, hc21_2], N0, rfl⟩
    · skip
      refine g_icN X0 hx hby d30_21 (feq hc21_2).1 ?_
      refine g_iconst X0 hx hby (0 : Int32) d30_24 rfl ?_
      refine g_nret X0 hx hby (t := .boolean) (by simp) Bd.returns Bd.notSynchronized d30_25 e0 (by decide) (by decide) ?_
      show (Q_lateq_2 Z b kb b' kb' x0 x1 y0 y1 h0 n0) (some (.int (0 : Int32))) _ _
      exact ⟨by simp [hc21_1, hc21_2], N0, rfl⟩
  · skip
    refine g_icN X0 hx hby d30_21 (feq hc21_1).1 ?_
    refine g_iconst X0 hx hby (0 : Int32) d30_24 rfl ?_
    refine g_nret X0 hx hby (t := .boolean) (by simp) Bd.returns Bd.notSynchronized d30_25 e0 (by decide) (by decide) ?_
    show (Q_lateq_2 Z b kb b' kb' x0 x1 y0 y1 h0 n0) (some (.int (0 : Int32))) _ _
    exact ⟨by simp [hc21_1], N0, rfl⟩

theorem d29_0 : decode jdk_42_method_66_code 0 = .ok (.aload_n 0, 1) := by decide +kernel
theorem d29_1 : decode jdk_42_method_66_code 1 = .ok (.aload_n 1, 1) := by decide +kernel
theorem d29_2 : decode jdk_42_method_66_code 2 = .ok (.if_acmp .ne 5, 3) := by decide +kernel
theorem d29_7 : decode jdk_42_method_66_code 7 = .ok (.aload_n 1, 1) := by decide +kernel
theorem d29_8 : decode jdk_42_method_66_code 8 = .ok (.instanceof 10, 3) := by decide +kernel
theorem d29_11 : decode jdk_42_method_66_code 11 = .ok (.ifCond .eq 43, 3) := by decide +kernel
theorem d29_14 : decode jdk_42_method_66_code 14 = .ok (.aload_n 1, 1) := by decide +kernel
theorem d29_15 : decode jdk_42_method_66_code 15 = .ok (.checkcast 10, 3) := by decide +kernel
theorem d29_18 : decode jdk_42_method_66_code 18 = .ok (.astore_n 2, 1) := by decide +kernel
theorem d29_19 : decode jdk_42_method_66_code 19 = .ok (.getstatic 38, 3) := by decide +kernel
theorem d29_22 : decode jdk_42_method_66_code 22 = .ok (.ifCond .eq 14, 3) := by decide +kernel
theorem d29_25 : decode jdk_42_method_66_code 25 = .ok (.aload_n 0, 1) := by decide +kernel
theorem d29_26 : decode jdk_42_method_66_code 26 = .ok (.getfield 15, 3) := by decide +kernel
theorem d29_29 : decode jdk_42_method_66_code 29 = .ok (.aload_n 2, 1) := by decide +kernel
theorem d29_30 : decode jdk_42_method_66_code 30 = .ok (.getfield 15, 3) := by decide +kernel
theorem d29_33 : decode jdk_42_method_66_code 33 = .ok (.if_icmp .ne 21, 3) := by decide +kernel
theorem d29_36 : decode jdk_42_method_66_code 36 = .ok (.aload_n 0, 1) := by decide +kernel
theorem d29_37 : decode jdk_42_method_66_code 37 = .ok (.getfield 9, 3) := by decide +kernel
theorem d29_40 : decode jdk_42_method_66_code 40 = .ok (.aload_n 2, 1) := by decide +kernel
theorem d29_41 : decode jdk_42_method_66_code 41 = .ok (.getfield 9, 3) := by decide +kernel
theorem d29_44 : decode jdk_42_method_66_code 44 = .ok (.invokestatic 541, 3) := by decide +kernel
theorem own_pd21 : parseMethodDescriptor "([B[B)Z" = some ⟨[(.array .byte), (.array .byte)], some .boolean⟩ := by decide +kernel
theorem d29_47 : decode jdk_42_method_66_code 47 = .ok (.ifCond .eq 7, 3) := by decide +kernel
theorem d29_54 : decode jdk_42_method_66_code 54 = .ok (.iconst 0, 1) := by decide +kernel
theorem d29_55 : decode jdk_42_method_66_code 55 = .ok (.ireturn, 1) := by decide +kernel
theorem d29_50 : decode jdk_42_method_66_code 50 = .ok (.iconst 1, 1) := by decide +kernel
theorem d29_51 : decode jdk_42_method_66_code 51 = .ok (.goto 4, 3) := by decide +kernel
def Q_streq_2 (Z : State) (a : Addr) (a' : Addr) (b : Addr) (kb : ClassId) (b' : Addr) (kb' : ClassId) (x0 : Int32) (x1 : Int32) (y0 : Int32) (y1 : Int32) (cz : Int32) (h0 : Heap) (n0 : Nat) (v : Option Value) (h : Heap) (L : List Loc) : Prop := v = some (.int (if x0 = y0 ∧ x1 = y1 then 1 else 0 : Int32)) ∧ Fr n0 L ∧ h = h0
set_option maxRecDepth 65536 in
set_option maxHeartbeats 40000000 in
theorem rm_streq_2 (l : Launch) (Z : State) (a0 : Array Value) (hw : ∀ d ∈ tables_1, d.before a0 Z = true) (ws : List Jvm.Cond) (a : Addr) (a' : Addr) (b : Addr) (kb : ClassId) (b' : Addr) (kb' : ClassId) (x0 : Int32) (x1 : Int32) (y0 : Int32) (y1 : Int32) (cz : Int32) (h0 : Heap) (n0 : Nat) (Z0 : n0 ≤ h0.size) (O2 : Sta Z Z.heap "java/lang/String" "COMPACT_STRINGS" "Z" (.int cz)) (P5 : ¬ cz = (0 : Int32)) (OLD : Old Z n0 h0) (E : Exa Z h0 a "java/lang/String") (C : Fld Z h0 a "java/lang/String" "coder" "B" (.int (0 : Int32))) (VF : Fld Z h0 a "java/lang/String" "value" "[B" (.ref b)) (E' : Exa Z h0 a' "java/lang/String") (C' : Fld Z h0 a' "java/lang/String" "coder" "B" (.int (0 : Int32))) (VF' : Fld Z h0 a' "java/lang/String" "value" "[B" (.ref b')) (VX : Arv Z h0 b kb .byte (2 : Int32) [(.int x0), (.int x1)] (.int (0 : Int32))) (VY : Arv Z h0 b' kb' .byte (2 : Int32) [(.int y0), (.int y1)] (.int (0 : Int32))) (naa : a ≠ a') :
    MetFree l (⟨"java/lang/String", "equals", "(Ljava/lang/Object;)Z"⟩ : MethodName) (head1 (Jvm.Cond.code (⟨"java/lang/String", "equals", "(Ljava/lang/Object;)Z"⟩ : MethodName) jdk_42_method_66_code 3 (some .boolean) :: ws) ({ frames := 1, cells := 0, slots := 0, locals := 14 } : Room)) (fun aa_ U => aa_ = #[(.ref a), (.ref a')] ∧ Z.Warmed39 U.vm ∧ U.heap = h0) (fun _ _ _ _ _ => True) (fun _ U o_ U' => RetG U (Q_streq_2 Z a a' b kb b' kb' x0 x1 y0 y1 cz h0 n0) 0 0 U' o_) := by
  refine MetFree.of_bodySF (plainFor_of_name own_pn2) hisR ?_
  intro p e s m args below meth c_ s₁ Bd hml0 hP hK
  obtain ⟨rfl, hZ, hh⟩ := hP
  have hx := Bd.exec
  have hby := Bd.bytes
  have hml : c_.maxLocals = 3 := hml0
  have hown : s.vm.findClass "java/lang/String" = some m.cls := findClass_of_methodNamed Bd.named
  have hnm := (name_of_methodNamed Bd.named Bd.method).1
  have X0 : Stand p l e ({ frames := 1, cells := 0, slots := 0, locals := 14 } : Room) s m #[(.ref a), (.ref a')] below meth c_ s₁ [] 0 0 := Stand.of_body Bd
  have e0 : s₁.heap = h0 := by rw [← hh, Bd.state]; rfl
  have N0 := Fr.nil n0
  have w14_ := hw _ (List.mem_of_getElem? (i := 14) rfl)
  have w26_ := hw _ (List.mem_of_getElem? (i := 26) rfl)
  have w28_ := hw _ (List.mem_of_getElem? (i := 28) rfl)
  have w110_ := hw _ (List.mem_of_getElem? (i := 110) rfl)
  have w146_ := hw _ (List.mem_of_getElem? (i := 146) rfl)
  have w147_ := hw _ (List.mem_of_getElem? (i := 147) rfl)
  have w148_ := hw _ (List.mem_of_getElem? (i := 148) rfl)
  have w149_ := hw _ (List.mem_of_getElem? (i := 149) rfl)
  show Go p e below (RetG s (Q_streq_2 Z a a' b kb b' kb' x0 x1 y0 y1 cz h0 n0) 0 0) (s₁.setTop (entryFrame m #[(.ref a), (.ref a')] 3))
  rw [show entryFrame m #[(.ref a), (.ref a')] 3 = mkF m 0 #[.val (.ref a), .val (.ref a'), .unset] [] from by first | (simp [entryFrame, mkF, argsToLocals, Value.category]; done) | rfl]
  refine g_aloadN X0 hx hby d29_0 rfl rfl ?_
  refine g_aloadN X0 hx hby d29_1 rfl rfl ?_
  refine g_acmp X0 hx hby rfl rfl 7 false d29_2 (decide_eq_false fun q => naa (Value.ref.inj q)) (by decide) (by decide) ?_
  refine g_aloadN X0 hx hby d29_7 rfl rfl ?_
  refine g_instanceof X0 hx hby hZ hown w146_ e0 (Ins.self E') d29_8 (fun T1 X1 e1 => ?_)
  refine g_ifN X1 hx hby d29_11 (feq (by decide : ¬ ((1 : Int32) = (0 : Int32)))).1 ?_
  refine g_aloadN X1 hx hby d29_14 rfl rfl ?_
  refine g_checkcast X1 hx hby hZ hown w146_ e1 (Ins.self E') d29_15 (fun T2 X2 e2 => ?_)
  refine g_astoreN X2 hx hby d29_18 rfl (l' := #[.val (.ref a), .val (.ref a'), .val (.ref a')]) rfl ?_
  refine g_getS X2 hx hby hZ hown (host := "") (Or.inl w14_) Via.refl e2 (O2.ext OLD.2) d29_19 (fun T3 X3 e3 => ?_)
  refine g_ifN X3 hx hby d29_22 (feq (P5 : ¬ (cz = (0 : Int32)))).1 ?_
  refine g_aloadN X3 hx hby d29_25 rfl rfl ?_
  refine g_getF X3 hx hby hZ hown (host := "") (Or.inl w26_) Via.refl e3 C d29_26 (fun T4 X4 e4 => ?_)
  refine g_aloadN X4 hx hby d29_29 rfl rfl ?_
  refine g_getF X4 hx hby hZ hown (host := "") (Or.inl w26_) Via.refl e4 C' d29_30 (fun T5 X5 e5 => ?_)
  refine g_icN X5 hx hby d29_33 (teq (by decide : (0 : Int32) = (0 : Int32))).2 ?_
  refine g_aloadN X5 hx hby d29_36 rfl rfl ?_
  refine g_getF X5 hx hby hZ hown (host := "") (Or.inl w28_) Via.refl e5 VF d29_37 (fun T6 X6 e6 => ?_)
  refine g_aloadN X6 hx hby d29_40 rfl rfl ?_
  refine g_getF X6 hx hby hZ hown (host := "") (Or.inl w28_) Via.refl e6 VF' d29_41 (fun T7 X7 e7 => ?_)
  refine g_static X7 hx hby hZ hown (rm_lateq_2 l Z a0 hw [] b kb b' kb' x0 x1 y0 y1 h0 n0 Z0 VX VY) w147_ w148_ w110_ w149_ (by decide) e7 (by rw [hml]; rfl) [(.ref b), (.ref b')] (lenOf own_pd21 rfl) rfl rfl (Nat.le_of_ble_eq_true rfl) (Nat.le_of_ble_eq_true rfl) (Nat.le_of_ble_eq_true rfl) (Nat.le_of_ble_eq_true rfl) d29_44 (fun v8 T8 L8 X8 hQ8 => ?_)
  obtain ⟨rfl, N8q, eh8⟩ := hQ8
  have N8 := Fr.app N0 N8q
  by_cases hc47_9 : (if x0 = y0 ∧ x1 = y1 then 1 else 0 : Int32) = (0 : Int32)
  · skip
    refine g_ifY X8 hx hby 54 d29_47 (teq hc47_9).1 (by decide) (by decide) ?_
    refine g_iconst X8 hx hby (0 : Int32) d29_54 rfl ?_
    refine g_nret X8 hx hby (t := .boolean) (by simp) Bd.returns Bd.notSynchronized d29_55 eh8 (by decide) (by decide) ?_
    show (Q_streq_2 Z a a' b kb b' kb' x0 x1 y0 y1 cz h0 n0) (some (.int (0 : Int32))) _ _
    exact ⟨by simp_all, N8, rfl⟩
  · skip
    refine g_ifN X8 hx hby d29_47 (feq hc47_9).1 ?_
    refine g_iconst X8 hx hby (1 : Int32) d29_50 rfl ?_
    refine g_at 51 rfl rfl rfl ?_
    refine g_goto X8 hx hby 55 d29_51 (by decide) (by decide) ?_
    refine g_nret X8 hx hby (t := .boolean) (by simp) Bd.returns Bd.notSynchronized d29_55 eh8 (by decide) (by decide) ?_
    show (Q_streq_2 Z a a' b kb b' kb' x0 x1 y0 y1 cz h0 n0) (some (.int (1 : Int32))) _ _
    exact ⟨by simp_all, N8, rfl⟩

theorem own_pd22 : parseMethodDescriptor "(Ljava/lang/Object;)Z" = some ⟨[(.object "java/lang/Object")], some .boolean⟩ := by decide +kernel
def Q_lenN (Z : State) (a : Addr) (b : Addr) (kb : ClassId) (nn : Int32) (bs : List Value) (cz : Int32) (h0 : Heap) (n0 : Nat) (v : Option Value) (h : Heap) (L : List Loc) : Prop := v = some (.int nn) ∧ Fr n0 L ∧ h = h0
set_option maxRecDepth 65536 in
set_option maxHeartbeats 40000000 in
theorem rm_lenN (l : Launch) (Z : State) (a0 : Array Value) (hw : ∀ d ∈ tables_1, d.before a0 Z = true) (ws : List Jvm.Cond) (a : Addr) (b : Addr) (kb : ClassId) (nn : Int32) (bs : List Value) (cz : Int32) (h0 : Heap) (n0 : Nat) (Z0 : n0 ≤ h0.size) (O2 : Sta Z Z.heap "java/lang/String" "COMPACT_STRINGS" "Z" (.int cz)) (P5 : ¬ cz = (0 : Int32)) (OLD : Old Z n0 h0) (E : Exa Z h0 a "java/lang/String") (C : Fld Z h0 a "java/lang/String" "coder" "B" (.int (0 : Int32))) (VF : Fld Z h0 a "java/lang/String" "value" "[B" (.ref b)) (VB : Arv Z h0 b kb .byte nn bs (.int (0 : Int32))) :
    MetFree l (⟨"java/lang/String", "length", "()I"⟩ : MethodName) (head1 (Jvm.Cond.code (⟨"java/lang/String", "length", "()I"⟩ : MethodName) jdk_42_method_54_code 1 (some .int) :: ws) ({ frames := 1, cells := 0, slots := 0, locals := 13 } : Room)) (fun aa_ U => aa_ = #[(.ref a)] ∧ Z.Warmed39 U.vm ∧ U.heap = h0) (fun _ _ _ _ _ => True) (fun _ U o_ U' => RetG U (Q_lenN Z a b kb nn bs cz h0 n0) 0 0 U' o_) := by
  refine MetFree.of_bodySF (plainFor_of_name own_pn2) hisR ?_
  intro p e s m args below meth c_ s₁ Bd hml0 hP hK
  obtain ⟨rfl, hZ, hh⟩ := hP
  have hx := Bd.exec
  have hby := Bd.bytes
  have hml : c_.maxLocals = 1 := hml0
  have hown : s.vm.findClass "java/lang/String" = some m.cls := findClass_of_methodNamed Bd.named
  have hnm := (name_of_methodNamed Bd.named Bd.method).1
  have X0 : Stand p l e ({ frames := 1, cells := 0, slots := 0, locals := 13 } : Room) s m #[(.ref a)] below meth c_ s₁ [] 0 0 := Stand.of_body Bd
  have e0 : s₁.heap = h0 := by rw [← hh, Bd.state]; rfl
  have N0 := Fr.nil n0
  have w3_ := hw _ (List.mem_of_getElem? (i := 3) rfl)
  have w28_ := hw _ (List.mem_of_getElem? (i := 28) rfl)
  have w63_ := hw _ (List.mem_of_getElem? (i := 63) rfl)
  have w64_ := hw _ (List.mem_of_getElem? (i := 64) rfl)
  have w65_ := hw _ (List.mem_of_getElem? (i := 65) rfl)
  have w66_ := hw _ (List.mem_of_getElem? (i := 66) rfl)
  have w67_ := hw _ (List.mem_of_getElem? (i := 67) rfl)
  show Go p e below (RetG s (Q_lenN Z a b kb nn bs cz h0 n0) 0 0) (s₁.setTop (entryFrame m #[(.ref a)] 1))
  rw [show entryFrame m #[(.ref a)] 1 = mkF m 0 #[.val (.ref a)] [] from by first | (simp [entryFrame, mkF, argsToLocals, Value.category]; done) | rfl]
  refine g_aloadN X0 hx hby d11_0 rfl rfl ?_
  refine g_getF X0 hx hby hZ hown (host := "") (Or.inl w28_) Via.refl e0 VF d11_1 (fun T1 X1 e1 => ?_)
  refine g_arraylength X1 hx hby hZ e1 VB d11_4 ?_
  refine g_aloadN X1 hx hby d11_5 rfl rfl ?_
  refine g_virtual X1 hx hby hZ hown (rm_coder l Z a0 hw [] a (0 : Int32) cz h0 n0 Z0 O2 P5 OLD C) w63_ w64_ (notFace_of_selects (args := #[]) (mvT hZ w66_)) w66_ w65_ w3_ w67_ (by decide) e1 E (by rw [hml]; rfl) [] (lenOf own_pd2 rfl) rfl rfl (Nat.le_of_ble_eq_true rfl) (Nat.le_of_ble_eq_true rfl) (Nat.le_of_ble_eq_true rfl) (Nat.le_of_ble_eq_true rfl) d11_6 (fun v2 T2 L2 X2 hQ2 => ?_)
  obtain ⟨rfl, N2q, eh2⟩ := hQ2
  have N2 := Fr.app N0 N2q
  refine g_topI (T := T2) (0 : Int32) (by decide) ?_
  refine g_ishr X2 hx hby d11_9 ?_
  refine g_iret X2 hx hby Bd.returns Bd.notSynchronized d11_10 eh2 (by decide) (by decide) ?_
  show (Q_lenN Z a b kb nn bs cz h0 n0) (some (.int (nn >>> ((0 : Int32) &&& 31)))) _ _
  exact ⟨by rw [own_shr0], N2, rfl⟩

theorem d13_0 : decode jdk_29_method_65_code 0 = .ok (.iload_n 0, 1) := by decide +kernel
theorem d13_1 : decode jdk_29_method_65_code 1 = .ok (.iload_n 1, 1) := by decide +kernel
theorem d13_2 : decode jdk_29_method_65_code 2 = .ok (.if_icmp .lt 7, 3) := by decide +kernel
theorem d13_9 : decode jdk_29_method_65_code 9 = .ok (.iload_n 1, 1) := by decide +kernel
theorem d13_10 : decode jdk_29_method_65_code 10 = .ok (.ireturn, 1) := by decide +kernel
theorem d13_5 : decode jdk_29_method_65_code 5 = .ok (.iload_n 0, 1) := by decide +kernel
theorem d13_6 : decode jdk_29_method_65_code 6 = .ok (.goto 4, 3) := by decide +kernel
def Q_mmax (Z : State) (a : Int32) (b : Int32) (h0 : Heap) (n0 : Nat) (v : Option Value) (h : Heap) (L : List Loc) : Prop := v = some (.int (own_max a b)) ∧ Fr n0 L ∧ h = h0
set_option maxRecDepth 65536 in
set_option maxHeartbeats 40000000 in
theorem rm_mmax (l : Launch) (Z : State) (a0 : Array Value) (hw : ∀ d ∈ tables_1, d.before a0 Z = true) (ws : List Jvm.Cond) (a : Int32) (b : Int32) (h0 : Heap) (n0 : Nat) (Z0 : n0 ≤ h0.size) :
    MetFree l (⟨"java/lang/Math", "max", "(II)I"⟩ : MethodName) (head1 (Jvm.Cond.code (⟨"java/lang/Math", "max", "(II)I"⟩ : MethodName) jdk_29_method_65_code 2 (some .int) :: ws) ({ frames := 0, cells := 0, slots := 0, locals := 0 } : Room)) (fun aa_ U => aa_ = #[(.int a), (.int b)] ∧ Z.Warmed39 U.vm ∧ U.heap = h0) (fun _ _ _ _ _ => True) (fun _ U o_ U' => RetG U (Q_mmax Z a b h0 n0) 0 0 U' o_) := by
  refine MetFree.of_bodySF (Jvm.Free.JP.mathPlain rfl (by decide +kernel)) hisR ?_
  intro p e s m args below meth c_ s₁ Bd hml0 hP hK
  obtain ⟨rfl, hZ, hh⟩ := hP
  have hx := Bd.exec
  have hby := Bd.bytes
  have hml : c_.maxLocals = 2 := hml0
  have hown : s.vm.findClass "java/lang/Math" = some m.cls := findClass_of_methodNamed Bd.named
  have hnm := (name_of_methodNamed Bd.named Bd.method).1
  have X0 : Stand p l e ({ frames := 0, cells := 0, slots := 0, locals := 0 } : Room) s m #[(.int a), (.int b)] below meth c_ s₁ [] 0 0 := Stand.of_body Bd
  have e0 : s₁.heap = h0 := by rw [← hh, Bd.state]; rfl
  have N0 := Fr.nil n0
  show Go p e below (RetG s (Q_mmax Z a b h0 n0) 0 0) (s₁.setTop (entryFrame m #[(.int a), (.int b)] 2))
  rw [show entryFrame m #[(.int a), (.int b)] 2 = mkF m 0 #[.val (.int a), .val (.int b)] [] from by first | (simp [entryFrame, mkF, argsToLocals, Value.category]; done) | rfl]
  refine g_iloadN X0 hx hby d13_0 rfl ?_
  refine g_iloadN X0 hx hby d13_1 rfl ?_
  by_cases hc2_1 : a < b
  · skip
    refine g_icY X0 hx hby 9 d13_2 (tlt hc2_1).1 (by decide) (by decide) ?_
    refine g_iloadN X0 hx hby d13_9 rfl ?_
    refine g_iret X0 hx hby Bd.returns Bd.notSynchronized d13_10 e0 (by decide) (by decide) ?_
    show (Q_mmax Z a b h0 n0) (some (.int b)) _ _
    exact ⟨by simp [own_max, hc2_1], N0, rfl⟩
  · skip
    refine g_icN X0 hx hby d13_2 (flt hc2_1).1 ?_
    refine g_iloadN X0 hx hby d13_5 rfl ?_
    refine g_goto X0 hx hby 10 d13_6 (by decide) (by decide) ?_
    refine g_iret X0 hx hby Bd.returns Bd.notSynchronized d13_10 e0 (by decide) (by decide) ?_
    show (Q_mmax Z a b h0 n0) (some (.int a)) _ _
    exact ⟨by simp [own_max, hc2_1], N0, rfl⟩

theorem d15_0 : decode jdk_29_method_69_code 0 = .ok (.iload_n 0, 1) := by decide +kernel
theorem d15_1 : decode jdk_29_method_69_code 1 = .ok (.iload_n 1, 1) := by decide +kernel
theorem d15_2 : decode jdk_29_method_69_code 2 = .ok (.if_icmp .gt 7, 3) := by decide +kernel
theorem d15_5 : decode jdk_29_method_69_code 5 = .ok (.iload_n 0, 1) := by decide +kernel
theorem d15_6 : decode jdk_29_method_69_code 6 = .ok (.goto 4, 3) := by decide +kernel
theorem d15_10 : decode jdk_29_method_69_code 10 = .ok (.ireturn, 1) := by decide +kernel
def Q_mmin (Z : State) (a : Int32) (b : Int32) (h0 : Heap) (n0 : Nat) (v : Option Value) (h : Heap) (L : List Loc) : Prop := v = some (.int a) ∧ Fr n0 L ∧ h = h0
set_option maxRecDepth 65536 in
set_option maxHeartbeats 40000000 in
theorem rm_mmin (l : Launch) (Z : State) (a0 : Array Value) (hw : ∀ d ∈ tables_1, d.before a0 Z = true) (ws : List Jvm.Cond) (a : Int32) (b : Int32) (h0 : Heap) (n0 : Nat) (Z0 : n0 ≤ h0.size) (hab : ¬ b < a) :
    MetFree l (⟨"java/lang/Math", "min", "(II)I"⟩ : MethodName) (head1 (Jvm.Cond.code (⟨"java/lang/Math", "min", "(II)I"⟩ : MethodName) jdk_29_method_69_code 2 (some .int) :: ws) ({ frames := 0, cells := 0, slots := 0, locals := 0 } : Room)) (fun aa_ U => aa_ = #[(.int a), (.int b)] ∧ Z.Warmed39 U.vm ∧ U.heap = h0) (fun _ _ _ _ _ => True) (fun _ U o_ U' => RetG U (Q_mmin Z a b h0 n0) 0 0 U' o_) := by
  refine MetFree.of_bodySF (Jvm.Free.JP.mathPlain rfl (by decide +kernel)) hisR ?_
  intro p e s m args below meth c_ s₁ Bd hml0 hP hK
  obtain ⟨rfl, hZ, hh⟩ := hP
  have hx := Bd.exec
  have hby := Bd.bytes
  have hml : c_.maxLocals = 2 := hml0
  have hown : s.vm.findClass "java/lang/Math" = some m.cls := findClass_of_methodNamed Bd.named
  have hnm := (name_of_methodNamed Bd.named Bd.method).1
  have X0 : Stand p l e ({ frames := 0, cells := 0, slots := 0, locals := 0 } : Room) s m #[(.int a), (.int b)] below meth c_ s₁ [] 0 0 := Stand.of_body Bd
  have e0 : s₁.heap = h0 := by rw [← hh, Bd.state]; rfl
  have N0 := Fr.nil n0
  show Go p e below (RetG s (Q_mmin Z a b h0 n0) 0 0) (s₁.setTop (entryFrame m #[(.int a), (.int b)] 2))
  rw [show entryFrame m #[(.int a), (.int b)] 2 = mkF m 0 #[.val (.int a), .val (.int b)] [] from by first | (simp [entryFrame, mkF, argsToLocals, Value.category]; done) | rfl]
  refine g_iloadN X0 hx hby d15_0 rfl ?_
  refine g_iloadN X0 hx hby d15_1 rfl ?_
  refine g_icN X0 hx hby d15_2 (flt (hab : ¬ (b < a))).2.2.1 ?_
  refine g_iloadN X0 hx hby d15_5 rfl ?_
  refine g_goto X0 hx hby 10 d15_6 (by decide) (by decide) ?_
  refine g_iret X0 hx hby Bd.returns Bd.notSynchronized d15_10 e0 (by decide) (by decide) ?_
  show (Q_mmin Z a b h0 n0) (some (.int a)) _ _
  exact ⟨rfl, N0, rfl⟩

theorem d14_0 : decode jdk_65_method_125_code 0 = .ok (.iload_n 1, 1) := by decide +kernel
theorem d14_1 : decode jdk_65_method_125_code 1 = .ok (.aload_n 0, 1) := by decide +kernel
theorem d14_2 : decode jdk_65_method_125_code 2 = .ok (.arraylength, 1) := by decide +kernel
theorem d14_3 : decode jdk_65_method_125_code 3 = .ok (.if_icmp .ne 11, 3) := by decide +kernel
theorem d14_14 : decode jdk_65_method_125_code 14 = .ok (.iload_n 1, 1) := by decide +kernel
theorem d14_15 : decode jdk_65_method_125_code 15 = .ok (.newarray .char, 2) := by decide +kernel
theorem d14_17 : decode jdk_65_method_125_code 17 = .ok (.astore_n 2, 1) := by decide +kernel
theorem d14_18 : decode jdk_65_method_125_code 18 = .ok (.aload_n 0, 1) := by decide +kernel
theorem d14_19 : decode jdk_65_method_125_code 19 = .ok (.iconst 0, 1) := by decide +kernel
theorem d14_20 : decode jdk_65_method_125_code 20 = .ok (.aload_n 2, 1) := by decide +kernel
theorem d14_21 : decode jdk_65_method_125_code 21 = .ok (.iconst 0, 1) := by decide +kernel
theorem d14_22 : decode jdk_65_method_125_code 22 = .ok (.aload_n 0, 1) := by decide +kernel
theorem d14_23 : decode jdk_65_method_125_code 23 = .ok (.arraylength, 1) := by decide +kernel
theorem d14_24 : decode jdk_65_method_125_code 24 = .ok (.iload_n 1, 1) := by decide +kernel
theorem d14_25 : decode jdk_65_method_125_code 25 = .ok (.invokestatic 304, 3) := by decide +kernel
theorem own_pd23 : parseMethodDescriptor "(II)I" = some ⟨[.int, .int], some .int⟩ := by decide +kernel
theorem d14_28 : decode jdk_65_method_125_code 28 = .ok (.invokestatic 150, 3) := by decide +kernel
theorem d14_31 : decode jdk_65_method_125_code 31 = .ok (.aload_n 2, 1) := by decide +kernel
theorem d14_32 : decode jdk_65_method_125_code 32 = .ok (.areturn, 1) := by decide +kernel
theorem own_pn5 : plainName "java/util/Arrays" = true := by first | (simp [plainName, overriddenIn]; done) | decide +kernel
def Q_copyof_2100 (Z : State) (ch : Addr) (kc : ClassId) (cap : Int32) (vc : List Value) (nl : Int32) (h0 : Heap) (n0 : Nat) (v : Option Value) (h : Heap) (L : List Loc) : Prop := Fr n0 L ∧ Keep h0 h [] ∧ ∃ (d : Addr) (kd : ClassId) (vd : List Value), v = some (.ref d) ∧ h0.size ≤ d ∧ Arv Z h d kd .char nl vd (.int (0 : Int32)) ∧ nl.toNatClampNeg ≤ vd.length
set_option maxRecDepth 65536 in
set_option maxHeartbeats 40000000 in
theorem rm_copyof_2100 (l : Launch) (Z : State) (a0 : Array Value) (hw : ∀ d ∈ tables_1, d.before a0 Z = true) (ws : List Jvm.Cond) (ch : Addr) (kc : ClassId) (cap : Int32) (vc : List Value) (nl : Int32) (h0 : Heap) (n0 : Nat) (Z0 : n0 ≤ h0.size) (VC : Arv Z h0 ch kc .char cap vc (.int (0 : Int32))) (hp1 : 0 ≤ cap.toInt) (hp2 : cap.toInt < nl.toInt) (hp3 : nl.toInt ≤ 2100) :
    MetFree l (⟨"java/util/Arrays", "copyOf", "([CI)[C"⟩ : MethodName) (head1 (Jvm.Cond.code (⟨"java/util/Arrays", "copyOf", "([CI)[C"⟩ : MethodName) jdk_65_method_125_code 3 (some (.array .char)) :: ws) ({ frames := 1, cells := 1, slots := 2100, locals := 18 } : Room)) (fun aa_ U => aa_ = #[(.ref ch), (.int nl)] ∧ Z.Warmed39 U.vm ∧ U.heap = h0) (fun _ _ _ _ _ => True) (fun _ U o_ U' => RetG U (Q_copyof_2100 Z ch kc cap vc nl h0 n0) 1 2100 U' o_) := by
  refine MetFree.of_bodySF (plainFor_of_name own_pn5) hisR ?_
  intro p e s m args below meth c_ s₁ Bd hml0 hP hK
  obtain ⟨rfl, hZ, hh⟩ := hP
  have hx := Bd.exec
  have hby := Bd.bytes
  have hml : c_.maxLocals = 3 := hml0
  have hown : s.vm.findClass "java/util/Arrays" = some m.cls := findClass_of_methodNamed Bd.named
  have hnm := (name_of_methodNamed Bd.named Bd.method).1
  have X0 : Stand p l e ({ frames := 1, cells := 1, slots := 2100, locals := 18 } : Room) s m #[(.ref ch), (.int nl)] below meth c_ s₁ [] 0 0 := Stand.of_body Bd
  have e0 : s₁.heap = h0 := by rw [← hh, Bd.state]; rfl
  have N0 := Fr.nil n0
  have w0_ := hw _ (List.mem_of_getElem? (i := 0) rfl)
  have w70_ := hw _ (List.mem_of_getElem? (i := 70) rfl)
  have w76_ := hw _ (List.mem_of_getElem? (i := 76) rfl)
  have w77_ := hw _ (List.mem_of_getElem? (i := 77) rfl)
  have w78_ := hw _ (List.mem_of_getElem? (i := 78) rfl)
  have w79_ := hw _ (List.mem_of_getElem? (i := 79) rfl)
  have w80_ := hw _ (List.mem_of_getElem? (i := 80) rfl)
  have w81_ := hw _ (List.mem_of_getElem? (i := 81) rfl)
  have w82_ := hw _ (List.mem_of_getElem? (i := 82) rfl)
  have b1 := own_tc hp1
  have b2 := own_tc (Int.le_trans hp1 (Int.le_of_lt hp2))
  have nl0 : ¬ nl < 0 := own_nn (by omega)
  show Go p e below (RetG s (Q_copyof_2100 Z ch kc cap vc nl h0 n0) 1 2100) (s₁.setTop (entryFrame m #[(.ref ch), (.int nl)] 3))
  rw [show entryFrame m #[(.ref ch), (.int nl)] 3 = mkF m 0 #[.val (.ref ch), .val (.int nl), .unset] [] from by first | (simp [entryFrame, mkF, argsToLocals, Value.category]; done) | rfl]
  refine g_iloadN X0 hx hby d14_0 rfl ?_
  refine g_aloadN X0 hx hby d14_1 rfl rfl ?_
  refine g_arraylength X0 hx hby hZ e0 VC d14_2 ?_
  refine g_icY X0 hx hby 14 d14_3 (feq ((fun q => by rw [q] at hp2; omega) : ¬ (nl = cap))).2 (by decide) (by decide) ?_
  refine g_iloadN X0 hx hby d14_14 rfl ?_
  refine g_newarray X0 hx hby hZ .char .char (.int (0 : Int32)) (List.replicate 2100 (.int (0 : Int32))) rfl rfl w0_ e0 nl0 2100 rfl (by omega) (by decide) (by decide) (by decide) d14_15 (fun T1 h1 k1 b1 g1 X1 e1 E1 V1 => ?_)
  refine g_astoreN X1 hx hby d14_17 rfl (l' := #[.val (.ref ch), .val (.int nl), .val (.ref b1)]) rfl ?_
  refine g_aloadN X1 hx hby d14_18 rfl rfl ?_
  refine g_iconst X1 hx hby (0 : Int32) d14_19 rfl ?_
  refine g_aloadN X1 hx hby d14_20 rfl rfl ?_
  refine g_iconst X1 hx hby (0 : Int32) d14_21 rfl ?_
  refine g_aloadN X1 hx hby d14_22 rfl rfl ?_
  have f2 := (VC.ext E1)
  refine g_arraylength X1 hx hby hZ e1 f2 d14_23 ?_
  refine g_iloadN X1 hx hby d14_24 rfl ?_
  have z4 := (Nat.le_trans Z0 E1.1)
  refine g_static X1 hx hby hZ hown (rm_mmin l Z a0 hw [] cap nl h1 n0 z4 (own_le (by omega))) w76_ w77_ w70_ w78_ (by decide) e1 (by rw [hml]; rfl) [(.int cap), (.int nl)] (lenOf own_pd23 rfl) rfl rfl (Nat.le_of_ble_eq_true rfl) (Nat.le_of_ble_eq_true rfl) (Nat.le_of_ble_eq_true rfl) (Nat.le_of_ble_eq_true rfl) d14_25 (fun v3 T3 L3 X3 hQ3 => ?_)
  obtain ⟨rfl, N3q, eh3⟩ := hQ3
  have N3 := Fr.app N0 N3q
  have g_b1 : n0 ≤ b1 := Nat.le_trans Z0 (Nat.le_of_eq g1)
  refine g_arraycopy X3 hx hby hZ hown w79_ w82_ w80_ w81_ eh3 f2 V1 (Or.inl ⟨rfl, rfl⟩) (by decide) (by decide) (own_nn hp1) (by show 0 + _ ≤ _; omega) (by show 0 + _ ≤ _; omega) rfl (by rw [List.length_replicate]; show 0 + _ ≤ _; omega) N3 g_b1 (by rw [hml]; rfl) d14_28 (Nat.le_of_ble_eq_true rfl) (Nat.le_of_ble_eq_true rfl) (fun T5 h5 L5 X5 e5 N5 K5 V5 => ?_)
  refine g_aloadN X5 hx hby d14_31 rfl rfl ?_
  refine g_aret X5 hx hby (t := (.array .char)) rfl rfl rfl Bd.returns Bd.notSynchronized d14_32 e5 (by decide) (by decide) ?_
  show (Q_copyof_2100 Z ch kc cap vc nl h0 n0) (some (.ref b1)) _ _
  exact ⟨N5, (((Keep.refl h0 []).ext E1).trans K5 (allS (Or.inr (Nat.le_trans (Nat.le_refl _) (Nat.le_of_eq g1))) all0)), b1, k1, _, rfl, (Nat.le_trans (Nat.le_refl _) (Nat.le_of_eq g1)), V5, by simp only [List.length_append, List.length_take, List.length_drop, List.length_map, List.length_range, List.length_replicate]; omega⟩

def Q_inflate (Z : State) (b : Addr) (kb : ClassId) (nn : Int32) (bs : List Value) (ch : Addr) (kc : ClassId) (cap : Int32) (vc : List Value) (off : Int32) (N : Nat) (h0 : Heap) (n0 : Nat) (v : Option Value) (h : Heap) (L : List Loc) : Prop := v = none ∧ Fr n0 L ∧ Keep h0 h [ch] ∧ ∃ vc' : List Value, Arv Z h ch kc .char cap vc' (.int (0 : Int32)) ∧ cap.toNatClampNeg ≤ vc'.length
set_option maxRecDepth 65536 in
set_option maxHeartbeats 40000000 in
theorem rm_inflate (l : Launch) (Z : State) (a0 : Array Value) (hw : ∀ d ∈ tables_1, d.before a0 Z = true) (ws : List Jvm.Cond) (b : Addr) (kb : ClassId) (nn : Int32) (bs : List Value) (ch : Addr) (kc : ClassId) (cap : Int32) (vc : List Value) (off : Int32) (N : Nat) (h0 : Heap) (n0 : Nat) (Z0 : n0 ≤ h0.size) (VB : Arv Z h0 b kb .byte nn bs (.int (0 : Int32))) (VC : Arv Z h0 ch kc .char cap vc (.int (0 : Int32))) (hl : cap.toNatClampNeg ≤ vc.length) (ho : 0 ≤ off.toInt) (hz : 0 ≤ nn.toInt) (hcap : off.toInt + nn.toInt ≤ cap.toInt) (gc : n0 ≤ ch) (nbc : b ≠ ch) (hn : nn.toInt = N) :
    MetFree l (⟨"java/lang/StringLatin1", "inflate", "([BI[CII)V"⟩ : MethodName) (head1 (Jvm.Cond.code (⟨"java/lang/StringLatin1", "inflate", "([BI[CII)V"⟩ : MethodName) jdk_43_method_49_code 6 none :: ws) ({ frames := 0, cells := 0, slots := 0, locals := 0 } : Room)) (fun aa_ U => aa_ = #[(.ref b), (.int (0 : Int32)), (.ref ch), (.int off), (.int nn)] ∧ Z.Warmed39 U.vm ∧ U.heap = h0) (fun _ _ _ _ _ => True) (fun _ U o_ U' => RetG U (Q_inflate Z b kb nn bs ch kc cap vc off N h0 n0) 0 0 U' o_) := by
  refine MetFree.of_bodySF (plainFor_of_name own_pn0) hisR ?_
  intro p e s m args below meth c_ s₁ Bd hml0 hP hK
  obtain ⟨rfl, hZ, hh⟩ := hP
  have hx := Bd.exec
  have hby := Bd.bytes
  have hml : c_.maxLocals = 6 := hml0
  have hown : s.vm.findClass "java/lang/StringLatin1" = some m.cls := findClass_of_methodNamed Bd.named
  have hnm := (name_of_methodNamed Bd.named Bd.method).1
  have X0 : Stand p l e ({ frames := 0, cells := 0, slots := 0, locals := 0 } : Room) s m #[(.ref b), (.int (0 : Int32)), (.ref ch), (.int off), (.int nn)] below meth c_ s₁ [] 0 0 := Stand.of_body Bd
  have e0 : s₁.heap = h0 := by rw [← hh, Bd.state]; rfl
  have N0 := Fr.nil n0
  show Go p e below (RetG s (Q_inflate Z b kb nn bs ch kc cap vc off N h0 n0) 0 0) (s₁.setTop (entryFrame m #[(.ref b), (.int (0 : Int32)), (.ref ch), (.int off), (.int nn)] 6))
  rw [show entryFrame m #[(.ref b), (.int (0 : Int32)), (.ref ch), (.int off), (.int nn)] 6 = mkF m 0 #[.val (.ref b), .val (.int (0 : Int32)), .val (.ref ch), .val (.int off), .val (.int nn), .unset] [] from by first | (simp [entryFrame, mkF, argsToLocals, Value.category]; done) | rfl]
  refine g_iconst X0 hx hby (0 : Int32) d23_0 rfl ?_
  refine g_istore X0 hx hby d23_1 (l' := #[.val (.ref b), .val (.int (0 : Int32)), .val (.ref ch), .val (.int off), .val (.int nn), .val (.int (0 : Int32))]) rfl ?_
  rw [show mkF m 3 #[.val (.ref b), .val (.int (0 : Int32)), .val (.ref ch), .val (.int off), .val (.int nn), .val (.int (0 : Int32))] [] = mkF m 3 #[.val (.ref b), .val (.int (Int32.ofNat 0)), .val (.ref ch), .val (.int (off + Int32.ofNat 0)), .val (.int nn), .val (.int (Int32.ofNat 0))] [] from by rw [show off + Int32.ofNat 0 = off from Int32.add_zero off]; rfl]
  have loop : ∀ (kk j : Nat) (vc9 : List Value) (T9 : State) (locs9 : List Loc) (h9 : Heap), j + kk = N → Stand p l e ({ frames := 0, cells := 0, slots := 0, locals := 0 } : Room) s m #[(.ref b), (.int (0 : Int32)), (.ref ch), (.int off), (.int nn)] below meth c_ T9 locs9 0 0 → T9.heap = h9 → Fr n0 locs9 → Keep h0 h9 [ch] → (Arv Z h9 b kb .byte nn bs (.int (0 : Int32))) → (Arv Z h9 ch kc .char cap vc9 (.int (0 : Int32))) → (cap.toNatClampNeg ≤ vc9.length) →  Go p e below (RetG s (Q_inflate Z b kb nn bs ch kc cap vc off N h0 n0) 0 0) (T9.setTop (mkF m 3 #[.val (.ref b), .val (.int (Int32.ofNat j)), .val (.ref ch), .val (.int (off + Int32.ofNat j)), .val (.int nn), .val (.int (Int32.ofNat j))] [])) := by
    intro kk
    induction kk with
    | zero =>
      intro j vc9 T9 locs9 h9 hj X9 e9 N9 K9 VB9 VC9 hl9
      have z9 : n0 ≤ h9.size := Nat.le_trans Z0 K9.1
      obtain rfl : N = j := by omega
      refine g_iload X9 hx hby d23_3 rfl ?_
      refine g_iload X9 hx hby d23_5 rfl ?_
      refine g_icY X9 hx hby 33 d23_7 (flt (own_nltn hn : ¬ ((Int32.ofNat N) < nn))).2.1 (by decide) (by decide) ?_
      refine g_ret X9 hx hby Bd.returns Bd.notSynchronized d23_33 e9 (by decide) (by decide) ?_
      show (Q_inflate Z b kb nn bs ch kc cap vc off N h0 n0) none _ _
      exact ⟨rfl, N9, K9, _, VC9, hl9⟩
    | succ kk ih =>
      intro j vc9 T9 locs9 h9 hj X9 e9 N9 K9 VB9 VC9 hl9
      have z9 : n0 ≤ h9.size := Nat.le_trans Z0 K9.1
      refine g_iload X9 hx hby d23_3 rfl ?_
      refine g_iload X9 hx hby d23_5 rfl ?_
      refine g_icN X9 hx hby d23_7 (tlt (own_ltn hn (by omega) : (Int32.ofNat j) < nn)).2.1 ?_
      refine g_aloadN X9 hx hby d23_10 rfl rfl ?_
      refine g_iloadN X9 hx hby d23_11 rfl ?_
      refine g_iinc X9 hx hby ((off + Int32.ofNat j) + (1 : Int32)) d23_12 rfl rfl (l' := #[.val (.ref b), .val (.int (Int32.ofNat j)), .val (.ref ch), .val (.int ((off + Int32.ofNat j) + (1 : Int32))), .val (.int nn), .val (.int (Int32.ofNat j))]) rfl ?_
      refine g_aloadN X9 hx hby d23_15 rfl rfl ?_
      refine g_iloadN X9 hx hby d23_16 rfl ?_
      refine g_iinc X9 hx hby ((Int32.ofNat j) + (1 : Int32)) d23_17 rfl rfl (l' := #[.val (.ref b), .val (.int ((Int32.ofNat j) + (1 : Int32))), .val (.ref ch), .val (.int ((off + Int32.ofNat j) + (1 : Int32))), .val (.int nn), .val (.int (Int32.ofNat j))]) rfl ?_
      obtain ⟨x9, hx9⟩ := own_ib VB9 (i := j) (by have := own_nN hn; omega)
      refine g_baload X9 hx hby hZ e9 VB9 (.int x9) (own_inn hn (by omega)) (by rw [own_tn hn (by omega)]; exact hx9) d23_20 ?_
      refine g_sipush X9 hx hby (255 : Int32) d23_21 rfl ?_
      refine g_iand X9 hx hby d23_24 ?_
      refine g_i2c X9 hx hby d23_25 ?_
      refine g_castore X9 hx hby hZ e9 VC9 (off + Int32.ofNat j).toNatClampNeg (vc9.set (off + Int32.ofNat j).toNatClampNeg (.int (nar .char ((x9 &&& (255 : Int32)).toUInt32.toUInt16.toUInt32.toInt32)))) rfl (own_offin ho hn hcap (by omega)) rfl (own_len (own_offin ho hn hcap (by omega)) hl9) N9 gc d23_26 (fun T1 h1 X1 e1 W1 V1 N1 => ?_)
      refine g_iinc X1 hx hby ((Int32.ofNat j) + (1 : Int32)) d23_27 rfl rfl (l' := #[.val (.ref b), .val (.int ((Int32.ofNat j) + (1 : Int32))), .val (.ref ch), .val (.int ((off + Int32.ofNat j) + (1 : Int32))), .val (.int nn), .val (.int ((Int32.ofNat j) + (1 : Int32)))]) rfl ?_
      refine g_goto X1 hx hby 3 d23_30 (by decide) (by decide) ?_
      have f2 := (VB9.other W1 nbc)
      rw [own_up2, own_up]
      exact ih (j + 1) _ _ _ _ (by omega) X1 e1 N1 (K9.wr W1 (Or.inl (List.mem_of_getElem? (i := 0) rfl))) f2 V1 (by rw [List.length_set]; exact hl9)
  refine loop N 0 _ _ _ _ (by omega) X0 e0 N0 (Keep.refl h0 [ch]) VB VC hl

def Q_lgetc (Z : State) (b : Addr) (kb : ClassId) (nn : Int32) (bs : List Value) (ch : Addr) (kc : ClassId) (cap : Int32) (vc : List Value) (off : Int32) (h0 : Heap) (n0 : Nat) (v : Option Value) (h : Heap) (L : List Loc) : Prop := v = none ∧ Fr n0 L ∧ Keep h0 h [ch] ∧ ∃ vc' : List Value, Arv Z h ch kc .char cap vc' (.int (0 : Int32)) ∧ cap.toNatClampNeg ≤ vc'.length
set_option maxRecDepth 65536 in
set_option maxHeartbeats 40000000 in
theorem rm_lgetc (l : Launch) (Z : State) (a0 : Array Value) (hw : ∀ d ∈ tables_1, d.before a0 Z = true) (ws : List Jvm.Cond) (b : Addr) (kb : ClassId) (nn : Int32) (bs : List Value) (ch : Addr) (kc : ClassId) (cap : Int32) (vc : List Value) (off : Int32) (h0 : Heap) (n0 : Nat) (Z0 : n0 ≤ h0.size) (VB : Arv Z h0 b kb .byte nn bs (.int (0 : Int32))) (VC : Arv Z h0 ch kc .char cap vc (.int (0 : Int32))) (hl : cap.toNatClampNeg ≤ vc.length) (ho : 0 ≤ off.toInt) (hz : 0 ≤ nn.toInt) (hcap : off.toInt + nn.toInt ≤ cap.toInt) (gc : n0 ≤ ch) (nbc : b ≠ ch) :
    MetFree l (⟨"java/lang/StringLatin1", "getChars", "([BII[CI)V"⟩ : MethodName) (head1 (Jvm.Cond.code (⟨"java/lang/StringLatin1", "getChars", "([BII[CI)V"⟩ : MethodName) jdk_43_method_11_code 5 none :: ws) ({ frames := 1, cells := 0, slots := 0, locals := 17 } : Room)) (fun aa_ U => aa_ = #[(.ref b), (.int (0 : Int32)), (.int nn), (.ref ch), (.int off)] ∧ Z.Warmed39 U.vm ∧ U.heap = h0) (fun _ _ _ _ _ => True) (fun _ U o_ U' => RetG U (Q_lgetc Z b kb nn bs ch kc cap vc off h0 n0) 0 0 U' o_) := by
  refine MetFree.of_bodySF (plainFor_of_name own_pn0) hisR ?_
  intro p e s m args below meth c_ s₁ Bd hml0 hP hK
  obtain ⟨rfl, hZ, hh⟩ := hP
  have hx := Bd.exec
  have hby := Bd.bytes
  have hml : c_.maxLocals = 5 := hml0
  have hown : s.vm.findClass "java/lang/StringLatin1" = some m.cls := findClass_of_methodNamed Bd.named
  have hnm := (name_of_methodNamed Bd.named Bd.method).1
  have X0 : Stand p l e ({ frames := 1, cells := 0, slots := 0, locals := 17 } : Room) s m #[(.ref b), (.int (0 : Int32)), (.int nn), (.ref ch), (.int off)] below meth c_ s₁ [] 0 0 := Stand.of_body Bd
  have e0 : s₁.heap = h0 := by rw [← hh, Bd.state]; rfl
  have N0 := Fr.nil n0
  have w110_ := hw _ (List.mem_of_getElem? (i := 110) rfl)
  have w112_ := hw _ (List.mem_of_getElem? (i := 112) rfl)
  have w113_ := hw _ (List.mem_of_getElem? (i := 113) rfl)
  have w114_ := hw _ (List.mem_of_getElem? (i := 114) rfl)
  show Go p e below (RetG s (Q_lgetc Z b kb nn bs ch kc cap vc off h0 n0) 0 0) (s₁.setTop (entryFrame m #[(.ref b), (.int (0 : Int32)), (.int nn), (.ref ch), (.int off)] 5))
  rw [show entryFrame m #[(.ref b), (.int (0 : Int32)), (.int nn), (.ref ch), (.int off)] 5 = mkF m 0 #[.val (.ref b), .val (.int (0 : Int32)), .val (.int nn), .val (.ref ch), .val (.int off)] [] from by first | (simp [entryFrame, mkF, argsToLocals, Value.category]; done) | rfl]
  refine g_aloadN X0 hx hby d22_0 rfl rfl ?_
  refine g_iloadN X0 hx hby d22_1 rfl ?_
  refine g_aloadN X0 hx hby d22_2 rfl rfl ?_
  refine g_iload X0 hx hby d22_3 rfl ?_
  refine g_iloadN X0 hx hby d22_5 rfl ?_
  refine g_iloadN X0 hx hby d22_6 rfl ?_
  refine g_isub X0 hx hby d22_7 ?_
  refine g_topI nn (by simp) ?_
  refine g_static X0 hx hby hZ hown (rm_inflate l Z a0 hw [] b kb nn bs ch kc cap vc off nn.toInt.toNat h0 n0 Z0 VB VC hl ho hz hcap gc nbc (Int.toNat_of_nonneg hz).symm) w112_ w113_ w110_ w114_ (by decide) e0 (by rw [hml]; rfl) [(.ref b), (.int (0 : Int32)), (.ref ch), (.int off), (.int nn)] (lenOf own_pd0 rfl) rfl rfl (Nat.le_of_ble_eq_true rfl) (Nat.le_of_ble_eq_true rfl) (Nat.le_of_ble_eq_true rfl) (Nat.le_of_ble_eq_true rfl) d22_8 (fun v1 T1 L1 X1 hQ1 => ?_)
  obtain ⟨rfl, N1q, K1, vc1, Vc1, hl1⟩ := hQ1
  have N1 := Fr.app N0 N1q
  refine g_ret X1 hx hby Bd.returns Bd.notSynchronized d22_11 rfl (by decide) (by decide) ?_
  show (Q_lgetc Z b kb nn bs ch kc cap vc off h0 n0) none _ _
  exact ⟨rfl, N1, ((Keep.refl h0 [ch]).trans K1 (allS (Or.inl (List.mem_of_getElem? (i := 0) rfl)) all0)), _, Vc1, hl1⟩

def Q_getc (Z : State) (a : Addr) (b : Addr) (kb : ClassId) (nn : Int32) (bs : List Value) (ch : Addr) (kc : ClassId) (cap : Int32) (vc : List Value) (off : Int32) (cz : Int32) (fz : Value) (h0 : Heap) (n0 : Nat) (v : Option Value) (h : Heap) (L : List Loc) : Prop := v = none ∧ Fr n0 L ∧ Keep h0 h [ch] ∧ ∃ vc' : List Value, Arv Z h ch kc .char cap vc' (.int (0 : Int32)) ∧ cap.toNatClampNeg ≤ vc'.length
set_option maxRecDepth 65536 in
set_option maxHeartbeats 40000000 in
theorem rm_getc (l : Launch) (Z : State) (a0 : Array Value) (hw : ∀ d ∈ tables_1, d.before a0 Z = true) (ws : List Jvm.Cond) (a : Addr) (b : Addr) (kb : ClassId) (nn : Int32) (bs : List Value) (ch : Addr) (kc : ClassId) (cap : Int32) (vc : List Value) (off : Int32) (cz : Int32) (fz : Value) (h0 : Heap) (n0 : Nat) (Z0 : n0 ≤ h0.size) (O2 : Sta Z Z.heap "java/lang/String" "COMPACT_STRINGS" "Z" (.int cz)) (P5 : ¬ cz = (0 : Int32)) (OLD : Old Z n0 h0) (rfz : Rf fz) (O4 : Sta Z Z.heap "jdk/internal/util/Preconditions" "SIOOBE_FORMATTER" "Ljava/util/function/BiFunction;" fz) (E : Exa Z h0 a "java/lang/String") (C : Fld Z h0 a "java/lang/String" "coder" "B" (.int (0 : Int32))) (VF : Fld Z h0 a "java/lang/String" "value" "[B" (.ref b)) (VB : Arv Z h0 b kb .byte nn bs (.int (0 : Int32))) (VC : Arv Z h0 ch kc .char cap vc (.int (0 : Int32))) (hl : cap.toNatClampNeg ≤ vc.length) (ho : 0 ≤ off.toInt) (hz : 0 ≤ nn.toInt) (hcap : off.toInt + nn.toInt ≤ cap.toInt) (gc : n0 ≤ ch) (nbc : b ≠ ch) :
    MetFree l (⟨"java/lang/String", "getChars", "(II[CI)V"⟩ : MethodName) (head1 (Jvm.Cond.code (⟨"java/lang/String", "getChars", "(II[CI)V"⟩ : MethodName) jdk_42_method_61_code 5 none :: ws) ({ frames := 2, cells := 0, slots := 0, locals := 33 } : Room)) (fun aa_ U => aa_ = #[(.ref a), (.int (0 : Int32)), (.int nn), (.ref ch), (.int off)] ∧ Z.Warmed39 U.vm ∧ U.heap = h0) (fun _ _ _ _ _ => True) (fun _ U o_ U' => RetG U (Q_getc Z a b kb nn bs ch kc cap vc off cz fz h0 n0) 0 0 U' o_) := by
  refine MetFree.of_bodySF (plainFor_of_name own_pn2) hisR ?_
  intro p e s m args below meth c_ s₁ Bd hml0 hP hK
  obtain ⟨rfl, hZ, hh⟩ := hP
  have hx := Bd.exec
  have hby := Bd.bytes
  have hml : c_.maxLocals = 5 := hml0
  have hown : s.vm.findClass "java/lang/String" = some m.cls := findClass_of_methodNamed Bd.named
  have hnm := (name_of_methodNamed Bd.named Bd.method).1
  have X0 : Stand p l e ({ frames := 2, cells := 0, slots := 0, locals := 33 } : Room) s m #[(.ref a), (.int (0 : Int32)), (.int nn), (.ref ch), (.int off)] below meth c_ s₁ [] 0 0 := Stand.of_body Bd
  have e0 : s₁.heap = h0 := by rw [← hh, Bd.state]; rfl
  have N0 := Fr.nil n0
  have w3_ := hw _ (List.mem_of_getElem? (i := 3) rfl)
  have w28_ := hw _ (List.mem_of_getElem? (i := 28) rfl)
  have w59_ := hw _ (List.mem_of_getElem? (i := 59) rfl)
  have w60_ := hw _ (List.mem_of_getElem? (i := 60) rfl)
  have w61_ := hw _ (List.mem_of_getElem? (i := 61) rfl)
  have w62_ := hw _ (List.mem_of_getElem? (i := 62) rfl)
  have w88_ := hw _ (List.mem_of_getElem? (i := 88) rfl)
  have w89_ := hw _ (List.mem_of_getElem? (i := 89) rfl)
  have w90_ := hw _ (List.mem_of_getElem? (i := 90) rfl)
  have w91_ := hw _ (List.mem_of_getElem? (i := 91) rfl)
  have w97_ := hw _ (List.mem_of_getElem? (i := 97) rfl)
  have w98_ := hw _ (List.mem_of_getElem? (i := 98) rfl)
  have w99_ := hw _ (List.mem_of_getElem? (i := 99) rfl)
  have w103_ := hw _ (List.mem_of_getElem? (i := 103) rfl)
  have w104_ := hw _ (List.mem_of_getElem? (i := 104) rfl)
  have w105_ := hw _ (List.mem_of_getElem? (i := 105) rfl)
  have w106_ := hw _ (List.mem_of_getElem? (i := 106) rfl)
  have w107_ := hw _ (List.mem_of_getElem? (i := 107) rfl)
  have w108_ := hw _ (List.mem_of_getElem? (i := 108) rfl)
  have w109_ := hw _ (List.mem_of_getElem? (i := 109) rfl)
  have w110_ := hw _ (List.mem_of_getElem? (i := 110) rfl)
  have w111_ := hw _ (List.mem_of_getElem? (i := 111) rfl)
  show Go p e below (RetG s (Q_getc Z a b kb nn bs ch kc cap vc off cz fz h0 n0) 0 0) (s₁.setTop (entryFrame m #[(.ref a), (.int (0 : Int32)), (.int nn), (.ref ch), (.int off)] 5))
  rw [show entryFrame m #[(.ref a), (.int (0 : Int32)), (.int nn), (.ref ch), (.int off)] 5 = mkF m 0 #[.val (.ref a), .val (.int (0 : Int32)), .val (.int nn), .val (.ref ch), .val (.int off)] [] from by first | (simp [entryFrame, mkF, argsToLocals, Value.category]; done) | rfl]
  refine g_iloadN X0 hx hby d16_0 rfl ?_
  refine g_iloadN X0 hx hby d16_1 rfl ?_
  refine g_aloadN X0 hx hby d16_2 rfl rfl ?_
  refine g_virtual X0 hx hby hZ hown (rm_lenN l Z a0 hw [] a b kb nn bs cz h0 n0 Z0 O2 P5 OLD E C VF VB) w88_ w59_ (notFace_of_selects (args := #[]) (mvT hZ w61_)) w61_ w60_ w3_ w62_ (by decide) e0 E (by rw [hml]; rfl) [] (lenOf own_pd3 rfl) rfl rfl (Nat.le_of_ble_eq_true rfl) (Nat.le_of_ble_eq_true rfl) (Nat.le_of_ble_eq_true rfl) (Nat.le_of_ble_eq_true rfl) d16_3 (fun v1 T1 L1 X1 hQ1 => ?_)
  obtain ⟨rfl, N1q, eh1⟩ := hQ1
  have N1 := Fr.app N0 N1q
  refine g_static X1 hx hby hZ hown (rm_cbbe l Z a0 hw [] nn fz h0 n0 Z0 (own_nn hz) rfz O4 OLD) w89_ w90_ w3_ w91_ (by decide) eh1 (by rw [hml]; rfl) [(.int (0 : Int32)), (.int nn), (.int nn)] (lenOf own_pd4 rfl) rfl rfl (Nat.le_of_ble_eq_true rfl) (Nat.le_of_ble_eq_true rfl) (Nat.le_of_ble_eq_true rfl) (Nat.le_of_ble_eq_true rfl) d16_6 (fun v2 T2 L2 X2 hQ2 => ?_)
  obtain ⟨rfl, N2q, eh2⟩ := hQ2
  have N2 := Fr.app N1 N2q
  refine g_iload X2 hx hby d16_9 rfl ?_
  refine g_iloadN X2 hx hby d16_11 rfl ?_
  refine g_iloadN X2 hx hby d16_12 rfl ?_
  refine g_isub X2 hx hby d16_13 ?_
  refine g_topI nn (by simp) ?_
  refine g_aloadN X2 hx hby d16_14 rfl rfl ?_
  refine g_arraylength X2 hx hby hZ eh2 VC d16_15 ?_
  refine g_static X2 hx hby hZ hown (rm_cboc l Z a0 hw [] off nn cap fz h0 n0 Z0 ho hz hcap rfz O4 OLD) w97_ w98_ w3_ w99_ (by decide) eh2 (by rw [hml]; rfl) [(.int off), (.int nn), (.int cap)] (lenOf own_pd5 rfl) rfl rfl (Nat.le_of_ble_eq_true rfl) (Nat.le_of_ble_eq_true rfl) (Nat.le_of_ble_eq_true rfl) (Nat.le_of_ble_eq_true rfl) d16_16 (fun v3 T3 L3 X3 hQ3 => ?_)
  obtain ⟨rfl, N3q, eh3⟩ := hQ3
  have N3 := Fr.app N2 N3q
  refine g_at 19 rfl rfl rfl ?_
  refine g_pop X3 hx hby d16_19 rfl ?_
  refine g_aloadN X3 hx hby d16_20 rfl rfl ?_
  refine g_virtual X3 hx hby hZ hown (rm_islat l Z a0 hw [] a cz h0 n0 Z0 O2 P5 OLD C) w103_ w104_ (notFace_of_selects (args := #[]) (mvT hZ w106_)) w106_ w105_ w3_ w107_ (by decide) eh3 E (by rw [hml]; rfl) [] (lenOf own_pd6 rfl) rfl rfl (Nat.le_of_ble_eq_true rfl) (Nat.le_of_ble_eq_true rfl) (Nat.le_of_ble_eq_true rfl) (Nat.le_of_ble_eq_true rfl) d16_21 (fun v4 T4 L4 X4 hQ4 => ?_)
  obtain ⟨rfl, N4q, eh4⟩ := hQ4
  have N4 := Fr.app N3 N4q
  refine g_ifN X4 hx hby d16_24 (feq (by decide : ¬ ((1 : Int32) = (0 : Int32)))).1 ?_
  refine g_aloadN X4 hx hby d16_27 rfl rfl ?_
  refine g_getF X4 hx hby hZ hown (host := "") (Or.inl w28_) Via.refl eh4 VF d16_28 (fun T5 X5 e5 => ?_)
  refine g_iloadN X5 hx hby d16_31 rfl ?_
  refine g_iloadN X5 hx hby d16_32 rfl ?_
  refine g_aloadN X5 hx hby d16_33 rfl rfl ?_
  refine g_iload X5 hx hby d16_34 rfl ?_
  refine g_static X5 hx hby hZ hown (rm_lgetc l Z a0 hw [] b kb nn bs ch kc cap vc off h0 n0 Z0 VB VC hl ho hz hcap gc nbc) w108_ w109_ w110_ w111_ (by decide) e5 (by rw [hml]; rfl) [(.ref b), (.int (0 : Int32)), (.int nn), (.ref ch), (.int off)] (lenOf own_pd7 rfl) rfl rfl (Nat.le_of_ble_eq_true rfl) (Nat.le_of_ble_eq_true rfl) (Nat.le_of_ble_eq_true rfl) (Nat.le_of_ble_eq_true rfl) d16_36 (fun v6 T6 L6 X6 hQ6 => ?_)
  obtain ⟨rfl, N6q, K6, vc6, Vc6, hl6⟩ := hQ6
  have N6 := Fr.app N4 N6q
  refine g_goto X6 hx hby 54 d16_39 (by decide) (by decide) ?_
  refine g_ret X6 hx hby Bd.returns Bd.notSynchronized d16_54 rfl (by decide) (by decide) ?_
  show (Q_getc Z a b kb nn bs ch kc cap vc off cz fz h0 n0) none _ _
  exact ⟨rfl, N6, ((Keep.refl h0 [ch]).trans K6 (allS (Or.inl (List.mem_of_getElem? (i := 0) rfl)) all0)), _, Vc6, hl6⟩

theorem d9_25 : decode prog_79_method_2_code 25 = .ok (.aload_n 0, 1) := by decide +kernel
theorem d9_26 : decode prog_79_method_2_code 26 = .ok (.aload_n 0, 1) := by decide +kernel
theorem d9_27 : decode prog_79_method_2_code 27 = .ok (.getfield 26, 3) := by decide +kernel
theorem d9_30 : decode prog_79_method_2_code 30 = .ok (.iconst 2, 1) := by decide +kernel
theorem d9_31 : decode prog_79_method_2_code 31 = .ok (.aload_n 0, 1) := by decide +kernel
theorem d9_32 : decode prog_79_method_2_code 32 = .ok (.getfield 26, 3) := by decide +kernel
theorem d9_35 : decode prog_79_method_2_code 35 = .ok (.arraylength, 1) := by decide +kernel
theorem d9_36 : decode prog_79_method_2_code 36 = .ok (.imul, 1) := by decide +kernel
theorem d9_37 : decode prog_79_method_2_code 37 = .ok (.iload_n 3, 1) := by decide +kernel
theorem d9_38 : decode prog_79_method_2_code 38 = .ok (.invokestatic 30, 3) := by decide +kernel
theorem d9_41 : decode prog_79_method_2_code 41 = .ok (.invokestatic 36, 3) := by decide +kernel
theorem own_pd24 : parseMethodDescriptor "([CI)[C" = some ⟨[(.array .char), .int], some (.array .char)⟩ := by decide +kernel
theorem d9_44 : decode prog_79_method_2_code 44 = .ok (.putfield 26, 3) := by decide +kernel
def Q_kadd_0 (Z : State) (ko : Addr) (ch : Addr) (en : Addr) (kc : ClassId) (ke : ClassId) (cap : Int32) (vc : List Value) (ve : List Value) (ex1 : Int32) (ex2 : Int32) (a : Addr) (b : Addr) (kb : ClassId) (nn : Int32) (bs : List Value) (cz : Int32) (fz : Value) (h0 : Heap) (n0 : Nat) (v : Option Value) (h : Heap) (L : List Loc) : Prop := v = some (.int (0 : Int32)) ∧ Fr n0 L ∧ Keep h0 h [ko, ch, en] ∧ ∃ (ch1 : Addr) (kc1 : ClassId) (vc1 ve1 : List Value), (ch1 = ch ∨ h0.size ≤ ch1) ∧ Exa Z h ko "com/example/invix/invix/sort/KeyBuffer" ∧ Fld Z h ko "com/example/invix/invix/sort/KeyBuffer" "characters" "[C" (.ref ch1) ∧ Fld Z h ko "com/example/invix/invix/sort/KeyBuffer" "ends" "[I" (.ref en) ∧ Fld Z h ko "com/example/invix/invix/sort/KeyBuffer" "count" "I" (.int (1 : Int32)) ∧ Arv Z h ch1 kc1 .char (own_grow cap ex2) vc1 (.int (0 : Int32)) ∧ (own_grow cap ex2).toNatClampNeg ≤ vc1.length ∧ Arv Z h en ke .int (128 : Int32) ve1 (.int (0 : Int32)) ∧ 128 ≤ ve1.length ∧ ve1.getD 0 (.int (0 : Int32)) = .int ex2
set_option maxRecDepth 65536 in
set_option maxHeartbeats 40000000 in
theorem rm_kadd_0 (l : Launch) (Z : State) (a0 : Array Value) (hw : ∀ d ∈ tables_1, d.before a0 Z = true) (ws : List Jvm.Cond) (ko : Addr) (ch : Addr) (en : Addr) (kc : ClassId) (ke : ClassId) (cap : Int32) (vc : List Value) (ve : List Value) (ex1 : Int32) (ex2 : Int32) (a : Addr) (b : Addr) (kb : ClassId) (nn : Int32) (bs : List Value) (cz : Int32) (fz : Value) (h0 : Heap) (n0 : Nat) (Z0 : n0 ≤ h0.size) (O2 : Sta Z Z.heap "java/lang/String" "COMPACT_STRINGS" "Z" (.int cz)) (P5 : ¬ cz = (0 : Int32)) (OLD : Old Z n0 h0) (rfz : Rf fz) (O4 : Sta Z Z.heap "jdk/internal/util/Preconditions" "SIOOBE_FORMATTER" "Ljava/util/function/BiFunction;" fz) (KE : Exa Z h0 ko "com/example/invix/invix/sort/KeyBuffer") (F1 : Fld Z h0 ko "com/example/invix/invix/sort/KeyBuffer" "characters" "[C" (.ref ch)) (F2 : Fld Z h0 ko "com/example/invix/invix/sort/KeyBuffer" "ends" "[I" (.ref en)) (F3 : Fld Z h0 ko "com/example/invix/invix/sort/KeyBuffer" "count" "I" (.int (0 : Int32))) (VCh : Arv Z h0 ch kc .char cap vc (.int (0 : Int32))) (hl : cap.toNatClampNeg ≤ vc.length) (VE : Arv Z h0 en ke .int (128 : Int32) ve (.int (0 : Int32))) (hve : 128 ≤ ve.length) (hv : ex1 = (0 : Int32)) (he2 : ex1 + nn = ex2) (gk : n0 ≤ ko) (gch : n0 ≤ ch) (gen : n0 ≤ en) (nce : ch ≠ en) (nbc : b ≠ ch) (p1 : 1024 ≤ cap.toInt) (p2 : cap.toInt ≤ 1024) (p3 : 0 ≤ ex1.toInt) (p4 : ex1.toInt ≤ 0) (p5 : 0 ≤ nn.toInt) (p6 : nn.toInt ≤ 2100) (E : Exa Z h0 a "java/lang/String") (C : Fld Z h0 a "java/lang/String" "coder" "B" (.int (0 : Int32))) (VF : Fld Z h0 a "java/lang/String" "value" "[B" (.ref b)) (VB : Arv Z h0 b kb .byte nn bs (.int (0 : Int32))) :
    MetFree l (⟨"com/example/invix/invix/sort/KeyBuffer", "add", "(Ljava/lang/String;)I"⟩ : MethodName) (head1 (Jvm.Cond.code (⟨"com/example/invix/invix/sort/KeyBuffer", "add", "(Ljava/lang/String;)I"⟩ : MethodName) prog_79_method_2_code 4 (some .int) :: ws) ({ frames := 3, cells := 1, slots := 2100, locals := 49 } : Room)) (fun aa_ U => aa_ = #[(.ref ko), (.ref a)] ∧ Z.Warmed39 U.vm ∧ U.heap = h0) (fun _ _ _ _ _ => True) (fun _ U o_ U' => RetG U (Q_kadd_0 Z ko ch en kc ke cap vc ve ex1 ex2 a b kb nn bs cz fz h0 n0) 1 2100 U' o_) := by
  refine MetFree.of_bodySF (plainFor_of_name own_pn3) hisR ?_
  intro p e s m args below meth c_ s₁ Bd hml0 hP hK
  obtain ⟨rfl, hZ, hh⟩ := hP
  have hx := Bd.exec
  have hby := Bd.bytes
  have hml : c_.maxLocals = 4 := hml0
  have hown : s.vm.findClass "com/example/invix/invix/sort/KeyBuffer" = some m.cls := findClass_of_methodNamed Bd.named
  have hnm := (name_of_methodNamed Bd.named Bd.method).1
  have X0 : Stand p l e ({ frames := 3, cells := 1, slots := 2100, locals := 49 } : Room) s m #[(.ref ko), (.ref a)] below meth c_ s₁ [] 0 0 := Stand.of_body Bd
  have e0 : s₁.heap = h0 := by rw [← hh, Bd.state]; rfl
  have N0 := Fr.nil n0
  have w3_ := hw _ (List.mem_of_getElem? (i := 3) rfl)
  have w31_ := hw _ (List.mem_of_getElem? (i := 31) rfl)
  have w32_ := hw _ (List.mem_of_getElem? (i := 32) rfl)
  have w42_ := hw _ (List.mem_of_getElem? (i := 42) rfl)
  have w43_ := hw _ (List.mem_of_getElem? (i := 43) rfl)
  have w45_ := hw _ (List.mem_of_getElem? (i := 45) rfl)
  have w46_ := hw _ (List.mem_of_getElem? (i := 46) rfl)
  have w47_ := hw _ (List.mem_of_getElem? (i := 47) rfl)
  have w48_ := hw _ (List.mem_of_getElem? (i := 48) rfl)
  have w54_ := hw _ (List.mem_of_getElem? (i := 54) rfl)
  have w55_ := hw _ (List.mem_of_getElem? (i := 55) rfl)
  have w56_ := hw _ (List.mem_of_getElem? (i := 56) rfl)
  have w57_ := hw _ (List.mem_of_getElem? (i := 57) rfl)
  have w58_ := hw _ (List.mem_of_getElem? (i := 58) rfl)
  have w59_ := hw _ (List.mem_of_getElem? (i := 59) rfl)
  have w60_ := hw _ (List.mem_of_getElem? (i := 60) rfl)
  have w61_ := hw _ (List.mem_of_getElem? (i := 61) rfl)
  have w62_ := hw _ (List.mem_of_getElem? (i := 62) rfl)
  have w68_ := hw _ (List.mem_of_getElem? (i := 68) rfl)
  have w69_ := hw _ (List.mem_of_getElem? (i := 69) rfl)
  have w70_ := hw _ (List.mem_of_getElem? (i := 70) rfl)
  have w71_ := hw _ (List.mem_of_getElem? (i := 71) rfl)
  have w72_ := hw _ (List.mem_of_getElem? (i := 72) rfl)
  have w73_ := hw _ (List.mem_of_getElem? (i := 73) rfl)
  have w74_ := hw _ (List.mem_of_getElem? (i := 74) rfl)
  have w75_ := hw _ (List.mem_of_getElem? (i := 75) rfl)
  have w83_ := hw _ (List.mem_of_getElem? (i := 83) rfl)
  have w84_ := hw _ (List.mem_of_getElem? (i := 84) rfl)
  have w85_ := hw _ (List.mem_of_getElem? (i := 85) rfl)
  have w86_ := hw _ (List.mem_of_getElem? (i := 86) rfl)
  have w87_ := hw _ (List.mem_of_getElem? (i := 87) rfl)
  have s1 := own_add p3 p5 (by omega) (by omega)
  rw [he2] at s1
  show Go p e below (RetG s (Q_kadd_0 Z ko ch en kc ke cap vc ve ex1 ex2 a b kb nn bs cz fz h0 n0) 1 2100) (s₁.setTop (entryFrame m #[(.ref ko), (.ref a)] 4))
  rw [show entryFrame m #[(.ref ko), (.ref a)] 4 = mkF m 0 #[.val (.ref ko), .val (.ref a), .unset, .unset] [] from by first | (simp [entryFrame, mkF, argsToLocals, Value.category]; done) | rfl]
  refine g_aloadN X0 hx hby d9_0 rfl rfl ?_
  refine g_aloadN X0 hx hby d9_1 rfl rfl ?_
  refine g_getF X0 hx hby hZ hown (host := "") (Or.inl w47_) Via.refl e0 F3 d9_2 (fun T1 X1 e1 => ?_)
  refine g_private X1 hx hby hZ hown (rm_start_0 l Z a0 hw [] ko h0 n0 Z0 ) w54_ w55_ w31_ w56_ w32_ w57_ (by decide) e1 KE (by rw [hml]; rfl) [(.int (0 : Int32))] (lenOf own_pd8 rfl) rfl rfl (Nat.le_of_ble_eq_true rfl) (Nat.le_of_ble_eq_true rfl) (Nat.le_of_ble_eq_true rfl) (Nat.le_of_ble_eq_true rfl) d9_5 (fun v2 T2 L2 X2 hQ2 => ?_)
  obtain ⟨rfl, N2q, eh2⟩ := hQ2
  have N2 := Fr.app N0 N2q
  refine g_topI (T := T2) ex1 hv.symm ?_
  refine g_istoreN X2 hx hby d9_8 (l' := #[.val (.ref ko), .val (.ref a), .val (.int ex1), .unset]) rfl ?_
  refine g_iloadN X2 hx hby d9_9 rfl ?_
  refine g_aloadN X2 hx hby d9_10 rfl rfl ?_
  refine g_virtual X2 hx hby hZ hown (rm_lenN l Z a0 hw [] a b kb nn bs cz h0 n0 Z0 O2 P5 OLD E C VF VB) w58_ w59_ (notFace_of_selects (args := #[]) (mvT hZ w61_)) w61_ w60_ w3_ w62_ (by decide) eh2 E (by rw [hml]; rfl) [] (lenOf own_pd3 rfl) rfl rfl (Nat.le_of_ble_eq_true rfl) (Nat.le_of_ble_eq_true rfl) (Nat.le_of_ble_eq_true rfl) (Nat.le_of_ble_eq_true rfl) d9_11 (fun v3 T3 L3 X3 hQ3 => ?_)
  obtain ⟨rfl, N3q, eh3⟩ := hQ3
  have N3 := Fr.app N2 N3q
  refine g_iadd X3 hx hby d9_14 ?_
  refine g_topI ex2 he2 ?_
  refine g_istoreN X3 hx hby d9_15 (l' := #[.val (.ref ko), .val (.ref a), .val (.int ex1), .val (.int ex2)]) rfl ?_
  refine g_iloadN X3 hx hby d9_16 rfl ?_
  refine g_aloadN X3 hx hby d9_17 rfl rfl ?_
  refine g_getF X3 hx hby hZ hown (host := "") (Or.inl w42_) Via.refl eh3 F1 d9_18 (fun T4 X4 e4 => ?_)
  refine g_arraylength X4 hx hby hZ e4 VCh d9_21 ?_
  by_cases hc22_5 : cap < ex2
  · skip
    refine g_icN X4 hx hby d9_22 (tlt hc22_5).2.2.2 ?_
    refine g_at 25 rfl rfl rfl ?_
    refine g_aloadN X4 hx hby d9_25 rfl rfl ?_
    refine g_aloadN X4 hx hby d9_26 rfl rfl ?_
    refine g_getF X4 hx hby hZ hown (host := "") (Or.inl w42_) Via.refl e4 F1 d9_27 (fun T6 X6 e6 => ?_)
    refine g_iconst X6 hx hby (2 : Int32) d9_30 rfl ?_
    refine g_aloadN X6 hx hby d9_31 rfl rfl ?_
    refine g_getF X6 hx hby hZ hown (host := "") (Or.inl w42_) Via.refl e6 F1 d9_32 (fun T7 X7 e7 => ?_)
    refine g_arraylength X7 hx hby hZ e7 VCh d9_35 ?_
    refine g_imul X7 hx hby d9_36 ?_
    refine g_iloadN X7 hx hby d9_37 rfl ?_
    refine g_static X7 hx hby hZ hown (rm_mmax l Z a0 hw [] ((2 : Int32) * cap) ex2 h0 n0 Z0 ) w68_ w69_ w70_ w71_ (by decide) e7 (by rw [hml]; rfl) [(.int ((2 : Int32) * cap)), (.int ex2)] (lenOf own_pd23 rfl) rfl rfl (Nat.le_of_ble_eq_true rfl) (Nat.le_of_ble_eq_true rfl) (Nat.le_of_ble_eq_true rfl) (Nat.le_of_ble_eq_true rfl) d9_38 (fun v8 T8 L8 X8 hQ8 => ?_)
    obtain ⟨rfl, N8q, eh8⟩ := hQ8
    have N8 := Fr.app N3 N8q
    have q1 := own_nl (B := 2100) (by omega) (by omega) hc22_5 (by omega) (by omega)
    refine g_static X8 hx hby hZ hown (rm_copyof_2100 l Z a0 hw [] ch kc cap vc (own_max ((2 : Int32) * cap) ex2) h0 n0 Z0 VCh (by omega) q1.1 q1.2.1) w72_ w73_ w74_ w75_ (by decide) eh8 (by rw [hml]; rfl) [(.ref ch), (.int (own_max ((2 : Int32) * cap) ex2))] (lenOf own_pd24 rfl) rfl rfl (Nat.le_of_ble_eq_true rfl) (Nat.le_of_ble_eq_true rfl) (Nat.le_of_ble_eq_true rfl) (Nat.le_of_ble_eq_true rfl) d9_41 (fun v9 T9 L9 X9 hQ9 => ?_)
    obtain ⟨N9q, K9, d9, kd9, vd9, rfl, ld9, Vd9, hl9⟩ := hQ9
    have N9 := Fr.app N8 N9q
    have f10 := (KE.keep K9)
    have f11 := (F1.keep K9 nin0)
    refine g_putF X9 hx hby hZ hown (host := "") (Or.inl w42_) Via.refl rfl f11 f10 (Or.inl w43_) w31_ (.array .char) (by decide) rfl rfl N9 gk d9_44 (fun T12 h12 X12 e12 W12 F12 N12 => ?_)
    refine g_aloadN X12 hx hby d9_47 rfl rfl ?_
    refine g_iconst X12 hx hby (0 : Int32) d9_48 rfl ?_
    refine g_aloadN X12 hx hby d9_49 rfl rfl ?_
    have f14 := ((OLD.keep K9 all0).wr W12 gk)
    have f15 := ((E.keep K9).wr W12)
    have ne16 : a ≠ ko := (Exa.ne E KE (by decide))
    have f17 := ((C.keep K9 nin0).other W12 (Or.inl ne16))
    have f18 := ((VF.keep K9 nin0).other W12 (Or.inl ne16))
    have ne19 : b ≠ ko := (Ne.symm (Exa.neArv KE VB w31_))
    have f20 := ((VB.keep K9 nin0).other W12 ne19)
    have z21 := (Nat.le_trans Z0 (Nat.le_trans K9.1 (Keep.of_wr W12).1))
    refine g_virtual X12 hx hby hZ hown (rm_lenN l Z a0 hw [] a b kb nn bs cz h12 n0 z21 O2 P5 f14 f15 f17 f18 f20) w58_ w59_ (notFace_of_selects (args := #[]) (mvT hZ w61_)) w61_ w60_ w3_ w62_ (by decide) e12 f15 (by rw [hml]; rfl) [] (lenOf own_pd3 rfl) rfl rfl (Nat.le_of_ble_eq_true rfl) (Nat.le_of_ble_eq_true rfl) (Nat.le_of_ble_eq_true rfl) (Nat.le_of_ble_eq_true rfl) d9_50 (fun v13 T13 L13 X13 hQ13 => ?_)
    obtain ⟨rfl, N13q, eh13⟩ := hQ13
    have N13 := Fr.app N12 N13q
    refine g_at 53 rfl rfl rfl ?_
    refine g_aloadN X13 hx hby d9_53 rfl rfl ?_
    refine g_getF X13 hx hby hZ hown (host := "") (Or.inl w42_) Via.refl eh13 F12 d9_54 (fun T22 X22 e22 => ?_)
    refine g_iloadN X22 hx hby d9_57 rfl ?_
    have ne24 : d9 ≠ ko := (Ne.symm (Nat.ne_of_lt (Nat.lt_of_lt_of_le KE.lt ld9)))
    have f25 := (Vd9.other W12 ne24)
    have g_d9 : n0 ≤ d9 := Nat.le_trans Z0 ld9
    have ne26 : b ≠ d9 := (Nat.ne_of_lt (Nat.lt_of_lt_of_le VB.lt ld9))
    refine g_virtual X22 hx hby hZ hown (rm_getc l Z a0 hw [] a b kb nn bs d9 kd9 (own_max ((2 : Int32) * cap) ex2) vd9 ex1 cz fz h12 n0 z21 O2 P5 f14 rfz O4 f15 f17 f18 f20 f25 hl9 p3 p5 (by omega) g_d9 ne26) w83_ w84_ (notFace_of_selects (args := #[]) (mvT hZ w86_)) w86_ w85_ w3_ w87_ (by decide) e22 f15 (by rw [hml]; rfl) [(.int (0 : Int32)), (.int nn), (.ref d9), (.int ex1)] (lenOf own_pd9 rfl) rfl rfl (Nat.le_of_ble_eq_true rfl) (Nat.le_of_ble_eq_true rfl) (Nat.le_of_ble_eq_true rfl) (Nat.le_of_ble_eq_true rfl) d9_58 (fun v23 T23 L23 X23 hQ23 => ?_)
    obtain ⟨rfl, N23q, K23, vc23, Vc23, hl23⟩ := hQ23
    have N23 := Fr.app N13 N23q
    refine g_aloadN X23 hx hby d9_61 rfl rfl ?_
    have f27 := (((F3.keep K9 nin0).other W12 (Or.inr (slot_ne (Or.inl w48_) (Or.inl w43_) (by decide) (t := .int) (t' := (.array .char)) (by decide) (by decide)))).keep K23 (ninS (Ne.symm ne24) nin0))
    refine g_getF X23 hx hby hZ hown (host := "") (Or.inl w47_) Via.refl rfl f27 d9_62 (fun T28 X28 e28 => ?_)
    refine g_aloadN X28 hx hby d9_65 rfl rfl ?_
    have f29 := (((F2.keep K9 nin0).other W12 (Or.inr (slot_ne (Or.inl w46_) (Or.inl w43_) (by decide) (t := (.array .int)) (t' := (.array .char)) (by decide) (by decide)))).keep K23 (ninS (Ne.symm ne24) nin0))
    refine g_getF X28 hx hby hZ hown (host := "") (Or.inl w45_) Via.refl e28 f29 d9_66 (fun T30 X30 e30 => ?_)
    have ne31 : en ≠ ko := (Ne.symm (Exa.neArv KE VE w31_))
    have ne32 : en ≠ d9 := (Nat.ne_of_lt (Nat.lt_of_lt_of_le VE.lt ld9))
    have f33 := (((VE.keep K9 nin0).other W12 ne31).keep K23 (ninS ne32 nin0))
    refine g_arraylength X30 hx hby hZ e30 f33 d9_69 ?_
    refine g_icY X30 hx hby 90 d9_70 (feq (by decide : ¬ ((0 : Int32) = (128 : Int32)))).2 (by decide) (by decide) ?_
    refine g_aloadN X30 hx hby d9_90 rfl rfl ?_
    refine g_getF X30 hx hby hZ hown (host := "") (Or.inl w45_) Via.refl e30 f29 d9_91 (fun T34 X34 e34 => ?_)
    refine g_aloadN X34 hx hby d9_94 rfl rfl ?_
    refine g_getF X34 hx hby hZ hown (host := "") (Or.inl w47_) Via.refl e34 f27 d9_95 (fun T35 X35 e35 => ?_)
    refine g_iloadN X35 hx hby d9_98 rfl ?_
    refine g_iastore X35 hx hby hZ e35 f33 0 (ve.set 0 (.int ex2)) rfl ⟨by decide, by decide⟩ rfl (Nat.lt_of_lt_of_le (by decide) hve) N23 gen d9_99 (fun T36 h36 X36 e36 W36 V36 N36 => ?_)
    refine g_aloadN X36 hx hby d9_100 rfl rfl ?_
    refine g_dup X36 hx hby d9_101 rfl ?_
    have f37 := (f27.other W36 (Or.inl (Ne.symm ne31)))
    refine g_getF X36 hx hby hZ hown (host := "") (Or.inl w47_) Via.refl e36 f37 d9_102 (fun T38 X38 e38 => ?_)
    refine g_dup_x1 X38 hx hby d9_105 rfl rfl ?_
    refine g_iconst X38 hx hby (1 : Int32) d9_106 rfl ?_
    refine g_iadd X38 hx hby d9_107 ?_
    refine g_topI (1 : Int32) (by decide) ?_
    have f39 := (((f10.wr W12).keep K23).wr W36)
    refine g_putF X38 hx hby hZ hown (host := "") (Or.inl w47_) Via.refl e38 f37 f39 (Or.inl w48_) w31_ .int (by decide) rfl rfl N36 gk d9_108 (fun T40 h40 X40 e40 W40 F40 N40 => ?_)
    have f41 := (f39.wr W40)
    have f42 := (((F12.keep K23 (ninS (Ne.symm ne24) nin0)).other W36 (Or.inl (Ne.symm ne31))).other W40 (Or.inr (slot_ne (Or.inl w43_) (Or.inl w48_) (by decide) (t := (.array .char)) (t' := .int) (by decide) (by decide))))
    have f43 := ((f29.other W36 (Or.inl (Ne.symm ne31))).other W40 (Or.inr (slot_ne (Or.inl w46_) (Or.inl w48_) (by decide) (t := (.array .int)) (t' := .int) (by decide) (by decide))))
    have f44 := ((Vc23.other W36 (Ne.symm ne32)).other W40 ne24)
    have f45 := (V36.other W40 ne31)
    refine g_iret X40 hx hby Bd.returns Bd.notSynchronized d9_111 e40 (by decide) (by decide) ?_
    show (Q_kadd_0 Z ko ch en kc ke cap vc ve ex1 ex2 a b kb nn bs cz fz h0 n0) (some (.int (0 : Int32))) _ _
    exact ⟨rfl, N40, ((((((Keep.refl h0 [ko, ch, en]).trans K9 all0).wr W12 (Or.inl (List.mem_of_getElem? (i := 0) rfl))).trans K23 (allS (Or.inr (Nat.le_trans (Nat.le_refl _) ld9)) all0)).wr W36 (Or.inl (List.mem_of_getElem? (i := 2) rfl))).wr W40 (Or.inl (List.mem_of_getElem? (i := 0) rfl))), d9, kd9, _, _, Or.inr (Nat.le_trans (Nat.le_refl _) ld9), f41, f42, f43, F40, (by rw [own_grow, if_pos hc22_5]; exact f44), (by rw [own_grow, if_pos hc22_5]; exact hl23), f45, (by rw [List.length_set]; exact hve), own_setD (Nat.lt_of_lt_of_le (by decide) hve)⟩
  · skip
    refine g_icY X4 hx hby 47 d9_22 (flt hc22_5).2.2.2 (by decide) (by decide) ?_
    refine g_aloadN X4 hx hby d9_47 rfl rfl ?_
    refine g_iconst X4 hx hby (0 : Int32) d9_48 rfl ?_
    refine g_aloadN X4 hx hby d9_49 rfl rfl ?_
    refine g_virtual X4 hx hby hZ hown (rm_lenN l Z a0 hw [] a b kb nn bs cz h0 n0 Z0 O2 P5 OLD E C VF VB) w58_ w59_ (notFace_of_selects (args := #[]) (mvT hZ w61_)) w61_ w60_ w3_ w62_ (by decide) e4 E (by rw [hml]; rfl) [] (lenOf own_pd3 rfl) rfl rfl (Nat.le_of_ble_eq_true rfl) (Nat.le_of_ble_eq_true rfl) (Nat.le_of_ble_eq_true rfl) (Nat.le_of_ble_eq_true rfl) d9_50 (fun v46 T46 L46 X46 hQ46 => ?_)
    obtain ⟨rfl, N46q, eh46⟩ := hQ46
    have N46 := Fr.app N3 N46q
    refine g_aloadN X46 hx hby d9_53 rfl rfl ?_
    refine g_getF X46 hx hby hZ hown (host := "") (Or.inl w42_) Via.refl eh46 F1 d9_54 (fun T47 X47 e47 => ?_)
    refine g_iloadN X47 hx hby d9_57 rfl ?_
    refine g_virtual X47 hx hby hZ hown (rm_getc l Z a0 hw [] a b kb nn bs ch kc cap vc ex1 cz fz h0 n0 Z0 O2 P5 OLD rfz O4 E C VF VB VCh hl p3 p5 (by have q := hc22_5; rw [Int32.lt_iff_toInt_lt] at q; omega) gch nbc) w83_ w84_ (notFace_of_selects (args := #[]) (mvT hZ w86_)) w86_ w85_ w3_ w87_ (by decide) e47 E (by rw [hml]; rfl) [(.int (0 : Int32)), (.int nn), (.ref ch), (.int ex1)] (lenOf own_pd9 rfl) rfl rfl (Nat.le_of_ble_eq_true rfl) (Nat.le_of_ble_eq_true rfl) (Nat.le_of_ble_eq_true rfl) (Nat.le_of_ble_eq_true rfl) d9_58 (fun v48 T48 L48 X48 hQ48 => ?_)
    obtain ⟨rfl, N48q, K48, vc48, Vc48, hl48⟩ := hQ48
    have N48 := Fr.app N46 N48q
    refine g_aloadN X48 hx hby d9_61 rfl rfl ?_
    have ne49 : ko ≠ ch := (Exa.neArv (KE.keep K48) Vc48 w31_)
    have f50 := (F3.keep K48 (ninS ne49 nin0))
    refine g_getF X48 hx hby hZ hown (host := "") (Or.inl w47_) Via.refl rfl f50 d9_62 (fun T51 X51 e51 => ?_)
    refine g_aloadN X51 hx hby d9_65 rfl rfl ?_
    have f52 := (F2.keep K48 (ninS ne49 nin0))
    refine g_getF X51 hx hby hZ hown (host := "") (Or.inl w45_) Via.refl e51 f52 d9_66 (fun T53 X53 e53 => ?_)
    have f54 := (VE.keep K48 (ninS (Ne.symm nce) nin0))
    refine g_arraylength X53 hx hby hZ e53 f54 d9_69 ?_
    refine g_icY X53 hx hby 90 d9_70 (feq (by decide : ¬ ((0 : Int32) = (128 : Int32)))).2 (by decide) (by decide) ?_
    refine g_aloadN X53 hx hby d9_90 rfl rfl ?_
    refine g_getF X53 hx hby hZ hown (host := "") (Or.inl w45_) Via.refl e53 f52 d9_91 (fun T55 X55 e55 => ?_)
    refine g_aloadN X55 hx hby d9_94 rfl rfl ?_
    refine g_getF X55 hx hby hZ hown (host := "") (Or.inl w47_) Via.refl e55 f50 d9_95 (fun T56 X56 e56 => ?_)
    refine g_iloadN X56 hx hby d9_98 rfl ?_
    refine g_iastore X56 hx hby hZ e56 f54 0 (ve.set 0 (.int ex2)) rfl ⟨by decide, by decide⟩ rfl (Nat.lt_of_lt_of_le (by decide) hve) N48 gen d9_99 (fun T57 h57 X57 e57 W57 V57 N57 => ?_)
    refine g_aloadN X57 hx hby d9_100 rfl rfl ?_
    refine g_dup X57 hx hby d9_101 rfl ?_
    have ne58 : ko ≠ en := (Exa.neArv ((KE.keep K48).wr W57) V57 w31_)
    have f59 := (f50.other W57 (Or.inl ne58))
    refine g_getF X57 hx hby hZ hown (host := "") (Or.inl w47_) Via.refl e57 f59 d9_102 (fun T60 X60 e60 => ?_)
    refine g_dup_x1 X60 hx hby d9_105 rfl rfl ?_
    refine g_iconst X60 hx hby (1 : Int32) d9_106 rfl ?_
    refine g_iadd X60 hx hby d9_107 ?_
    refine g_topI (1 : Int32) (by decide) ?_
    have f61 := ((KE.keep K48).wr W57)
    refine g_putF X60 hx hby hZ hown (host := "") (Or.inl w47_) Via.refl e60 f59 f61 (Or.inl w48_) w31_ .int (by decide) rfl rfl N57 gk d9_108 (fun T62 h62 X62 e62 W62 F62 N62 => ?_)
    have f63 := (f61.wr W62)
    have f64 := (((F1.keep K48 (ninS ne49 nin0)).other W57 (Or.inl ne58)).other W62 (Or.inr (slot_ne (Or.inl w43_) (Or.inl w48_) (by decide) (t := (.array .char)) (t' := .int) (by decide) (by decide))))
    have f65 := ((f52.other W57 (Or.inl ne58)).other W62 (Or.inr (slot_ne (Or.inl w46_) (Or.inl w48_) (by decide) (t := (.array .int)) (t' := .int) (by decide) (by decide))))
    have f66 := ((Vc48.other W57 nce).other W62 (Ne.symm ne49))
    have f67 := (V57.other W62 (Ne.symm ne58))
    refine g_iret X62 hx hby Bd.returns Bd.notSynchronized d9_111 e62 (by decide) (by decide) ?_
    show (Q_kadd_0 Z ko ch en kc ke cap vc ve ex1 ex2 a b kb nn bs cz fz h0 n0) (some (.int (0 : Int32))) _ _
    exact ⟨rfl, N62, ((((Keep.refl h0 [ko, ch, en]).trans K48 (allS (Or.inl (List.mem_of_getElem? (i := 1) rfl)) all0)).wr W57 (Or.inl (List.mem_of_getElem? (i := 2) rfl))).wr W62 (Or.inl (List.mem_of_getElem? (i := 0) rfl))), ch, kc, _, _, Or.inl rfl, f63, f64, f65, F62, (by rw [own_grow, if_neg hc22_5]; exact f66), (by rw [own_grow, if_neg hc22_5]; exact hl48), f67, (by rw [List.length_set]; exact hve), own_setD (Nat.lt_of_lt_of_le (by decide) hve)⟩

theorem d10_8 : decode prog_79_method_12_code 8 = .ok (.aload_n 0, 1) := by decide +kernel
theorem d10_9 : decode prog_79_method_12_code 9 = .ok (.getfield 46, 3) := by decide +kernel
theorem d10_12 : decode prog_79_method_12_code 12 = .ok (.iload_n 1, 1) := by decide +kernel
theorem d10_13 : decode prog_79_method_12_code 13 = .ok (.iconst 1, 1) := by decide +kernel
theorem d10_14 : decode prog_79_method_12_code 14 = .ok (.isub, 1) := by decide +kernel
theorem d10_15 : decode prog_79_method_12_code 15 = .ok (.iaload, 1) := by decide +kernel
def Q_start_1 (Z : State) (ko : Addr) (en : Addr) (ke : ClassId) (ve : List Value) (ex1 : Int32) (h0 : Heap) (n0 : Nat) (v : Option Value) (h : Heap) (L : List Loc) : Prop := v = some (.int ex1) ∧ Fr n0 L ∧ h = h0
set_option maxRecDepth 65536 in
set_option maxHeartbeats 40000000 in
theorem rm_start_1 (l : Launch) (Z : State) (a0 : Array Value) (hw : ∀ d ∈ tables_1, d.before a0 Z = true) (ws : List Jvm.Cond) (ko : Addr) (en : Addr) (ke : ClassId) (ve : List Value) (ex1 : Int32) (h0 : Heap) (n0 : Nat) (Z0 : n0 ≤ h0.size) (F2 : Fld Z h0 ko "com/example/invix/invix/sort/KeyBuffer" "ends" "[I" (.ref en)) (VE : Arv Z h0 en ke .int (128 : Int32) ve (.int (0 : Int32))) (hv : ve.getD 0 (.int (0 : Int32)) = .int ex1) :
    MetFree l (⟨"com/example/invix/invix/sort/KeyBuffer", "start", "(I)I"⟩ : MethodName) (head1 (Jvm.Cond.code (⟨"com/example/invix/invix/sort/KeyBuffer", "start", "(I)I"⟩ : MethodName) prog_79_method_12_code 2 (some .int) :: ws) ({ frames := 0, cells := 0, slots := 0, locals := 0 } : Room)) (fun aa_ U => aa_ = #[(.ref ko), (.int (1 : Int32))] ∧ Z.Warmed39 U.vm ∧ U.heap = h0) (fun _ _ _ _ _ => True) (fun _ U o_ U' => RetG U (Q_start_1 Z ko en ke ve ex1 h0 n0) 0 0 U' o_) := by
  refine MetFree.of_bodySF (plainFor_of_name own_pn3) hisR ?_
  intro p e s m args below meth c_ s₁ Bd hml0 hP hK
  obtain ⟨rfl, hZ, hh⟩ := hP
  have hx := Bd.exec
  have hby := Bd.bytes
  have hml : c_.maxLocals = 2 := hml0
  have hown : s.vm.findClass "com/example/invix/invix/sort/KeyBuffer" = some m.cls := findClass_of_methodNamed Bd.named
  have hnm := (name_of_methodNamed Bd.named Bd.method).1
  have X0 : Stand p l e ({ frames := 0, cells := 0, slots := 0, locals := 0 } : Room) s m #[(.ref ko), (.int (1 : Int32))] below meth c_ s₁ [] 0 0 := Stand.of_body Bd
  have e0 : s₁.heap = h0 := by rw [← hh, Bd.state]; rfl
  have N0 := Fr.nil n0
  have w45_ := hw _ (List.mem_of_getElem? (i := 45) rfl)
  show Go p e below (RetG s (Q_start_1 Z ko en ke ve ex1 h0 n0) 0 0) (s₁.setTop (entryFrame m #[(.ref ko), (.int (1 : Int32))] 2))
  rw [show entryFrame m #[(.ref ko), (.int (1 : Int32))] 2 = mkF m 0 #[.val (.ref ko), .val (.int (1 : Int32))] [] from by first | (simp [entryFrame, mkF, argsToLocals, Value.category]; done) | rfl]
  refine g_iloadN X0 hx hby d10_0 rfl ?_
  refine g_ifY X0 hx hby 8 d10_1 (feq (by decide : ¬ ((1 : Int32) = (0 : Int32)))).2 (by decide) (by decide) ?_
  refine g_aloadN X0 hx hby d10_8 rfl rfl ?_
  refine g_getF X0 hx hby hZ hown (host := "") (Or.inl w45_) Via.refl e0 F2 d10_9 (fun T1 X1 e1 => ?_)
  refine g_iloadN X1 hx hby d10_12 rfl ?_
  refine g_iconst X1 hx hby (1 : Int32) d10_13 rfl ?_
  refine g_isub X1 hx hby d10_14 ?_
  refine g_topI (0 : Int32) (by decide) ?_
  refine g_iaload X1 hx hby hZ e1 VE (.int ex1) ⟨by decide, by decide⟩ (by exact hv) d10_15 ?_
  refine g_iret X1 hx hby Bd.returns Bd.notSynchronized d10_16 e1 (by decide) (by decide) ?_
  show (Q_start_1 Z ko en ke ve ex1 h0 n0) (some (.int ex1)) _ _
  exact ⟨rfl, N0, rfl⟩

def Q_copyof_4200 (Z : State) (ch : Addr) (kc : ClassId) (cap : Int32) (vc : List Value) (nl : Int32) (h0 : Heap) (n0 : Nat) (v : Option Value) (h : Heap) (L : List Loc) : Prop := Fr n0 L ∧ Keep h0 h [] ∧ ∃ (d : Addr) (kd : ClassId) (vd : List Value), v = some (.ref d) ∧ h0.size ≤ d ∧ Arv Z h d kd .char nl vd (.int (0 : Int32)) ∧ nl.toNatClampNeg ≤ vd.length
set_option maxRecDepth 65536 in
set_option maxHeartbeats 40000000 in
theorem rm_copyof_4200 (l : Launch) (Z : State) (a0 : Array Value) (hw : ∀ d ∈ tables_1, d.before a0 Z = true) (ws : List Jvm.Cond) (ch : Addr) (kc : ClassId) (cap : Int32) (vc : List Value) (nl : Int32) (h0 : Heap) (n0 : Nat) (Z0 : n0 ≤ h0.size) (VC : Arv Z h0 ch kc .char cap vc (.int (0 : Int32))) (hp1 : 0 ≤ cap.toInt) (hp2 : cap.toInt < nl.toInt) (hp3 : nl.toInt ≤ 4200) :
    MetFree l (⟨"java/util/Arrays", "copyOf", "([CI)[C"⟩ : MethodName) (head1 (Jvm.Cond.code (⟨"java/util/Arrays", "copyOf", "([CI)[C"⟩ : MethodName) jdk_65_method_125_code 3 (some (.array .char)) :: ws) ({ frames := 1, cells := 1, slots := 4200, locals := 18 } : Room)) (fun aa_ U => aa_ = #[(.ref ch), (.int nl)] ∧ Z.Warmed39 U.vm ∧ U.heap = h0) (fun _ _ _ _ _ => True) (fun _ U o_ U' => RetG U (Q_copyof_4200 Z ch kc cap vc nl h0 n0) 1 4200 U' o_) := by
  refine MetFree.of_bodySF (plainFor_of_name own_pn5) hisR ?_
  intro p e s m args below meth c_ s₁ Bd hml0 hP hK
  obtain ⟨rfl, hZ, hh⟩ := hP
  have hx := Bd.exec
  have hby := Bd.bytes
  have hml : c_.maxLocals = 3 := hml0
  have hown : s.vm.findClass "java/util/Arrays" = some m.cls := findClass_of_methodNamed Bd.named
  have hnm := (name_of_methodNamed Bd.named Bd.method).1
  have X0 : Stand p l e ({ frames := 1, cells := 1, slots := 4200, locals := 18 } : Room) s m #[(.ref ch), (.int nl)] below meth c_ s₁ [] 0 0 := Stand.of_body Bd
  have e0 : s₁.heap = h0 := by rw [← hh, Bd.state]; rfl
  have N0 := Fr.nil n0
  have w0_ := hw _ (List.mem_of_getElem? (i := 0) rfl)
  have w70_ := hw _ (List.mem_of_getElem? (i := 70) rfl)
  have w76_ := hw _ (List.mem_of_getElem? (i := 76) rfl)
  have w77_ := hw _ (List.mem_of_getElem? (i := 77) rfl)
  have w78_ := hw _ (List.mem_of_getElem? (i := 78) rfl)
  have w79_ := hw _ (List.mem_of_getElem? (i := 79) rfl)
  have w80_ := hw _ (List.mem_of_getElem? (i := 80) rfl)
  have w81_ := hw _ (List.mem_of_getElem? (i := 81) rfl)
  have w82_ := hw _ (List.mem_of_getElem? (i := 82) rfl)
  have b1 := own_tc hp1
  have b2 := own_tc (Int.le_trans hp1 (Int.le_of_lt hp2))
  have nl0 : ¬ nl < 0 := own_nn (by omega)
  show Go p e below (RetG s (Q_copyof_4200 Z ch kc cap vc nl h0 n0) 1 4200) (s₁.setTop (entryFrame m #[(.ref ch), (.int nl)] 3))
  rw [show entryFrame m #[(.ref ch), (.int nl)] 3 = mkF m 0 #[.val (.ref ch), .val (.int nl), .unset] [] from by first | (simp [entryFrame, mkF, argsToLocals, Value.category]; done) | rfl]
  refine g_iloadN X0 hx hby d14_0 rfl ?_
  refine g_aloadN X0 hx hby d14_1 rfl rfl ?_
  refine g_arraylength X0 hx hby hZ e0 VC d14_2 ?_
  refine g_icY X0 hx hby 14 d14_3 (feq ((fun q => by rw [q] at hp2; omega) : ¬ (nl = cap))).2 (by decide) (by decide) ?_
  refine g_iloadN X0 hx hby d14_14 rfl ?_
  refine g_newarray X0 hx hby hZ .char .char (.int (0 : Int32)) (List.replicate 4200 (.int (0 : Int32))) rfl rfl w0_ e0 nl0 4200 rfl (by omega) (by decide) (by decide) (by decide) d14_15 (fun T1 h1 k1 b1 g1 X1 e1 E1 V1 => ?_)
  refine g_astoreN X1 hx hby d14_17 rfl (l' := #[.val (.ref ch), .val (.int nl), .val (.ref b1)]) rfl ?_
  refine g_aloadN X1 hx hby d14_18 rfl rfl ?_
  refine g_iconst X1 hx hby (0 : Int32) d14_19 rfl ?_
  refine g_aloadN X1 hx hby d14_20 rfl rfl ?_
  refine g_iconst X1 hx hby (0 : Int32) d14_21 rfl ?_
  refine g_aloadN X1 hx hby d14_22 rfl rfl ?_
  have f2 := (VC.ext E1)
  refine g_arraylength X1 hx hby hZ e1 f2 d14_23 ?_
  refine g_iloadN X1 hx hby d14_24 rfl ?_
  have z4 := (Nat.le_trans Z0 E1.1)
  refine g_static X1 hx hby hZ hown (rm_mmin l Z a0 hw [] cap nl h1 n0 z4 (own_le (by omega))) w76_ w77_ w70_ w78_ (by decide) e1 (by rw [hml]; rfl) [(.int cap), (.int nl)] (lenOf own_pd23 rfl) rfl rfl (Nat.le_of_ble_eq_true rfl) (Nat.le_of_ble_eq_true rfl) (Nat.le_of_ble_eq_true rfl) (Nat.le_of_ble_eq_true rfl) d14_25 (fun v3 T3 L3 X3 hQ3 => ?_)
  obtain ⟨rfl, N3q, eh3⟩ := hQ3
  have N3 := Fr.app N0 N3q
  have g_b1 : n0 ≤ b1 := Nat.le_trans Z0 (Nat.le_of_eq g1)
  refine g_arraycopy X3 hx hby hZ hown w79_ w82_ w80_ w81_ eh3 f2 V1 (Or.inl ⟨rfl, rfl⟩) (by decide) (by decide) (own_nn hp1) (by show 0 + _ ≤ _; omega) (by show 0 + _ ≤ _; omega) rfl (by rw [List.length_replicate]; show 0 + _ ≤ _; omega) N3 g_b1 (by rw [hml]; rfl) d14_28 (Nat.le_of_ble_eq_true rfl) (Nat.le_of_ble_eq_true rfl) (fun T5 h5 L5 X5 e5 N5 K5 V5 => ?_)
  refine g_aloadN X5 hx hby d14_31 rfl rfl ?_
  refine g_aret X5 hx hby (t := (.array .char)) rfl rfl rfl Bd.returns Bd.notSynchronized d14_32 e5 (by decide) (by decide) ?_
  show (Q_copyof_4200 Z ch kc cap vc nl h0 n0) (some (.ref b1)) _ _
  exact ⟨N5, (((Keep.refl h0 []).ext E1).trans K5 (allS (Or.inr (Nat.le_trans (Nat.le_refl _) (Nat.le_of_eq g1))) all0)), b1, k1, _, rfl, (Nat.le_trans (Nat.le_refl _) (Nat.le_of_eq g1)), V5, by simp only [List.length_append, List.length_take, List.length_drop, List.length_map, List.length_range, List.length_replicate]; omega⟩

def Q_kadd_1 (Z : State) (ko : Addr) (ch : Addr) (en : Addr) (kc : ClassId) (ke : ClassId) (cap : Int32) (vc : List Value) (ve : List Value) (ex1 : Int32) (ex2 : Int32) (a : Addr) (b : Addr) (kb : ClassId) (nn : Int32) (bs : List Value) (cz : Int32) (fz : Value) (h0 : Heap) (n0 : Nat) (v : Option Value) (h : Heap) (L : List Loc) : Prop := v = some (.int (1 : Int32)) ∧ Fr n0 L ∧ Keep h0 h [ko, ch, en] ∧ ∃ (ch1 : Addr) (kc1 : ClassId) (vc1 ve1 : List Value), (ch1 = ch ∨ h0.size ≤ ch1) ∧ Exa Z h ko "com/example/invix/invix/sort/KeyBuffer" ∧ Fld Z h ko "com/example/invix/invix/sort/KeyBuffer" "characters" "[C" (.ref ch1) ∧ Fld Z h ko "com/example/invix/invix/sort/KeyBuffer" "ends" "[I" (.ref en) ∧ Fld Z h ko "com/example/invix/invix/sort/KeyBuffer" "count" "I" (.int (2 : Int32)) ∧ Arv Z h ch1 kc1 .char (own_grow cap ex2) vc1 (.int (0 : Int32)) ∧ (own_grow cap ex2).toNatClampNeg ≤ vc1.length ∧ Arv Z h en ke .int (128 : Int32) ve1 (.int (0 : Int32)) ∧ 128 ≤ ve1.length ∧ ve1.getD 1 (.int (0 : Int32)) = .int ex2
set_option maxRecDepth 65536 in
set_option maxHeartbeats 40000000 in
theorem rm_kadd_1 (l : Launch) (Z : State) (a0 : Array Value) (hw : ∀ d ∈ tables_1, d.before a0 Z = true) (ws : List Jvm.Cond) (ko : Addr) (ch : Addr) (en : Addr) (kc : ClassId) (ke : ClassId) (cap : Int32) (vc : List Value) (ve : List Value) (ex1 : Int32) (ex2 : Int32) (a : Addr) (b : Addr) (kb : ClassId) (nn : Int32) (bs : List Value) (cz : Int32) (fz : Value) (h0 : Heap) (n0 : Nat) (Z0 : n0 ≤ h0.size) (O2 : Sta Z Z.heap "java/lang/String" "COMPACT_STRINGS" "Z" (.int cz)) (P5 : ¬ cz = (0 : Int32)) (OLD : Old Z n0 h0) (rfz : Rf fz) (O4 : Sta Z Z.heap "jdk/internal/util/Preconditions" "SIOOBE_FORMATTER" "Ljava/util/function/BiFunction;" fz) (KE : Exa Z h0 ko "com/example/invix/invix/sort/KeyBuffer") (F1 : Fld Z h0 ko "com/example/invix/invix/sort/KeyBuffer" "characters" "[C" (.ref ch)) (F2 : Fld Z h0 ko "com/example/invix/invix/sort/KeyBuffer" "ends" "[I" (.ref en)) (F3 : Fld Z h0 ko "com/example/invix/invix/sort/KeyBuffer" "count" "I" (.int (1 : Int32))) (VCh : Arv Z h0 ch kc .char cap vc (.int (0 : Int32))) (hl : cap.toNatClampNeg ≤ vc.length) (VE : Arv Z h0 en ke .int (128 : Int32) ve (.int (0 : Int32))) (hve : 128 ≤ ve.length) (hv : ve.getD 0 (.int (0 : Int32)) = .int ex1) (he2 : ex1 + nn = ex2) (gk : n0 ≤ ko) (gch : n0 ≤ ch) (gen : n0 ≤ en) (nce : ch ≠ en) (nbc : b ≠ ch) (p1 : 1024 ≤ cap.toInt) (p2 : cap.toInt ≤ 2100) (p3 : 0 ≤ ex1.toInt) (p4 : ex1.toInt ≤ 2100) (p5 : 0 ≤ nn.toInt) (p6 : nn.toInt ≤ 2100) (E : Exa Z h0 a "java/lang/String") (C : Fld Z h0 a "java/lang/String" "coder" "B" (.int (0 : Int32))) (VF : Fld Z h0 a "java/lang/String" "value" "[B" (.ref b)) (VB : Arv Z h0 b kb .byte nn bs (.int (0 : Int32))) :
    MetFree l (⟨"com/example/invix/invix/sort/KeyBuffer", "add", "(Ljava/lang/String;)I"⟩ : MethodName) (head1 (Jvm.Cond.code (⟨"com/example/invix/invix/sort/KeyBuffer", "add", "(Ljava/lang/String;)I"⟩ : MethodName) prog_79_method_2_code 4 (some .int) :: ws) ({ frames := 3, cells := 1, slots := 4200, locals := 49 } : Room)) (fun aa_ U => aa_ = #[(.ref ko), (.ref a)] ∧ Z.Warmed39 U.vm ∧ U.heap = h0) (fun _ _ _ _ _ => True) (fun _ U o_ U' => RetG U (Q_kadd_1 Z ko ch en kc ke cap vc ve ex1 ex2 a b kb nn bs cz fz h0 n0) 1 4200 U' o_) := by
  refine MetFree.of_bodySF (plainFor_of_name own_pn3) hisR ?_
  intro p e s m args below meth c_ s₁ Bd hml0 hP hK
  obtain ⟨rfl, hZ, hh⟩ := hP
  have hx := Bd.exec
  have hby := Bd.bytes
  have hml : c_.maxLocals = 4 := hml0
  have hown : s.vm.findClass "com/example/invix/invix/sort/KeyBuffer" = some m.cls := findClass_of_methodNamed Bd.named
  have hnm := (name_of_methodNamed Bd.named Bd.method).1
  have X0 : Stand p l e ({ frames := 3, cells := 1, slots := 4200, locals := 49 } : Room) s m #[(.ref ko), (.ref a)] below meth c_ s₁ [] 0 0 := Stand.of_body Bd
  have e0 : s₁.heap = h0 := by rw [← hh, Bd.state]; rfl
  have N0 := Fr.nil n0
  have w3_ := hw _ (List.mem_of_getElem? (i := 3) rfl)
  have w31_ := hw _ (List.mem_of_getElem? (i := 31) rfl)
  have w32_ := hw _ (List.mem_of_getElem? (i := 32) rfl)
  have w42_ := hw _ (List.mem_of_getElem? (i := 42) rfl)
  have w43_ := hw _ (List.mem_of_getElem? (i := 43) rfl)
  have w45_ := hw _ (List.mem_of_getElem? (i := 45) rfl)
  have w46_ := hw _ (List.mem_of_getElem? (i := 46) rfl)
  have w47_ := hw _ (List.mem_of_getElem? (i := 47) rfl)
  have w48_ := hw _ (List.mem_of_getElem? (i := 48) rfl)
  have w54_ := hw _ (List.mem_of_getElem? (i := 54) rfl)
  have w55_ := hw _ (List.mem_of_getElem? (i := 55) rfl)
  have w56_ := hw _ (List.mem_of_getElem? (i := 56) rfl)
  have w57_ := hw _ (List.mem_of_getElem? (i := 57) rfl)
  have w58_ := hw _ (List.mem_of_getElem? (i := 58) rfl)
  have w59_ := hw _ (List.mem_of_getElem? (i := 59) rfl)
  have w60_ := hw _ (List.mem_of_getElem? (i := 60) rfl)
  have w61_ := hw _ (List.mem_of_getElem? (i := 61) rfl)
  have w62_ := hw _ (List.mem_of_getElem? (i := 62) rfl)
  have w68_ := hw _ (List.mem_of_getElem? (i := 68) rfl)
  have w69_ := hw _ (List.mem_of_getElem? (i := 69) rfl)
  have w70_ := hw _ (List.mem_of_getElem? (i := 70) rfl)
  have w71_ := hw _ (List.mem_of_getElem? (i := 71) rfl)
  have w72_ := hw _ (List.mem_of_getElem? (i := 72) rfl)
  have w73_ := hw _ (List.mem_of_getElem? (i := 73) rfl)
  have w74_ := hw _ (List.mem_of_getElem? (i := 74) rfl)
  have w75_ := hw _ (List.mem_of_getElem? (i := 75) rfl)
  have w83_ := hw _ (List.mem_of_getElem? (i := 83) rfl)
  have w84_ := hw _ (List.mem_of_getElem? (i := 84) rfl)
  have w85_ := hw _ (List.mem_of_getElem? (i := 85) rfl)
  have w86_ := hw _ (List.mem_of_getElem? (i := 86) rfl)
  have w87_ := hw _ (List.mem_of_getElem? (i := 87) rfl)
  have s1 := own_add p3 p5 (by omega) (by omega)
  rw [he2] at s1
  show Go p e below (RetG s (Q_kadd_1 Z ko ch en kc ke cap vc ve ex1 ex2 a b kb nn bs cz fz h0 n0) 1 4200) (s₁.setTop (entryFrame m #[(.ref ko), (.ref a)] 4))
  rw [show entryFrame m #[(.ref ko), (.ref a)] 4 = mkF m 0 #[.val (.ref ko), .val (.ref a), .unset, .unset] [] from by first | (simp [entryFrame, mkF, argsToLocals, Value.category]; done) | rfl]
  refine g_aloadN X0 hx hby d9_0 rfl rfl ?_
  refine g_aloadN X0 hx hby d9_1 rfl rfl ?_
  refine g_getF X0 hx hby hZ hown (host := "") (Or.inl w47_) Via.refl e0 F3 d9_2 (fun T1 X1 e1 => ?_)
  refine g_private X1 hx hby hZ hown (rm_start_1 l Z a0 hw [] ko en ke ve ex1 h0 n0 Z0 F2 VE hv) w54_ w55_ w31_ w56_ w32_ w57_ (by decide) e1 KE (by rw [hml]; rfl) [(.int (1 : Int32))] (lenOf own_pd8 rfl) rfl rfl (Nat.le_of_ble_eq_true rfl) (Nat.le_of_ble_eq_true rfl) (Nat.le_of_ble_eq_true rfl) (Nat.le_of_ble_eq_true rfl) d9_5 (fun v2 T2 L2 X2 hQ2 => ?_)
  obtain ⟨rfl, N2q, eh2⟩ := hQ2
  have N2 := Fr.app N0 N2q
  refine g_istoreN X2 hx hby d9_8 (l' := #[.val (.ref ko), .val (.ref a), .val (.int ex1), .unset]) rfl ?_
  refine g_iloadN X2 hx hby d9_9 rfl ?_
  refine g_aloadN X2 hx hby d9_10 rfl rfl ?_
  refine g_virtual X2 hx hby hZ hown (rm_lenN l Z a0 hw [] a b kb nn bs cz h0 n0 Z0 O2 P5 OLD E C VF VB) w58_ w59_ (notFace_of_selects (args := #[]) (mvT hZ w61_)) w61_ w60_ w3_ w62_ (by decide) eh2 E (by rw [hml]; rfl) [] (lenOf own_pd3 rfl) rfl rfl (Nat.le_of_ble_eq_true rfl) (Nat.le_of_ble_eq_true rfl) (Nat.le_of_ble_eq_true rfl) (Nat.le_of_ble_eq_true rfl) d9_11 (fun v3 T3 L3 X3 hQ3 => ?_)
  obtain ⟨rfl, N3q, eh3⟩ := hQ3
  have N3 := Fr.app N2 N3q
  refine g_iadd X3 hx hby d9_14 ?_
  refine g_topI ex2 he2 ?_
  refine g_istoreN X3 hx hby d9_15 (l' := #[.val (.ref ko), .val (.ref a), .val (.int ex1), .val (.int ex2)]) rfl ?_
  refine g_iloadN X3 hx hby d9_16 rfl ?_
  refine g_aloadN X3 hx hby d9_17 rfl rfl ?_
  refine g_getF X3 hx hby hZ hown (host := "") (Or.inl w42_) Via.refl eh3 F1 d9_18 (fun T4 X4 e4 => ?_)
  refine g_arraylength X4 hx hby hZ e4 VCh d9_21 ?_
  by_cases hc22_5 : cap < ex2
  · skip
    refine g_icN X4 hx hby d9_22 (tlt hc22_5).2.2.2 ?_
    refine g_at 25 rfl rfl rfl ?_
    refine g_aloadN X4 hx hby d9_25 rfl rfl ?_
    refine g_aloadN X4 hx hby d9_26 rfl rfl ?_
    refine g_getF X4 hx hby hZ hown (host := "") (Or.inl w42_) Via.refl e4 F1 d9_27 (fun T6 X6 e6 => ?_)
    refine g_iconst X6 hx hby (2 : Int32) d9_30 rfl ?_
    refine g_aloadN X6 hx hby d9_31 rfl rfl ?_
    refine g_getF X6 hx hby hZ hown (host := "") (Or.inl w42_) Via.refl e6 F1 d9_32 (fun T7 X7 e7 => ?_)
    refine g_arraylength X7 hx hby hZ e7 VCh d9_35 ?_
    refine g_imul X7 hx hby d9_36 ?_
    refine g_iloadN X7 hx hby d9_37 rfl ?_
    refine g_static X7 hx hby hZ hown (rm_mmax l Z a0 hw [] ((2 : Int32) * cap) ex2 h0 n0 Z0 ) w68_ w69_ w70_ w71_ (by decide) e7 (by rw [hml]; rfl) [(.int ((2 : Int32) * cap)), (.int ex2)] (lenOf own_pd23 rfl) rfl rfl (Nat.le_of_ble_eq_true rfl) (Nat.le_of_ble_eq_true rfl) (Nat.le_of_ble_eq_true rfl) (Nat.le_of_ble_eq_true rfl) d9_38 (fun v8 T8 L8 X8 hQ8 => ?_)
    obtain ⟨rfl, N8q, eh8⟩ := hQ8
    have N8 := Fr.app N3 N8q
    have q1 := own_nl (B := 4200) (by omega) (by omega) hc22_5 (by omega) (by omega)
    refine g_static X8 hx hby hZ hown (rm_copyof_4200 l Z a0 hw [] ch kc cap vc (own_max ((2 : Int32) * cap) ex2) h0 n0 Z0 VCh (by omega) q1.1 q1.2.1) w72_ w73_ w74_ w75_ (by decide) eh8 (by rw [hml]; rfl) [(.ref ch), (.int (own_max ((2 : Int32) * cap) ex2))] (lenOf own_pd24 rfl) rfl rfl (Nat.le_of_ble_eq_true rfl) (Nat.le_of_ble_eq_true rfl) (Nat.le_of_ble_eq_true rfl) (Nat.le_of_ble_eq_true rfl) d9_41 (fun v9 T9 L9 X9 hQ9 => ?_)
    obtain ⟨N9q, K9, d9, kd9, vd9, rfl, ld9, Vd9, hl9⟩ := hQ9
    have N9 := Fr.app N8 N9q
    have f10 := (KE.keep K9)
    have f11 := (F1.keep K9 nin0)
    refine g_putF X9 hx hby hZ hown (host := "") (Or.inl w42_) Via.refl rfl f11 f10 (Or.inl w43_) w31_ (.array .char) (by decide) rfl rfl N9 gk d9_44 (fun T12 h12 X12 e12 W12 F12 N12 => ?_)
    refine g_aloadN X12 hx hby d9_47 rfl rfl ?_
    refine g_iconst X12 hx hby (0 : Int32) d9_48 rfl ?_
    refine g_aloadN X12 hx hby d9_49 rfl rfl ?_
    have f14 := ((OLD.keep K9 all0).wr W12 gk)
    have f15 := ((E.keep K9).wr W12)
    have ne16 : a ≠ ko := (Exa.ne E KE (by decide))
    have f17 := ((C.keep K9 nin0).other W12 (Or.inl ne16))
    have f18 := ((VF.keep K9 nin0).other W12 (Or.inl ne16))
    have ne19 : b ≠ ko := (Ne.symm (Exa.neArv KE VB w31_))
    have f20 := ((VB.keep K9 nin0).other W12 ne19)
    have z21 := (Nat.le_trans Z0 (Nat.le_trans K9.1 (Keep.of_wr W12).1))
    refine g_virtual X12 hx hby hZ hown (rm_lenN l Z a0 hw [] a b kb nn bs cz h12 n0 z21 O2 P5 f14 f15 f17 f18 f20) w58_ w59_ (notFace_of_selects (args := #[]) (mvT hZ w61_)) w61_ w60_ w3_ w62_ (by decide) e12 f15 (by rw [hml]; rfl) [] (lenOf own_pd3 rfl) rfl rfl (Nat.le_of_ble_eq_true rfl) (Nat.le_of_ble_eq_true rfl) (Nat.le_of_ble_eq_true rfl) (Nat.le_of_ble_eq_true rfl) d9_50 (fun v13 T13 L13 X13 hQ13 => ?_)
    obtain ⟨rfl, N13q, eh13⟩ := hQ13
    have N13 := Fr.app N12 N13q
    refine g_at 53 rfl rfl rfl ?_
    refine g_aloadN X13 hx hby d9_53 rfl rfl ?_
    refine g_getF X13 hx hby hZ hown (host := "") (Or.inl w42_) Via.refl eh13 F12 d9_54 (fun T22 X22 e22 => ?_)
    refine g_iloadN X22 hx hby d9_57 rfl ?_
    have ne24 : d9 ≠ ko := (Ne.symm (Nat.ne_of_lt (Nat.lt_of_lt_of_le KE.lt ld9)))
    have f25 := (Vd9.other W12 ne24)
    have g_d9 : n0 ≤ d9 := Nat.le_trans Z0 ld9
    have ne26 : b ≠ d9 := (Nat.ne_of_lt (Nat.lt_of_lt_of_le VB.lt ld9))
    refine g_virtual X22 hx hby hZ hown (rm_getc l Z a0 hw [] a b kb nn bs d9 kd9 (own_max ((2 : Int32) * cap) ex2) vd9 ex1 cz fz h12 n0 z21 O2 P5 f14 rfz O4 f15 f17 f18 f20 f25 hl9 p3 p5 (by omega) g_d9 ne26) w83_ w84_ (notFace_of_selects (args := #[]) (mvT hZ w86_)) w86_ w85_ w3_ w87_ (by decide) e22 f15 (by rw [hml]; rfl) [(.int (0 : Int32)), (.int nn), (.ref d9), (.int ex1)] (lenOf own_pd9 rfl) rfl rfl (Nat.le_of_ble_eq_true rfl) (Nat.le_of_ble_eq_true rfl) (Nat.le_of_ble_eq_true rfl) (Nat.le_of_ble_eq_true rfl) d9_58 (fun v23 T23 L23 X23 hQ23 => ?_)
    obtain ⟨rfl, N23q, K23, vc23, Vc23, hl23⟩ := hQ23
    have N23 := Fr.app N13 N23q
    refine g_aloadN X23 hx hby d9_61 rfl rfl ?_
    have f27 := (((F3.keep K9 nin0).other W12 (Or.inr (slot_ne (Or.inl w48_) (Or.inl w43_) (by decide) (t := .int) (t' := (.array .char)) (by decide) (by decide)))).keep K23 (ninS (Ne.symm ne24) nin0))
    refine g_getF X23 hx hby hZ hown (host := "") (Or.inl w47_) Via.refl rfl f27 d9_62 (fun T28 X28 e28 => ?_)
    refine g_aloadN X28 hx hby d9_65 rfl rfl ?_
    have f29 := (((F2.keep K9 nin0).other W12 (Or.inr (slot_ne (Or.inl w46_) (Or.inl w43_) (by decide) (t := (.array .int)) (t' := (.array .char)) (by decide) (by decide)))).keep K23 (ninS (Ne.symm ne24) nin0))
    refine g_getF X28 hx hby hZ hown (host := "") (Or.inl w45_) Via.refl e28 f29 d9_66 (fun T30 X30 e30 => ?_)
    have ne31 : en ≠ ko := (Ne.symm (Exa.neArv KE VE w31_))
    have ne32 : en ≠ d9 := (Nat.ne_of_lt (Nat.lt_of_lt_of_le VE.lt ld9))
    have f33 := (((VE.keep K9 nin0).other W12 ne31).keep K23 (ninS ne32 nin0))
    refine g_arraylength X30 hx hby hZ e30 f33 d9_69 ?_
    refine g_icY X30 hx hby 90 d9_70 (feq (by decide : ¬ ((1 : Int32) = (128 : Int32)))).2 (by decide) (by decide) ?_
    refine g_aloadN X30 hx hby d9_90 rfl rfl ?_
    refine g_getF X30 hx hby hZ hown (host := "") (Or.inl w45_) Via.refl e30 f29 d9_91 (fun T34 X34 e34 => ?_)
    refine g_aloadN X34 hx hby d9_94 rfl rfl ?_
    refine g_getF X34 hx hby hZ hown (host := "") (Or.inl w47_) Via.refl e34 f27 d9_95 (fun T35 X35 e35 => ?_)
    refine g_iloadN X35 hx hby d9_98 rfl ?_
    refine g_iastore X35 hx hby hZ e35 f33 1 (ve.set 1 (.int ex2)) rfl ⟨by decide, by decide⟩ rfl (Nat.lt_of_lt_of_le (by decide) hve) N23 gen d9_99 (fun T36 h36 X36 e36 W36 V36 N36 => ?_)
    refine g_aloadN X36 hx hby d9_100 rfl rfl ?_
    refine g_dup X36 hx hby d9_101 rfl ?_
    have f37 := (f27.other W36 (Or.inl (Ne.symm ne31)))
    refine g_getF X36 hx hby hZ hown (host := "") (Or.inl w47_) Via.refl e36 f37 d9_102 (fun T38 X38 e38 => ?_)
    refine g_dup_x1 X38 hx hby d9_105 rfl rfl ?_
    refine g_iconst X38 hx hby (1 : Int32) d9_106 rfl ?_
    refine g_iadd X38 hx hby d9_107 ?_
    refine g_topI (2 : Int32) (by decide) ?_
    have f39 := (((f10.wr W12).keep K23).wr W36)
    refine g_putF X38 hx hby hZ hown (host := "") (Or.inl w47_) Via.refl e38 f37 f39 (Or.inl w48_) w31_ .int (by decide) rfl rfl N36 gk d9_108 (fun T40 h40 X40 e40 W40 F40 N40 => ?_)
    have f41 := (f39.wr W40)
    have f42 := (((F12.keep K23 (ninS (Ne.symm ne24) nin0)).other W36 (Or.inl (Ne.symm ne31))).other W40 (Or.inr (slot_ne (Or.inl w43_) (Or.inl w48_) (by decide) (t := (.array .char)) (t' := .int) (by decide) (by decide))))
    have f43 := ((f29.other W36 (Or.inl (Ne.symm ne31))).other W40 (Or.inr (slot_ne (Or.inl w46_) (Or.inl w48_) (by decide) (t := (.array .int)) (t' := .int) (by decide) (by decide))))
    have f44 := ((Vc23.other W36 (Ne.symm ne32)).other W40 ne24)
    have f45 := (V36.other W40 ne31)
    refine g_iret X40 hx hby Bd.returns Bd.notSynchronized d9_111 e40 (by decide) (by decide) ?_
    show (Q_kadd_1 Z ko ch en kc ke cap vc ve ex1 ex2 a b kb nn bs cz fz h0 n0) (some (.int (1 : Int32))) _ _
    exact ⟨rfl, N40, ((((((Keep.refl h0 [ko, ch, en]).trans K9 all0).wr W12 (Or.inl (List.mem_of_getElem? (i := 0) rfl))).trans K23 (allS (Or.inr (Nat.le_trans (Nat.le_refl _) ld9)) all0)).wr W36 (Or.inl (List.mem_of_getElem? (i := 2) rfl))).wr W40 (Or.inl (List.mem_of_getElem? (i := 0) rfl))), d9, kd9, _, _, Or.inr (Nat.le_trans (Nat.le_refl _) ld9), f41, f42, f43, F40, (by rw [own_grow, if_pos hc22_5]; exact f44), (by rw [own_grow, if_pos hc22_5]; exact hl23), f45, (by rw [List.length_set]; exact hve), own_setD (Nat.lt_of_lt_of_le (by decide) hve)⟩
  · skip
    refine g_icY X4 hx hby 47 d9_22 (flt hc22_5).2.2.2 (by decide) (by decide) ?_
    refine g_aloadN X4 hx hby d9_47 rfl rfl ?_
    refine g_iconst X4 hx hby (0 : Int32) d9_48 rfl ?_
    refine g_aloadN X4 hx hby d9_49 rfl rfl ?_
    refine g_virtual X4 hx hby hZ hown (rm_lenN l Z a0 hw [] a b kb nn bs cz h0 n0 Z0 O2 P5 OLD E C VF VB) w58_ w59_ (notFace_of_selects (args := #[]) (mvT hZ w61_)) w61_ w60_ w3_ w62_ (by decide) e4 E (by rw [hml]; rfl) [] (lenOf own_pd3 rfl) rfl rfl (Nat.le_of_ble_eq_true rfl) (Nat.le_of_ble_eq_true rfl) (Nat.le_of_ble_eq_true rfl) (Nat.le_of_ble_eq_true rfl) d9_50 (fun v46 T46 L46 X46 hQ46 => ?_)
    obtain ⟨rfl, N46q, eh46⟩ := hQ46
    have N46 := Fr.app N3 N46q
    refine g_aloadN X46 hx hby d9_53 rfl rfl ?_
    refine g_getF X46 hx hby hZ hown (host := "") (Or.inl w42_) Via.refl eh46 F1 d9_54 (fun T47 X47 e47 => ?_)
    refine g_iloadN X47 hx hby d9_57 rfl ?_
    refine g_virtual X47 hx hby hZ hown (rm_getc l Z a0 hw [] a b kb nn bs ch kc cap vc ex1 cz fz h0 n0 Z0 O2 P5 OLD rfz O4 E C VF VB VCh hl p3 p5 (by have q := hc22_5; rw [Int32.lt_iff_toInt_lt] at q; omega) gch nbc) w83_ w84_ (notFace_of_selects (args := #[]) (mvT hZ w86_)) w86_ w85_ w3_ w87_ (by decide) e47 E (by rw [hml]; rfl) [(.int (0 : Int32)), (.int nn), (.ref ch), (.int ex1)] (lenOf own_pd9 rfl) rfl rfl (Nat.le_of_ble_eq_true rfl) (Nat.le_of_ble_eq_true rfl) (Nat.le_of_ble_eq_true rfl) (Nat.le_of_ble_eq_true rfl) d9_58 (fun v48 T48 L48 X48 hQ48 => ?_)
    obtain ⟨rfl, N48q, K48, vc48, Vc48, hl48⟩ := hQ48
    have N48 := Fr.app N46 N48q
    refine g_aloadN X48 hx hby d9_61 rfl rfl ?_
    have ne49 : ko ≠ ch := (Exa.neArv (KE.keep K48) Vc48 w31_)
    have f50 := (F3.keep K48 (ninS ne49 nin0))
    refine g_getF X48 hx hby hZ hown (host := "") (Or.inl w47_) Via.refl rfl f50 d9_62 (fun T51 X51 e51 => ?_)
    refine g_aloadN X51 hx hby d9_65 rfl rfl ?_
    have f52 := (F2.keep K48 (ninS ne49 nin0))
    refine g_getF X51 hx hby hZ hown (host := "") (Or.inl w45_) Via.refl e51 f52 d9_66 (fun T53 X53 e53 => ?_)
    have f54 := (VE.keep K48 (ninS (Ne.symm nce) nin0))
    refine g_arraylength X53 hx hby hZ e53 f54 d9_69 ?_
    refine g_icY X53 hx hby 90 d9_70 (feq (by decide : ¬ ((1 : Int32) = (128 : Int32)))).2 (by decide) (by decide) ?_
    refine g_aloadN X53 hx hby d9_90 rfl rfl ?_
    refine g_getF X53 hx hby hZ hown (host := "") (Or.inl w45_) Via.refl e53 f52 d9_91 (fun T55 X55 e55 => ?_)
    refine g_aloadN X55 hx hby d9_94 rfl rfl ?_
    refine g_getF X55 hx hby hZ hown (host := "") (Or.inl w47_) Via.refl e55 f50 d9_95 (fun T56 X56 e56 => ?_)
    refine g_iloadN X56 hx hby d9_98 rfl ?_
    refine g_iastore X56 hx hby hZ e56 f54 1 (ve.set 1 (.int ex2)) rfl ⟨by decide, by decide⟩ rfl (Nat.lt_of_lt_of_le (by decide) hve) N48 gen d9_99 (fun T57 h57 X57 e57 W57 V57 N57 => ?_)
    refine g_aloadN X57 hx hby d9_100 rfl rfl ?_
    refine g_dup X57 hx hby d9_101 rfl ?_
    have ne58 : ko ≠ en := (Exa.neArv ((KE.keep K48).wr W57) V57 w31_)
    have f59 := (f50.other W57 (Or.inl ne58))
    refine g_getF X57 hx hby hZ hown (host := "") (Or.inl w47_) Via.refl e57 f59 d9_102 (fun T60 X60 e60 => ?_)
    refine g_dup_x1 X60 hx hby d9_105 rfl rfl ?_
    refine g_iconst X60 hx hby (1 : Int32) d9_106 rfl ?_
    refine g_iadd X60 hx hby d9_107 ?_
    refine g_topI (2 : Int32) (by decide) ?_
    have f61 := ((KE.keep K48).wr W57)
    refine g_putF X60 hx hby hZ hown (host := "") (Or.inl w47_) Via.refl e60 f59 f61 (Or.inl w48_) w31_ .int (by decide) rfl rfl N57 gk d9_108 (fun T62 h62 X62 e62 W62 F62 N62 => ?_)
    have f63 := (f61.wr W62)
    have f64 := (((F1.keep K48 (ninS ne49 nin0)).other W57 (Or.inl ne58)).other W62 (Or.inr (slot_ne (Or.inl w43_) (Or.inl w48_) (by decide) (t := (.array .char)) (t' := .int) (by decide) (by decide))))
    have f65 := ((f52.other W57 (Or.inl ne58)).other W62 (Or.inr (slot_ne (Or.inl w46_) (Or.inl w48_) (by decide) (t := (.array .int)) (t' := .int) (by decide) (by decide))))
    have f66 := ((Vc48.other W57 nce).other W62 (Ne.symm ne49))
    have f67 := (V57.other W62 (Ne.symm ne58))
    refine g_iret X62 hx hby Bd.returns Bd.notSynchronized d9_111 e62 (by decide) (by decide) ?_
    show (Q_kadd_1 Z ko ch en kc ke cap vc ve ex1 ex2 a b kb nn bs cz fz h0 n0) (some (.int (1 : Int32))) _ _
    exact ⟨rfl, N62, ((((Keep.refl h0 [ko, ch, en]).trans K48 (allS (Or.inl (List.mem_of_getElem? (i := 1) rfl)) all0)).wr W57 (Or.inl (List.mem_of_getElem? (i := 2) rfl))).wr W62 (Or.inl (List.mem_of_getElem? (i := 0) rfl))), ch, kc, _, _, Or.inl rfl, f63, f64, f65, F62, (by rw [own_grow, if_neg hc22_5]; exact f66), (by rw [own_grow, if_neg hc22_5]; exact hl48), f67, (by rw [List.length_set]; exact hve), own_setD (Nat.lt_of_lt_of_le (by decide) hve)⟩

theorem own_pn6 : plainName "com/example/invix/invix/sort/KeyBufferClearPinLaw" = true := by first | (simp [plainName, overriddenIn]; done) | decide +kernel
def Q_law (Z : State) (pn : Int32) (p0 : Int32) (p1 : Int32) (pg : Int32) (p2 : Int32) (p3 : Int32) (fz : Value) (cz : Int32) (h0 : Heap) (n0 : Nat) (v : Option Value) (h : Heap) (L : List Loc) : Prop := v = some (.int 1) ∧ Fr n0 L
set_option maxRecDepth 65536 in
set_option maxHeartbeats 40000000 in
theorem rm_law (l : Launch) (Z : State) (a0 : Array Value) (hw : ∀ d ∈ tables_1, d.before a0 Z = true) (ws : List Jvm.Cond) (pn : Int32) (p0 : Int32) (p1 : Int32) (pg : Int32) (p2 : Int32) (p3 : Int32) (fz : Value) (cz : Int32) (h0 : Heap) (n0 : Nat) (Z0 : n0 ≤ h0.size) (O2 : Sta Z Z.heap "java/lang/String" "COMPACT_STRINGS" "Z" (.int cz)) (P5 : ¬ cz = (0 : Int32)) (OLD : Old Z n0 h0) (rfz : Rf fz) (O4 : Sta Z Z.heap "jdk/internal/util/Preconditions" "SIOOBE_FORMATTER" "Ljava/util/function/BiFunction;" fz) :
    MetFree l Jvm.Pilot.@@N@@.x (head1 (Jvm.Cond.code Jvm.Pilot.@@N@@.x Jvm.Pilot.@@N@@.code Jvm.Pilot.@@N@@.maxLocals Jvm.Pilot.@@N@@.ret :: ws) room_1) (fun aa_ U => aa_ = #[(.int pn), (.int p0), (.int p1), (.int pg), (.int p2), (.int p3)] ∧ Z.Warmed39 U.vm ∧ U.heap = h0) (fun _ _ _ _ _ => True) (fun _ U o_ U' => RetG U (Q_law Z pn p0 p1 pg p2 p3 fz cz h0 n0) 48 12928 U' o_) := by
  refine MetFree.of_bodySF (plainFor_of_name own_pn6) hisR ?_
  intro p e s m args below meth c_ s₁ Bd hml0 hP hK
  obtain ⟨rfl, hZ, hh⟩ := hP
  have hx := Bd.exec
  have hby := Bd.bytes
  have hml : c_.maxLocals = 16 := hml0
  have hown : s.vm.findClass "com/example/invix/invix/sort/KeyBufferClearPinLaw" = some m.cls := findClass_of_methodNamed Bd.named
  have hnm := (name_of_methodNamed Bd.named Bd.method).1
  have X0 : Stand p l e room_1 s m #[(.int pn), (.int p0), (.int p1), (.int pg), (.int p2), (.int p3)] below meth c_ s₁ [] 0 0 := Stand.of_body Bd
  have e0 : s₁.heap = h0 := by rw [← hh, Bd.state]; rfl
  have N0 := Fr.nil n0
  have w0_ := hw _ (List.mem_of_getElem? (i := 0) rfl)
  have w1_ := hw _ (List.mem_of_getElem? (i := 1) rfl)
  have w2_ := hw _ (List.mem_of_getElem? (i := 2) rfl)
  have w3_ := hw _ (List.mem_of_getElem? (i := 3) rfl)
  have w4_ := hw _ (List.mem_of_getElem? (i := 4) rfl)
  have w5_ := hw _ (List.mem_of_getElem? (i := 5) rfl)
  have w6_ := hw _ (List.mem_of_getElem? (i := 6) rfl)
  have w27_ := hw _ (List.mem_of_getElem? (i := 27) rfl)
  have w29_ := hw _ (List.mem_of_getElem? (i := 29) rfl)
  have w30_ := hw _ (List.mem_of_getElem? (i := 30) rfl)
  have w31_ := hw _ (List.mem_of_getElem? (i := 31) rfl)
  have w32_ := hw _ (List.mem_of_getElem? (i := 32) rfl)
  have w33_ := hw _ (List.mem_of_getElem? (i := 33) rfl)
  have w34_ := hw _ (List.mem_of_getElem? (i := 34) rfl)
  have w35_ := hw _ (List.mem_of_getElem? (i := 35) rfl)
  have w38_ := hw _ (List.mem_of_getElem? (i := 38) rfl)
  have w39_ := hw _ (List.mem_of_getElem? (i := 39) rfl)
  have w40_ := hw _ (List.mem_of_getElem? (i := 40) rfl)
  have w41_ := hw _ (List.mem_of_getElem? (i := 41) rfl)
  have w43_ := hw _ (List.mem_of_getElem? (i := 43) rfl)
  have w46_ := hw _ (List.mem_of_getElem? (i := 46) rfl)
  have w48_ := hw _ (List.mem_of_getElem? (i := 48) rfl)
  have w49_ := hw _ (List.mem_of_getElem? (i := 49) rfl)
  have w50_ := hw _ (List.mem_of_getElem? (i := 50) rfl)
  have w51_ := hw _ (List.mem_of_getElem? (i := 51) rfl)
  have w52_ := hw _ (List.mem_of_getElem? (i := 52) rfl)
  have w53_ := hw _ (List.mem_of_getElem? (i := 53) rfl)
  have w115_ := hw _ (List.mem_of_getElem? (i := 115) rfl)
  have w116_ := hw _ (List.mem_of_getElem? (i := 116) rfl)
  have w117_ := hw _ (List.mem_of_getElem? (i := 117) rfl)
  have w118_ := hw _ (List.mem_of_getElem? (i := 118) rfl)
  have w119_ := hw _ (List.mem_of_getElem? (i := 119) rfl)
  have w120_ := hw _ (List.mem_of_getElem? (i := 120) rfl)
  have w121_ := hw _ (List.mem_of_getElem? (i := 121) rfl)
  have w122_ := hw _ (List.mem_of_getElem? (i := 122) rfl)
  have w123_ := hw _ (List.mem_of_getElem? (i := 123) rfl)
  have w124_ := hw _ (List.mem_of_getElem? (i := 124) rfl)
  have w125_ := hw _ (List.mem_of_getElem? (i := 125) rfl)
  have w128_ := hw _ (List.mem_of_getElem? (i := 128) rfl)
  have w129_ := hw _ (List.mem_of_getElem? (i := 129) rfl)
  have w130_ := hw _ (List.mem_of_getElem? (i := 130) rfl)
  have w131_ := hw _ (List.mem_of_getElem? (i := 131) rfl)
  have w132_ := hw _ (List.mem_of_getElem? (i := 132) rfl)
  have w133_ := hw _ (List.mem_of_getElem? (i := 133) rfl)
  have w141_ := hw _ (List.mem_of_getElem? (i := 141) rfl)
  have w142_ := hw _ (List.mem_of_getElem? (i := 142) rfl)
  have w143_ := hw _ (List.mem_of_getElem? (i := 143) rfl)
  have w144_ := hw _ (List.mem_of_getElem? (i := 144) rfl)
  have w145_ := hw _ (List.mem_of_getElem? (i := 145) rfl)
  show Go p e below (RetG s (Q_law Z pn p0 p1 pg p2 p3 fz cz h0 n0) 48 12928) (s₁.setTop (entryFrame m #[(.int pn), (.int p0), (.int p1), (.int pg), (.int p2), (.int p3)] maxLocals))
  rw [show entryFrame m #[(.int pn), (.int p0), (.int p1), (.int pg), (.int p2), (.int p3)] maxLocals = mkF m 0 #[.val (.int pn), .val (.int p0), .val (.int p1), .val (.int pg), .val (.int p2), .val (.int p3), .unset, .unset, .unset, .unset, .unset, .unset, .unset, .unset, .unset, .unset] [] from by first | (simp [entryFrame, mkF, argsToLocals, Value.category, maxLocals]; done) | rfl]
  refine g_iloadN X0 hx hby at_0 rfl ?_
  refine g_iconst X0 hx hby (1 : Int32) at_1 rfl ?_
  refine g_iand X0 hx hby at_2 ?_
  by_cases hc3_1 : (pn &&& (1 : Int32)) = (0 : Int32)
  · skip
    refine g_ifY X0 hx hby 10 at_3 (teq hc3_1).1 (by decide) (by decide) ?_
    refine g_iconst X0 hx hby (0 : Int32) at_10 rfl ?_
    refine g_istore X0 hx hby at_11 (l' := #[.val (.int pn), .val (.int p0), .val (.int p1), .val (.int pg), .val (.int p2), .val (.int p3), .val (.int (0 : Int32)), .unset, .unset, .unset, .unset, .unset, .unset, .unset, .unset, .unset]) rfl ?_
    refine g_iloadN X0 hx hby at_13 rfl ?_
    refine g_iconst X0 hx hby (1 : Int32) at_14 rfl ?_
    refine g_iand X0 hx hby at_15 ?_
    by_cases hc16_2 : (pg &&& (1 : Int32)) = (0 : Int32)
    · skip
      refine g_ifY X0 hx hby 23 at_16 (teq hc16_2).1 (by decide) (by decide) ?_
      refine g_iconst X0 hx hby (0 : Int32) at_23 rfl ?_
      refine g_istore X0 hx hby at_24 (l' := #[.val (.int pn), .val (.int p0), .val (.int p1), .val (.int pg), .val (.int p2), .val (.int p3), .val (.int (0 : Int32)), .val (.int (0 : Int32)), .unset, .unset, .unset, .unset, .unset, .unset, .unset, .unset]) rfl ?_
      refine g_iconst X0 hx hby (2 : Int32) at_26 rfl ?_
      refine g_newarray X0 hx hby hZ .char .char (.int (0 : Int32)) [(.int (0 : Int32)), (.int (0 : Int32))] rfl rfl w0_ e0 (by decide) 2 rfl (by decide) (by decide) (by decide) (by decide) at_27 (fun T3 h3 k3 b3 g3 X3 e3 E3 V3 => ?_)
      refine g_astore X3 hx hby at_29 rfl (l' := #[.val (.int pn), .val (.int p0), .val (.int p1), .val (.int pg), .val (.int p2), .val (.int p3), .val (.int (0 : Int32)), .val (.int (0 : Int32)), .val (.ref b3), .unset, .unset, .unset, .unset, .unset, .unset, .unset]) rfl ?_
      refine g_aload X3 hx hby at_31 rfl rfl ?_
      refine g_iconst X3 hx hby (0 : Int32) at_33 rfl ?_
      refine g_iloadN X3 hx hby at_34 rfl ?_
      refine g_sipush X3 hx hby (255 : Int32) at_35 rfl ?_
      refine g_iand X3 hx hby at_38 ?_
      refine g_i2c X3 hx hby at_39 ?_
      have g_b3 : n0 ≤ b3 := Nat.le_trans Z0 (Nat.le_of_eq g3)
      refine g_castore X3 hx hby hZ e3 V3 0 [(.int (nar .char ((p0 &&& (255 : Int32)).toUInt32.toUInt16.toUInt32.toInt32))), (.int (0 : Int32))] rfl ⟨by decide, by decide⟩ rfl (Nat.le_of_ble_eq_true rfl) N0 g_b3 at_40 (fun T4 h4 X4 e4 W4 V4 N4 => ?_)
      refine g_aload X4 hx hby at_41 rfl rfl ?_
      refine g_iconst X4 hx hby (1 : Int32) at_43 rfl ?_
      refine g_iloadN X4 hx hby at_44 rfl ?_
      refine g_sipush X4 hx hby (255 : Int32) at_45 rfl ?_
      refine g_iand X4 hx hby at_48 ?_
      refine g_i2c X4 hx hby at_49 ?_
      refine g_castore X4 hx hby hZ e4 V4 1 [(.int (nar .char ((p0 &&& (255 : Int32)).toUInt32.toUInt16.toUInt32.toInt32))), (.int (nar .char ((p1 &&& (255 : Int32)).toUInt32.toUInt16.toUInt32.toInt32)))] rfl ⟨by decide, by decide⟩ rfl (Nat.le_of_ble_eq_true rfl) N4 g_b3 at_50 (fun T5 h5 X5 e5 W5 V5 N5 => ?_)
      refine g_new X5 hx hby hZ hown w1_ w2_ w3_ e5 (by decide) (by decide) at_51 (fun T6 h6 b6 g6 X6 e6 E6 A6 D6 => ?_)
      have F_coder_b6 : Fld Z h6 b6 "java/lang/String" "coder" "B" (.int (0 : Int32)) := D6 (Or.inr w27_) (ty := .byte) (by decide)
      have F_value_b6 : Fld Z h6 b6 "java/lang/String" "value" "[B" .null := D6 (Or.inr w29_) (ty := (.array .byte)) (by decide)
      refine g_dup X6 hx hby at_54 rfl ?_
      refine g_aload X6 hx hby at_55 rfl rfl ?_
      have f8 := ((((OLD.ext E3).wr W4 g_b3).wr W5 g_b3).ext E6)
      have f9 := (V5.ext E6)
      have g_b6 : n0 ≤ b6 := Nat.le_trans (Nat.le_trans Z0 (Nat.le_trans (Nat.le_trans E3.1 (Keep.of_wr W4).1) (Keep.of_wr W5).1)) (Nat.le_of_eq g6)
      have z10 := (Nat.le_trans Z0 (Nat.le_trans (Nat.le_trans (Nat.le_trans E3.1 (Keep.of_wr W4).1) (Keep.of_wr W5).1) E6.1))
      refine g_special X6 hx hby hZ hown (rm_ini1_2 l Z a0 hw [] b6 b3 k3 (nar .char ((p0 &&& (255 : Int32)).toUInt32.toUInt16.toUInt32.toInt32)) (nar .char ((p1 &&& (255 : Int32)).toUInt32.toUInt16.toUInt32.toInt32)) cz h6 n0 z10 O2 P5 f8 A6 F_coder_b6 F_value_b6 f9 g_b6 (own_c255 _) (own_c255 _)) rfl rfl w4_ w5_ w3_ w6_ (by decide) e6 (by rw [hml]; rfl) [(.ref b3)] (lenOf own_pd16 rfl) rfl rfl (Nat.le_of_ble_eq_true rfl) (Nat.le_of_ble_eq_true rfl) (Nat.le_of_ble_eq_true rfl) (Nat.le_of_ble_eq_true rfl) at_57 (fun v7 T7 L7 X7 hQ7 => ?_)
      obtain ⟨rfl, N7q, K7, t7, kb7, lo7, Es7, Cs7, Vs7, Bs7⟩ := hQ7
      have N7 := Fr.app N5 N7q
      refine g_at 60 rfl rfl rfl ?_
      refine g_astore X7 hx hby at_60 rfl (l' := #[.val (.int pn), .val (.int p0), .val (.int p1), .val (.int pg), .val (.int p2), .val (.int p3), .val (.int (0 : Int32)), .val (.int (0 : Int32)), .val (.ref b3), .val (.ref b6), .unset, .unset, .unset, .unset, .unset, .unset]) rfl ?_
      refine g_sipush X7 hx hby (1025 : Int32) at_62 rfl ?_
      refine g_newarray X7 hx hby hZ .char .char (.int (0 : Int32)) (List.replicate 1025 (.int (0 : Int32))) rfl rfl w0_ rfl (by decide) 1025 rfl (by decide) (by decide) (by decide) (by decide) at_65 (fun T11 h11 k11 b11 g11 X11 e11 E11 V11 => ?_)
      refine g_astore X11 hx hby at_67 rfl (l' := #[.val (.int pn), .val (.int p0), .val (.int p1), .val (.int pg), .val (.int p2), .val (.int p3), .val (.int (0 : Int32)), .val (.int (0 : Int32)), .val (.ref b3), .val (.ref b6), .val (.ref b11), .unset, .unset, .unset, .unset, .unset]) rfl ?_
      refine g_aload X11 hx hby at_69 rfl rfl ?_
      refine g_iconst X11 hx hby (0 : Int32) at_71 rfl ?_
      refine g_iload X11 hx hby at_72 rfl ?_
      refine g_sipush X11 hx hby (255 : Int32) at_74 rfl ?_
      refine g_iand X11 hx hby at_77 ?_
      refine g_i2c X11 hx hby at_78 ?_
      have g_b11 : n0 ≤ b11 := Nat.le_trans (Nat.le_trans z10 K7.1) (Nat.le_of_eq g11)
      refine g_castore X11 hx hby hZ e11 V11 0 ((List.replicate 1025 (.int (0 : Int32))).set 0 (.int (nar .char ((p2 &&& (255 : Int32)).toUInt32.toUInt16.toUInt32.toInt32)))) rfl ⟨by decide, by decide⟩ rfl (by rw [List.length_replicate]; decide) N7 g_b11 at_79 (fun T12 h12 X12 e12 W12 V12 N12 => ?_)
      refine g_aload X12 hx hby at_80 rfl rfl ?_
      refine g_sipush X12 hx hby (1024 : Int32) at_82 rfl ?_
      refine g_iload X12 hx hby at_85 rfl ?_
      refine g_sipush X12 hx hby (255 : Int32) at_87 rfl ?_
      refine g_iand X12 hx hby at_90 ?_
      refine g_i2c X12 hx hby at_91 ?_
      refine g_castore X12 hx hby hZ e12 V12 1024 (((List.replicate 1025 (.int (0 : Int32))).set 0 (.int (nar .char ((p2 &&& (255 : Int32)).toUInt32.toUInt16.toUInt32.toInt32)))).set 1024 (.int (nar .char ((p3 &&& (255 : Int32)).toUInt32.toUInt16.toUInt32.toInt32)))) rfl ⟨by decide, by decide⟩ rfl (by rw [List.length_set, List.length_replicate]; decide) N12 g_b11 at_92 (fun T13 h13 X13 e13 W13 V13 N13 => ?_)
      refine g_new X13 hx hby hZ hown w1_ w2_ w3_ e13 (by decide) (by decide) at_93 (fun T14 h14 b14 g14 X14 e14 E14 A14 D14 => ?_)
      have F_coder_b14 : Fld Z h14 b14 "java/lang/String" "coder" "B" (.int (0 : Int32)) := D14 (Or.inr w27_) (ty := .byte) (by decide)
      have F_value_b14 : Fld Z h14 b14 "java/lang/String" "value" "[B" .null := D14 (Or.inr w29_) (ty := (.array .byte)) (by decide)
      refine g_dup X14 hx hby at_96 rfl ?_
      refine g_aload X14 hx hby at_97 rfl rfl ?_
      have f16 := (((((f8.keep K7 (allS g_b6 all0)).ext E11).wr W12 g_b11).wr W13 g_b11).ext E14)
      have g_b14 : n0 ≤ b14 := Nat.le_trans (Nat.le_trans z10 (Nat.le_trans (Nat.le_trans (Nat.le_trans K7.1 E11.1) (Keep.of_wr W12).1) (Keep.of_wr W13).1)) (Nat.le_of_eq g14)
      have f17 := (V13.ext E14)
      have z18 := (Nat.le_trans z10 (Nat.le_trans (Nat.le_trans (Nat.le_trans (Nat.le_trans K7.1 E11.1) (Keep.of_wr W12).1) (Keep.of_wr W13).1) E14.1))
      refine g_special X14 hx hby hZ hown (rm_iniN1_1025 l Z a0 hw [] b14 b11 k11 (((List.replicate 1025 (.int (0 : Int32))).set 0 (.int (nar .char ((p2 &&& (255 : Int32)).toUInt32.toUInt16.toUInt32.toInt32)))).set 1024 (.int (nar .char ((p3 &&& (255 : Int32)).toUInt32.toUInt16.toUInt32.toInt32)))) cz h14 n0 z18 O2 P5 f16 A14 F_coder_b14 F_value_b14 g_b14 f17 (own_big (own_c255 _) (own_c255 _))) rfl rfl w4_ w5_ w3_ w6_ (by decide) e14 (by rw [hml]; rfl) [(.ref b11)] (lenOf own_pd16 rfl) rfl rfl (Nat.le_of_ble_eq_true rfl) (Nat.le_of_ble_eq_true rfl) (Nat.le_of_ble_eq_true rfl) (Nat.le_of_ble_eq_true rfl) at_99 (fun v15 T15 L15 X15 hQ15 => ?_)
      obtain ⟨rfl, N15q, K15, t15, kb15, bs15, lo15, Es15, Cs15, Vs15, Bs15⟩ := hQ15
      have N15 := Fr.app N13 N15q
      refine g_at 102 rfl rfl rfl ?_
      refine g_astore X15 hx hby at_102 rfl (l' := #[.val (.int pn), .val (.int p0), .val (.int p1), .val (.int pg), .val (.int p2), .val (.int p3), .val (.int (0 : Int32)), .val (.int (0 : Int32)), .val (.ref b3), .val (.ref b6), .val (.ref b11), .val (.ref b14), .unset, .unset, .unset, .unset]) rfl ?_
      refine g_iconst X15 hx hby (2 : Int32) at_104 rfl ?_
      refine g_newarray X15 hx hby hZ .char .char (.int (0 : Int32)) [(.int (0 : Int32)), (.int (0 : Int32))] rfl rfl w0_ rfl (by decide) 2 rfl (by decide) (by decide) (by decide) (by decide) at_105 (fun T19 h19 k19 b19 g19 X19 e19 E19 V19 => ?_)
      refine g_astore X19 hx hby at_107 rfl (l' := #[.val (.int pn), .val (.int p0), .val (.int p1), .val (.int pg), .val (.int p2), .val (.int p3), .val (.int (0 : Int32)), .val (.int (0 : Int32)), .val (.ref b3), .val (.ref b6), .val (.ref b11), .val (.ref b14), .val (.ref b19), .unset, .unset, .unset]) rfl ?_
      refine g_aload X19 hx hby at_109 rfl rfl ?_
      refine g_iconst X19 hx hby (0 : Int32) at_111 rfl ?_
      refine g_iload X19 hx hby at_112 rfl ?_
      refine g_sipush X19 hx hby (255 : Int32) at_114 rfl ?_
      refine g_iand X19 hx hby at_117 ?_
      refine g_i2c X19 hx hby at_118 ?_
      have g_b19 : n0 ≤ b19 := Nat.le_trans (Nat.le_trans z18 K15.1) (Nat.le_of_eq g19)
      refine g_castore X19 hx hby hZ e19 V19 0 [(.int (nar .char ((p2 &&& (255 : Int32)).toUInt32.toUInt16.toUInt32.toInt32))), (.int (0 : Int32))] rfl ⟨by decide, by decide⟩ rfl (Nat.le_of_ble_eq_true rfl) N15 g_b19 at_119 (fun T20 h20 X20 e20 W20 V20 N20 => ?_)
      refine g_aload X20 hx hby at_120 rfl rfl ?_
      refine g_iconst X20 hx hby (1 : Int32) at_122 rfl ?_
      refine g_iload X20 hx hby at_123 rfl ?_
      refine g_sipush X20 hx hby (255 : Int32) at_125 rfl ?_
      refine g_iand X20 hx hby at_128 ?_
      refine g_i2c X20 hx hby at_129 ?_
      refine g_castore X20 hx hby hZ e20 V20 1 [(.int (nar .char ((p2 &&& (255 : Int32)).toUInt32.toUInt16.toUInt32.toInt32))), (.int (nar .char ((p3 &&& (255 : Int32)).toUInt32.toUInt16.toUInt32.toInt32)))] rfl ⟨by decide, by decide⟩ rfl (Nat.le_of_ble_eq_true rfl) N20 g_b19 at_130 (fun T21 h21 X21 e21 W21 V21 N21 => ?_)
      refine g_new X21 hx hby hZ hown w1_ w2_ w3_ e21 (by decide) (by decide) at_131 (fun T22 h22 b22 g22 X22 e22 E22 A22 D22 => ?_)
      have F_coder_b22 : Fld Z h22 b22 "java/lang/String" "coder" "B" (.int (0 : Int32)) := D22 (Or.inr w27_) (ty := .byte) (by decide)
      have F_value_b22 : Fld Z h22 b22 "java/lang/String" "value" "[B" .null := D22 (Or.inr w29_) (ty := (.array .byte)) (by decide)
      refine g_dup X22 hx hby at_134 rfl ?_
      refine g_aload X22 hx hby at_135 rfl rfl ?_
      have f24 := (((((f16.keep K15 (allS g_b14 all0)).ext E19).wr W20 g_b19).wr W21 g_b19).ext E22)
      have f25 := (V21.ext E22)
      have g_b22 : n0 ≤ b22 := Nat.le_trans (Nat.le_trans z18 (Nat.le_trans (Nat.le_trans (Nat.le_trans K15.1 E19.1) (Keep.of_wr W20).1) (Keep.of_wr W21).1)) (Nat.le_of_eq g22)
      have z26 := (Nat.le_trans z18 (Nat.le_trans (Nat.le_trans (Nat.le_trans (Nat.le_trans K15.1 E19.1) (Keep.of_wr W20).1) (Keep.of_wr W21).1) E22.1))
      refine g_special X22 hx hby hZ hown (rm_ini1_2 l Z a0 hw [] b22 b19 k19 (nar .char ((p2 &&& (255 : Int32)).toUInt32.toUInt16.toUInt32.toInt32)) (nar .char ((p3 &&& (255 : Int32)).toUInt32.toUInt16.toUInt32.toInt32)) cz h22 n0 z26 O2 P5 f24 A22 F_coder_b22 F_value_b22 f25 g_b22 (own_c255 _) (own_c255 _)) rfl rfl w4_ w5_ w3_ w6_ (by decide) e22 (by rw [hml]; rfl) [(.ref b19)] (lenOf own_pd16 rfl) rfl rfl (Nat.le_of_ble_eq_true rfl) (Nat.le_of_ble_eq_true rfl) (Nat.le_of_ble_eq_true rfl) (Nat.le_of_ble_eq_true rfl) at_137 (fun v23 T23 L23 X23 hQ23 => ?_)
      obtain ⟨rfl, N23q, K23, t23, kb23, lo23, Es23, Cs23, Vs23, Bs23⟩ := hQ23
      have N23 := Fr.app N21 N23q
      refine g_at 140 rfl rfl rfl ?_
      refine g_astore X23 hx hby at_140 rfl (l' := #[.val (.int pn), .val (.int p0), .val (.int p1), .val (.int pg), .val (.int p2), .val (.int p3), .val (.int (0 : Int32)), .val (.int (0 : Int32)), .val (.ref b3), .val (.ref b6), .val (.ref b11), .val (.ref b14), .val (.ref b19), .val (.ref b22), .unset, .unset]) rfl ?_
      refine g_new X23 hx hby hZ hown w30_ w31_ w32_ rfl (by decide) (by decide) at_142 (fun T27 h27 b27 g27 X27 e27 E27 A27 D27 => ?_)
      have F_characters_b27 : Fld Z h27 b27 "com/example/invix/invix/sort/KeyBuffer" "characters" "[C" .null := D27 (Or.inl w43_) (ty := (.array .char)) (by decide)
      have F_ends_b27 : Fld Z h27 b27 "com/example/invix/invix/sort/KeyBuffer" "ends" "[I" .null := D27 (Or.inl w46_) (ty := (.array .int)) (by decide)
      have F_count_b27 : Fld Z h27 b27 "com/example/invix/invix/sort/KeyBuffer" "count" "I" (.int (0 : Int32)) := D27 (Or.inl w48_) (ty := .int) (by decide)
      refine g_dup X27 hx hby at_145 rfl ?_
      have g_b27 : n0 ≤ b27 := Nat.le_trans (Nat.le_trans z26 K23.1) (Nat.le_of_eq g27)
      have z29 := (Nat.le_trans z26 (Nat.le_trans K23.1 E27.1))
      refine g_special X27 hx hby hZ hown (rm_kini l Z a0 hw [] b27 h27 n0 z29 A27 F_characters_b27 F_ends_b27 F_count_b27 g_b27) rfl rfl w33_ w34_ w32_ w35_ (by decide) e27 (by rw [hml]; rfl) [] (lenOf own_pd17 rfl) rfl rfl (Nat.le_of_ble_eq_true rfl) (Nat.le_of_ble_eq_true rfl) (Nat.le_of_ble_eq_true rfl) (Nat.le_of_ble_eq_true rfl) at_146 (fun v28 T28 L28 X28 hQ28 => ?_)
      obtain ⟨rfl, N28q, K28, ch28, en28, kc28, ke28, lc28, le28, nce28, kE28, kC28, kN28, kK28, VC28, VE28⟩ := hQ28
      have N28 := Fr.app N23 N28q
      refine g_astore X28 hx hby at_149 rfl (l' := #[.val (.int pn), .val (.int p0), .val (.int p1), .val (.int pg), .val (.int p2), .val (.int p3), .val (.int (0 : Int32)), .val (.int (0 : Int32)), .val (.ref b3), .val (.ref b6), .val (.ref b11), .val (.ref b14), .val (.ref b19), .val (.ref b22), .val (.ref b27), .unset]) rfl ?_
      refine g_iload X28 hx hby at_151 rfl ?_
      refine g_ifY X28 hx hby 164 at_153 (teq (by decide : (0 : Int32) = (0 : Int32))).1 (by decide) (by decide) ?_
      refine g_iload X28 hx hby at_164 rfl ?_
      refine g_ifY X28 hx hby 177 at_166 (teq (by decide : (0 : Int32) = (0 : Int32))).1 (by decide) (by decide) ?_
      refine g_aload X28 hx hby at_177 rfl rfl ?_
      have f31 := (A27.keep K28)
      have z32 := (Nat.le_trans z29 K28.1)
      refine g_virtual X28 hx hby hZ hown (rm_clear l Z a0 hw [] b27 (.ref ch28) (.ref en28) (0 : Int32) T28.heap n0 z32 f31 kC28 kN28 kK28 g_b27) w115_ w38_ (notFace_of_selects (args := #[]) (mvT hZ w40_)) w40_ w39_ w32_ w41_ (by decide) rfl f31 (by rw [hml]; rfl) [] (lenOf own_pd17 rfl) rfl rfl (Nat.le_of_ble_eq_true rfl) (Nat.le_of_ble_eq_true rfl) (Nat.le_of_ble_eq_true rfl) (Nat.le_of_ble_eq_true rfl) at_179 (fun v30 T30 L30 X30 hQ30 => ?_)
      obtain ⟨rfl, N30q, K30, ch30, en30, kc30, ke30, lc30, le30, nce30, kE30, kC30, kN30, kK30, VC30, VE30⟩ := hQ30
      have N30 := Fr.app N28 N30q
      refine g_aload X30 hx hby at_182 rfl rfl ?_
      have z34 := (Nat.le_trans z32 K30.1)
      have f35 := (f31.keep K30)
      refine g_virtual X30 hx hby hZ hown (rm_ksize l Z a0 hw [] b27 (0 : Int32) T30.heap n0 z34 kK30) w116_ w117_ (notFace_of_selects (args := #[]) (mvT hZ w119_)) w119_ w118_ w32_ w120_ (by decide) rfl f35 (by rw [hml]; rfl) [] (lenOf own_pd3 rfl) rfl rfl (Nat.le_of_ble_eq_true rfl) (Nat.le_of_ble_eq_true rfl) (Nat.le_of_ble_eq_true rfl) (Nat.le_of_ble_eq_true rfl) at_184 (fun v33 T33 L33 X33 hQ33 => ?_)
      obtain ⟨rfl, N33q, eh33⟩ := hQ33
      have N33 := Fr.app N30 N33q
      refine g_ifY X33 hx hby 192 at_187 (teq (by decide : (0 : Int32) = (0 : Int32))).1 (by decide) (by decide) ?_
      refine g_aload X33 hx hby at_192 rfl rfl ?_
      refine g_virtual X33 hx hby hZ hown (rm_memory l Z a0 hw [] b27 ch30 en30 kc30 ke30 (1024 : Int32) (List.replicate 1024 (.int (0 : Int32))) (List.replicate 128 (.int (0 : Int32))) T30.heap n0 z34 kC30 kN30 VC30 VE30) w121_ w122_ (notFace_of_selects (args := #[]) (mvT hZ w124_)) w124_ w123_ w32_ w125_ (by decide) eh33 f35 (by rw [hml]; rfl) [] (lenOf own_pd18 rfl) rfl rfl (Nat.le_of_ble_eq_true rfl) (Nat.le_of_ble_eq_true rfl) (Nat.le_of_ble_eq_true rfl) (Nat.le_of_ble_eq_true rfl) at_194 (fun v36 T36 L36 X36 hQ36 => ?_)
      obtain ⟨rfl, N36q, eh36⟩ := hQ36
      have N36 := Fr.app N33 N36q
      refine g_topJ (T := T36) (2560 : Int64) (by decide) ?_
      refine g_ldc2J X36 hx hby hZ hown w128_ at_197 ?_
      refine g_lcmp X36 hx hby at_200 ?_
      refine g_ifY X36 hx hby 206 at_201 (teq ((lw_eq (2560 : Int64) (2560 : Int64)).mpr (by decide : (2560 : Int64) = (2560 : Int64)))).1 (by decide) (by decide) ?_
      refine g_aload X36 hx hby at_206 rfl rfl ?_
      refine g_aload X36 hx hby at_208 rfl rfl ?_
      have f38 := ((((f24.keep K23 (allS g_b22 all0)).ext E27).keep K28 (allS g_b27 all0)).keep K30 (allS g_b27 all0))
      have f39 := (((Es23.ext E27).keep K28).keep K30)
      have ne40 : b22 ≠ b27 := (Nat.ne_of_lt (Nat.lt_of_lt_of_le A22.lt (Nat.le_trans K23.1 (Nat.le_of_eq g27))))
      have f41 := (((Cs23.ext E27).keep K28 (ninS ne40 nin0)).keep K30 (ninS ne40 nin0))
      have f42 := (((Vs23.ext E27).keep K28 (ninS ne40 nin0)).keep K30 (ninS ne40 nin0))
      have ne43 : t23 ≠ b27 := (Nat.ne_of_lt (Nat.lt_of_lt_of_le Bs23.lt (Nat.le_of_eq g27)))
      have f44 := (((Bs23.ext E27).keep K28 (ninS ne43 nin0)).keep K30 (ninS ne43 nin0))
      have g_ch30 : n0 ≤ ch30 := Nat.le_trans z32 lc30
      have ne45 : t23 ≠ ch30 := (Nat.ne_of_lt (Nat.lt_of_lt_of_le Bs23.lt (Nat.le_trans (Nat.le_trans E27.1 K28.1) lc30)))
      have g_en30 : n0 ≤ en30 := Nat.le_trans z32 le30
      refine g_virtual X36 hx hby hZ hown (rm_addU l Z a0 hw [] b27 en30 ke30 (List.replicate 128 (.int (0 : Int32))) b22 t23 kb23 ch30 kc30 (List.replicate 1024 (.int (0 : Int32))) (nar .char ((p2 &&& (255 : Int32)).toUInt32.toUInt16.toUInt32.toInt32)) (nar .char ((p3 &&& (255 : Int32)).toUInt32.toUInt16.toUInt32.toInt32)) cz fz T30.heap n0 z34 O2 P5 f38 rfz O4 f39 f41 f42 f44 VC30 (by rw [List.length_replicate]; decide) g_ch30 ne45 (own_cr _) (own_cr _) f35 kC30 kN30 kK30 VE30 (by rw [List.length_replicate]; exact Nat.le_refl _) g_b27 g_en30 nce30) w49_ w50_ (notFace_of_selects (args := #[]) (mvT hZ w52_)) w52_ w51_ w32_ w53_ (by decide) eh36 f35 (by rw [hml]; rfl) [(.ref b22)] (lenOf own_pd19 rfl) rfl rfl (Nat.le_of_ble_eq_true rfl) (Nat.le_of_ble_eq_true rfl) (Nat.le_of_ble_eq_true rfl) (Nat.le_of_ble_eq_true rfl) at_210 (fun v37 T37 L37 X37 hQ37 => ?_)
      obtain ⟨rfl, N37q, K37, kE37, kC37, kN37, kK37, VC37, VE37⟩ := hQ37
      have N37 := Fr.app N36 N37q
      refine g_istore X37 hx hby at_213 (l' := #[.val (.int pn), .val (.int p0), .val (.int p1), .val (.int pg), .val (.int p2), .val (.int p3), .val (.int (0 : Int32)), .val (.int (0 : Int32)), .val (.ref b3), .val (.ref b6), .val (.ref b11), .val (.ref b14), .val (.ref b19), .val (.ref b22), .val (.ref b27), .val (.int (0 : Int32))]) rfl ?_
      refine g_iload X37 hx hby at_215 rfl ?_
      refine g_ifY X37 hx hby 222 at_217 (teq (by decide : (0 : Int32) = (0 : Int32))).1 (by decide) (by decide) ?_
      refine g_aload X37 hx hby at_222 rfl rfl ?_
      have z47 := (Nat.le_trans z34 K37.1)
      have f48 := (f35.keep K37)
      refine g_virtual X37 hx hby hZ hown (rm_ksize l Z a0 hw [] b27 (1 : Int32) T37.heap n0 z47 kK37) w116_ w117_ (notFace_of_selects (args := #[]) (mvT hZ w119_)) w119_ w118_ w32_ w120_ (by decide) rfl f48 (by rw [hml]; rfl) [] (lenOf own_pd3 rfl) rfl rfl (Nat.le_of_ble_eq_true rfl) (Nat.le_of_ble_eq_true rfl) (Nat.le_of_ble_eq_true rfl) (Nat.le_of_ble_eq_true rfl) at_224 (fun v46 T46 L46 X46 hQ46 => ?_)
      obtain ⟨rfl, N46q, eh46⟩ := hQ46
      have N46 := Fr.app N37 N46q
      refine g_iconst X46 hx hby (1 : Int32) at_227 rfl ?_
      refine g_icY X46 hx hby 233 at_228 (teq (by decide : (1 : Int32) = (1 : Int32))).1 (by decide) (by decide) ?_
      refine g_aload X46 hx hby at_233 rfl rfl ?_
      refine g_iconst X46 hx hby (0 : Int32) at_235 rfl ?_
      have f50 := (f38.keep K37 (allS g_b27 (allS g_ch30 (allS g_en30 all0))))
      refine g_virtual X46 hx hby hZ hown (rm_keyK l Z a0 hw [] b27 en30 ke30 ((List.replicate 128 (.int (0 : Int32))).set 0 (.int (2 : Int32))) ch30 kc30 (((List.replicate 1024 (.int (0 : Int32))).set 0 (.int (nar .char ((p2 &&& (255 : Int32)).toUInt32.toUInt16.toUInt32.toInt32)))).set 1 (.int (nar .char ((p3 &&& (255 : Int32)).toUInt32.toUInt16.toUInt32.toInt32)))) (nar .char ((p2 &&& (255 : Int32)).toUInt32.toUInt16.toUInt32.toInt32)) (nar .char ((p3 &&& (255 : Int32)).toUInt32.toUInt16.toUInt32.toInt32)) cz fz T37.heap n0 z47 O2 P5 f50 rfz O4 f48 kC37 kN37 VE37 (own_setD (by rw [List.length_replicate]; decide)) VC37 (own_s20 (by rw [List.length_replicate]; decide)) (own_s21 (by rw [List.length_replicate]; decide)) (own_c255 _) (own_c255 _)) w129_ w130_ (notFace_of_selects (args := #[]) (mvT hZ w132_)) w132_ w131_ w32_ w133_ (by decide) eh46 f48 (by rw [hml]; rfl) [(.int (0 : Int32))] (lenOf own_pd20 rfl) rfl rfl (Nat.le_of_ble_eq_true rfl) (Nat.le_of_ble_eq_true rfl) (Nat.le_of_ble_eq_true rfl) (Nat.le_of_ble_eq_true rfl) at_236 (fun v49 T49 L49 X49 hQ49 => ?_)
      obtain ⟨N49q, K49, s49, t49, kb49, rfl, ls49, lo49, Es49, Cs49, Vs49, Bs49⟩ := hQ49
      have N49 := Fr.app N46 N49q
      refine g_aload X49 hx hby at_239 rfl rfl ?_
      have f52 := (f50.keep K49 all0)
      have f53 := ((f39.keep K37).keep K49)
      have ne54 : b22 ≠ en30 := (Nat.ne_of_lt (Nat.lt_of_lt_of_le A22.lt (Nat.le_trans (Nat.le_trans (Nat.le_trans K23.1 E27.1) K28.1) le30)))
      have ne55 : b22 ≠ ch30 := (Nat.ne_of_lt (Nat.lt_of_lt_of_le A22.lt (Nat.le_trans (Nat.le_trans (Nat.le_trans K23.1 E27.1) K28.1) lc30)))
      have f56 := ((f41.keep K37 (ninS ne40 (ninS ne55 (ninS ne54 nin0)))).keep K49 nin0)
      have f57 := ((f42.keep K37 (ninS ne40 (ninS ne55 (ninS ne54 nin0)))).keep K49 nin0)
      have ne58 : t23 ≠ en30 := (Nat.ne_of_lt (Nat.lt_of_lt_of_le Bs23.lt (Nat.le_trans (Nat.le_trans E27.1 K28.1) le30)))
      have f59 := ((f44.keep K37 (ninS ne43 (ninS ne45 (ninS ne58 nin0)))).keep K49 nin0)
      have ne60 : s49 ≠ b22 := (Ne.symm (Nat.ne_of_lt (Nat.lt_of_lt_of_le A22.lt (Nat.le_trans (Nat.le_trans (Nat.le_trans (Nat.le_trans (Nat.le_trans K23.1 E27.1) K28.1) K30.1) K37.1) ls49))))
      have z61 := (Nat.le_trans z47 K49.1)
      refine g_virtual X49 hx hby hZ hown (rm_streq_2 l Z a0 hw [] s49 b22 t49 kb49 t23 kb23 (nar .byte ((nar .char ((p2 &&& (255 : Int32)).toUInt32.toUInt16.toUInt32.toInt32)).toInt8.toInt32)) (nar .byte ((nar .char ((p3 &&& (255 : Int32)).toUInt32.toUInt16.toUInt32.toInt32)).toInt8.toInt32)) (nar .byte ((nar .char ((p2 &&& (255 : Int32)).toUInt32.toUInt16.toUInt32.toInt32)).toInt8.toInt32)) (nar .byte ((nar .char ((p3 &&& (255 : Int32)).toUInt32.toUInt16.toUInt32.toInt32)).toInt8.toInt32)) cz T49.heap n0 z61 O2 P5 f52 Es49 Cs49 Vs49 f53 f56 f57 Bs49 f59 ne60) w141_ w142_ (notFace_of_selects (args := #[]) (mvT hZ w144_)) w144_ w143_ w3_ w145_ (by decide) rfl Es49 (by rw [hml]; rfl) [(.ref b22)] (lenOf own_pd22 rfl) rfl rfl (Nat.le_of_ble_eq_true rfl) (Nat.le_of_ble_eq_true rfl) (Nat.le_of_ble_eq_true rfl) (Nat.le_of_ble_eq_true rfl) at_241 (fun v51 T51 L51 X51 hQ51 => ?_)
      obtain ⟨rfl, N51q, eh51⟩ := hQ51
      have N51 := Fr.app N49 N51q
      refine g_topI (T := T51) (1 : Int32) (by simp) ?_
      refine g_ifN X51 hx hby at_244 (feq (by decide : ¬ ((1 : Int32) = (0 : Int32)))).1 ?_
      refine g_aload X51 hx hby at_247 rfl rfl ?_
      have f63 := (kC37.keep K49 nin0)
      have f64 := (kN37.keep K49 nin0)
      have f65 := (VC37.keep K49 nin0)
      have f66 := (VE37.keep K49 nin0)
      have f67 := (f48.keep K49)
      refine g_virtual X51 hx hby hZ hown (rm_memory l Z a0 hw [] b27 ch30 en30 kc30 ke30 (1024 : Int32) (((List.replicate 1024 (.int (0 : Int32))).set 0 (.int (nar .char ((p2 &&& (255 : Int32)).toUInt32.toUInt16.toUInt32.toInt32)))).set 1 (.int (nar .char ((p3 &&& (255 : Int32)).toUInt32.toUInt16.toUInt32.toInt32)))) ((List.replicate 128 (.int (0 : Int32))).set 0 (.int (2 : Int32))) T49.heap n0 z61 f63 f64 f65 f66) w121_ w122_ (notFace_of_selects (args := #[]) (mvT hZ w124_)) w124_ w123_ w32_ w125_ (by decide) eh51 f67 (by rw [hml]; rfl) [] (lenOf own_pd18 rfl) rfl rfl (Nat.le_of_ble_eq_true rfl) (Nat.le_of_ble_eq_true rfl) (Nat.le_of_ble_eq_true rfl) (Nat.le_of_ble_eq_true rfl) at_249 (fun v62 T62 L62 X62 hQ62 => ?_)
      obtain ⟨rfl, N62q, eh62⟩ := hQ62
      have N62 := Fr.app N51 N62q
      refine g_topJ (T := T62) (2560 : Int64) (by decide) ?_
      refine g_ldc2J X62 hx hby hZ hown w128_ at_252 ?_
      refine g_lcmp X62 hx hby at_255 ?_
      refine g_at 256 rfl rfl rfl ?_
      refine g_ifN X62 hx hby at_256 (teq ((lw_eq (2560 : Int64) (2560 : Int64)).mpr (by decide : (2560 : Int64) = (2560 : Int64)))).2 ?_
      refine g_iconst X62 hx hby (1 : Int32) at_259 rfl ?_
      refine g_goto X62 hx hby 264 at_260 (by decide) (by decide) ?_
      refine g_nret X62 hx hby (t := .boolean) (by simp) Bd.returns Bd.notSynchronized at_264 eh62 (by decide) (by decide) ?_
      show (Q_law Z pn p0 p1 pg p2 p3 fz cz h0 n0) (some (.int (1 : Int32))) _ _
      exact ⟨rfl, N62⟩
    · skip
      refine g_ifN X0 hx hby at_16 (feq hc16_2).1 ?_
      refine g_iconst X0 hx hby (1 : Int32) at_19 rfl ?_
      refine g_goto X0 hx hby 24 at_20 (by decide) (by decide) ?_
      refine g_istore X0 hx hby at_24 (l' := #[.val (.int pn), .val (.int p0), .val (.int p1), .val (.int pg), .val (.int p2), .val (.int p3), .val (.int (0 : Int32)), .val (.int (1 : Int32)), .unset, .unset, .unset, .unset, .unset, .unset, .unset, .unset]) rfl ?_
      refine g_iconst X0 hx hby (2 : Int32) at_26 rfl ?_
      refine g_newarray X0 hx hby hZ .char .char (.int (0 : Int32)) [(.int (0 : Int32)), (.int (0 : Int32))] rfl rfl w0_ e0 (by decide) 2 rfl (by decide) (by decide) (by decide) (by decide) at_27 (fun T68 h68 k68 b68 g68 X68 e68 E68 V68 => ?_)
      refine g_astore X68 hx hby at_29 rfl (l' := #[.val (.int pn), .val (.int p0), .val (.int p1), .val (.int pg), .val (.int p2), .val (.int p3), .val (.int (0 : Int32)), .val (.int (1 : Int32)), .val (.ref b68), .unset, .unset, .unset, .unset, .unset, .unset, .unset]) rfl ?_
      refine g_aload X68 hx hby at_31 rfl rfl ?_
      refine g_iconst X68 hx hby (0 : Int32) at_33 rfl ?_
      refine g_iloadN X68 hx hby at_34 rfl ?_
      refine g_sipush X68 hx hby (255 : Int32) at_35 rfl ?_
      refine g_iand X68 hx hby at_38 ?_
      refine g_i2c X68 hx hby at_39 ?_
      have g_b68 : n0 ≤ b68 := Nat.le_trans Z0 (Nat.le_of_eq g68)
      refine g_castore X68 hx hby hZ e68 V68 0 [(.int (nar .char ((p0 &&& (255 : Int32)).toUInt32.toUInt16.toUInt32.toInt32))), (.int (0 : Int32))] rfl ⟨by decide, by decide⟩ rfl (Nat.le_of_ble_eq_true rfl) N0 g_b68 at_40 (fun T69 h69 X69 e69 W69 V69 N69 => ?_)
      refine g_aload X69 hx hby at_41 rfl rfl ?_
      refine g_iconst X69 hx hby (1 : Int32) at_43 rfl ?_
      refine g_iloadN X69 hx hby at_44 rfl ?_
      refine g_sipush X69 hx hby (255 : Int32) at_45 rfl ?_
      refine g_iand X69 hx hby at_48 ?_
      refine g_i2c X69 hx hby at_49 ?_
      refine g_castore X69 hx hby hZ e69 V69 1 [(.int (nar .char ((p0 &&& (255 : Int32)).toUInt32.toUInt16.toUInt32.toInt32))), (.int (nar .char ((p1 &&& (255 : Int32)).toUInt32.toUInt16.toUInt32.toInt32)))] rfl ⟨by decide, by decide⟩ rfl (Nat.le_of_ble_eq_true rfl) N69 g_b68 at_50 (fun T70 h70 X70 e70 W70 V70 N70 => ?_)
      refine g_new X70 hx hby hZ hown w1_ w2_ w3_ e70 (by decide) (by decide) at_51 (fun T71 h71 b71 g71 X71 e71 E71 A71 D71 => ?_)
      have F_coder_b71 : Fld Z h71 b71 "java/lang/String" "coder" "B" (.int (0 : Int32)) := D71 (Or.inr w27_) (ty := .byte) (by decide)
      have F_value_b71 : Fld Z h71 b71 "java/lang/String" "value" "[B" .null := D71 (Or.inr w29_) (ty := (.array .byte)) (by decide)
      refine g_dup X71 hx hby at_54 rfl ?_
      refine g_aload X71 hx hby at_55 rfl rfl ?_
      have f73 := ((((OLD.ext E68).wr W69 g_b68).wr W70 g_b68).ext E71)
      have f74 := (V70.ext E71)
      have g_b71 : n0 ≤ b71 := Nat.le_trans (Nat.le_trans Z0 (Nat.le_trans (Nat.le_trans E68.1 (Keep.of_wr W69).1) (Keep.of_wr W70).1)) (Nat.le_of_eq g71)
      have z75 := (Nat.le_trans Z0 (Nat.le_trans (Nat.le_trans (Nat.le_trans E68.1 (Keep.of_wr W69).1) (Keep.of_wr W70).1) E71.1))
      refine g_special X71 hx hby hZ hown (rm_ini1_2 l Z a0 hw [] b71 b68 k68 (nar .char ((p0 &&& (255 : Int32)).toUInt32.toUInt16.toUInt32.toInt32)) (nar .char ((p1 &&& (255 : Int32)).toUInt32.toUInt16.toUInt32.toInt32)) cz h71 n0 z75 O2 P5 f73 A71 F_coder_b71 F_value_b71 f74 g_b71 (own_c255 _) (own_c255 _)) rfl rfl w4_ w5_ w3_ w6_ (by decide) e71 (by rw [hml]; rfl) [(.ref b68)] (lenOf own_pd16 rfl) rfl rfl (Nat.le_of_ble_eq_true rfl) (Nat.le_of_ble_eq_true rfl) (Nat.le_of_ble_eq_true rfl) (Nat.le_of_ble_eq_true rfl) at_57 (fun v72 T72 L72 X72 hQ72 => ?_)
      obtain ⟨rfl, N72q, K72, t72, kb72, lo72, Es72, Cs72, Vs72, Bs72⟩ := hQ72
      have N72 := Fr.app N70 N72q
      refine g_at 60 rfl rfl rfl ?_
      refine g_astore X72 hx hby at_60 rfl (l' := #[.val (.int pn), .val (.int p0), .val (.int p1), .val (.int pg), .val (.int p2), .val (.int p3), .val (.int (0 : Int32)), .val (.int (1 : Int32)), .val (.ref b68), .val (.ref b71), .unset, .unset, .unset, .unset, .unset, .unset]) rfl ?_
      refine g_sipush X72 hx hby (1025 : Int32) at_62 rfl ?_
      refine g_newarray X72 hx hby hZ .char .char (.int (0 : Int32)) (List.replicate 1025 (.int (0 : Int32))) rfl rfl w0_ rfl (by decide) 1025 rfl (by decide) (by decide) (by decide) (by decide) at_65 (fun T76 h76 k76 b76 g76 X76 e76 E76 V76 => ?_)
      refine g_astore X76 hx hby at_67 rfl (l' := #[.val (.int pn), .val (.int p0), .val (.int p1), .val (.int pg), .val (.int p2), .val (.int p3), .val (.int (0 : Int32)), .val (.int (1 : Int32)), .val (.ref b68), .val (.ref b71), .val (.ref b76), .unset, .unset, .unset, .unset, .unset]) rfl ?_
      refine g_aload X76 hx hby at_69 rfl rfl ?_
      refine g_iconst X76 hx hby (0 : Int32) at_71 rfl ?_
      refine g_iload X76 hx hby at_72 rfl ?_
      refine g_sipush X76 hx hby (255 : Int32) at_74 rfl ?_
      refine g_iand X76 hx hby at_77 ?_
      refine g_i2c X76 hx hby at_78 ?_
      have g_b76 : n0 ≤ b76 := Nat.le_trans (Nat.le_trans z75 K72.1) (Nat.le_of_eq g76)
      refine g_castore X76 hx hby hZ e76 V76 0 ((List.replicate 1025 (.int (0 : Int32))).set 0 (.int (nar .char ((p2 &&& (255 : Int32)).toUInt32.toUInt16.toUInt32.toInt32)))) rfl ⟨by decide, by decide⟩ rfl (by rw [List.length_replicate]; decide) N72 g_b76 at_79 (fun T77 h77 X77 e77 W77 V77 N77 => ?_)
      refine g_aload X77 hx hby at_80 rfl rfl ?_
      refine g_sipush X77 hx hby (1024 : Int32) at_82 rfl ?_
      refine g_iload X77 hx hby at_85 rfl ?_
      refine g_sipush X77 hx hby (255 : Int32) at_87 rfl ?_
      refine g_iand X77 hx hby at_90 ?_
      refine g_i2c X77 hx hby at_91 ?_
      refine g_castore X77 hx hby hZ e77 V77 1024 (((List.replicate 1025 (.int (0 : Int32))).set 0 (.int (nar .char ((p2 &&& (255 : Int32)).toUInt32.toUInt16.toUInt32.toInt32)))).set 1024 (.int (nar .char ((p3 &&& (255 : Int32)).toUInt32.toUInt16.toUInt32.toInt32)))) rfl ⟨by decide, by decide⟩ rfl (by rw [List.length_set, List.length_replicate]; decide) N77 g_b76 at_92 (fun T78 h78 X78 e78 W78 V78 N78 => ?_)
      refine g_new X78 hx hby hZ hown w1_ w2_ w3_ e78 (by decide) (by decide) at_93 (fun T79 h79 b79 g79 X79 e79 E79 A79 D79 => ?_)
      have F_coder_b79 : Fld Z h79 b79 "java/lang/String" "coder" "B" (.int (0 : Int32)) := D79 (Or.inr w27_) (ty := .byte) (by decide)
      have F_value_b79 : Fld Z h79 b79 "java/lang/String" "value" "[B" .null := D79 (Or.inr w29_) (ty := (.array .byte)) (by decide)
      refine g_dup X79 hx hby at_96 rfl ?_
      refine g_aload X79 hx hby at_97 rfl rfl ?_
      have f81 := (((((f73.keep K72 (allS g_b71 all0)).ext E76).wr W77 g_b76).wr W78 g_b76).ext E79)
      have g_b79 : n0 ≤ b79 := Nat.le_trans (Nat.le_trans z75 (Nat.le_trans (Nat.le_trans (Nat.le_trans K72.1 E76.1) (Keep.of_wr W77).1) (Keep.of_wr W78).1)) (Nat.le_of_eq g79)
      have f82 := (V78.ext E79)
      have z83 := (Nat.le_trans z75 (Nat.le_trans (Nat.le_trans (Nat.le_trans (Nat.le_trans K72.1 E76.1) (Keep.of_wr W77).1) (Keep.of_wr W78).1) E79.1))
      refine g_special X79 hx hby hZ hown (rm_iniN1_1025 l Z a0 hw [] b79 b76 k76 (((List.replicate 1025 (.int (0 : Int32))).set 0 (.int (nar .char ((p2 &&& (255 : Int32)).toUInt32.toUInt16.toUInt32.toInt32)))).set 1024 (.int (nar .char ((p3 &&& (255 : Int32)).toUInt32.toUInt16.toUInt32.toInt32)))) cz h79 n0 z83 O2 P5 f81 A79 F_coder_b79 F_value_b79 g_b79 f82 (own_big (own_c255 _) (own_c255 _))) rfl rfl w4_ w5_ w3_ w6_ (by decide) e79 (by rw [hml]; rfl) [(.ref b76)] (lenOf own_pd16 rfl) rfl rfl (Nat.le_of_ble_eq_true rfl) (Nat.le_of_ble_eq_true rfl) (Nat.le_of_ble_eq_true rfl) (Nat.le_of_ble_eq_true rfl) at_99 (fun v80 T80 L80 X80 hQ80 => ?_)
      obtain ⟨rfl, N80q, K80, t80, kb80, bs80, lo80, Es80, Cs80, Vs80, Bs80⟩ := hQ80
      have N80 := Fr.app N78 N80q
      refine g_at 102 rfl rfl rfl ?_
      refine g_astore X80 hx hby at_102 rfl (l' := #[.val (.int pn), .val (.int p0), .val (.int p1), .val (.int pg), .val (.int p2), .val (.int p3), .val (.int (0 : Int32)), .val (.int (1 : Int32)), .val (.ref b68), .val (.ref b71), .val (.ref b76), .val (.ref b79), .unset, .unset, .unset, .unset]) rfl ?_
      refine g_iconst X80 hx hby (2 : Int32) at_104 rfl ?_
      refine g_newarray X80 hx hby hZ .char .char (.int (0 : Int32)) [(.int (0 : Int32)), (.int (0 : Int32))] rfl rfl w0_ rfl (by decide) 2 rfl (by decide) (by decide) (by decide) (by decide) at_105 (fun T84 h84 k84 b84 g84 X84 e84 E84 V84 => ?_)
      refine g_astore X84 hx hby at_107 rfl (l' := #[.val (.int pn), .val (.int p0), .val (.int p1), .val (.int pg), .val (.int p2), .val (.int p3), .val (.int (0 : Int32)), .val (.int (1 : Int32)), .val (.ref b68), .val (.ref b71), .val (.ref b76), .val (.ref b79), .val (.ref b84), .unset, .unset, .unset]) rfl ?_
      refine g_aload X84 hx hby at_109 rfl rfl ?_
      refine g_iconst X84 hx hby (0 : Int32) at_111 rfl ?_
      refine g_iload X84 hx hby at_112 rfl ?_
      refine g_sipush X84 hx hby (255 : Int32) at_114 rfl ?_
      refine g_iand X84 hx hby at_117 ?_
      refine g_i2c X84 hx hby at_118 ?_
      have g_b84 : n0 ≤ b84 := Nat.le_trans (Nat.le_trans z83 K80.1) (Nat.le_of_eq g84)
      refine g_castore X84 hx hby hZ e84 V84 0 [(.int (nar .char ((p2 &&& (255 : Int32)).toUInt32.toUInt16.toUInt32.toInt32))), (.int (0 : Int32))] rfl ⟨by decide, by decide⟩ rfl (Nat.le_of_ble_eq_true rfl) N80 g_b84 at_119 (fun T85 h85 X85 e85 W85 V85 N85 => ?_)
      refine g_aload X85 hx hby at_120 rfl rfl ?_
      refine g_iconst X85 hx hby (1 : Int32) at_122 rfl ?_
      refine g_iload X85 hx hby at_123 rfl ?_
      refine g_sipush X85 hx hby (255 : Int32) at_125 rfl ?_
      refine g_iand X85 hx hby at_128 ?_
      refine g_i2c X85 hx hby at_129 ?_
      refine g_castore X85 hx hby hZ e85 V85 1 [(.int (nar .char ((p2 &&& (255 : Int32)).toUInt32.toUInt16.toUInt32.toInt32))), (.int (nar .char ((p3 &&& (255 : Int32)).toUInt32.toUInt16.toUInt32.toInt32)))] rfl ⟨by decide, by decide⟩ rfl (Nat.le_of_ble_eq_true rfl) N85 g_b84 at_130 (fun T86 h86 X86 e86 W86 V86 N86 => ?_)
      refine g_new X86 hx hby hZ hown w1_ w2_ w3_ e86 (by decide) (by decide) at_131 (fun T87 h87 b87 g87 X87 e87 E87 A87 D87 => ?_)
      have F_coder_b87 : Fld Z h87 b87 "java/lang/String" "coder" "B" (.int (0 : Int32)) := D87 (Or.inr w27_) (ty := .byte) (by decide)
      have F_value_b87 : Fld Z h87 b87 "java/lang/String" "value" "[B" .null := D87 (Or.inr w29_) (ty := (.array .byte)) (by decide)
      refine g_dup X87 hx hby at_134 rfl ?_
      refine g_aload X87 hx hby at_135 rfl rfl ?_
      have f89 := (((((f81.keep K80 (allS g_b79 all0)).ext E84).wr W85 g_b84).wr W86 g_b84).ext E87)
      have f90 := (V86.ext E87)
      have g_b87 : n0 ≤ b87 := Nat.le_trans (Nat.le_trans z83 (Nat.le_trans (Nat.le_trans (Nat.le_trans K80.1 E84.1) (Keep.of_wr W85).1) (Keep.of_wr W86).1)) (Nat.le_of_eq g87)
      have z91 := (Nat.le_trans z83 (Nat.le_trans (Nat.le_trans (Nat.le_trans (Nat.le_trans K80.1 E84.1) (Keep.of_wr W85).1) (Keep.of_wr W86).1) E87.1))
      refine g_special X87 hx hby hZ hown (rm_ini1_2 l Z a0 hw [] b87 b84 k84 (nar .char ((p2 &&& (255 : Int32)).toUInt32.toUInt16.toUInt32.toInt32)) (nar .char ((p3 &&& (255 : Int32)).toUInt32.toUInt16.toUInt32.toInt32)) cz h87 n0 z91 O2 P5 f89 A87 F_coder_b87 F_value_b87 f90 g_b87 (own_c255 _) (own_c255 _)) rfl rfl w4_ w5_ w3_ w6_ (by decide) e87 (by rw [hml]; rfl) [(.ref b84)] (lenOf own_pd16 rfl) rfl rfl (Nat.le_of_ble_eq_true rfl) (Nat.le_of_ble_eq_true rfl) (Nat.le_of_ble_eq_true rfl) (Nat.le_of_ble_eq_true rfl) at_137 (fun v88 T88 L88 X88 hQ88 => ?_)
      obtain ⟨rfl, N88q, K88, t88, kb88, lo88, Es88, Cs88, Vs88, Bs88⟩ := hQ88
      have N88 := Fr.app N86 N88q
      refine g_at 140 rfl rfl rfl ?_
      refine g_astore X88 hx hby at_140 rfl (l' := #[.val (.int pn), .val (.int p0), .val (.int p1), .val (.int pg), .val (.int p2), .val (.int p3), .val (.int (0 : Int32)), .val (.int (1 : Int32)), .val (.ref b68), .val (.ref b71), .val (.ref b76), .val (.ref b79), .val (.ref b84), .val (.ref b87), .unset, .unset]) rfl ?_
      refine g_new X88 hx hby hZ hown w30_ w31_ w32_ rfl (by decide) (by decide) at_142 (fun T92 h92 b92 g92 X92 e92 E92 A92 D92 => ?_)
      have F_characters_b92 : Fld Z h92 b92 "com/example/invix/invix/sort/KeyBuffer" "characters" "[C" .null := D92 (Or.inl w43_) (ty := (.array .char)) (by decide)
      have F_ends_b92 : Fld Z h92 b92 "com/example/invix/invix/sort/KeyBuffer" "ends" "[I" .null := D92 (Or.inl w46_) (ty := (.array .int)) (by decide)
      have F_count_b92 : Fld Z h92 b92 "com/example/invix/invix/sort/KeyBuffer" "count" "I" (.int (0 : Int32)) := D92 (Or.inl w48_) (ty := .int) (by decide)
      refine g_dup X92 hx hby at_145 rfl ?_
      have g_b92 : n0 ≤ b92 := Nat.le_trans (Nat.le_trans z91 K88.1) (Nat.le_of_eq g92)
      have z94 := (Nat.le_trans z91 (Nat.le_trans K88.1 E92.1))
      refine g_special X92 hx hby hZ hown (rm_kini l Z a0 hw [] b92 h92 n0 z94 A92 F_characters_b92 F_ends_b92 F_count_b92 g_b92) rfl rfl w33_ w34_ w32_ w35_ (by decide) e92 (by rw [hml]; rfl) [] (lenOf own_pd17 rfl) rfl rfl (Nat.le_of_ble_eq_true rfl) (Nat.le_of_ble_eq_true rfl) (Nat.le_of_ble_eq_true rfl) (Nat.le_of_ble_eq_true rfl) at_146 (fun v93 T93 L93 X93 hQ93 => ?_)
      obtain ⟨rfl, N93q, K93, ch93, en93, kc93, ke93, lc93, le93, nce93, kE93, kC93, kN93, kK93, VC93, VE93⟩ := hQ93
      have N93 := Fr.app N88 N93q
      refine g_astore X93 hx hby at_149 rfl (l' := #[.val (.int pn), .val (.int p0), .val (.int p1), .val (.int pg), .val (.int p2), .val (.int p3), .val (.int (0 : Int32)), .val (.int (1 : Int32)), .val (.ref b68), .val (.ref b71), .val (.ref b76), .val (.ref b79), .val (.ref b84), .val (.ref b87), .val (.ref b92), .unset]) rfl ?_
      refine g_iload X93 hx hby at_151 rfl ?_
      refine g_ifY X93 hx hby 164 at_153 (teq (by decide : (0 : Int32) = (0 : Int32))).1 (by decide) (by decide) ?_
      refine g_iload X93 hx hby at_164 rfl ?_
      refine g_ifN X93 hx hby at_166 (feq (by decide : ¬ ((1 : Int32) = (0 : Int32)))).1 ?_
      refine g_aload X93 hx hby at_169 rfl rfl ?_
      refine g_aload X93 hx hby at_171 rfl rfl ?_
      have f96 := (((f89.keep K88 (allS g_b87 all0)).ext E92).keep K93 (allS g_b92 all0))
      have f97 := (A92.keep K93)
      have g_ch93 : n0 ≤ ch93 := Nat.le_trans z94 lc93
      have g_en93 : n0 ≤ en93 := Nat.le_trans z94 le93
      have ne98 : t80 ≠ ch93 := (Nat.ne_of_lt (Nat.lt_of_lt_of_le Bs80.lt (Nat.le_trans (Nat.le_trans (Nat.le_trans (Nat.le_trans (Nat.le_trans (Nat.le_trans E84.1 (Keep.of_wr W85).1) (Keep.of_wr W86).1) E87.1) K88.1) E92.1) lc93)))
      have f99 := ((((((((A79.keep K80).ext E84).wr W85).wr W86).ext E87).keep K88).ext E92).keep K93)
      have ne100 : b79 ≠ b84 := (Nat.ne_of_lt (Nat.lt_of_lt_of_le A79.lt (Nat.le_trans K80.1 (Nat.le_of_eq g84))))
      have ne101 : b79 ≠ b87 := (Nat.ne_of_lt (Nat.lt_of_lt_of_le A79.lt (Nat.le_trans (Nat.le_trans (Nat.le_trans (Nat.le_trans K80.1 E84.1) (Keep.of_wr W85).1) (Keep.of_wr W86).1) (Nat.le_of_eq g87))))
      have ne102 : b79 ≠ b92 := (Nat.ne_of_lt (Nat.lt_of_lt_of_le A79.lt (Nat.le_trans (Nat.le_trans (Nat.le_trans (Nat.le_trans (Nat.le_trans (Nat.le_trans K80.1 E84.1) (Keep.of_wr W85).1) (Keep.of_wr W86).1) E87.1) K88.1) (Nat.le_of_eq g92))))
      have f103 := (((((((Cs80.ext E84).other W85 (Or.inl ne100)).other W86 (Or.inl ne100)).ext E87).keep K88 (ninS ne101 nin0)).ext E92).keep K93 (ninS ne102 nin0))
      have f104 := (((((((Vs80.ext E84).other W85 (Or.inl ne100)).other W86 (Or.inl ne100)).ext E87).keep K88 (ninS ne101 nin0)).ext E92).keep K93 (ninS ne102 nin0))
      have ne105 : t80 ≠ b84 := (Nat.ne_of_lt (Nat.lt_of_lt_of_le Bs80.lt (Nat.le_of_eq g84)))
      have ne106 : t80 ≠ b87 := (Nat.ne_of_lt (Nat.lt_of_lt_of_le Bs80.lt (Nat.le_trans (Nat.le_trans (Nat.le_trans E84.1 (Keep.of_wr W85).1) (Keep.of_wr W86).1) (Nat.le_of_eq g87))))
      have ne107 : t80 ≠ b92 := (Nat.ne_of_lt (Nat.lt_of_lt_of_le Bs80.lt (Nat.le_trans (Nat.le_trans (Nat.le_trans (Nat.le_trans (Nat.le_trans E84.1 (Keep.of_wr W85).1) (Keep.of_wr W86).1) E87.1) K88.1) (Nat.le_of_eq g92))))
      have f108 := (((((((Bs80.ext E84).other W85 ne105).other W86 ne105).ext E87).keep K88 (ninS ne106 nin0)).ext E92).keep K93 (ninS ne107 nin0))
      have z109 := (Nat.le_trans z94 K93.1)
      have ne110 : t72 ≠ ch93 := (Nat.ne_of_lt (Nat.lt_of_lt_of_le Bs72.lt (Nat.le_trans (Nat.le_trans (Nat.le_trans (Nat.le_trans (Nat.le_trans (Nat.le_trans (Nat.le_trans (Nat.le_trans (Nat.le_trans (Nat.le_trans (Nat.le_trans E76.1 (Keep.of_wr W77).1) (Keep.of_wr W78).1) E79.1) K80.1) E84.1) (Keep.of_wr W85).1) (Keep.of_wr W86).1) E87.1) K88.1) E92.1) lc93)))
      have ne111 : t72 ≠ b76 := (Nat.ne_of_lt (Nat.lt_of_lt_of_le Bs72.lt (Nat.le_of_eq g76)))
      have ne112 : t72 ≠ b79 := (Nat.ne_of_lt (Nat.lt_of_lt_of_le Bs72.lt (Nat.le_trans (Nat.le_trans (Nat.le_trans E76.1 (Keep.of_wr W77).1) (Keep.of_wr W78).1) (Nat.le_of_eq g79))))
      have ne113 : t72 ≠ b84 := (Nat.ne_of_lt (Nat.lt_of_lt_of_le Bs72.lt (Nat.le_trans (Nat.le_trans (Nat.le_trans (Nat.le_trans (Nat.le_trans E76.1 (Keep.of_wr W77).1) (Keep.of_wr W78).1) E79.1) K80.1) (Nat.le_of_eq g84))))
      have ne114 : t72 ≠ b87 := (Nat.ne_of_lt (Nat.lt_of_lt_of_le Bs72.lt (Nat.le_trans (Nat.le_trans (Nat.le_trans (Nat.le_trans (Nat.le_trans (Nat.le_trans (Nat.le_trans (Nat.le_trans E76.1 (Keep.of_wr W77).1) (Keep.of_wr W78).1) E79.1) K80.1) E84.1) (Keep.of_wr W85).1) (Keep.of_wr W86).1) (Nat.le_of_eq g87))))
      have ne115 : t72 ≠ b92 := (Nat.ne_of_lt (Nat.lt_of_lt_of_le Bs72.lt (Nat.le_trans (Nat.le_trans (Nat.le_trans (Nat.le_trans (Nat.le_trans (Nat.le_trans (Nat.le_trans (Nat.le_trans (Nat.le_trans (Nat.le_trans E76.1 (Keep.of_wr W77).1) (Keep.of_wr W78).1) E79.1) K80.1) E84.1) (Keep.of_wr W85).1) (Keep.of_wr W86).1) E87.1) K88.1) (Nat.le_of_eq g92))))
      have f116 := ((((((((((((Bs72.ext E76).other W77 ne111).other W78 ne111).ext E79).keep K80 (ninS ne112 nin0)).ext E84).other W85 ne113).other W86 ne113).ext E87).keep K88 (ninS ne114 nin0)).ext E92).keep K93 (ninS ne115 nin0))
      have ne117 : t88 ≠ ch93 := (Nat.ne_of_lt (Nat.lt_of_lt_of_le Bs88.lt (Nat.le_trans E92.1 lc93)))
      have ne118 : t88 ≠ b92 := (Nat.ne_of_lt (Nat.lt_of_lt_of_le Bs88.lt (Nat.le_of_eq g92)))
      have f119 := ((Bs88.ext E92).keep K93 (ninS ne118 nin0))
      refine g_virtual X93 hx hby hZ hown (rm_kadd_0 l Z a0 hw [] b92 ch93 en93 kc93 ke93 (1024 : Int32) (List.replicate 1024 (.int (0 : Int32))) (List.replicate 128 (.int (0 : Int32))) (0 : Int32) (1025 : Int32) b79 t80 kb80 (1025 : Int32) bs80 cz fz T93.heap n0 z109 O2 P5 f96 rfz O4 f97 kC93 kN93 kK93 VC93 (by rw [List.length_replicate]; exact Nat.le_of_ble_eq_true rfl) VE93 (by rw [List.length_replicate]; exact Nat.le_refl _) rfl (by decide) g_b92 g_ch93 g_en93 nce93 ne98 (by decide) (by decide) (by decide) (by decide) (by decide) (by decide) f99 f103 f104 f108) w49_ w50_ (notFace_of_selects (args := #[]) (mvT hZ w52_)) w52_ w51_ w32_ w53_ (by decide) rfl f97 (by rw [hml]; rfl) [(.ref b79)] (lenOf own_pd19 rfl) rfl rfl (Nat.le_of_ble_eq_true rfl) (Nat.le_of_ble_eq_true rfl) (Nat.le_of_ble_eq_true rfl) (Nat.le_of_ble_eq_true rfl) at_173 (fun v95 T95 L95 X95 hQ95 => ?_)
      obtain ⟨rfl, N95q, K95, ch95, kc95, vc95, ve95, hch95, kE95, kC95, kN95, kK95, VC95, hl95, VE95, hve95, hv95⟩ := hQ95
      have N95 := Fr.app N93 N95q
      have nt95_t72 : t72 ≠ ch95 := own_nech ne110 f116.lt hch95
      have nt95_t80 : t80 ≠ ch95 := own_nech ne98 f108.lt hch95
      have nt95_t88 : t88 ≠ ch95 := own_nech ne117 f119.lt hch95
      have nn95 : en93 ≠ ch95 := own_nech (Ne.symm nce93) VE93.lt hch95
      have lo95 := own_loch g_ch93 z109 hch95
      have cb95 := own_growb (cap := (1024 : Int32)) (e := (1025 : Int32)) (B := 2100) (by decide) (by decide) (by decide) (by decide)
      refine g_pop X95 hx hby at_176 rfl ?_
      refine g_aload X95 hx hby at_177 rfl rfl ?_
      have f121 := (f97.keep K95)
      have z122 := (Nat.le_trans z109 K95.1)
      refine g_virtual X95 hx hby hZ hown (rm_clear l Z a0 hw [] b92 (.ref ch95) (.ref en93) (1 : Int32) T95.heap n0 z122 f121 kC95 kN95 kK95 g_b92) w115_ w38_ (notFace_of_selects (args := #[]) (mvT hZ w40_)) w40_ w39_ w32_ w41_ (by decide) rfl f121 (by rw [hml]; rfl) [] (lenOf own_pd17 rfl) rfl rfl (Nat.le_of_ble_eq_true rfl) (Nat.le_of_ble_eq_true rfl) (Nat.le_of_ble_eq_true rfl) (Nat.le_of_ble_eq_true rfl) at_179 (fun v120 T120 L120 X120 hQ120 => ?_)
      obtain ⟨rfl, N120q, K120, ch120, en120, kc120, ke120, lc120, le120, nce120, kE120, kC120, kN120, kK120, VC120, VE120⟩ := hQ120
      have N120 := Fr.app N95 N120q
      refine g_aload X120 hx hby at_182 rfl rfl ?_
      have z124 := (Nat.le_trans z122 K120.1)
      have f125 := (f121.keep K120)
      refine g_virtual X120 hx hby hZ hown (rm_ksize l Z a0 hw [] b92 (0 : Int32) T120.heap n0 z124 kK120) w116_ w117_ (notFace_of_selects (args := #[]) (mvT hZ w119_)) w119_ w118_ w32_ w120_ (by decide) rfl f125 (by rw [hml]; rfl) [] (lenOf own_pd3 rfl) rfl rfl (Nat.le_of_ble_eq_true rfl) (Nat.le_of_ble_eq_true rfl) (Nat.le_of_ble_eq_true rfl) (Nat.le_of_ble_eq_true rfl) at_184 (fun v123 T123 L123 X123 hQ123 => ?_)
      obtain ⟨rfl, N123q, eh123⟩ := hQ123
      have N123 := Fr.app N120 N123q
      refine g_at 187 rfl rfl rfl ?_
      refine g_ifY X123 hx hby 192 at_187 (teq (by decide : (0 : Int32) = (0 : Int32))).1 (by decide) (by decide) ?_
      refine g_aload X123 hx hby at_192 rfl rfl ?_
      refine g_virtual X123 hx hby hZ hown (rm_memory l Z a0 hw [] b92 ch120 en120 kc120 ke120 (1024 : Int32) (List.replicate 1024 (.int (0 : Int32))) (List.replicate 128 (.int (0 : Int32))) T120.heap n0 z124 kC120 kN120 VC120 VE120) w121_ w122_ (notFace_of_selects (args := #[]) (mvT hZ w124_)) w124_ w123_ w32_ w125_ (by decide) eh123 f125 (by rw [hml]; rfl) [] (lenOf own_pd18 rfl) rfl rfl (Nat.le_of_ble_eq_true rfl) (Nat.le_of_ble_eq_true rfl) (Nat.le_of_ble_eq_true rfl) (Nat.le_of_ble_eq_true rfl) at_194 (fun v126 T126 L126 X126 hQ126 => ?_)
      obtain ⟨rfl, N126q, eh126⟩ := hQ126
      have N126 := Fr.app N123 N126q
      refine g_topJ (T := T126) (2560 : Int64) (by decide) ?_
      refine g_ldc2J X126 hx hby hZ hown w128_ at_197 ?_
      refine g_lcmp X126 hx hby at_200 ?_
      refine g_ifY X126 hx hby 206 at_201 (teq ((lw_eq (2560 : Int64) (2560 : Int64)).mpr (by decide : (2560 : Int64) = (2560 : Int64)))).1 (by decide) (by decide) ?_
      refine g_aload X126 hx hby at_206 rfl rfl ?_
      refine g_aload X126 hx hby at_208 rfl rfl ?_
      have f128 := ((f96.keep K95 (allS g_b92 (allS g_ch93 (allS g_en93 all0)))).keep K120 (allS g_b92 all0))
      have f129 := ((((Es88.ext E92).keep K93).keep K95).keep K120)
      have ne130 : b87 ≠ b92 := (Nat.ne_of_lt (Nat.lt_of_lt_of_le A87.lt (Nat.le_trans K88.1 (Nat.le_of_eq g92))))
      have ne131 : b87 ≠ en93 := (Nat.ne_of_lt (Nat.lt_of_lt_of_le A87.lt (Nat.le_trans (Nat.le_trans K88.1 E92.1) le93)))
      have ne132 : b87 ≠ ch93 := (Nat.ne_of_lt (Nat.lt_of_lt_of_le A87.lt (Nat.le_trans (Nat.le_trans K88.1 E92.1) lc93)))
      have f133 := ((((Cs88.ext E92).keep K93 (ninS ne130 nin0)).keep K95 (ninS ne130 (ninS ne132 (ninS ne131 nin0)))).keep K120 (ninS ne130 nin0))
      have f134 := ((((Vs88.ext E92).keep K93 (ninS ne130 nin0)).keep K95 (ninS ne130 (ninS ne132 (ninS ne131 nin0)))).keep K120 (ninS ne130 nin0))
      have ne135 : t88 ≠ en93 := (Nat.ne_of_lt (Nat.lt_of_lt_of_le Bs88.lt (Nat.le_trans E92.1 le93)))
      have f136 := ((f119.keep K95 (ninS ne118 (ninS ne117 (ninS ne135 nin0)))).keep K120 (ninS ne118 nin0))
      have g_ch120 : n0 ≤ ch120 := Nat.le_trans z122 lc120
      have ne137 : t88 ≠ ch120 := (Nat.ne_of_lt (Nat.lt_of_lt_of_le Bs88.lt (Nat.le_trans (Nat.le_trans (Nat.le_trans E92.1 K93.1) K95.1) lc120)))
      have g_en120 : n0 ≤ en120 := Nat.le_trans z122 le120
      refine g_virtual X126 hx hby hZ hown (rm_addU l Z a0 hw [] b92 en120 ke120 (List.replicate 128 (.int (0 : Int32))) b87 t88 kb88 ch120 kc120 (List.replicate 1024 (.int (0 : Int32))) (nar .char ((p2 &&& (255 : Int32)).toUInt32.toUInt16.toUInt32.toInt32)) (nar .char ((p3 &&& (255 : Int32)).toUInt32.toUInt16.toUInt32.toInt32)) cz fz T120.heap n0 z124 O2 P5 f128 rfz O4 f129 f133 f134 f136 VC120 (by rw [List.length_replicate]; decide) g_ch120 ne137 (own_cr _) (own_cr _) f125 kC120 kN120 kK120 VE120 (by rw [List.length_replicate]; exact Nat.le_refl _) g_b92 g_en120 nce120) w49_ w50_ (notFace_of_selects (args := #[]) (mvT hZ w52_)) w52_ w51_ w32_ w53_ (by decide) eh126 f125 (by rw [hml]; rfl) [(.ref b87)] (lenOf own_pd19 rfl) rfl rfl (Nat.le_of_ble_eq_true rfl) (Nat.le_of_ble_eq_true rfl) (Nat.le_of_ble_eq_true rfl) (Nat.le_of_ble_eq_true rfl) at_210 (fun v127 T127 L127 X127 hQ127 => ?_)
      obtain ⟨rfl, N127q, K127, kE127, kC127, kN127, kK127, VC127, VE127⟩ := hQ127
      have N127 := Fr.app N126 N127q
      refine g_istore X127 hx hby at_213 (l' := #[.val (.int pn), .val (.int p0), .val (.int p1), .val (.int pg), .val (.int p2), .val (.int p3), .val (.int (0 : Int32)), .val (.int (1 : Int32)), .val (.ref b68), .val (.ref b71), .val (.ref b76), .val (.ref b79), .val (.ref b84), .val (.ref b87), .val (.ref b92), .val (.int (0 : Int32))]) rfl ?_
      refine g_iload X127 hx hby at_215 rfl ?_
      refine g_ifY X127 hx hby 222 at_217 (teq (by decide : (0 : Int32) = (0 : Int32))).1 (by decide) (by decide) ?_
      refine g_aload X127 hx hby at_222 rfl rfl ?_
      have z139 := (Nat.le_trans z124 K127.1)
      have f140 := (f125.keep K127)
      refine g_virtual X127 hx hby hZ hown (rm_ksize l Z a0 hw [] b92 (1 : Int32) T127.heap n0 z139 kK127) w116_ w117_ (notFace_of_selects (args := #[]) (mvT hZ w119_)) w119_ w118_ w32_ w120_ (by decide) rfl f140 (by rw [hml]; rfl) [] (lenOf own_pd3 rfl) rfl rfl (Nat.le_of_ble_eq_true rfl) (Nat.le_of_ble_eq_true rfl) (Nat.le_of_ble_eq_true rfl) (Nat.le_of_ble_eq_true rfl) at_224 (fun v138 T138 L138 X138 hQ138 => ?_)
      obtain ⟨rfl, N138q, eh138⟩ := hQ138
      have N138 := Fr.app N127 N138q
      refine g_iconst X138 hx hby (1 : Int32) at_227 rfl ?_
      refine g_icY X138 hx hby 233 at_228 (teq (by decide : (1 : Int32) = (1 : Int32))).1 (by decide) (by decide) ?_
      refine g_aload X138 hx hby at_233 rfl rfl ?_
      refine g_iconst X138 hx hby (0 : Int32) at_235 rfl ?_
      have f142 := (f128.keep K127 (allS g_b92 (allS g_ch120 (allS g_en120 all0))))
      refine g_virtual X138 hx hby hZ hown (rm_keyK l Z a0 hw [] b92 en120 ke120 ((List.replicate 128 (.int (0 : Int32))).set 0 (.int (2 : Int32))) ch120 kc120 (((List.replicate 1024 (.int (0 : Int32))).set 0 (.int (nar .char ((p2 &&& (255 : Int32)).toUInt32.toUInt16.toUInt32.toInt32)))).set 1 (.int (nar .char ((p3 &&& (255 : Int32)).toUInt32.toUInt16.toUInt32.toInt32)))) (nar .char ((p2 &&& (255 : Int32)).toUInt32.toUInt16.toUInt32.toInt32)) (nar .char ((p3 &&& (255 : Int32)).toUInt32.toUInt16.toUInt32.toInt32)) cz fz T127.heap n0 z139 O2 P5 f142 rfz O4 f140 kC127 kN127 VE127 (own_setD (by rw [List.length_replicate]; decide)) VC127 (own_s20 (by rw [List.length_replicate]; decide)) (own_s21 (by rw [List.length_replicate]; decide)) (own_c255 _) (own_c255 _)) w129_ w130_ (notFace_of_selects (args := #[]) (mvT hZ w132_)) w132_ w131_ w32_ w133_ (by decide) eh138 f140 (by rw [hml]; rfl) [(.int (0 : Int32))] (lenOf own_pd20 rfl) rfl rfl (Nat.le_of_ble_eq_true rfl) (Nat.le_of_ble_eq_true rfl) (Nat.le_of_ble_eq_true rfl) (Nat.le_of_ble_eq_true rfl) at_236 (fun v141 T141 L141 X141 hQ141 => ?_)
      obtain ⟨N141q, K141, s141, t141, kb141, rfl, ls141, lo141, Es141, Cs141, Vs141, Bs141⟩ := hQ141
      have N141 := Fr.app N138 N141q
      refine g_aload X141 hx hby at_239 rfl rfl ?_
      have f144 := (f142.keep K141 all0)
      have f145 := ((f129.keep K127).keep K141)
      have ne146 : b87 ≠ en120 := (Nat.ne_of_lt (Nat.lt_of_lt_of_le A87.lt (Nat.le_trans (Nat.le_trans (Nat.le_trans (Nat.le_trans K88.1 E92.1) K93.1) K95.1) le120)))
      have ne147 : b87 ≠ ch120 := (Nat.ne_of_lt (Nat.lt_of_lt_of_le A87.lt (Nat.le_trans (Nat.le_trans (Nat.le_trans (Nat.le_trans K88.1 E92.1) K93.1) K95.1) lc120)))
      have f148 := ((f133.keep K127 (ninS ne130 (ninS ne147 (ninS ne146 nin0)))).keep K141 nin0)
      have f149 := ((f134.keep K127 (ninS ne130 (ninS ne147 (ninS ne146 nin0)))).keep K141 nin0)
      have ne150 : t88 ≠ en120 := (Nat.ne_of_lt (Nat.lt_of_lt_of_le Bs88.lt (Nat.le_trans (Nat.le_trans (Nat.le_trans E92.1 K93.1) K95.1) le120)))
      have f151 := ((f136.keep K127 (ninS ne118 (ninS ne137 (ninS ne150 nin0)))).keep K141 nin0)
      have ne152 : s141 ≠ b87 := (Ne.symm (Nat.ne_of_lt (Nat.lt_of_lt_of_le A87.lt (Nat.le_trans (Nat.le_trans (Nat.le_trans (Nat.le_trans (Nat.le_trans (Nat.le_trans K88.1 E92.1) K93.1) K95.1) K120.1) K127.1) ls141))))
      have z153 := (Nat.le_trans z139 K141.1)
      refine g_virtual X141 hx hby hZ hown (rm_streq_2 l Z a0 hw [] s141 b87 t141 kb141 t88 kb88 (nar .byte ((nar .char ((p2 &&& (255 : Int32)).toUInt32.toUInt16.toUInt32.toInt32)).toInt8.toInt32)) (nar .byte ((nar .char ((p3 &&& (255 : Int32)).toUInt32.toUInt16.toUInt32.toInt32)).toInt8.toInt32)) (nar .byte ((nar .char ((p2 &&& (255 : Int32)).toUInt32.toUInt16.toUInt32.toInt32)).toInt8.toInt32)) (nar .byte ((nar .char ((p3 &&& (255 : Int32)).toUInt32.toUInt16.toUInt32.toInt32)).toInt8.toInt32)) cz T141.heap n0 z153 O2 P5 f144 Es141 Cs141 Vs141 f145 f148 f149 Bs141 f151 ne152) w141_ w142_ (notFace_of_selects (args := #[]) (mvT hZ w144_)) w144_ w143_ w3_ w145_ (by decide) rfl Es141 (by rw [hml]; rfl) [(.ref b87)] (lenOf own_pd22 rfl) rfl rfl (Nat.le_of_ble_eq_true rfl) (Nat.le_of_ble_eq_true rfl) (Nat.le_of_ble_eq_true rfl) (Nat.le_of_ble_eq_true rfl) at_241 (fun v143 T143 L143 X143 hQ143 => ?_)
      obtain ⟨rfl, N143q, eh143⟩ := hQ143
      have N143 := Fr.app N141 N143q
      refine g_topI (T := T143) (1 : Int32) (by simp) ?_
      refine g_ifN X143 hx hby at_244 (feq (by decide : ¬ ((1 : Int32) = (0 : Int32)))).1 ?_
      refine g_aload X143 hx hby at_247 rfl rfl ?_
      have f155 := (kC127.keep K141 nin0)
      have f156 := (kN127.keep K141 nin0)
      have f157 := (VC127.keep K141 nin0)
      have f158 := (VE127.keep K141 nin0)
      have f159 := (f140.keep K141)
      refine g_virtual X143 hx hby hZ hown (rm_memory l Z a0 hw [] b92 ch120 en120 kc120 ke120 (1024 : Int32) (((List.replicate 1024 (.int (0 : Int32))).set 0 (.int (nar .char ((p2 &&& (255 : Int32)).toUInt32.toUInt16.toUInt32.toInt32)))).set 1 (.int (nar .char ((p3 &&& (255 : Int32)).toUInt32.toUInt16.toUInt32.toInt32)))) ((List.replicate 128 (.int (0 : Int32))).set 0 (.int (2 : Int32))) T141.heap n0 z153 f155 f156 f157 f158) w121_ w122_ (notFace_of_selects (args := #[]) (mvT hZ w124_)) w124_ w123_ w32_ w125_ (by decide) eh143 f159 (by rw [hml]; rfl) [] (lenOf own_pd18 rfl) rfl rfl (Nat.le_of_ble_eq_true rfl) (Nat.le_of_ble_eq_true rfl) (Nat.le_of_ble_eq_true rfl) (Nat.le_of_ble_eq_true rfl) at_249 (fun v154 T154 L154 X154 hQ154 => ?_)
      obtain ⟨rfl, N154q, eh154⟩ := hQ154
      have N154 := Fr.app N143 N154q
      refine g_topJ (T := T154) (2560 : Int64) (by decide) ?_
      refine g_ldc2J X154 hx hby hZ hown w128_ at_252 ?_
      refine g_lcmp X154 hx hby at_255 ?_
      refine g_at 256 rfl rfl rfl ?_
      refine g_ifN X154 hx hby at_256 (teq ((lw_eq (2560 : Int64) (2560 : Int64)).mpr (by decide : (2560 : Int64) = (2560 : Int64)))).2 ?_
      refine g_iconst X154 hx hby (1 : Int32) at_259 rfl ?_
      refine g_goto X154 hx hby 264 at_260 (by decide) (by decide) ?_
      refine g_nret X154 hx hby (t := .boolean) (by simp) Bd.returns Bd.notSynchronized at_264 eh154 (by decide) (by decide) ?_
      show (Q_law Z pn p0 p1 pg p2 p3 fz cz h0 n0) (some (.int (1 : Int32))) _ _
      exact ⟨rfl, N154⟩
  · skip
    refine g_ifN X0 hx hby at_3 (feq hc3_1).1 ?_
    refine g_iconst X0 hx hby (1 : Int32) at_6 rfl ?_
    refine g_goto X0 hx hby 11 at_7 (by decide) (by decide) ?_
    refine g_istore X0 hx hby at_11 (l' := #[.val (.int pn), .val (.int p0), .val (.int p1), .val (.int pg), .val (.int p2), .val (.int p3), .val (.int (1 : Int32)), .unset, .unset, .unset, .unset, .unset, .unset, .unset, .unset, .unset]) rfl ?_
    refine g_iloadN X0 hx hby at_13 rfl ?_
    refine g_iconst X0 hx hby (1 : Int32) at_14 rfl ?_
    refine g_iand X0 hx hby at_15 ?_
    by_cases hc16_160 : (pg &&& (1 : Int32)) = (0 : Int32)
    · skip
      refine g_ifY X0 hx hby 23 at_16 (teq hc16_160).1 (by decide) (by decide) ?_
      refine g_iconst X0 hx hby (0 : Int32) at_23 rfl ?_
      refine g_istore X0 hx hby at_24 (l' := #[.val (.int pn), .val (.int p0), .val (.int p1), .val (.int pg), .val (.int p2), .val (.int p3), .val (.int (1 : Int32)), .val (.int (0 : Int32)), .unset, .unset, .unset, .unset, .unset, .unset, .unset, .unset]) rfl ?_
      refine g_iconst X0 hx hby (2 : Int32) at_26 rfl ?_
      refine g_newarray X0 hx hby hZ .char .char (.int (0 : Int32)) [(.int (0 : Int32)), (.int (0 : Int32))] rfl rfl w0_ e0 (by decide) 2 rfl (by decide) (by decide) (by decide) (by decide) at_27 (fun T161 h161 k161 b161 g161 X161 e161 E161 V161 => ?_)
      refine g_astore X161 hx hby at_29 rfl (l' := #[.val (.int pn), .val (.int p0), .val (.int p1), .val (.int pg), .val (.int p2), .val (.int p3), .val (.int (1 : Int32)), .val (.int (0 : Int32)), .val (.ref b161), .unset, .unset, .unset, .unset, .unset, .unset, .unset]) rfl ?_
      refine g_aload X161 hx hby at_31 rfl rfl ?_
      refine g_iconst X161 hx hby (0 : Int32) at_33 rfl ?_
      refine g_iloadN X161 hx hby at_34 rfl ?_
      refine g_sipush X161 hx hby (255 : Int32) at_35 rfl ?_
      refine g_iand X161 hx hby at_38 ?_
      refine g_i2c X161 hx hby at_39 ?_
      have g_b161 : n0 ≤ b161 := Nat.le_trans Z0 (Nat.le_of_eq g161)
      refine g_castore X161 hx hby hZ e161 V161 0 [(.int (nar .char ((p0 &&& (255 : Int32)).toUInt32.toUInt16.toUInt32.toInt32))), (.int (0 : Int32))] rfl ⟨by decide, by decide⟩ rfl (Nat.le_of_ble_eq_true rfl) N0 g_b161 at_40 (fun T162 h162 X162 e162 W162 V162 N162 => ?_)
      refine g_aload X162 hx hby at_41 rfl rfl ?_
      refine g_iconst X162 hx hby (1 : Int32) at_43 rfl ?_
      refine g_iloadN X162 hx hby at_44 rfl ?_
      refine g_sipush X162 hx hby (255 : Int32) at_45 rfl ?_
      refine g_iand X162 hx hby at_48 ?_
      refine g_i2c X162 hx hby at_49 ?_
      refine g_castore X162 hx hby hZ e162 V162 1 [(.int (nar .char ((p0 &&& (255 : Int32)).toUInt32.toUInt16.toUInt32.toInt32))), (.int (nar .char ((p1 &&& (255 : Int32)).toUInt32.toUInt16.toUInt32.toInt32)))] rfl ⟨by decide, by decide⟩ rfl (Nat.le_of_ble_eq_true rfl) N162 g_b161 at_50 (fun T163 h163 X163 e163 W163 V163 N163 => ?_)
      refine g_new X163 hx hby hZ hown w1_ w2_ w3_ e163 (by decide) (by decide) at_51 (fun T164 h164 b164 g164 X164 e164 E164 A164 D164 => ?_)
      have F_coder_b164 : Fld Z h164 b164 "java/lang/String" "coder" "B" (.int (0 : Int32)) := D164 (Or.inr w27_) (ty := .byte) (by decide)
      have F_value_b164 : Fld Z h164 b164 "java/lang/String" "value" "[B" .null := D164 (Or.inr w29_) (ty := (.array .byte)) (by decide)
      refine g_dup X164 hx hby at_54 rfl ?_
      refine g_aload X164 hx hby at_55 rfl rfl ?_
      have f166 := ((((OLD.ext E161).wr W162 g_b161).wr W163 g_b161).ext E164)
      have f167 := (V163.ext E164)
      have g_b164 : n0 ≤ b164 := Nat.le_trans (Nat.le_trans Z0 (Nat.le_trans (Nat.le_trans E161.1 (Keep.of_wr W162).1) (Keep.of_wr W163).1)) (Nat.le_of_eq g164)
      have z168 := (Nat.le_trans Z0 (Nat.le_trans (Nat.le_trans (Nat.le_trans E161.1 (Keep.of_wr W162).1) (Keep.of_wr W163).1) E164.1))
      refine g_special X164 hx hby hZ hown (rm_ini1_2 l Z a0 hw [] b164 b161 k161 (nar .char ((p0 &&& (255 : Int32)).toUInt32.toUInt16.toUInt32.toInt32)) (nar .char ((p1 &&& (255 : Int32)).toUInt32.toUInt16.toUInt32.toInt32)) cz h164 n0 z168 O2 P5 f166 A164 F_coder_b164 F_value_b164 f167 g_b164 (own_c255 _) (own_c255 _)) rfl rfl w4_ w5_ w3_ w6_ (by decide) e164 (by rw [hml]; rfl) [(.ref b161)] (lenOf own_pd16 rfl) rfl rfl (Nat.le_of_ble_eq_true rfl) (Nat.le_of_ble_eq_true rfl) (Nat.le_of_ble_eq_true rfl) (Nat.le_of_ble_eq_true rfl) at_57 (fun v165 T165 L165 X165 hQ165 => ?_)
      obtain ⟨rfl, N165q, K165, t165, kb165, lo165, Es165, Cs165, Vs165, Bs165⟩ := hQ165
      have N165 := Fr.app N163 N165q
      refine g_at 60 rfl rfl rfl ?_
      refine g_astore X165 hx hby at_60 rfl (l' := #[.val (.int pn), .val (.int p0), .val (.int p1), .val (.int pg), .val (.int p2), .val (.int p3), .val (.int (1 : Int32)), .val (.int (0 : Int32)), .val (.ref b161), .val (.ref b164), .unset, .unset, .unset, .unset, .unset, .unset]) rfl ?_
      refine g_sipush X165 hx hby (1025 : Int32) at_62 rfl ?_
      refine g_newarray X165 hx hby hZ .char .char (.int (0 : Int32)) (List.replicate 1025 (.int (0 : Int32))) rfl rfl w0_ rfl (by decide) 1025 rfl (by decide) (by decide) (by decide) (by decide) at_65 (fun T169 h169 k169 b169 g169 X169 e169 E169 V169 => ?_)
      refine g_astore X169 hx hby at_67 rfl (l' := #[.val (.int pn), .val (.int p0), .val (.int p1), .val (.int pg), .val (.int p2), .val (.int p3), .val (.int (1 : Int32)), .val (.int (0 : Int32)), .val (.ref b161), .val (.ref b164), .val (.ref b169), .unset, .unset, .unset, .unset, .unset]) rfl ?_
      refine g_aload X169 hx hby at_69 rfl rfl ?_
      refine g_iconst X169 hx hby (0 : Int32) at_71 rfl ?_
      refine g_iload X169 hx hby at_72 rfl ?_
      refine g_sipush X169 hx hby (255 : Int32) at_74 rfl ?_
      refine g_iand X169 hx hby at_77 ?_
      refine g_i2c X169 hx hby at_78 ?_
      have g_b169 : n0 ≤ b169 := Nat.le_trans (Nat.le_trans z168 K165.1) (Nat.le_of_eq g169)
      refine g_castore X169 hx hby hZ e169 V169 0 ((List.replicate 1025 (.int (0 : Int32))).set 0 (.int (nar .char ((p2 &&& (255 : Int32)).toUInt32.toUInt16.toUInt32.toInt32)))) rfl ⟨by decide, by decide⟩ rfl (by rw [List.length_replicate]; decide) N165 g_b169 at_79 (fun T170 h170 X170 e170 W170 V170 N170 => ?_)
      refine g_aload X170 hx hby at_80 rfl rfl ?_
      refine g_sipush X170 hx hby (1024 : Int32) at_82 rfl ?_
      refine g_iload X170 hx hby at_85 rfl ?_
      refine g_sipush X170 hx hby (255 : Int32) at_87 rfl ?_
      refine g_iand X170 hx hby at_90 ?_
      refine g_i2c X170 hx hby at_91 ?_
      refine g_castore X170 hx hby hZ e170 V170 1024 (((List.replicate 1025 (.int (0 : Int32))).set 0 (.int (nar .char ((p2 &&& (255 : Int32)).toUInt32.toUInt16.toUInt32.toInt32)))).set 1024 (.int (nar .char ((p3 &&& (255 : Int32)).toUInt32.toUInt16.toUInt32.toInt32)))) rfl ⟨by decide, by decide⟩ rfl (by rw [List.length_set, List.length_replicate]; decide) N170 g_b169 at_92 (fun T171 h171 X171 e171 W171 V171 N171 => ?_)
      refine g_new X171 hx hby hZ hown w1_ w2_ w3_ e171 (by decide) (by decide) at_93 (fun T172 h172 b172 g172 X172 e172 E172 A172 D172 => ?_)
      have F_coder_b172 : Fld Z h172 b172 "java/lang/String" "coder" "B" (.int (0 : Int32)) := D172 (Or.inr w27_) (ty := .byte) (by decide)
      have F_value_b172 : Fld Z h172 b172 "java/lang/String" "value" "[B" .null := D172 (Or.inr w29_) (ty := (.array .byte)) (by decide)
      refine g_dup X172 hx hby at_96 rfl ?_
      refine g_aload X172 hx hby at_97 rfl rfl ?_
      have f174 := (((((f166.keep K165 (allS g_b164 all0)).ext E169).wr W170 g_b169).wr W171 g_b169).ext E172)
      have g_b172 : n0 ≤ b172 := Nat.le_trans (Nat.le_trans z168 (Nat.le_trans (Nat.le_trans (Nat.le_trans K165.1 E169.1) (Keep.of_wr W170).1) (Keep.of_wr W171).1)) (Nat.le_of_eq g172)
      have f175 := (V171.ext E172)
      have z176 := (Nat.le_trans z168 (Nat.le_trans (Nat.le_trans (Nat.le_trans (Nat.le_trans K165.1 E169.1) (Keep.of_wr W170).1) (Keep.of_wr W171).1) E172.1))
      refine g_special X172 hx hby hZ hown (rm_iniN1_1025 l Z a0 hw [] b172 b169 k169 (((List.replicate 1025 (.int (0 : Int32))).set 0 (.int (nar .char ((p2 &&& (255 : Int32)).toUInt32.toUInt16.toUInt32.toInt32)))).set 1024 (.int (nar .char ((p3 &&& (255 : Int32)).toUInt32.toUInt16.toUInt32.toInt32)))) cz h172 n0 z176 O2 P5 f174 A172 F_coder_b172 F_value_b172 g_b172 f175 (own_big (own_c255 _) (own_c255 _))) rfl rfl w4_ w5_ w3_ w6_ (by decide) e172 (by rw [hml]; rfl) [(.ref b169)] (lenOf own_pd16 rfl) rfl rfl (Nat.le_of_ble_eq_true rfl) (Nat.le_of_ble_eq_true rfl) (Nat.le_of_ble_eq_true rfl) (Nat.le_of_ble_eq_true rfl) at_99 (fun v173 T173 L173 X173 hQ173 => ?_)
      obtain ⟨rfl, N173q, K173, t173, kb173, bs173, lo173, Es173, Cs173, Vs173, Bs173⟩ := hQ173
      have N173 := Fr.app N171 N173q
      refine g_at 102 rfl rfl rfl ?_
      refine g_astore X173 hx hby at_102 rfl (l' := #[.val (.int pn), .val (.int p0), .val (.int p1), .val (.int pg), .val (.int p2), .val (.int p3), .val (.int (1 : Int32)), .val (.int (0 : Int32)), .val (.ref b161), .val (.ref b164), .val (.ref b169), .val (.ref b172), .unset, .unset, .unset, .unset]) rfl ?_
      refine g_iconst X173 hx hby (2 : Int32) at_104 rfl ?_
      refine g_newarray X173 hx hby hZ .char .char (.int (0 : Int32)) [(.int (0 : Int32)), (.int (0 : Int32))] rfl rfl w0_ rfl (by decide) 2 rfl (by decide) (by decide) (by decide) (by decide) at_105 (fun T177 h177 k177 b177 g177 X177 e177 E177 V177 => ?_)
      refine g_astore X177 hx hby at_107 rfl (l' := #[.val (.int pn), .val (.int p0), .val (.int p1), .val (.int pg), .val (.int p2), .val (.int p3), .val (.int (1 : Int32)), .val (.int (0 : Int32)), .val (.ref b161), .val (.ref b164), .val (.ref b169), .val (.ref b172), .val (.ref b177), .unset, .unset, .unset]) rfl ?_
      refine g_aload X177 hx hby at_109 rfl rfl ?_
      refine g_iconst X177 hx hby (0 : Int32) at_111 rfl ?_
      refine g_iload X177 hx hby at_112 rfl ?_
      refine g_sipush X177 hx hby (255 : Int32) at_114 rfl ?_
      refine g_iand X177 hx hby at_117 ?_
      refine g_i2c X177 hx hby at_118 ?_
      have g_b177 : n0 ≤ b177 := Nat.le_trans (Nat.le_trans z176 K173.1) (Nat.le_of_eq g177)
      refine g_castore X177 hx hby hZ e177 V177 0 [(.int (nar .char ((p2 &&& (255 : Int32)).toUInt32.toUInt16.toUInt32.toInt32))), (.int (0 : Int32))] rfl ⟨by decide, by decide⟩ rfl (Nat.le_of_ble_eq_true rfl) N173 g_b177 at_119 (fun T178 h178 X178 e178 W178 V178 N178 => ?_)
      refine g_aload X178 hx hby at_120 rfl rfl ?_
      refine g_iconst X178 hx hby (1 : Int32) at_122 rfl ?_
      refine g_iload X178 hx hby at_123 rfl ?_
      refine g_sipush X178 hx hby (255 : Int32) at_125 rfl ?_
      refine g_iand X178 hx hby at_128 ?_
      refine g_i2c X178 hx hby at_129 ?_
      refine g_castore X178 hx hby hZ e178 V178 1 [(.int (nar .char ((p2 &&& (255 : Int32)).toUInt32.toUInt16.toUInt32.toInt32))), (.int (nar .char ((p3 &&& (255 : Int32)).toUInt32.toUInt16.toUInt32.toInt32)))] rfl ⟨by decide, by decide⟩ rfl (Nat.le_of_ble_eq_true rfl) N178 g_b177 at_130 (fun T179 h179 X179 e179 W179 V179 N179 => ?_)
      refine g_new X179 hx hby hZ hown w1_ w2_ w3_ e179 (by decide) (by decide) at_131 (fun T180 h180 b180 g180 X180 e180 E180 A180 D180 => ?_)
      have F_coder_b180 : Fld Z h180 b180 "java/lang/String" "coder" "B" (.int (0 : Int32)) := D180 (Or.inr w27_) (ty := .byte) (by decide)
      have F_value_b180 : Fld Z h180 b180 "java/lang/String" "value" "[B" .null := D180 (Or.inr w29_) (ty := (.array .byte)) (by decide)
      refine g_dup X180 hx hby at_134 rfl ?_
      refine g_aload X180 hx hby at_135 rfl rfl ?_
      have f182 := (((((f174.keep K173 (allS g_b172 all0)).ext E177).wr W178 g_b177).wr W179 g_b177).ext E180)
      have f183 := (V179.ext E180)
      have g_b180 : n0 ≤ b180 := Nat.le_trans (Nat.le_trans z176 (Nat.le_trans (Nat.le_trans (Nat.le_trans K173.1 E177.1) (Keep.of_wr W178).1) (Keep.of_wr W179).1)) (Nat.le_of_eq g180)
      have z184 := (Nat.le_trans z176 (Nat.le_trans (Nat.le_trans (Nat.le_trans (Nat.le_trans K173.1 E177.1) (Keep.of_wr W178).1) (Keep.of_wr W179).1) E180.1))
      refine g_special X180 hx hby hZ hown (rm_ini1_2 l Z a0 hw [] b180 b177 k177 (nar .char ((p2 &&& (255 : Int32)).toUInt32.toUInt16.toUInt32.toInt32)) (nar .char ((p3 &&& (255 : Int32)).toUInt32.toUInt16.toUInt32.toInt32)) cz h180 n0 z184 O2 P5 f182 A180 F_coder_b180 F_value_b180 f183 g_b180 (own_c255 _) (own_c255 _)) rfl rfl w4_ w5_ w3_ w6_ (by decide) e180 (by rw [hml]; rfl) [(.ref b177)] (lenOf own_pd16 rfl) rfl rfl (Nat.le_of_ble_eq_true rfl) (Nat.le_of_ble_eq_true rfl) (Nat.le_of_ble_eq_true rfl) (Nat.le_of_ble_eq_true rfl) at_137 (fun v181 T181 L181 X181 hQ181 => ?_)
      obtain ⟨rfl, N181q, K181, t181, kb181, lo181, Es181, Cs181, Vs181, Bs181⟩ := hQ181
      have N181 := Fr.app N179 N181q
      refine g_at 140 rfl rfl rfl ?_
      refine g_astore X181 hx hby at_140 rfl (l' := #[.val (.int pn), .val (.int p0), .val (.int p1), .val (.int pg), .val (.int p2), .val (.int p3), .val (.int (1 : Int32)), .val (.int (0 : Int32)), .val (.ref b161), .val (.ref b164), .val (.ref b169), .val (.ref b172), .val (.ref b177), .val (.ref b180), .unset, .unset]) rfl ?_
      refine g_new X181 hx hby hZ hown w30_ w31_ w32_ rfl (by decide) (by decide) at_142 (fun T185 h185 b185 g185 X185 e185 E185 A185 D185 => ?_)
      have F_characters_b185 : Fld Z h185 b185 "com/example/invix/invix/sort/KeyBuffer" "characters" "[C" .null := D185 (Or.inl w43_) (ty := (.array .char)) (by decide)
      have F_ends_b185 : Fld Z h185 b185 "com/example/invix/invix/sort/KeyBuffer" "ends" "[I" .null := D185 (Or.inl w46_) (ty := (.array .int)) (by decide)
      have F_count_b185 : Fld Z h185 b185 "com/example/invix/invix/sort/KeyBuffer" "count" "I" (.int (0 : Int32)) := D185 (Or.inl w48_) (ty := .int) (by decide)
      refine g_dup X185 hx hby at_145 rfl ?_
      have g_b185 : n0 ≤ b185 := Nat.le_trans (Nat.le_trans z184 K181.1) (Nat.le_of_eq g185)
      have z187 := (Nat.le_trans z184 (Nat.le_trans K181.1 E185.1))
      refine g_special X185 hx hby hZ hown (rm_kini l Z a0 hw [] b185 h185 n0 z187 A185 F_characters_b185 F_ends_b185 F_count_b185 g_b185) rfl rfl w33_ w34_ w32_ w35_ (by decide) e185 (by rw [hml]; rfl) [] (lenOf own_pd17 rfl) rfl rfl (Nat.le_of_ble_eq_true rfl) (Nat.le_of_ble_eq_true rfl) (Nat.le_of_ble_eq_true rfl) (Nat.le_of_ble_eq_true rfl) at_146 (fun v186 T186 L186 X186 hQ186 => ?_)
      obtain ⟨rfl, N186q, K186, ch186, en186, kc186, ke186, lc186, le186, nce186, kE186, kC186, kN186, kK186, VC186, VE186⟩ := hQ186
      have N186 := Fr.app N181 N186q
      refine g_astore X186 hx hby at_149 rfl (l' := #[.val (.int pn), .val (.int p0), .val (.int p1), .val (.int pg), .val (.int p2), .val (.int p3), .val (.int (1 : Int32)), .val (.int (0 : Int32)), .val (.ref b161), .val (.ref b164), .val (.ref b169), .val (.ref b172), .val (.ref b177), .val (.ref b180), .val (.ref b185), .unset]) rfl ?_
      refine g_iload X186 hx hby at_151 rfl ?_
      refine g_ifN X186 hx hby at_153 (feq (by decide : ¬ ((1 : Int32) = (0 : Int32)))).1 ?_
      refine g_aload X186 hx hby at_156 rfl rfl ?_
      refine g_aload X186 hx hby at_158 rfl rfl ?_
      have f189 := (((f182.keep K181 (allS g_b180 all0)).ext E185).keep K186 (allS g_b185 all0))
      have f190 := (A185.keep K186)
      have g_ch186 : n0 ≤ ch186 := Nat.le_trans z187 lc186
      have g_en186 : n0 ≤ en186 := Nat.le_trans z187 le186
      have ne191 : t165 ≠ ch186 := (Nat.ne_of_lt (Nat.lt_of_lt_of_le Bs165.lt (Nat.le_trans (Nat.le_trans (Nat.le_trans (Nat.le_trans (Nat.le_trans (Nat.le_trans (Nat.le_trans (Nat.le_trans (Nat.le_trans (Nat.le_trans (Nat.le_trans E169.1 (Keep.of_wr W170).1) (Keep.of_wr W171).1) E172.1) K173.1) E177.1) (Keep.of_wr W178).1) (Keep.of_wr W179).1) E180.1) K181.1) E185.1) lc186)))
      have f192 := ((((((((((((Es165.ext E169).wr W170).wr W171).ext E172).keep K173).ext E177).wr W178).wr W179).ext E180).keep K181).ext E185).keep K186)
      have ne193 : b164 ≠ b169 := (Nat.ne_of_lt (Nat.lt_of_lt_of_le A164.lt (Nat.le_trans K165.1 (Nat.le_of_eq g169))))
      have ne194 : b164 ≠ b172 := (Nat.ne_of_lt (Nat.lt_of_lt_of_le A164.lt (Nat.le_trans (Nat.le_trans (Nat.le_trans (Nat.le_trans K165.1 E169.1) (Keep.of_wr W170).1) (Keep.of_wr W171).1) (Nat.le_of_eq g172))))
      have ne195 : b164 ≠ b177 := (Nat.ne_of_lt (Nat.lt_of_lt_of_le A164.lt (Nat.le_trans (Nat.le_trans (Nat.le_trans (Nat.le_trans (Nat.le_trans (Nat.le_trans K165.1 E169.1) (Keep.of_wr W170).1) (Keep.of_wr W171).1) E172.1) K173.1) (Nat.le_of_eq g177))))
      have ne196 : b164 ≠ b180 := (Nat.ne_of_lt (Nat.lt_of_lt_of_le A164.lt (Nat.le_trans (Nat.le_trans (Nat.le_trans (Nat.le_trans (Nat.le_trans (Nat.le_trans (Nat.le_trans (Nat.le_trans (Nat.le_trans K165.1 E169.1) (Keep.of_wr W170).1) (Keep.of_wr W171).1) E172.1) K173.1) E177.1) (Keep.of_wr W178).1) (Keep.of_wr W179).1) (Nat.le_of_eq g180))))
      have ne197 : b164 ≠ b185 := (Nat.ne_of_lt (Nat.lt_of_lt_of_le A164.lt (Nat.le_trans (Nat.le_trans (Nat.le_trans (Nat.le_trans (Nat.le_trans (Nat.le_trans (Nat.le_trans (Nat.le_trans (Nat.le_trans (Nat.le_trans (Nat.le_trans K165.1 E169.1) (Keep.of_wr W170).1) (Keep.of_wr W171).1) E172.1) K173.1) E177.1) (Keep.of_wr W178).1) (Keep.of_wr W179).1) E180.1) K181.1) (Nat.le_of_eq g185))))
      have f198 := ((((((((((((Cs165.ext E169).other W170 (Or.inl ne193)).other W171 (Or.inl ne193)).ext E172).keep K173 (ninS ne194 nin0)).ext E177).other W178 (Or.inl ne195)).other W179 (Or.inl ne195)).ext E180).keep K181 (ninS ne196 nin0)).ext E185).keep K186 (ninS ne197 nin0))
      have f199 := ((((((((((((Vs165.ext E169).other W170 (Or.inl ne193)).other W171 (Or.inl ne193)).ext E172).keep K173 (ninS ne194 nin0)).ext E177).other W178 (Or.inl ne195)).other W179 (Or.inl ne195)).ext E180).keep K181 (ninS ne196 nin0)).ext E185).keep K186 (ninS ne197 nin0))
      have ne200 : t165 ≠ b169 := (Nat.ne_of_lt (Nat.lt_of_lt_of_le Bs165.lt (Nat.le_of_eq g169)))
      have ne201 : t165 ≠ b172 := (Nat.ne_of_lt (Nat.lt_of_lt_of_le Bs165.lt (Nat.le_trans (Nat.le_trans (Nat.le_trans E169.1 (Keep.of_wr W170).1) (Keep.of_wr W171).1) (Nat.le_of_eq g172))))
      have ne202 : t165 ≠ b177 := (Nat.ne_of_lt (Nat.lt_of_lt_of_le Bs165.lt (Nat.le_trans (Nat.le_trans (Nat.le_trans (Nat.le_trans (Nat.le_trans E169.1 (Keep.of_wr W170).1) (Keep.of_wr W171).1) E172.1) K173.1) (Nat.le_of_eq g177))))
      have ne203 : t165 ≠ b180 := (Nat.ne_of_lt (Nat.lt_of_lt_of_le Bs165.lt (Nat.le_trans (Nat.le_trans (Nat.le_trans (Nat.le_trans (Nat.le_trans (Nat.le_trans (Nat.le_trans (Nat.le_trans E169.1 (Keep.of_wr W170).1) (Keep.of_wr W171).1) E172.1) K173.1) E177.1) (Keep.of_wr W178).1) (Keep.of_wr W179).1) (Nat.le_of_eq g180))))
      have ne204 : t165 ≠ b185 := (Nat.ne_of_lt (Nat.lt_of_lt_of_le Bs165.lt (Nat.le_trans (Nat.le_trans (Nat.le_trans (Nat.le_trans (Nat.le_trans (Nat.le_trans (Nat.le_trans (Nat.le_trans (Nat.le_trans (Nat.le_trans E169.1 (Keep.of_wr W170).1) (Keep.of_wr W171).1) E172.1) K173.1) E177.1) (Keep.of_wr W178).1) (Keep.of_wr W179).1) E180.1) K181.1) (Nat.le_of_eq g185))))
      have f205 := ((((((((((((Bs165.ext E169).other W170 ne200).other W171 ne200).ext E172).keep K173 (ninS ne201 nin0)).ext E177).other W178 ne202).other W179 ne202).ext E180).keep K181 (ninS ne203 nin0)).ext E185).keep K186 (ninS ne204 nin0))
      have z206 := (Nat.le_trans z187 K186.1)
      have ne207 : t173 ≠ ch186 := (Nat.ne_of_lt (Nat.lt_of_lt_of_le Bs173.lt (Nat.le_trans (Nat.le_trans (Nat.le_trans (Nat.le_trans (Nat.le_trans (Nat.le_trans E177.1 (Keep.of_wr W178).1) (Keep.of_wr W179).1) E180.1) K181.1) E185.1) lc186)))
      have ne208 : t173 ≠ b177 := (Nat.ne_of_lt (Nat.lt_of_lt_of_le Bs173.lt (Nat.le_of_eq g177)))
      have ne209 : t173 ≠ b180 := (Nat.ne_of_lt (Nat.lt_of_lt_of_le Bs173.lt (Nat.le_trans (Nat.le_trans (Nat.le_trans E177.1 (Keep.of_wr W178).1) (Keep.of_wr W179).1) (Nat.le_of_eq g180))))
      have ne210 : t173 ≠ b185 := (Nat.ne_of_lt (Nat.lt_of_lt_of_le Bs173.lt (Nat.le_trans (Nat.le_trans (Nat.le_trans (Nat.le_trans (Nat.le_trans E177.1 (Keep.of_wr W178).1) (Keep.of_wr W179).1) E180.1) K181.1) (Nat.le_of_eq g185))))
      have f211 := (((((((Bs173.ext E177).other W178 ne208).other W179 ne208).ext E180).keep K181 (ninS ne209 nin0)).ext E185).keep K186 (ninS ne210 nin0))
      have ne212 : t181 ≠ ch186 := (Nat.ne_of_lt (Nat.lt_of_lt_of_le Bs181.lt (Nat.le_trans E185.1 lc186)))
      have ne213 : t181 ≠ b185 := (Nat.ne_of_lt (Nat.lt_of_lt_of_le Bs181.lt (Nat.le_of_eq g185)))
      have f214 := ((Bs181.ext E185).keep K186 (ninS ne213 nin0))
      refine g_virtual X186 hx hby hZ hown (rm_kadd_0 l Z a0 hw [] b185 ch186 en186 kc186 ke186 (1024 : Int32) (List.replicate 1024 (.int (0 : Int32))) (List.replicate 128 (.int (0 : Int32))) (0 : Int32) (2 : Int32) b164 t165 kb165 (2 : Int32) [(.int (nar .byte ((nar .char ((p0 &&& (255 : Int32)).toUInt32.toUInt16.toUInt32.toInt32)).toInt8.toInt32))), (.int (nar .byte ((nar .char ((p1 &&& (255 : Int32)).toUInt32.toUInt16.toUInt32.toInt32)).toInt8.toInt32)))] cz fz T186.heap n0 z206 O2 P5 f189 rfz O4 f190 kC186 kN186 kK186 VC186 (by rw [List.length_replicate]; exact Nat.le_of_ble_eq_true rfl) VE186 (by rw [List.length_replicate]; exact Nat.le_refl _) rfl (by decide) g_b185 g_ch186 g_en186 nce186 ne191 (by decide) (by decide) (by decide) (by decide) (by decide) (by decide) f192 f198 f199 f205) w49_ w50_ (notFace_of_selects (args := #[]) (mvT hZ w52_)) w52_ w51_ w32_ w53_ (by decide) rfl f190 (by rw [hml]; rfl) [(.ref b164)] (lenOf own_pd19 rfl) rfl rfl (Nat.le_of_ble_eq_true rfl) (Nat.le_of_ble_eq_true rfl) (Nat.le_of_ble_eq_true rfl) (Nat.le_of_ble_eq_true rfl) at_160 (fun v188 T188 L188 X188 hQ188 => ?_)
      obtain ⟨rfl, N188q, K188, ch188, kc188, vc188, ve188, hch188, kE188, kC188, kN188, kK188, VC188, hl188, VE188, hve188, hv188⟩ := hQ188
      have N188 := Fr.app N186 N188q
      have nt188_t165 : t165 ≠ ch188 := own_nech ne191 f205.lt hch188
      have nt188_t173 : t173 ≠ ch188 := own_nech ne207 f211.lt hch188
      have nt188_t181 : t181 ≠ ch188 := own_nech ne212 f214.lt hch188
      have nn188 : en186 ≠ ch188 := own_nech (Ne.symm nce186) VE186.lt hch188
      have lo188 := own_loch g_ch186 z206 hch188
      have cb188 := own_growb (cap := (1024 : Int32)) (e := (2 : Int32)) (B := 2100) (by decide) (by decide) (by decide) (by decide)
      refine g_pop X188 hx hby at_163 rfl ?_
      refine g_iload X188 hx hby at_164 rfl ?_
      refine g_ifY X188 hx hby 177 at_166 (teq (by decide : (0 : Int32) = (0 : Int32))).1 (by decide) (by decide) ?_
      refine g_aload X188 hx hby at_177 rfl rfl ?_
      have f216 := (f190.keep K188)
      have z217 := (Nat.le_trans z206 K188.1)
      refine g_virtual X188 hx hby hZ hown (rm_clear l Z a0 hw [] b185 (.ref ch188) (.ref en186) (1 : Int32) T188.heap n0 z217 f216 kC188 kN188 kK188 g_b185) w115_ w38_ (notFace_of_selects (args := #[]) (mvT hZ w40_)) w40_ w39_ w32_ w41_ (by decide) rfl f216 (by rw [hml]; rfl) [] (lenOf own_pd17 rfl) rfl rfl (Nat.le_of_ble_eq_true rfl) (Nat.le_of_ble_eq_true rfl) (Nat.le_of_ble_eq_true rfl) (Nat.le_of_ble_eq_true rfl) at_179 (fun v215 T215 L215 X215 hQ215 => ?_)
      obtain ⟨rfl, N215q, K215, ch215, en215, kc215, ke215, lc215, le215, nce215, kE215, kC215, kN215, kK215, VC215, VE215⟩ := hQ215
      have N215 := Fr.app N188 N215q
      refine g_aload X215 hx hby at_182 rfl rfl ?_
      have z219 := (Nat.le_trans z217 K215.1)
      have f220 := (f216.keep K215)
      refine g_virtual X215 hx hby hZ hown (rm_ksize l Z a0 hw [] b185 (0 : Int32) T215.heap n0 z219 kK215) w116_ w117_ (notFace_of_selects (args := #[]) (mvT hZ w119_)) w119_ w118_ w32_ w120_ (by decide) rfl f220 (by rw [hml]; rfl) [] (lenOf own_pd3 rfl) rfl rfl (Nat.le_of_ble_eq_true rfl) (Nat.le_of_ble_eq_true rfl) (Nat.le_of_ble_eq_true rfl) (Nat.le_of_ble_eq_true rfl) at_184 (fun v218 T218 L218 X218 hQ218 => ?_)
      obtain ⟨rfl, N218q, eh218⟩ := hQ218
      have N218 := Fr.app N215 N218q
      refine g_ifY X218 hx hby 192 at_187 (teq (by decide : (0 : Int32) = (0 : Int32))).1 (by decide) (by decide) ?_
      refine g_aload X218 hx hby at_192 rfl rfl ?_
      refine g_virtual X218 hx hby hZ hown (rm_memory l Z a0 hw [] b185 ch215 en215 kc215 ke215 (1024 : Int32) (List.replicate 1024 (.int (0 : Int32))) (List.replicate 128 (.int (0 : Int32))) T215.heap n0 z219 kC215 kN215 VC215 VE215) w121_ w122_ (notFace_of_selects (args := #[]) (mvT hZ w124_)) w124_ w123_ w32_ w125_ (by decide) eh218 f220 (by rw [hml]; rfl) [] (lenOf own_pd18 rfl) rfl rfl (Nat.le_of_ble_eq_true rfl) (Nat.le_of_ble_eq_true rfl) (Nat.le_of_ble_eq_true rfl) (Nat.le_of_ble_eq_true rfl) at_194 (fun v221 T221 L221 X221 hQ221 => ?_)
      obtain ⟨rfl, N221q, eh221⟩ := hQ221
      have N221 := Fr.app N218 N221q
      refine g_topJ (T := T221) (2560 : Int64) (by decide) ?_
      refine g_ldc2J X221 hx hby hZ hown w128_ at_197 ?_
      refine g_lcmp X221 hx hby at_200 ?_
      refine g_ifY X221 hx hby 206 at_201 (teq ((lw_eq (2560 : Int64) (2560 : Int64)).mpr (by decide : (2560 : Int64) = (2560 : Int64)))).1 (by decide) (by decide) ?_
      refine g_aload X221 hx hby at_206 rfl rfl ?_
      refine g_aload X221 hx hby at_208 rfl rfl ?_
      have f223 := ((f189.keep K188 (allS g_b185 (allS g_ch186 (allS g_en186 all0)))).keep K215 (allS g_b185 all0))
      have f224 := ((((Es181.ext E185).keep K186).keep K188).keep K215)
      have ne225 : b180 ≠ b185 := (Nat.ne_of_lt (Nat.lt_of_lt_of_le A180.lt (Nat.le_trans K181.1 (Nat.le_of_eq g185))))
      have ne226 : b180 ≠ en186 := (Nat.ne_of_lt (Nat.lt_of_lt_of_le A180.lt (Nat.le_trans (Nat.le_trans K181.1 E185.1) le186)))
      have ne227 : b180 ≠ ch186 := (Nat.ne_of_lt (Nat.lt_of_lt_of_le A180.lt (Nat.le_trans (Nat.le_trans K181.1 E185.1) lc186)))
      have f228 := ((((Cs181.ext E185).keep K186 (ninS ne225 nin0)).keep K188 (ninS ne225 (ninS ne227 (ninS ne226 nin0)))).keep K215 (ninS ne225 nin0))
      have f229 := ((((Vs181.ext E185).keep K186 (ninS ne225 nin0)).keep K188 (ninS ne225 (ninS ne227 (ninS ne226 nin0)))).keep K215 (ninS ne225 nin0))
      have ne230 : t181 ≠ en186 := (Nat.ne_of_lt (Nat.lt_of_lt_of_le Bs181.lt (Nat.le_trans E185.1 le186)))
      have f231 := ((f214.keep K188 (ninS ne213 (ninS ne212 (ninS ne230 nin0)))).keep K215 (ninS ne213 nin0))
      have g_ch215 : n0 ≤ ch215 := Nat.le_trans z217 lc215
      have ne232 : t181 ≠ ch215 := (Nat.ne_of_lt (Nat.lt_of_lt_of_le Bs181.lt (Nat.le_trans (Nat.le_trans (Nat.le_trans E185.1 K186.1) K188.1) lc215)))
      have g_en215 : n0 ≤ en215 := Nat.le_trans z217 le215
      refine g_virtual X221 hx hby hZ hown (rm_addU l Z a0 hw [] b185 en215 ke215 (List.replicate 128 (.int (0 : Int32))) b180 t181 kb181 ch215 kc215 (List.replicate 1024 (.int (0 : Int32))) (nar .char ((p2 &&& (255 : Int32)).toUInt32.toUInt16.toUInt32.toInt32)) (nar .char ((p3 &&& (255 : Int32)).toUInt32.toUInt16.toUInt32.toInt32)) cz fz T215.heap n0 z219 O2 P5 f223 rfz O4 f224 f228 f229 f231 VC215 (by rw [List.length_replicate]; decide) g_ch215 ne232 (own_cr _) (own_cr _) f220 kC215 kN215 kK215 VE215 (by rw [List.length_replicate]; exact Nat.le_refl _) g_b185 g_en215 nce215) w49_ w50_ (notFace_of_selects (args := #[]) (mvT hZ w52_)) w52_ w51_ w32_ w53_ (by decide) eh221 f220 (by rw [hml]; rfl) [(.ref b180)] (lenOf own_pd19 rfl) rfl rfl (Nat.le_of_ble_eq_true rfl) (Nat.le_of_ble_eq_true rfl) (Nat.le_of_ble_eq_true rfl) (Nat.le_of_ble_eq_true rfl) at_210 (fun v222 T222 L222 X222 hQ222 => ?_)
      obtain ⟨rfl, N222q, K222, kE222, kC222, kN222, kK222, VC222, VE222⟩ := hQ222
      have N222 := Fr.app N221 N222q
      refine g_istore X222 hx hby at_213 (l' := #[.val (.int pn), .val (.int p0), .val (.int p1), .val (.int pg), .val (.int p2), .val (.int p3), .val (.int (1 : Int32)), .val (.int (0 : Int32)), .val (.ref b161), .val (.ref b164), .val (.ref b169), .val (.ref b172), .val (.ref b177), .val (.ref b180), .val (.ref b185), .val (.int (0 : Int32))]) rfl ?_
      refine g_iload X222 hx hby at_215 rfl ?_
      refine g_ifY X222 hx hby 222 at_217 (teq (by decide : (0 : Int32) = (0 : Int32))).1 (by decide) (by decide) ?_
      refine g_aload X222 hx hby at_222 rfl rfl ?_
      have z234 := (Nat.le_trans z219 K222.1)
      have f235 := (f220.keep K222)
      refine g_virtual X222 hx hby hZ hown (rm_ksize l Z a0 hw [] b185 (1 : Int32) T222.heap n0 z234 kK222) w116_ w117_ (notFace_of_selects (args := #[]) (mvT hZ w119_)) w119_ w118_ w32_ w120_ (by decide) rfl f235 (by rw [hml]; rfl) [] (lenOf own_pd3 rfl) rfl rfl (Nat.le_of_ble_eq_true rfl) (Nat.le_of_ble_eq_true rfl) (Nat.le_of_ble_eq_true rfl) (Nat.le_of_ble_eq_true rfl) at_224 (fun v233 T233 L233 X233 hQ233 => ?_)
      obtain ⟨rfl, N233q, eh233⟩ := hQ233
      have N233 := Fr.app N222 N233q
      refine g_iconst X233 hx hby (1 : Int32) at_227 rfl ?_
      refine g_icY X233 hx hby 233 at_228 (teq (by decide : (1 : Int32) = (1 : Int32))).1 (by decide) (by decide) ?_
      refine g_aload X233 hx hby at_233 rfl rfl ?_
      refine g_iconst X233 hx hby (0 : Int32) at_235 rfl ?_
      have f237 := (f223.keep K222 (allS g_b185 (allS g_ch215 (allS g_en215 all0))))
      refine g_virtual X233 hx hby hZ hown (rm_keyK l Z a0 hw [] b185 en215 ke215 ((List.replicate 128 (.int (0 : Int32))).set 0 (.int (2 : Int32))) ch215 kc215 (((List.replicate 1024 (.int (0 : Int32))).set 0 (.int (nar .char ((p2 &&& (255 : Int32)).toUInt32.toUInt16.toUInt32.toInt32)))).set 1 (.int (nar .char ((p3 &&& (255 : Int32)).toUInt32.toUInt16.toUInt32.toInt32)))) (nar .char ((p2 &&& (255 : Int32)).toUInt32.toUInt16.toUInt32.toInt32)) (nar .char ((p3 &&& (255 : Int32)).toUInt32.toUInt16.toUInt32.toInt32)) cz fz T222.heap n0 z234 O2 P5 f237 rfz O4 f235 kC222 kN222 VE222 (own_setD (by rw [List.length_replicate]; decide)) VC222 (own_s20 (by rw [List.length_replicate]; decide)) (own_s21 (by rw [List.length_replicate]; decide)) (own_c255 _) (own_c255 _)) w129_ w130_ (notFace_of_selects (args := #[]) (mvT hZ w132_)) w132_ w131_ w32_ w133_ (by decide) eh233 f235 (by rw [hml]; rfl) [(.int (0 : Int32))] (lenOf own_pd20 rfl) rfl rfl (Nat.le_of_ble_eq_true rfl) (Nat.le_of_ble_eq_true rfl) (Nat.le_of_ble_eq_true rfl) (Nat.le_of_ble_eq_true rfl) at_236 (fun v236 T236 L236 X236 hQ236 => ?_)
      obtain ⟨N236q, K236, s236, t236, kb236, rfl, ls236, lo236, Es236, Cs236, Vs236, Bs236⟩ := hQ236
      have N236 := Fr.app N233 N236q
      refine g_aload X236 hx hby at_239 rfl rfl ?_
      have f239 := (f237.keep K236 all0)
      have f240 := ((f224.keep K222).keep K236)
      have ne241 : b180 ≠ en215 := (Nat.ne_of_lt (Nat.lt_of_lt_of_le A180.lt (Nat.le_trans (Nat.le_trans (Nat.le_trans (Nat.le_trans K181.1 E185.1) K186.1) K188.1) le215)))
      have ne242 : b180 ≠ ch215 := (Nat.ne_of_lt (Nat.lt_of_lt_of_le A180.lt (Nat.le_trans (Nat.le_trans (Nat.le_trans (Nat.le_trans K181.1 E185.1) K186.1) K188.1) lc215)))
      have f243 := ((f228.keep K222 (ninS ne225 (ninS ne242 (ninS ne241 nin0)))).keep K236 nin0)
      have f244 := ((f229.keep K222 (ninS ne225 (ninS ne242 (ninS ne241 nin0)))).keep K236 nin0)
      have ne245 : t181 ≠ en215 := (Nat.ne_of_lt (Nat.lt_of_lt_of_le Bs181.lt (Nat.le_trans (Nat.le_trans (Nat.le_trans E185.1 K186.1) K188.1) le215)))
      have f246 := ((f231.keep K222 (ninS ne213 (ninS ne232 (ninS ne245 nin0)))).keep K236 nin0)
      have ne247 : s236 ≠ b180 := (Ne.symm (Nat.ne_of_lt (Nat.lt_of_lt_of_le A180.lt (Nat.le_trans (Nat.le_trans (Nat.le_trans (Nat.le_trans (Nat.le_trans (Nat.le_trans K181.1 E185.1) K186.1) K188.1) K215.1) K222.1) ls236))))
      have z248 := (Nat.le_trans z234 K236.1)
      refine g_virtual X236 hx hby hZ hown (rm_streq_2 l Z a0 hw [] s236 b180 t236 kb236 t181 kb181 (nar .byte ((nar .char ((p2 &&& (255 : Int32)).toUInt32.toUInt16.toUInt32.toInt32)).toInt8.toInt32)) (nar .byte ((nar .char ((p3 &&& (255 : Int32)).toUInt32.toUInt16.toUInt32.toInt32)).toInt8.toInt32)) (nar .byte ((nar .char ((p2 &&& (255 : Int32)).toUInt32.toUInt16.toUInt32.toInt32)).toInt8.toInt32)) (nar .byte ((nar .char ((p3 &&& (255 : Int32)).toUInt32.toUInt16.toUInt32.toInt32)).toInt8.toInt32)) cz T236.heap n0 z248 O2 P5 f239 Es236 Cs236 Vs236 f240 f243 f244 Bs236 f246 ne247) w141_ w142_ (notFace_of_selects (args := #[]) (mvT hZ w144_)) w144_ w143_ w3_ w145_ (by decide) rfl Es236 (by rw [hml]; rfl) [(.ref b180)] (lenOf own_pd22 rfl) rfl rfl (Nat.le_of_ble_eq_true rfl) (Nat.le_of_ble_eq_true rfl) (Nat.le_of_ble_eq_true rfl) (Nat.le_of_ble_eq_true rfl) at_241 (fun v238 T238 L238 X238 hQ238 => ?_)
      obtain ⟨rfl, N238q, eh238⟩ := hQ238
      have N238 := Fr.app N236 N238q
      refine g_topI (T := T238) (1 : Int32) (by simp) ?_
      refine g_ifN X238 hx hby at_244 (feq (by decide : ¬ ((1 : Int32) = (0 : Int32)))).1 ?_
      refine g_aload X238 hx hby at_247 rfl rfl ?_
      have f250 := (kC222.keep K236 nin0)
      have f251 := (kN222.keep K236 nin0)
      have f252 := (VC222.keep K236 nin0)
      have f253 := (VE222.keep K236 nin0)
      have f254 := (f235.keep K236)
      refine g_virtual X238 hx hby hZ hown (rm_memory l Z a0 hw [] b185 ch215 en215 kc215 ke215 (1024 : Int32) (((List.replicate 1024 (.int (0 : Int32))).set 0 (.int (nar .char ((p2 &&& (255 : Int32)).toUInt32.toUInt16.toUInt32.toInt32)))).set 1 (.int (nar .char ((p3 &&& (255 : Int32)).toUInt32.toUInt16.toUInt32.toInt32)))) ((List.replicate 128 (.int (0 : Int32))).set 0 (.int (2 : Int32))) T236.heap n0 z248 f250 f251 f252 f253) w121_ w122_ (notFace_of_selects (args := #[]) (mvT hZ w124_)) w124_ w123_ w32_ w125_ (by decide) eh238 f254 (by rw [hml]; rfl) [] (lenOf own_pd18 rfl) rfl rfl (Nat.le_of_ble_eq_true rfl) (Nat.le_of_ble_eq_true rfl) (Nat.le_of_ble_eq_true rfl) (Nat.le_of_ble_eq_true rfl) at_249 (fun v249 T249 L249 X249 hQ249 => ?_)
      obtain ⟨rfl, N249q, eh249⟩ := hQ249
      have N249 := Fr.app N238 N249q
      refine g_topJ (T := T249) (2560 : Int64) (by decide) ?_
      refine g_ldc2J X249 hx hby hZ hown w128_ at_252 ?_
      refine g_lcmp X249 hx hby at_255 ?_
      refine g_at 256 rfl rfl rfl ?_
      refine g_ifN X249 hx hby at_256 (teq ((lw_eq (2560 : Int64) (2560 : Int64)).mpr (by decide : (2560 : Int64) = (2560 : Int64)))).2 ?_
      refine g_iconst X249 hx hby (1 : Int32) at_259 rfl ?_
      refine g_goto X249 hx hby 264 at_260 (by decide) (by decide) ?_
      refine g_nret X249 hx hby (t := .boolean) (by simp) Bd.returns Bd.notSynchronized at_264 eh249 (by decide) (by decide) ?_
      show (Q_law Z pn p0 p1 pg p2 p3 fz cz h0 n0) (some (.int (1 : Int32))) _ _
      exact ⟨rfl, N249⟩
    · skip
      refine g_ifN X0 hx hby at_16 (feq hc16_160).1 ?_
      refine g_iconst X0 hx hby (1 : Int32) at_19 rfl ?_
      refine g_goto X0 hx hby 24 at_20 (by decide) (by decide) ?_
      refine g_istore X0 hx hby at_24 (l' := #[.val (.int pn), .val (.int p0), .val (.int p1), .val (.int pg), .val (.int p2), .val (.int p3), .val (.int (1 : Int32)), .val (.int (1 : Int32)), .unset, .unset, .unset, .unset, .unset, .unset, .unset, .unset]) rfl ?_
      refine g_iconst X0 hx hby (2 : Int32) at_26 rfl ?_
      refine g_newarray X0 hx hby hZ .char .char (.int (0 : Int32)) [(.int (0 : Int32)), (.int (0 : Int32))] rfl rfl w0_ e0 (by decide) 2 rfl (by decide) (by decide) (by decide) (by decide) at_27 (fun T255 h255 k255 b255 g255 X255 e255 E255 V255 => ?_)
      refine g_astore X255 hx hby at_29 rfl (l' := #[.val (.int pn), .val (.int p0), .val (.int p1), .val (.int pg), .val (.int p2), .val (.int p3), .val (.int (1 : Int32)), .val (.int (1 : Int32)), .val (.ref b255), .unset, .unset, .unset, .unset, .unset, .unset, .unset]) rfl ?_
      refine g_aload X255 hx hby at_31 rfl rfl ?_
      refine g_iconst X255 hx hby (0 : Int32) at_33 rfl ?_
      refine g_iloadN X255 hx hby at_34 rfl ?_
      refine g_sipush X255 hx hby (255 : Int32) at_35 rfl ?_
      refine g_iand X255 hx hby at_38 ?_
      refine g_i2c X255 hx hby at_39 ?_
      have g_b255 : n0 ≤ b255 := Nat.le_trans Z0 (Nat.le_of_eq g255)
      refine g_castore X255 hx hby hZ e255 V255 0 [(.int (nar .char ((p0 &&& (255 : Int32)).toUInt32.toUInt16.toUInt32.toInt32))), (.int (0 : Int32))] rfl ⟨by decide, by decide⟩ rfl (Nat.le_of_ble_eq_true rfl) N0 g_b255 at_40 (fun T256 h256 X256 e256 W256 V256 N256 => ?_)
      refine g_aload X256 hx hby at_41 rfl rfl ?_
      refine g_iconst X256 hx hby (1 : Int32) at_43 rfl ?_
      refine g_iloadN X256 hx hby at_44 rfl ?_
      refine g_sipush X256 hx hby (255 : Int32) at_45 rfl ?_
      refine g_iand X256 hx hby at_48 ?_
      refine g_i2c X256 hx hby at_49 ?_
      refine g_castore X256 hx hby hZ e256 V256 1 [(.int (nar .char ((p0 &&& (255 : Int32)).toUInt32.toUInt16.toUInt32.toInt32))), (.int (nar .char ((p1 &&& (255 : Int32)).toUInt32.toUInt16.toUInt32.toInt32)))] rfl ⟨by decide, by decide⟩ rfl (Nat.le_of_ble_eq_true rfl) N256 g_b255 at_50 (fun T257 h257 X257 e257 W257 V257 N257 => ?_)
      refine g_new X257 hx hby hZ hown w1_ w2_ w3_ e257 (by decide) (by decide) at_51 (fun T258 h258 b258 g258 X258 e258 E258 A258 D258 => ?_)
      have F_coder_b258 : Fld Z h258 b258 "java/lang/String" "coder" "B" (.int (0 : Int32)) := D258 (Or.inr w27_) (ty := .byte) (by decide)
      have F_value_b258 : Fld Z h258 b258 "java/lang/String" "value" "[B" .null := D258 (Or.inr w29_) (ty := (.array .byte)) (by decide)
      refine g_dup X258 hx hby at_54 rfl ?_
      refine g_aload X258 hx hby at_55 rfl rfl ?_
      have f260 := ((((OLD.ext E255).wr W256 g_b255).wr W257 g_b255).ext E258)
      have f261 := (V257.ext E258)
      have g_b258 : n0 ≤ b258 := Nat.le_trans (Nat.le_trans Z0 (Nat.le_trans (Nat.le_trans E255.1 (Keep.of_wr W256).1) (Keep.of_wr W257).1)) (Nat.le_of_eq g258)
      have z262 := (Nat.le_trans Z0 (Nat.le_trans (Nat.le_trans (Nat.le_trans E255.1 (Keep.of_wr W256).1) (Keep.of_wr W257).1) E258.1))
      refine g_special X258 hx hby hZ hown (rm_ini1_2 l Z a0 hw [] b258 b255 k255 (nar .char ((p0 &&& (255 : Int32)).toUInt32.toUInt16.toUInt32.toInt32)) (nar .char ((p1 &&& (255 : Int32)).toUInt32.toUInt16.toUInt32.toInt32)) cz h258 n0 z262 O2 P5 f260 A258 F_coder_b258 F_value_b258 f261 g_b258 (own_c255 _) (own_c255 _)) rfl rfl w4_ w5_ w3_ w6_ (by decide) e258 (by rw [hml]; rfl) [(.ref b255)] (lenOf own_pd16 rfl) rfl rfl (Nat.le_of_ble_eq_true rfl) (Nat.le_of_ble_eq_true rfl) (Nat.le_of_ble_eq_true rfl) (Nat.le_of_ble_eq_true rfl) at_57 (fun v259 T259 L259 X259 hQ259 => ?_)
      obtain ⟨rfl, N259q, K259, t259, kb259, lo259, Es259, Cs259, Vs259, Bs259⟩ := hQ259
      have N259 := Fr.app N257 N259q
      refine g_at 60 rfl rfl rfl ?_
      refine g_astore X259 hx hby at_60 rfl (l' := #[.val (.int pn), .val (.int p0), .val (.int p1), .val (.int pg), .val (.int p2), .val (.int p3), .val (.int (1 : Int32)), .val (.int (1 : Int32)), .val (.ref b255), .val (.ref b258), .unset, .unset, .unset, .unset, .unset, .unset]) rfl ?_
      refine g_sipush X259 hx hby (1025 : Int32) at_62 rfl ?_
      refine g_newarray X259 hx hby hZ .char .char (.int (0 : Int32)) (List.replicate 1025 (.int (0 : Int32))) rfl rfl w0_ rfl (by decide) 1025 rfl (by decide) (by decide) (by decide) (by decide) at_65 (fun T263 h263 k263 b263 g263 X263 e263 E263 V263 => ?_)
      refine g_astore X263 hx hby at_67 rfl (l' := #[.val (.int pn), .val (.int p0), .val (.int p1), .val (.int pg), .val (.int p2), .val (.int p3), .val (.int (1 : Int32)), .val (.int (1 : Int32)), .val (.ref b255), .val (.ref b258), .val (.ref b263), .unset, .unset, .unset, .unset, .unset]) rfl ?_
      refine g_aload X263 hx hby at_69 rfl rfl ?_
      refine g_iconst X263 hx hby (0 : Int32) at_71 rfl ?_
      refine g_iload X263 hx hby at_72 rfl ?_
      refine g_sipush X263 hx hby (255 : Int32) at_74 rfl ?_
      refine g_iand X263 hx hby at_77 ?_
      refine g_i2c X263 hx hby at_78 ?_
      have g_b263 : n0 ≤ b263 := Nat.le_trans (Nat.le_trans z262 K259.1) (Nat.le_of_eq g263)
      refine g_castore X263 hx hby hZ e263 V263 0 ((List.replicate 1025 (.int (0 : Int32))).set 0 (.int (nar .char ((p2 &&& (255 : Int32)).toUInt32.toUInt16.toUInt32.toInt32)))) rfl ⟨by decide, by decide⟩ rfl (by rw [List.length_replicate]; decide) N259 g_b263 at_79 (fun T264 h264 X264 e264 W264 V264 N264 => ?_)
      refine g_aload X264 hx hby at_80 rfl rfl ?_
      refine g_sipush X264 hx hby (1024 : Int32) at_82 rfl ?_
      refine g_iload X264 hx hby at_85 rfl ?_
      refine g_sipush X264 hx hby (255 : Int32) at_87 rfl ?_
      refine g_iand X264 hx hby at_90 ?_
      refine g_i2c X264 hx hby at_91 ?_
      refine g_castore X264 hx hby hZ e264 V264 1024 (((List.replicate 1025 (.int (0 : Int32))).set 0 (.int (nar .char ((p2 &&& (255 : Int32)).toUInt32.toUInt16.toUInt32.toInt32)))).set 1024 (.int (nar .char ((p3 &&& (255 : Int32)).toUInt32.toUInt16.toUInt32.toInt32)))) rfl ⟨by decide, by decide⟩ rfl (by rw [List.length_set, List.length_replicate]; decide) N264 g_b263 at_92 (fun T265 h265 X265 e265 W265 V265 N265 => ?_)
      refine g_new X265 hx hby hZ hown w1_ w2_ w3_ e265 (by decide) (by decide) at_93 (fun T266 h266 b266 g266 X266 e266 E266 A266 D266 => ?_)
      have F_coder_b266 : Fld Z h266 b266 "java/lang/String" "coder" "B" (.int (0 : Int32)) := D266 (Or.inr w27_) (ty := .byte) (by decide)
      have F_value_b266 : Fld Z h266 b266 "java/lang/String" "value" "[B" .null := D266 (Or.inr w29_) (ty := (.array .byte)) (by decide)
      refine g_dup X266 hx hby at_96 rfl ?_
      refine g_aload X266 hx hby at_97 rfl rfl ?_
      have f268 := (((((f260.keep K259 (allS g_b258 all0)).ext E263).wr W264 g_b263).wr W265 g_b263).ext E266)
      have g_b266 : n0 ≤ b266 := Nat.le_trans (Nat.le_trans z262 (Nat.le_trans (Nat.le_trans (Nat.le_trans K259.1 E263.1) (Keep.of_wr W264).1) (Keep.of_wr W265).1)) (Nat.le_of_eq g266)
      have f269 := (V265.ext E266)
      have z270 := (Nat.le_trans z262 (Nat.le_trans (Nat.le_trans (Nat.le_trans (Nat.le_trans K259.1 E263.1) (Keep.of_wr W264).1) (Keep.of_wr W265).1) E266.1))
      refine g_special X266 hx hby hZ hown (rm_iniN1_1025 l Z a0 hw [] b266 b263 k263 (((List.replicate 1025 (.int (0 : Int32))).set 0 (.int (nar .char ((p2 &&& (255 : Int32)).toUInt32.toUInt16.toUInt32.toInt32)))).set 1024 (.int (nar .char ((p3 &&& (255 : Int32)).toUInt32.toUInt16.toUInt32.toInt32)))) cz h266 n0 z270 O2 P5 f268 A266 F_coder_b266 F_value_b266 g_b266 f269 (own_big (own_c255 _) (own_c255 _))) rfl rfl w4_ w5_ w3_ w6_ (by decide) e266 (by rw [hml]; rfl) [(.ref b263)] (lenOf own_pd16 rfl) rfl rfl (Nat.le_of_ble_eq_true rfl) (Nat.le_of_ble_eq_true rfl) (Nat.le_of_ble_eq_true rfl) (Nat.le_of_ble_eq_true rfl) at_99 (fun v267 T267 L267 X267 hQ267 => ?_)
      obtain ⟨rfl, N267q, K267, t267, kb267, bs267, lo267, Es267, Cs267, Vs267, Bs267⟩ := hQ267
      have N267 := Fr.app N265 N267q
      refine g_at 102 rfl rfl rfl ?_
      refine g_astore X267 hx hby at_102 rfl (l' := #[.val (.int pn), .val (.int p0), .val (.int p1), .val (.int pg), .val (.int p2), .val (.int p3), .val (.int (1 : Int32)), .val (.int (1 : Int32)), .val (.ref b255), .val (.ref b258), .val (.ref b263), .val (.ref b266), .unset, .unset, .unset, .unset]) rfl ?_
      refine g_iconst X267 hx hby (2 : Int32) at_104 rfl ?_
      refine g_newarray X267 hx hby hZ .char .char (.int (0 : Int32)) [(.int (0 : Int32)), (.int (0 : Int32))] rfl rfl w0_ rfl (by decide) 2 rfl (by decide) (by decide) (by decide) (by decide) at_105 (fun T271 h271 k271 b271 g271 X271 e271 E271 V271 => ?_)
      refine g_astore X271 hx hby at_107 rfl (l' := #[.val (.int pn), .val (.int p0), .val (.int p1), .val (.int pg), .val (.int p2), .val (.int p3), .val (.int (1 : Int32)), .val (.int (1 : Int32)), .val (.ref b255), .val (.ref b258), .val (.ref b263), .val (.ref b266), .val (.ref b271), .unset, .unset, .unset]) rfl ?_
      refine g_aload X271 hx hby at_109 rfl rfl ?_
      refine g_iconst X271 hx hby (0 : Int32) at_111 rfl ?_
      refine g_iload X271 hx hby at_112 rfl ?_
      refine g_sipush X271 hx hby (255 : Int32) at_114 rfl ?_
      refine g_iand X271 hx hby at_117 ?_
      refine g_i2c X271 hx hby at_118 ?_
      have g_b271 : n0 ≤ b271 := Nat.le_trans (Nat.le_trans z270 K267.1) (Nat.le_of_eq g271)
      refine g_castore X271 hx hby hZ e271 V271 0 [(.int (nar .char ((p2 &&& (255 : Int32)).toUInt32.toUInt16.toUInt32.toInt32))), (.int (0 : Int32))] rfl ⟨by decide, by decide⟩ rfl (Nat.le_of_ble_eq_true rfl) N267 g_b271 at_119 (fun T272 h272 X272 e272 W272 V272 N272 => ?_)
      refine g_aload X272 hx hby at_120 rfl rfl ?_
      refine g_iconst X272 hx hby (1 : Int32) at_122 rfl ?_
      refine g_iload X272 hx hby at_123 rfl ?_
      refine g_sipush X272 hx hby (255 : Int32) at_125 rfl ?_
      refine g_iand X272 hx hby at_128 ?_
      refine g_i2c X272 hx hby at_129 ?_
      refine g_castore X272 hx hby hZ e272 V272 1 [(.int (nar .char ((p2 &&& (255 : Int32)).toUInt32.toUInt16.toUInt32.toInt32))), (.int (nar .char ((p3 &&& (255 : Int32)).toUInt32.toUInt16.toUInt32.toInt32)))] rfl ⟨by decide, by decide⟩ rfl (Nat.le_of_ble_eq_true rfl) N272 g_b271 at_130 (fun T273 h273 X273 e273 W273 V273 N273 => ?_)
      refine g_new X273 hx hby hZ hown w1_ w2_ w3_ e273 (by decide) (by decide) at_131 (fun T274 h274 b274 g274 X274 e274 E274 A274 D274 => ?_)
      have F_coder_b274 : Fld Z h274 b274 "java/lang/String" "coder" "B" (.int (0 : Int32)) := D274 (Or.inr w27_) (ty := .byte) (by decide)
      have F_value_b274 : Fld Z h274 b274 "java/lang/String" "value" "[B" .null := D274 (Or.inr w29_) (ty := (.array .byte)) (by decide)
      refine g_dup X274 hx hby at_134 rfl ?_
      refine g_aload X274 hx hby at_135 rfl rfl ?_
      have f276 := (((((f268.keep K267 (allS g_b266 all0)).ext E271).wr W272 g_b271).wr W273 g_b271).ext E274)
      have f277 := (V273.ext E274)
      have g_b274 : n0 ≤ b274 := Nat.le_trans (Nat.le_trans z270 (Nat.le_trans (Nat.le_trans (Nat.le_trans K267.1 E271.1) (Keep.of_wr W272).1) (Keep.of_wr W273).1)) (Nat.le_of_eq g274)
      have z278 := (Nat.le_trans z270 (Nat.le_trans (Nat.le_trans (Nat.le_trans (Nat.le_trans K267.1 E271.1) (Keep.of_wr W272).1) (Keep.of_wr W273).1) E274.1))
      refine g_special X274 hx hby hZ hown (rm_ini1_2 l Z a0 hw [] b274 b271 k271 (nar .char ((p2 &&& (255 : Int32)).toUInt32.toUInt16.toUInt32.toInt32)) (nar .char ((p3 &&& (255 : Int32)).toUInt32.toUInt16.toUInt32.toInt32)) cz h274 n0 z278 O2 P5 f276 A274 F_coder_b274 F_value_b274 f277 g_b274 (own_c255 _) (own_c255 _)) rfl rfl w4_ w5_ w3_ w6_ (by decide) e274 (by rw [hml]; rfl) [(.ref b271)] (lenOf own_pd16 rfl) rfl rfl (Nat.le_of_ble_eq_true rfl) (Nat.le_of_ble_eq_true rfl) (Nat.le_of_ble_eq_true rfl) (Nat.le_of_ble_eq_true rfl) at_137 (fun v275 T275 L275 X275 hQ275 => ?_)
      obtain ⟨rfl, N275q, K275, t275, kb275, lo275, Es275, Cs275, Vs275, Bs275⟩ := hQ275
      have N275 := Fr.app N273 N275q
      refine g_at 140 rfl rfl rfl ?_
      refine g_astore X275 hx hby at_140 rfl (l' := #[.val (.int pn), .val (.int p0), .val (.int p1), .val (.int pg), .val (.int p2), .val (.int p3), .val (.int (1 : Int32)), .val (.int (1 : Int32)), .val (.ref b255), .val (.ref b258), .val (.ref b263), .val (.ref b266), .val (.ref b271), .val (.ref b274), .unset, .unset]) rfl ?_
      refine g_new X275 hx hby hZ hown w30_ w31_ w32_ rfl (by decide) (by decide) at_142 (fun T279 h279 b279 g279 X279 e279 E279 A279 D279 => ?_)
      have F_characters_b279 : Fld Z h279 b279 "com/example/invix/invix/sort/KeyBuffer" "characters" "[C" .null := D279 (Or.inl w43_) (ty := (.array .char)) (by decide)
      have F_ends_b279 : Fld Z h279 b279 "com/example/invix/invix/sort/KeyBuffer" "ends" "[I" .null := D279 (Or.inl w46_) (ty := (.array .int)) (by decide)
      have F_count_b279 : Fld Z h279 b279 "com/example/invix/invix/sort/KeyBuffer" "count" "I" (.int (0 : Int32)) := D279 (Or.inl w48_) (ty := .int) (by decide)
      refine g_dup X279 hx hby at_145 rfl ?_
      have g_b279 : n0 ≤ b279 := Nat.le_trans (Nat.le_trans z278 K275.1) (Nat.le_of_eq g279)
      have z281 := (Nat.le_trans z278 (Nat.le_trans K275.1 E279.1))
      refine g_special X279 hx hby hZ hown (rm_kini l Z a0 hw [] b279 h279 n0 z281 A279 F_characters_b279 F_ends_b279 F_count_b279 g_b279) rfl rfl w33_ w34_ w32_ w35_ (by decide) e279 (by rw [hml]; rfl) [] (lenOf own_pd17 rfl) rfl rfl (Nat.le_of_ble_eq_true rfl) (Nat.le_of_ble_eq_true rfl) (Nat.le_of_ble_eq_true rfl) (Nat.le_of_ble_eq_true rfl) at_146 (fun v280 T280 L280 X280 hQ280 => ?_)
      obtain ⟨rfl, N280q, K280, ch280, en280, kc280, ke280, lc280, le280, nce280, kE280, kC280, kN280, kK280, VC280, VE280⟩ := hQ280
      have N280 := Fr.app N275 N280q
      refine g_astore X280 hx hby at_149 rfl (l' := #[.val (.int pn), .val (.int p0), .val (.int p1), .val (.int pg), .val (.int p2), .val (.int p3), .val (.int (1 : Int32)), .val (.int (1 : Int32)), .val (.ref b255), .val (.ref b258), .val (.ref b263), .val (.ref b266), .val (.ref b271), .val (.ref b274), .val (.ref b279), .unset]) rfl ?_
      refine g_iload X280 hx hby at_151 rfl ?_
      refine g_ifN X280 hx hby at_153 (feq (by decide : ¬ ((1 : Int32) = (0 : Int32)))).1 ?_
      refine g_aload X280 hx hby at_156 rfl rfl ?_
      refine g_aload X280 hx hby at_158 rfl rfl ?_
      have f283 := (((f276.keep K275 (allS g_b274 all0)).ext E279).keep K280 (allS g_b279 all0))
      have f284 := (A279.keep K280)
      have g_ch280 : n0 ≤ ch280 := Nat.le_trans z281 lc280
      have g_en280 : n0 ≤ en280 := Nat.le_trans z281 le280
      have ne285 : t259 ≠ ch280 := (Nat.ne_of_lt (Nat.lt_of_lt_of_le Bs259.lt (Nat.le_trans (Nat.le_trans (Nat.le_trans (Nat.le_trans (Nat.le_trans (Nat.le_trans (Nat.le_trans (Nat.le_trans (Nat.le_trans (Nat.le_trans (Nat.le_trans E263.1 (Keep.of_wr W264).1) (Keep.of_wr W265).1) E266.1) K267.1) E271.1) (Keep.of_wr W272).1) (Keep.of_wr W273).1) E274.1) K275.1) E279.1) lc280)))
      have f286 := ((((((((((((Es259.ext E263).wr W264).wr W265).ext E266).keep K267).ext E271).wr W272).wr W273).ext E274).keep K275).ext E279).keep K280)
      have ne287 : b258 ≠ b263 := (Nat.ne_of_lt (Nat.lt_of_lt_of_le A258.lt (Nat.le_trans K259.1 (Nat.le_of_eq g263))))
      have ne288 : b258 ≠ b266 := (Nat.ne_of_lt (Nat.lt_of_lt_of_le A258.lt (Nat.le_trans (Nat.le_trans (Nat.le_trans (Nat.le_trans K259.1 E263.1) (Keep.of_wr W264).1) (Keep.of_wr W265).1) (Nat.le_of_eq g266))))
      have ne289 : b258 ≠ b271 := (Nat.ne_of_lt (Nat.lt_of_lt_of_le A258.lt (Nat.le_trans (Nat.le_trans (Nat.le_trans (Nat.le_trans (Nat.le_trans (Nat.le_trans K259.1 E263.1) (Keep.of_wr W264).1) (Keep.of_wr W265).1) E266.1) K267.1) (Nat.le_of_eq g271))))
      have ne290 : b258 ≠ b274 := (Nat.ne_of_lt (Nat.lt_of_lt_of_le A258.lt (Nat.le_trans (Nat.le_trans (Nat.le_trans (Nat.le_trans (Nat.le_trans (Nat.le_trans (Nat.le_trans (Nat.le_trans (Nat.le_trans K259.1 E263.1) (Keep.of_wr W264).1) (Keep.of_wr W265).1) E266.1) K267.1) E271.1) (Keep.of_wr W272).1) (Keep.of_wr W273).1) (Nat.le_of_eq g274))))
      have ne291 : b258 ≠ b279 := (Nat.ne_of_lt (Nat.lt_of_lt_of_le A258.lt (Nat.le_trans (Nat.le_trans (Nat.le_trans (Nat.le_trans (Nat.le_trans (Nat.le_trans (Nat.le_trans (Nat.le_trans (Nat.le_trans (Nat.le_trans (Nat.le_trans K259.1 E263.1) (Keep.of_wr W264).1) (Keep.of_wr W265).1) E266.1) K267.1) E271.1) (Keep.of_wr W272).1) (Keep.of_wr W273).1) E274.1) K275.1) (Nat.le_of_eq g279))))
      have f292 := ((((((((((((Cs259.ext E263).other W264 (Or.inl ne287)).other W265 (Or.inl ne287)).ext E266).keep K267 (ninS ne288 nin0)).ext E271).other W272 (Or.inl ne289)).other W273 (Or.inl ne289)).ext E274).keep K275 (ninS ne290 nin0)).ext E279).keep K280 (ninS ne291 nin0))
      have f293 := ((((((((((((Vs259.ext E263).other W264 (Or.inl ne287)).other W265 (Or.inl ne287)).ext E266).keep K267 (ninS ne288 nin0)).ext E271).other W272 (Or.inl ne289)).other W273 (Or.inl ne289)).ext E274).keep K275 (ninS ne290 nin0)).ext E279).keep K280 (ninS ne291 nin0))
      have ne294 : t259 ≠ b263 := (Nat.ne_of_lt (Nat.lt_of_lt_of_le Bs259.lt (Nat.le_of_eq g263)))
      have ne295 : t259 ≠ b266 := (Nat.ne_of_lt (Nat.lt_of_lt_of_le Bs259.lt (Nat.le_trans (Nat.le_trans (Nat.le_trans E263.1 (Keep.of_wr W264).1) (Keep.of_wr W265).1) (Nat.le_of_eq g266))))
      have ne296 : t259 ≠ b271 := (Nat.ne_of_lt (Nat.lt_of_lt_of_le Bs259.lt (Nat.le_trans (Nat.le_trans (Nat.le_trans (Nat.le_trans (Nat.le_trans E263.1 (Keep.of_wr W264).1) (Keep.of_wr W265).1) E266.1) K267.1) (Nat.le_of_eq g271))))
      have ne297 : t259 ≠ b274 := (Nat.ne_of_lt (Nat.lt_of_lt_of_le Bs259.lt (Nat.le_trans (Nat.le_trans (Nat.le_trans (Nat.le_trans (Nat.le_trans (Nat.le_trans (Nat.le_trans (Nat.le_trans E263.1 (Keep.of_wr W264).1) (Keep.of_wr W265).1) E266.1) K267.1) E271.1) (Keep.of_wr W272).1) (Keep.of_wr W273).1) (Nat.le_of_eq g274))))
      have ne298 : t259 ≠ b279 := (Nat.ne_of_lt (Nat.lt_of_lt_of_le Bs259.lt (Nat.le_trans (Nat.le_trans (Nat.le_trans (Nat.le_trans (Nat.le_trans (Nat.le_trans (Nat.le_trans (Nat.le_trans (Nat.le_trans (Nat.le_trans E263.1 (Keep.of_wr W264).1) (Keep.of_wr W265).1) E266.1) K267.1) E271.1) (Keep.of_wr W272).1) (Keep.of_wr W273).1) E274.1) K275.1) (Nat.le_of_eq g279))))
      have f299 := ((((((((((((Bs259.ext E263).other W264 ne294).other W265 ne294).ext E266).keep K267 (ninS ne295 nin0)).ext E271).other W272 ne296).other W273 ne296).ext E274).keep K275 (ninS ne297 nin0)).ext E279).keep K280 (ninS ne298 nin0))
      have z300 := (Nat.le_trans z281 K280.1)
      have ne301 : t267 ≠ ch280 := (Nat.ne_of_lt (Nat.lt_of_lt_of_le Bs267.lt (Nat.le_trans (Nat.le_trans (Nat.le_trans (Nat.le_trans (Nat.le_trans (Nat.le_trans E271.1 (Keep.of_wr W272).1) (Keep.of_wr W273).1) E274.1) K275.1) E279.1) lc280)))
      have ne302 : t267 ≠ b271 := (Nat.ne_of_lt (Nat.lt_of_lt_of_le Bs267.lt (Nat.le_of_eq g271)))
      have ne303 : t267 ≠ b274 := (Nat.ne_of_lt (Nat.lt_of_lt_of_le Bs267.lt (Nat.le_trans (Nat.le_trans (Nat.le_trans E271.1 (Keep.of_wr W272).1) (Keep.of_wr W273).1) (Nat.le_of_eq g274))))
      have ne304 : t267 ≠ b279 := (Nat.ne_of_lt (Nat.lt_of_lt_of_le Bs267.lt (Nat.le_trans (Nat.le_trans (Nat.le_trans (Nat.le_trans (Nat.le_trans E271.1 (Keep.of_wr W272).1) (Keep.of_wr W273).1) E274.1) K275.1) (Nat.le_of_eq g279))))
      have f305 := (((((((Bs267.ext E271).other W272 ne302).other W273 ne302).ext E274).keep K275 (ninS ne303 nin0)).ext E279).keep K280 (ninS ne304 nin0))
      have ne306 : t275 ≠ ch280 := (Nat.ne_of_lt (Nat.lt_of_lt_of_le Bs275.lt (Nat.le_trans E279.1 lc280)))
      have ne307 : t275 ≠ b279 := (Nat.ne_of_lt (Nat.lt_of_lt_of_le Bs275.lt (Nat.le_of_eq g279)))
      have f308 := ((Bs275.ext E279).keep K280 (ninS ne307 nin0))
      refine g_virtual X280 hx hby hZ hown (rm_kadd_0 l Z a0 hw [] b279 ch280 en280 kc280 ke280 (1024 : Int32) (List.replicate 1024 (.int (0 : Int32))) (List.replicate 128 (.int (0 : Int32))) (0 : Int32) (2 : Int32) b258 t259 kb259 (2 : Int32) [(.int (nar .byte ((nar .char ((p0 &&& (255 : Int32)).toUInt32.toUInt16.toUInt32.toInt32)).toInt8.toInt32))), (.int (nar .byte ((nar .char ((p1 &&& (255 : Int32)).toUInt32.toUInt16.toUInt32.toInt32)).toInt8.toInt32)))] cz fz T280.heap n0 z300 O2 P5 f283 rfz O4 f284 kC280 kN280 kK280 VC280 (by rw [List.length_replicate]; exact Nat.le_of_ble_eq_true rfl) VE280 (by rw [List.length_replicate]; exact Nat.le_refl _) rfl (by decide) g_b279 g_ch280 g_en280 nce280 ne285 (by decide) (by decide) (by decide) (by decide) (by decide) (by decide) f286 f292 f293 f299) w49_ w50_ (notFace_of_selects (args := #[]) (mvT hZ w52_)) w52_ w51_ w32_ w53_ (by decide) rfl f284 (by rw [hml]; rfl) [(.ref b258)] (lenOf own_pd19 rfl) rfl rfl (Nat.le_of_ble_eq_true rfl) (Nat.le_of_ble_eq_true rfl) (Nat.le_of_ble_eq_true rfl) (Nat.le_of_ble_eq_true rfl) at_160 (fun v282 T282 L282 X282 hQ282 => ?_)
      obtain ⟨rfl, N282q, K282, ch282, kc282, vc282, ve282, hch282, kE282, kC282, kN282, kK282, VC282, hl282, VE282, hve282, hv282⟩ := hQ282
      have N282 := Fr.app N280 N282q
      have nt282_t259 : t259 ≠ ch282 := own_nech ne285 f299.lt hch282
      have nt282_t267 : t267 ≠ ch282 := own_nech ne301 f305.lt hch282
      have nt282_t275 : t275 ≠ ch282 := own_nech ne306 f308.lt hch282
      have nn282 : en280 ≠ ch282 := own_nech (Ne.symm nce280) VE280.lt hch282
      have lo282 := own_loch g_ch280 z300 hch282
      have cb282 := own_growb (cap := (1024 : Int32)) (e := (2 : Int32)) (B := 2100) (by decide) (by decide) (by decide) (by decide)
      refine g_pop X282 hx hby at_163 rfl ?_
      refine g_iload X282 hx hby at_164 rfl ?_
      refine g_ifN X282 hx hby at_166 (feq (by decide : ¬ ((1 : Int32) = (0 : Int32)))).1 ?_
      refine g_aload X282 hx hby at_169 rfl rfl ?_
      refine g_aload X282 hx hby at_171 rfl rfl ?_
      have f310 := (f283.keep K282 (allS g_b279 (allS g_ch280 (allS g_en280 all0))))
      have f311 := (f284.keep K282)
      have f312 := (((((((((A266.keep K267).ext E271).wr W272).wr W273).ext E274).keep K275).ext E279).keep K280).keep K282)
      have ne313 : b266 ≠ b271 := (Nat.ne_of_lt (Nat.lt_of_lt_of_le A266.lt (Nat.le_trans K267.1 (Nat.le_of_eq g271))))
      have ne314 : b266 ≠ b274 := (Nat.ne_of_lt (Nat.lt_of_lt_of_le A266.lt (Nat.le_trans (Nat.le_trans (Nat.le_trans (Nat.le_trans K267.1 E271.1) (Keep.of_wr W272).1) (Keep.of_wr W273).1) (Nat.le_of_eq g274))))
      have ne315 : b266 ≠ b279 := (Nat.ne_of_lt (Nat.lt_of_lt_of_le A266.lt (Nat.le_trans (Nat.le_trans (Nat.le_trans (Nat.le_trans (Nat.le_trans (Nat.le_trans K267.1 E271.1) (Keep.of_wr W272).1) (Keep.of_wr W273).1) E274.1) K275.1) (Nat.le_of_eq g279))))
      have ne316 : b266 ≠ en280 := (Nat.ne_of_lt (Nat.lt_of_lt_of_le A266.lt (Nat.le_trans (Nat.le_trans (Nat.le_trans (Nat.le_trans (Nat.le_trans (Nat.le_trans (Nat.le_trans K267.1 E271.1) (Keep.of_wr W272).1) (Keep.of_wr W273).1) E274.1) K275.1) E279.1) le280)))
      have ne317 : b266 ≠ ch280 := (Nat.ne_of_lt (Nat.lt_of_lt_of_le A266.lt (Nat.le_trans (Nat.le_trans (Nat.le_trans (Nat.le_trans (Nat.le_trans (Nat.le_trans (Nat.le_trans K267.1 E271.1) (Keep.of_wr W272).1) (Keep.of_wr W273).1) E274.1) K275.1) E279.1) lc280)))
      have f318 := ((((((((Cs267.ext E271).other W272 (Or.inl ne313)).other W273 (Or.inl ne313)).ext E274).keep K275 (ninS ne314 nin0)).ext E279).keep K280 (ninS ne315 nin0)).keep K282 (ninS ne315 (ninS ne317 (ninS ne316 nin0))))
      have f319 := ((((((((Vs267.ext E271).other W272 (Or.inl ne313)).other W273 (Or.inl ne313)).ext E274).keep K275 (ninS ne314 nin0)).ext E279).keep K280 (ninS ne315 nin0)).keep K282 (ninS ne315 (ninS ne317 (ninS ne316 nin0))))
      have ne320 : t267 ≠ en280 := (Nat.ne_of_lt (Nat.lt_of_lt_of_le Bs267.lt (Nat.le_trans (Nat.le_trans (Nat.le_trans (Nat.le_trans (Nat.le_trans (Nat.le_trans E271.1 (Keep.of_wr W272).1) (Keep.of_wr W273).1) E274.1) K275.1) E279.1) le280)))
      have f321 := (f305.keep K282 (ninS ne304 (ninS ne301 (ninS ne320 nin0))))
      have z322 := (Nat.le_trans z300 K282.1)
      have ne323 : t259 ≠ en280 := (Nat.ne_of_lt (Nat.lt_of_lt_of_le Bs259.lt (Nat.le_trans (Nat.le_trans (Nat.le_trans (Nat.le_trans (Nat.le_trans (Nat.le_trans (Nat.le_trans (Nat.le_trans (Nat.le_trans (Nat.le_trans (Nat.le_trans E263.1 (Keep.of_wr W264).1) (Keep.of_wr W265).1) E266.1) K267.1) E271.1) (Keep.of_wr W272).1) (Keep.of_wr W273).1) E274.1) K275.1) E279.1) le280)))
      have f324 := (f299.keep K282 (ninS ne298 (ninS ne285 (ninS ne323 nin0))))
      have ne325 : t275 ≠ en280 := (Nat.ne_of_lt (Nat.lt_of_lt_of_le Bs275.lt (Nat.le_trans E279.1 le280)))
      have f326 := (f308.keep K282 (ninS ne307 (ninS ne306 (ninS ne325 nin0))))
      refine g_virtual X282 hx hby hZ hown (rm_kadd_1 l Z a0 hw [] b279 ch282 en280 kc282 ke280 (own_grow (1024 : Int32) (2 : Int32)) vc282 ve282 (2 : Int32) (1027 : Int32) b266 t267 kb267 (1025 : Int32) bs267 cz fz T282.heap n0 z322 O2 P5 f310 rfz O4 f311 kC282 kN282 kK282 VC282 hl282 VE282 hve282 hv282 (by decide) g_b279 lo282 g_en280 (Ne.symm nn282) nt282_t267 cb282.1 (Int.le_trans cb282.2 (by decide)) (by decide) (by decide) (by decide) (by decide) f312 f318 f319 f321) w49_ w50_ (notFace_of_selects (args := #[]) (mvT hZ w52_)) w52_ w51_ w32_ w53_ (by decide) rfl f311 (by rw [hml]; rfl) [(.ref b266)] (lenOf own_pd19 rfl) rfl rfl (Nat.le_of_ble_eq_true rfl) (Nat.le_of_ble_eq_true rfl) (Nat.le_of_ble_eq_true rfl) (Nat.le_of_ble_eq_true rfl) at_173 (fun v309 T309 L309 X309 hQ309 => ?_)
      obtain ⟨rfl, N309q, K309, ch309, kc309, vc309, ve309, hch309, kE309, kC309, kN309, kK309, VC309, hl309, VE309, hve309, hv309⟩ := hQ309
      have N309 := Fr.app N282 N309q
      have nt309_t259 : t259 ≠ ch309 := own_nech nt282_t259 f324.lt hch309
      have nt309_t267 : t267 ≠ ch309 := own_nech nt282_t267 f321.lt hch309
      have nt309_t275 : t275 ≠ ch309 := own_nech nt282_t275 f326.lt hch309
      have nn309 : en280 ≠ ch309 := own_nech nn282 VE282.lt hch309
      have lo309 := own_loch lo282 z322 hch309
      refine g_at 176 rfl rfl rfl ?_
      refine g_pop X309 hx hby at_176 rfl ?_
      refine g_aload X309 hx hby at_177 rfl rfl ?_
      have f328 := (f311.keep K309)
      have z329 := (Nat.le_trans z322 K309.1)
      refine g_virtual X309 hx hby hZ hown (rm_clear l Z a0 hw [] b279 (.ref ch309) (.ref en280) (2 : Int32) T309.heap n0 z329 f328 kC309 kN309 kK309 g_b279) w115_ w38_ (notFace_of_selects (args := #[]) (mvT hZ w40_)) w40_ w39_ w32_ w41_ (by decide) rfl f328 (by rw [hml]; rfl) [] (lenOf own_pd17 rfl) rfl rfl (Nat.le_of_ble_eq_true rfl) (Nat.le_of_ble_eq_true rfl) (Nat.le_of_ble_eq_true rfl) (Nat.le_of_ble_eq_true rfl) at_179 (fun v327 T327 L327 X327 hQ327 => ?_)
      obtain ⟨rfl, N327q, K327, ch327, en327, kc327, ke327, lc327, le327, nce327, kE327, kC327, kN327, kK327, VC327, VE327⟩ := hQ327
      have N327 := Fr.app N309 N327q
      refine g_aload X327 hx hby at_182 rfl rfl ?_
      have z331 := (Nat.le_trans z329 K327.1)
      have f332 := (f328.keep K327)
      refine g_virtual X327 hx hby hZ hown (rm_ksize l Z a0 hw [] b279 (0 : Int32) T327.heap n0 z331 kK327) w116_ w117_ (notFace_of_selects (args := #[]) (mvT hZ w119_)) w119_ w118_ w32_ w120_ (by decide) rfl f332 (by rw [hml]; rfl) [] (lenOf own_pd3 rfl) rfl rfl (Nat.le_of_ble_eq_true rfl) (Nat.le_of_ble_eq_true rfl) (Nat.le_of_ble_eq_true rfl) (Nat.le_of_ble_eq_true rfl) at_184 (fun v330 T330 L330 X330 hQ330 => ?_)
      obtain ⟨rfl, N330q, eh330⟩ := hQ330
      have N330 := Fr.app N327 N330q
      refine g_ifY X330 hx hby 192 at_187 (teq (by decide : (0 : Int32) = (0 : Int32))).1 (by decide) (by decide) ?_
      refine g_aload X330 hx hby at_192 rfl rfl ?_
      refine g_virtual X330 hx hby hZ hown (rm_memory l Z a0 hw [] b279 ch327 en327 kc327 ke327 (1024 : Int32) (List.replicate 1024 (.int (0 : Int32))) (List.replicate 128 (.int (0 : Int32))) T327.heap n0 z331 kC327 kN327 VC327 VE327) w121_ w122_ (notFace_of_selects (args := #[]) (mvT hZ w124_)) w124_ w123_ w32_ w125_ (by decide) eh330 f332 (by rw [hml]; rfl) [] (lenOf own_pd18 rfl) rfl rfl (Nat.le_of_ble_eq_true rfl) (Nat.le_of_ble_eq_true rfl) (Nat.le_of_ble_eq_true rfl) (Nat.le_of_ble_eq_true rfl) at_194 (fun v333 T333 L333 X333 hQ333 => ?_)
      obtain ⟨rfl, N333q, eh333⟩ := hQ333
      have N333 := Fr.app N330 N333q
      refine g_topJ (T := T333) (2560 : Int64) (by decide) ?_
      refine g_ldc2J X333 hx hby hZ hown w128_ at_197 ?_
      refine g_lcmp X333 hx hby at_200 ?_
      refine g_ifY X333 hx hby 206 at_201 (teq ((lw_eq (2560 : Int64) (2560 : Int64)).mpr (by decide : (2560 : Int64) = (2560 : Int64)))).1 (by decide) (by decide) ?_
      refine g_aload X333 hx hby at_206 rfl rfl ?_
      refine g_aload X333 hx hby at_208 rfl rfl ?_
      have f335 := ((f310.keep K309 (allS g_b279 (allS lo282 (allS g_en280 all0)))).keep K327 (allS g_b279 all0))
      have f336 := (((((Es275.ext E279).keep K280).keep K282).keep K309).keep K327)
      have ne337 : b274 ≠ b279 := (Nat.ne_of_lt (Nat.lt_of_lt_of_le A274.lt (Nat.le_trans K275.1 (Nat.le_of_eq g279))))
      have ne338 : b274 ≠ en280 := (Nat.ne_of_lt (Nat.lt_of_lt_of_le A274.lt (Nat.le_trans (Nat.le_trans K275.1 E279.1) le280)))
      have ne339 : b274 ≠ ch280 := (Nat.ne_of_lt (Nat.lt_of_lt_of_le A274.lt (Nat.le_trans (Nat.le_trans K275.1 E279.1) lc280)))
      have ne340 : b274 ≠ ch282 := (Exa.neArv (((Es275.ext E279).keep K280).keep K282) VC282 w2_)
      have f341 := (((((Cs275.ext E279).keep K280 (ninS ne337 nin0)).keep K282 (ninS ne337 (ninS ne339 (ninS ne338 nin0)))).keep K309 (ninS ne337 (ninS ne340 (ninS ne338 nin0)))).keep K327 (ninS ne337 nin0))
      have f342 := (((((Vs275.ext E279).keep K280 (ninS ne337 nin0)).keep K282 (ninS ne337 (ninS ne339 (ninS ne338 nin0)))).keep K309 (ninS ne337 (ninS ne340 (ninS ne338 nin0)))).keep K327 (ninS ne337 nin0))
      have f343 := ((f326.keep K309 (ninS ne307 (ninS nt282_t275 (ninS ne325 nin0)))).keep K327 (ninS ne307 nin0))
      have g_ch327 : n0 ≤ ch327 := Nat.le_trans z329 lc327
      have ne344 : t275 ≠ ch327 := (Nat.ne_of_lt (Nat.lt_of_lt_of_le Bs275.lt (Nat.le_trans (Nat.le_trans (Nat.le_trans (Nat.le_trans E279.1 K280.1) K282.1) K309.1) lc327)))
      have g_en327 : n0 ≤ en327 := Nat.le_trans z329 le327
      refine g_virtual X333 hx hby hZ hown (rm_addU l Z a0 hw [] b279 en327 ke327 (List.replicate 128 (.int (0 : Int32))) b274 t275 kb275 ch327 kc327 (List.replicate 1024 (.int (0 : Int32))) (nar .char ((p2 &&& (255 : Int32)).toUInt32.toUInt16.toUInt32.toInt32)) (nar .char ((p3 &&& (255 : Int32)).toUInt32.toUInt16.toUInt32.toInt32)) cz fz T327.heap n0 z331 O2 P5 f335 rfz O4 f336 f341 f342 f343 VC327 (by rw [List.length_replicate]; decide) g_ch327 ne344 (own_cr _) (own_cr _) f332 kC327 kN327 kK327 VE327 (by rw [List.length_replicate]; exact Nat.le_refl _) g_b279 g_en327 nce327) w49_ w50_ (notFace_of_selects (args := #[]) (mvT hZ w52_)) w52_ w51_ w32_ w53_ (by decide) eh333 f332 (by rw [hml]; rfl) [(.ref b274)] (lenOf own_pd19 rfl) rfl rfl (Nat.le_of_ble_eq_true rfl) (Nat.le_of_ble_eq_true rfl) (Nat.le_of_ble_eq_true rfl) (Nat.le_of_ble_eq_true rfl) at_210 (fun v334 T334 L334 X334 hQ334 => ?_)
      obtain ⟨rfl, N334q, K334, kE334, kC334, kN334, kK334, VC334, VE334⟩ := hQ334
      have N334 := Fr.app N333 N334q
      refine g_istore X334 hx hby at_213 (l' := #[.val (.int pn), .val (.int p0), .val (.int p1), .val (.int pg), .val (.int p2), .val (.int p3), .val (.int (1 : Int32)), .val (.int (1 : Int32)), .val (.ref b255), .val (.ref b258), .val (.ref b263), .val (.ref b266), .val (.ref b271), .val (.ref b274), .val (.ref b279), .val (.int (0 : Int32))]) rfl ?_
      refine g_iload X334 hx hby at_215 rfl ?_
      refine g_ifY X334 hx hby 222 at_217 (teq (by decide : (0 : Int32) = (0 : Int32))).1 (by decide) (by decide) ?_
      refine g_aload X334 hx hby at_222 rfl rfl ?_
      have z346 := (Nat.le_trans z331 K334.1)
      have f347 := (f332.keep K334)
      refine g_virtual X334 hx hby hZ hown (rm_ksize l Z a0 hw [] b279 (1 : Int32) T334.heap n0 z346 kK334) w116_ w117_ (notFace_of_selects (args := #[]) (mvT hZ w119_)) w119_ w118_ w32_ w120_ (by decide) rfl f347 (by rw [hml]; rfl) [] (lenOf own_pd3 rfl) rfl rfl (Nat.le_of_ble_eq_true rfl) (Nat.le_of_ble_eq_true rfl) (Nat.le_of_ble_eq_true rfl) (Nat.le_of_ble_eq_true rfl) at_224 (fun v345 T345 L345 X345 hQ345 => ?_)
      obtain ⟨rfl, N345q, eh345⟩ := hQ345
      have N345 := Fr.app N334 N345q
      refine g_iconst X345 hx hby (1 : Int32) at_227 rfl ?_
      refine g_icY X345 hx hby 233 at_228 (teq (by decide : (1 : Int32) = (1 : Int32))).1 (by decide) (by decide) ?_
      refine g_aload X345 hx hby at_233 rfl rfl ?_
      refine g_iconst X345 hx hby (0 : Int32) at_235 rfl ?_
      have f349 := (f335.keep K334 (allS g_b279 (allS g_ch327 (allS g_en327 all0))))
      refine g_virtual X345 hx hby hZ hown (rm_keyK l Z a0 hw [] b279 en327 ke327 ((List.replicate 128 (.int (0 : Int32))).set 0 (.int (2 : Int32))) ch327 kc327 (((List.replicate 1024 (.int (0 : Int32))).set 0 (.int (nar .char ((p2 &&& (255 : Int32)).toUInt32.toUInt16.toUInt32.toInt32)))).set 1 (.int (nar .char ((p3 &&& (255 : Int32)).toUInt32.toUInt16.toUInt32.toInt32)))) (nar .char ((p2 &&& (255 : Int32)).toUInt32.toUInt16.toUInt32.toInt32)) (nar .char ((p3 &&& (255 : Int32)).toUInt32.toUInt16.toUInt32.toInt32)) cz fz T334.heap n0 z346 O2 P5 f349 rfz O4 f347 kC334 kN334 VE334 (own_setD (by rw [List.length_replicate]; decide)) VC334 (own_s20 (by rw [List.length_replicate]; decide)) (own_s21 (by rw [List.length_replicate]; decide)) (own_c255 _) (own_c255 _)) w129_ w130_ (notFace_of_selects (args := #[]) (mvT hZ w132_)) w132_ w131_ w32_ w133_ (by decide) eh345 f347 (by rw [hml]; rfl) [(.int (0 : Int32))] (lenOf own_pd20 rfl) rfl rfl (Nat.le_of_ble_eq_true rfl) (Nat.le_of_ble_eq_true rfl) (Nat.le_of_ble_eq_true rfl) (Nat.le_of_ble_eq_true rfl) at_236 (fun v348 T348 L348 X348 hQ348 => ?_)
      obtain ⟨N348q, K348, s348, t348, kb348, rfl, ls348, lo348, Es348, Cs348, Vs348, Bs348⟩ := hQ348
      have N348 := Fr.app N345 N348q
      refine g_aload X348 hx hby at_239 rfl rfl ?_
      have f351 := (f349.keep K348 all0)
      have f352 := ((f336.keep K334).keep K348)
      have ne353 : b274 ≠ en327 := (Nat.ne_of_lt (Nat.lt_of_lt_of_le A274.lt (Nat.le_trans (Nat.le_trans (Nat.le_trans (Nat.le_trans (Nat.le_trans K275.1 E279.1) K280.1) K282.1) K309.1) le327)))
      have ne354 : b274 ≠ ch327 := (Nat.ne_of_lt (Nat.lt_of_lt_of_le A274.lt (Nat.le_trans (Nat.le_trans (Nat.le_trans (Nat.le_trans (Nat.le_trans K275.1 E279.1) K280.1) K282.1) K309.1) lc327)))
      have f355 := ((f341.keep K334 (ninS ne337 (ninS ne354 (ninS ne353 nin0)))).keep K348 nin0)
      have f356 := ((f342.keep K334 (ninS ne337 (ninS ne354 (ninS ne353 nin0)))).keep K348 nin0)
      have ne357 : t275 ≠ en327 := (Nat.ne_of_lt (Nat.lt_of_lt_of_le Bs275.lt (Nat.le_trans (Nat.le_trans (Nat.le_trans (Nat.le_trans E279.1 K280.1) K282.1) K309.1) le327)))
      have f358 := ((f343.keep K334 (ninS ne307 (ninS ne344 (ninS ne357 nin0)))).keep K348 nin0)
      have ne359 : s348 ≠ b274 := (Ne.symm (Nat.ne_of_lt (Nat.lt_of_lt_of_le A274.lt (Nat.le_trans (Nat.le_trans (Nat.le_trans (Nat.le_trans (Nat.le_trans (Nat.le_trans (Nat.le_trans K275.1 E279.1) K280.1) K282.1) K309.1) K327.1) K334.1) ls348))))
      have z360 := (Nat.le_trans z346 K348.1)
      refine g_virtual X348 hx hby hZ hown (rm_streq_2 l Z a0 hw [] s348 b274 t348 kb348 t275 kb275 (nar .byte ((nar .char ((p2 &&& (255 : Int32)).toUInt32.toUInt16.toUInt32.toInt32)).toInt8.toInt32)) (nar .byte ((nar .char ((p3 &&& (255 : Int32)).toUInt32.toUInt16.toUInt32.toInt32)).toInt8.toInt32)) (nar .byte ((nar .char ((p2 &&& (255 : Int32)).toUInt32.toUInt16.toUInt32.toInt32)).toInt8.toInt32)) (nar .byte ((nar .char ((p3 &&& (255 : Int32)).toUInt32.toUInt16.toUInt32.toInt32)).toInt8.toInt32)) cz T348.heap n0 z360 O2 P5 f351 Es348 Cs348 Vs348 f352 f355 f356 Bs348 f358 ne359) w141_ w142_ (notFace_of_selects (args := #[]) (mvT hZ w144_)) w144_ w143_ w3_ w145_ (by decide) rfl Es348 (by rw [hml]; rfl) [(.ref b274)] (lenOf own_pd22 rfl) rfl rfl (Nat.le_of_ble_eq_true rfl) (Nat.le_of_ble_eq_true rfl) (Nat.le_of_ble_eq_true rfl) (Nat.le_of_ble_eq_true rfl) at_241 (fun v350 T350 L350 X350 hQ350 => ?_)
      obtain ⟨rfl, N350q, eh350⟩ := hQ350
      have N350 := Fr.app N348 N350q
      refine g_topI (T := T350) (1 : Int32) (by simp) ?_
      refine g_ifN X350 hx hby at_244 (feq (by decide : ¬ ((1 : Int32) = (0 : Int32)))).1 ?_
      refine g_aload X350 hx hby at_247 rfl rfl ?_
      have f362 := (kC334.keep K348 nin0)
      have f363 := (kN334.keep K348 nin0)
      have f364 := (VC334.keep K348 nin0)
      have f365 := (VE334.keep K348 nin0)
      have f366 := (f347.keep K348)
      refine g_virtual X350 hx hby hZ hown (rm_memory l Z a0 hw [] b279 ch327 en327 kc327 ke327 (1024 : Int32) (((List.replicate 1024 (.int (0 : Int32))).set 0 (.int (nar .char ((p2 &&& (255 : Int32)).toUInt32.toUInt16.toUInt32.toInt32)))).set 1 (.int (nar .char ((p3 &&& (255 : Int32)).toUInt32.toUInt16.toUInt32.toInt32)))) ((List.replicate 128 (.int (0 : Int32))).set 0 (.int (2 : Int32))) T348.heap n0 z360 f362 f363 f364 f365) w121_ w122_ (notFace_of_selects (args := #[]) (mvT hZ w124_)) w124_ w123_ w32_ w125_ (by decide) eh350 f366 (by rw [hml]; rfl) [] (lenOf own_pd18 rfl) rfl rfl (Nat.le_of_ble_eq_true rfl) (Nat.le_of_ble_eq_true rfl) (Nat.le_of_ble_eq_true rfl) (Nat.le_of_ble_eq_true rfl) at_249 (fun v361 T361 L361 X361 hQ361 => ?_)
      obtain ⟨rfl, N361q, eh361⟩ := hQ361
      have N361 := Fr.app N350 N361q
      refine g_topJ (T := T361) (2560 : Int64) (by decide) ?_
      refine g_ldc2J X361 hx hby hZ hown w128_ at_252 ?_
      refine g_lcmp X361 hx hby at_255 ?_
      refine g_at 256 rfl rfl rfl ?_
      refine g_ifN X361 hx hby at_256 (teq ((lw_eq (2560 : Int64) (2560 : Int64)).mpr (by decide : (2560 : Int64) = (2560 : Int64)))).2 ?_
      refine g_iconst X361 hx hby (1 : Int32) at_259 rfl ?_
      refine g_goto X361 hx hby 264 at_260 (by decide) (by decide) ?_
      refine g_nret X361 hx hby (t := .boolean) (by simp) Bd.returns Bd.notSynchronized at_264 eh361 (by decide) (by decide) ?_
      show (Q_law Z pn p0 p1 pg p2 p3 fz cz h0 n0) (some (.int (1 : Int32))) _ _
      exact ⟨rfl, N361⟩

set_option maxRecDepth 65536 in
set_option maxHeartbeats 40000000 in
theorem comes_1 {Post : Tables → Env → Array Value → State → Outcome → State → Prop} (hpost : ∀ tb e args s v u, (limb_1_1.after args s (.returned v) u = true ∧ limb_1_2.after args s (.returned v) u = true ∧ True) → FrameEnd s (.returned v) u (Jvm.fieldLocs frame_1_writes args s ++ Jvm.arrayLocs frame_1_arrays args s ++ Jvm.staticLocs frame_1_statics s) 48 12928 → Post tb e args s (.returned v) u) :
    ArmFor flags0 classFile x code maxLocals ret World_1 tables_1 room_1 Calls_1 rest_1 Pre_1 Post := by
  intro l hfl _ _ p e ha hc hk s m args below hf hA hF happ hP
  obtain ⟨hcalls, hrest, hpre⟩ := hP
  obtain ⟨-, -, -, hnamed, -, -, -, hat⟩ := (Spec.applies_iff hf).mp happ
  obtain ⟨hg, hn⟩ := and_e (Cond.before_iff.mp (show (Jvm.Cond.and given_1 narrow_1).before args s = true from hpre))
  obtain ⟨hcount, hg1⟩ := and_e hg
  obtain ⟨ga0, hg2⟩ := and_e hg1
  obtain ⟨ga1, hg3⟩ := and_e hg2
  obtain ⟨ga2, hg4⟩ := and_e hg3
  obtain ⟨ga3, hg5⟩ := and_e hg4
  obtain ⟨ga4, hg6⟩ := and_e hg5
  have ga5 := hg6
  obtain ⟨w0, w1, w2, w3, w4, w5, rfl⟩ : ∃ w0 w1 w2 w3 w4 w5 : Value, args = #[w0, w1, w2, w3, w4, w5] := by
    have hs : args.size = 6 := by simpa [Cond.value, given_1] using hcount
    obtain ⟨L⟩ := args
    match L, hs with
    | [w0, w1, w2, w3, w4, w5], _ => exact ⟨w0, w1, w2, w3, w4, w5, rfl⟩
  have hw := fun d (hd : d ∈ tables_1) => atoms_spec (ws := Jvm.Cond.code x code maxLocals ret :: tables_1) hat d (List.mem_cons_of_mem _ hd)
  have hfit : Fit s := fun {y c} hc i hi => by
    obtain ⟨ha, rfl⟩ := Array.getElem?_eq_some_iff.mp hc
    have q := List.all_eq_true.mp ((Array.all_eq_true_iff_forall_mem.mp hF) _ (Array.getElem_mem ha)) i (List.mem_range.mpr hi)
    simpa [Array.getElem?_eq_getElem hi] using q
  obtain ⟨hsets, hown0⟩ := atoms_of _ (rest_1_c_eq ▸ (show rest_1_c.before _ s = true from hrest))
  have hr0 := Cond.before_iff.mp hown0
  obtain ⟨i0, ei0⟩ := is_v ga0
  obtain rfl : w0 = (.int i0) := Option.some.inj ei0
  obtain ⟨i1, ei1⟩ := is_v ga1
  obtain rfl : w1 = (.int i1) := Option.some.inj ei1
  obtain ⟨i2, ei2⟩ := is_v ga2
  obtain rfl : w2 = (.int i2) := Option.some.inj ei2
  obtain ⟨i3, ei3⟩ := is_v ga3
  obtain rfl : w3 = (.int i3) := Option.some.inj ei3
  obtain ⟨i4, ei4⟩ := is_v ga4
  obtain rfl : w4 = (.int i4) := Option.some.inj ei4
  obtain ⟨i5, ei5⟩ := is_v ga5
  obtain rfl : w5 = (.int i5) := Option.some.inj ei5
  obtain ⟨cz, ecz⟩ := is_v (Cond.before_iff.mp (hsets _ (List.mem_of_getElem? (i := 1) rfl)))
  have O2 := Sta.start ecz (Or.inl (hsets _ (List.mem_of_getElem? (i := 0) rfl)))
  have P5 : ¬ cz = (0 : Int32) := gotF (Cond.eq_ints ecz (Term.int_eval 0)) (not_v (Cond.before_iff.mp (hsets _ (List.mem_of_getElem? (i := 2) rfl))))
  obtain ⟨fz, efz, rfz0⟩ := isR_v (Cond.before_iff.mp (hsets _ (List.mem_of_getElem? (i := 8) rfl)))
  have rfz := Rf.of rfz0
  have O4 := Sta.start efz (Or.inl (hsets _ (List.mem_of_getElem? (i := 7) rfl)))
  obtain ⟨n, o, h1, h2, h3, _, L, rfl, ⟨rfl, N⟩, hq⟩ := rm_law l s _ hw tables_1 i0 i1 i2 i3 i4 i5 fz cz s.heap s.heap.size (Nat.le_refl _) O2 P5 (Old.start s) rfz O4 p e ha hc hk s m _ below hf ((Spec.applies_iff_loose hf).mp happ).1 ⟨rfl, State.Warmed39.refl s, rfl⟩ trivial
  refine ⟨n, _, h1, h2, h3, hpost _ _ _ _ _ _ ⟨Cond.after_iff.mpr rfl, Cond.after_iff.mpr (eq_i res_at (Term.int_eval (1)) rfl), trivial⟩ ⟨hq.1, hq.2.1, (hq.2.2.sift fun y hy => Or.inr (N y hy)).mono (by decide) (by decide)⟩⟩
theorem main_1_1 : Claimed_1_1 := comes_1 fun _ _ _ _ _ _ h hF => ⟨h.1, hF⟩
theorem main_1_2 : Claimed_1_2 := comes_1 fun _ _ _ _ _ _ h hF => ⟨h.2.1, hF⟩

end Jvm.Pilot.@@N@@
namespace Jvm.Pilot.@@N@@
open Jvm Jvm.ClassFile Sem Op Lib Jvm.Free Jvm.Stand Jvm.Pilot.@@N@@.Jvm.D
/-! MADE BY PROGRAM (witnessworld.py) out of the Statement's table words and the real class files: 23 classes; the members and pool entries that the words name. The judged class is class 1, her method 1. -/
namespace start1
open Jvm.ClassFile
def u (s : String) : CpInfo := .utf8 (stringToUtf16 s)
/-- a pool by its gaps: so many unusable entries, then the entry; so many at the end -/
def gap : Nat → List CpInfo → List CpInfo
  | 0, r => r
  | n + 1, r => .unusable :: gap n r
def poolList (es : List (Nat × CpInfo)) (last : Nat) : List CpInfo := es.foldr (fun e r => gap e.1 (e.2 :: r)) (gap last [])
def pool (es : List (Nat × CpInfo)) (last : Nat) : Array CpInfo := ⟨poolList es last⟩
def fileOf (pool : Array CpInfo) (this : Nat) (attrs : Array Attribute := #[]) (ms : Array MethodInfo := #[]) (fl : Nat := 33) (sup : Nat := 0) (ifs : Array Nat := #[]) (fds : Array FieldInfo := #[]) : ClassFile where
  minorVersion := 0
  majorVersion := 65
  constantPool := pool
  accessFlags := fl
  thisClass := this
  superClass := sup
  interfaces := ifs
  fields := fds
  methods := ms
  attributes := attrs
def plain (name : String) (sup : Option ClassId) : Class where
  name := name
  kind := .ordinary
  loader := none
  accessFlags := 33
  super := sup
  interfaces := #[]
  cf := none
  fields := #[]
  methods := #[]
  instanceTypes := #[]
  staticTypes := #[]
  resolved := #[]
  callSites := []
  init := .initialized
  statics := none
  mirror := none

def pool0 : Array CpInfo := pool [(5, u "<init>"), (0, u "()V"), (1, .class_ 10), (1, u "java/lang/Object")] 113

def k0c0 : Code := { maxStack := 0, maxLocals := 1, code := object_method_1_code, exceptionTable := #[], attributes := #[] }
def k0m0 : Method := { name := "<init>", desc := "()V", sig := { parameters := [], returnType := none }, accessFlags := 1, code := some k0c0 }
/-- java/lang/Object -/
def k0 : Class := { plain "java/lang/Object" none with
  accessFlags := 33
  interfaces := #[]
  cf := some (fileOf pool0 8 #[] #[{ accessFlags := 1, nameIndex := 5, descriptorIndex := 6, attributes := #[] }] 33 0 #[] #[])
  fields := #[]
  methods := #[k0m0]
  instanceTypes := #[]
  staticTypes := #[]
  resolved := Array.replicate 124 none
  statics := none }

def pool1 : Array CpInfo := pool [(2, .class_ 4), (0, .nameAndType 5 6), (0, u "java/lang/Object"), (0, u "<init>"), (0, u "()V"), (0, .class_ 8), (0, u "java/lang/String"), (0, .methodref 7 10), (0, .nameAndType 5 11), (0, u "([C)V"), (0, .class_ 13), (0, u "com/example/invix/invix/sort/KeyBuffer"), (0, .methodref 12 3), (0, .methodref 12 16), (0, .nameAndType 17 18), (0, u "add"), (0, u "(Ljava/lang/String;)I"), (0, .methodref 12 20), (0, .nameAndType 21 6), (0, u "clear"), (0, .methodref 12 23), (0, .nameAndType 24 25), (0, u "size"), (0, u "()I"), (0, .methodref 12 27), (0, .nameAndType 28 29), (0, u "memory"), (0, u "()J"), (0, .long 2560), (1, .methodref 12 33), (0, .nameAndType 34 35), (0, u "key"), (0, u "(I)Ljava/lang/String;"), (0, .methodref 7 37), (0, .nameAndType 38 39), (0, u "equals"), (0, u "(Ljava/lang/Object;)Z"), (0, .class_ 41), (0, u "com/example/invix/invix/sort/KeyBufferClearPinLaw"), (2, u "law"), (0, u "(IIIIII)Z")] 5

def k1m0 : Method := { name := "<init>", desc := "()V", sig := { parameters := [], returnType := none }, accessFlags := 2, code := none }
def k1c1 : Code := { maxStack := 4, maxLocals := 16, code := code, exceptionTable := #[], attributes := #[] }
def k1m1 : Method := { name := "law", desc := "(IIIIII)Z", sig := { parameters := [.int, .int, .int, .int, .int, .int], returnType := some .boolean }, accessFlags := 9, code := some k1c1 }
/-- com/example/invix/invix/sort/KeyBufferClearPinLaw -/
def k1 : Class := { plain "com/example/invix/invix/sort/KeyBufferClearPinLaw" (some 0) with
  accessFlags := 49
  interfaces := #[]
  cf := some (fileOf pool1 40 #[] #[{ accessFlags := 2, nameIndex := 5, descriptorIndex := 6, attributes := #[] }, { accessFlags := 9, nameIndex := 44, descriptorIndex := 45, attributes := #[] }] 49 2 #[] #[])
  fields := #[]
  methods := #[k1m0, k1m1]
  instanceTypes := #[]
  staticTypes := #[]
  resolved := Array.replicate 51 none
  statics := none }

def pool2 : Array CpInfo := pool [(1, .class_ 2), (0, u "java/io/Serializable"), (0, .class_ 4), (0, u "java/lang/Object")] 2

/-- java/io/Serializable -/
def k2 : Class := { plain "java/io/Serializable" (some 0) with
  accessFlags := 1537
  interfaces := #[]
  cf := some (fileOf pool2 1 #[] #[] 1537 3 #[] #[])
  fields := #[]
  methods := #[]
  instanceTypes := #[]
  staticTypes := #[]
  resolved := Array.replicate 7 none
  statics := none }

def pool3 : Array CpInfo := pool [(1, .class_ 2), (0, u "java/lang/Comparable"), (0, .class_ 4), (0, u "java/lang/Object")] 7

/-- java/lang/Comparable -/
def k3 : Class := { plain "java/lang/Comparable" (some 0) with
  accessFlags := 1537
  interfaces := #[]
  cf := some (fileOf pool3 1 #[] #[] 1537 3 #[] #[])
  fields := #[]
  methods := #[]
  instanceTypes := #[]
  staticTypes := #[]
  resolved := Array.replicate 12 none
  statics := none }

def pool4 : Array CpInfo := pool [(2, .class_ 4), (1, u "java/lang/CharSequence"), (42, .class_ 48), (0, u "java/lang/CharSequence$1CodePointIterator"), (10, .class_ 60), (0, u "java/lang/CharSequence$1CharIterator"), (5, .class_ 67), (0, u "java/lang/Object")] 63

/-- java/lang/CharSequence -/
def k4 : Class := { plain "java/lang/CharSequence" (some 0) with
  accessFlags := 1537
  interfaces := #[]
  cf := some (fileOf pool4 2 #[.nestMembers #[47, 59]] #[] 1537 66 #[] #[])
  fields := #[]
  methods := #[]
  instanceTypes := #[]
  staticTypes := #[]
  resolved := Array.replicate 131 none
  statics := none }

def pool5 : Array CpInfo := pool [(1, .class_ 2), (0, u "java/lang/constant/Constable"), (0, .class_ 4), (0, u "java/lang/Object")] 6

/-- java/lang/constant/Constable -/
def k5 : Class := { plain "java/lang/constant/Constable" (some 0) with
  accessFlags := 1537
  interfaces := #[]
  cf := some (fileOf pool5 1 #[] #[] 1537 3 #[] #[])
  fields := #[]
  methods := #[]
  instanceTypes := #[]
  staticTypes := #[]
  resolved := Array.replicate 11 none
  statics := none }

def pool6 : Array CpInfo := pool [(1, .class_ 2), (0, u "java/lang/constant/ConstantDesc"), (0, .class_ 4), (0, u "java/lang/Object")] 32

/-- java/lang/constant/ConstantDesc -/
def k6 : Class := { plain "java/lang/constant/ConstantDesc" (some 0) with
  accessFlags := 1537
  interfaces := #[]
  cf := some (fileOf pool6 1 #[] #[] 1537 3 #[] #[])
  fields := #[]
  methods := #[]
  instanceTypes := #[]
  staticTypes := #[]
  resolved := Array.replicate 37 none
  statics := none }

def pool7 : Array CpInfo := pool [(1, .methodref 2 3), (0, .class_ 4), (0, .nameAndType 5 6), (0, u "java/lang/Object"), (0, u "<init>"), (0, u "()V"), (2, .fieldref 10 11), (0, .class_ 12), (0, .nameAndType 13 14), (0, u "java/lang/String"), (0, u "value"), (0, u "[B"), (0, .fieldref 10 16), (0, .nameAndType 17 18), (0, u "coder"), (0, u "B"), (2, u "hash"), (0, u "I"), (2, u "hashIsZero"), (0, u "Z"), (0, .methodref 10 28), (0, .nameAndType 5 29), (0, u "([CIILjava/lang/Void;)V"), (0, .methodref 10 31), (0, .nameAndType 32 33), (0, u "rangeCheck"), (0, u "([CII)Ljava/lang/Void;"), (0, .methodref 10 35), (0, .nameAndType 36 37), (0, u "checkBoundsOffCount"), (0, u "(III)I"), (0, .fieldref 10 39), (0, .nameAndType 40 26), (0, u "COMPACT_STRINGS"), (1, .class_ 44), (1, u "java/lang/StringUTF16"), (0, u "compress"), (1, .methodref 42 48), (0, .nameAndType 49 50), (0, u "coderFromArrayLen"), (0, u "([BI)B"), (56, .class_ 109), (1, u "java/lang/StringLatin1"), (32, u "()Z"), (34, .methodref 42 178), (0, .nameAndType 45 179), (0, u "([CII)[B"), (154, u "()I"), (0, .methodref 10 336), (0, .nameAndType 17 337), (0, u "()B"), (154, .methodref 10 493), (0, .nameAndType 494 142), (0, u "isLatin1"), (10, .methodref 10 506), (0, .nameAndType 507 334), (0, u "length"), (5, u "checkFromToIndex"), (7, .methodref 10 522), (0, .nameAndType 523 524), (0, u "checkBoundsBeginEnd"), (0, u "(III)V"), (0, .methodref 107 526), (0, .nameAndType 527 528), (0, u "getChars"), (0, u "([BII[CI)V"), (12, .methodref 107 542), (0, .nameAndType 543 544), (0, u "equals"), (0, u "([B[B)Z"), (28, u "(Ljava/lang/Object;)Z"), (1, .class_ 576), (0, u "java/lang/CharSequence"), (22, u "CASE_INSENSITIVE_ORDER"), (0, u "Ljava/util/Comparator;"), (371, u "([CII)V"), (37, u "([C)V"), (42, .fieldref 1054 1055), (0, .class_ 1056), (0, .nameAndType 1057 1058), (0, u "jdk/internal/util/Preconditions"), (0, u "SIOOBE_FORMATTER"), (0, u "Ljava/util/function/BiFunction;"), (3, .methodref 1054 1063), (0, .nameAndType 513 1064), (0, u "(IIILjava/util/function/BiFunction;)I"), (0, .methodref 1054 1066), (0, .nameAndType 1067 1064), (0, u "checkFromIndexSize"), (33, u "serialPersistentFields"), (0, u "[Ljava/io/ObjectStreamField;"), (0, .class_ 1104), (0, u "java/lang/String$CaseInsensitiveComparator"), (1, .class_ 1107), (0, u "java/io/Serializable"), (0, .class_ 1109), (0, u "java/lang/Comparable"), (0, .class_ 1111), (0, u "java/lang/constant/Constable"), (0, .class_ 1113), (0, u "java/lang/constant/ConstantDesc"), (2, u "serialVersionUID"), (0, u "J"), (3, u "REPL"), (0, u "C"), (2, u "LATIN1"), (1, u "UTF16"), (112, u "(II[CI)V")] 210

def k7m0 : Method := { name := "<init>", desc := "()V", sig := { parameters := [], returnType := none }, accessFlags := 1, code := none }
def k7c1 : Code := { maxStack := 5, maxLocals := 2, code := jdk_42_method_3_code, exceptionTable := #[], attributes := #[] }
def k7m1 : Method := { name := "<init>", desc := "([C)V", sig := { parameters := [(.array .char)], returnType := none }, accessFlags := 1, code := some k7c1 }
def k7c2 : Code := { maxStack := 7, maxLocals := 4, code := jdk_42_method_4_code, exceptionTable := #[], attributes := #[] }
def k7m2 : Method := { name := "<init>", desc := "([CII)V", sig := { parameters := [(.array .char), .int, .int], returnType := none }, accessFlags := 1, code := some k7c2 }
def k7c3 : Code := { maxStack := 3, maxLocals := 3, code := jdk_42_method_5_code, exceptionTable := #[], attributes := #[] }
def k7m3 : Method := { name := "rangeCheck", desc := "([CII)Ljava/lang/Void;", sig := { parameters := [(.array .char), .int, .int], returnType := some (.object "java/lang/Void") }, accessFlags := 10, code := some k7c3 }
def k7c4 : Code := { maxStack := 2, maxLocals := 1, code := jdk_42_method_54_code, exceptionTable := #[], attributes := #[] }
def k7m4 : Method := { name := "length", desc := "()I", sig := { parameters := [], returnType := some .int }, accessFlags := 1, code := some k7c4 }
def k7c5 : Code := { maxStack := 5, maxLocals := 5, code := jdk_42_method_61_code, exceptionTable := #[], attributes := #[] }
def k7m5 : Method := { name := "getChars", desc := "(II[CI)V", sig := { parameters := [.int, .int, (.array .char), .int], returnType := none }, accessFlags := 1, code := some k7c5 }
def k7c6 : Code := { maxStack := 2, maxLocals := 3, code := jdk_42_method_66_code, exceptionTable := #[], attributes := #[] }
def k7m6 : Method := { name := "equals", desc := "(Ljava/lang/Object;)Z", sig := { parameters := [(.object "java/lang/Object")], returnType := some .boolean }, accessFlags := 1, code := some k7c6 }
def k7c7 : Code := { maxStack := 4, maxLocals := 6, code := jdk_42_method_149_code, exceptionTable := #[], attributes := #[] }
def k7m7 : Method := { name := "<init>", desc := "([CIILjava/lang/Void;)V", sig := { parameters := [(.array .char), .int, .int, (.object "java/lang/Void")], returnType := none }, accessFlags := 2, code := some k7c7 }
def k7c8 : Code := { maxStack := 1, maxLocals := 1, code := jdk_42_method_152_code, exceptionTable := #[], attributes := #[] }
def k7m8 : Method := { name := "coder", desc := "()B", sig := { parameters := [], returnType := some .byte }, accessFlags := 0, code := some k7c8 }
def k7c9 : Code := { maxStack := 1, maxLocals := 1, code := jdk_42_method_154_code, exceptionTable := #[], attributes := #[] }
def k7m9 : Method := { name := "isLatin1", desc := "()Z", sig := { parameters := [], returnType := some .boolean }, accessFlags := 0, code := some k7c9 }
def k7c10 : Code := { maxStack := 4, maxLocals := 3, code := jdk_42_method_157_code, exceptionTable := #[], attributes := #[] }
def k7m10 : Method := { name := "checkBoundsOffCount", desc := "(III)I", sig := { parameters := [.int, .int, .int], returnType := some .int }, accessFlags := 8, code := some k7c10 }
def k7c11 : Code := { maxStack := 4, maxLocals := 3, code := jdk_42_method_158_code, exceptionTable := #[], attributes := #[] }
def k7m11 : Method := { name := "checkBoundsBeginEnd", desc := "(III)V", sig := { parameters := [.int, .int, .int], returnType := none }, accessFlags := 8, code := some k7c11 }
/-- java/lang/String -/
def k7 : Class := { plain "java/lang/String" (some 0) with
  accessFlags := 49
  interfaces := #[2, 3, 4, 5, 6]
  cf := some (fileOf pool7 10 #[.nestMembers #[1103]] #[{ accessFlags := 1, nameIndex := 5, descriptorIndex := 6, attributes := #[] }, { accessFlags := 1, nameIndex := 5, descriptorIndex := 1010, attributes := #[] }, { accessFlags := 1, nameIndex := 5, descriptorIndex := 972, attributes := #[] }, { accessFlags := 10, nameIndex := 32, descriptorIndex := 33, attributes := #[] }, { accessFlags := 1, nameIndex := 507, descriptorIndex := 334, attributes := #[] }, { accessFlags := 1, nameIndex := 527, descriptorIndex := 1240, attributes := #[] }, { accessFlags := 1, nameIndex := 543, descriptorIndex := 573, attributes := #[] }, { accessFlags := 2, nameIndex := 5, descriptorIndex := 29, attributes := #[] }, { accessFlags := 0, nameIndex := 17, descriptorIndex := 337, attributes := #[] }, { accessFlags := 0, nameIndex := 494, descriptorIndex := 142, attributes := #[] }, { accessFlags := 8, nameIndex := 36, descriptorIndex := 37, attributes := #[] }, { accessFlags := 8, nameIndex := 523, descriptorIndex := 524, attributes := #[] }] 49 2 #[1106, 1108, 575, 1110, 1112] #[{ accessFlags := 18, nameIndex := 13, descriptorIndex := 14, attributes := #[] }, { accessFlags := 18, nameIndex := 17, descriptorIndex := 18, attributes := #[] }, { accessFlags := 2, nameIndex := 21, descriptorIndex := 22, attributes := #[] }, { accessFlags := 2, nameIndex := 25, descriptorIndex := 26, attributes := #[] }, { accessFlags := 26, nameIndex := 1116, descriptorIndex := 1117, attributes := #[] }, { accessFlags := 24, nameIndex := 40, descriptorIndex := 26, attributes := #[] }, { accessFlags := 26, nameIndex := 1101, descriptorIndex := 1102, attributes := #[] }, { accessFlags := 26, nameIndex := 1121, descriptorIndex := 1122, attributes := #[] }, { accessFlags := 25, nameIndex := 599, descriptorIndex := 600, attributes := #[] }, { accessFlags := 24, nameIndex := 1125, descriptorIndex := 18, attributes := #[] }, { accessFlags := 24, nameIndex := 1127, descriptorIndex := 18, attributes := #[] }])
  fields := #[{ name := "value", type := (.array .byte), accessFlags := 18, slot := 0, constantValue := 0 }, { name := "coder", type := .byte, accessFlags := 18, slot := 1, constantValue := 0 }, { name := "hash", type := .int, accessFlags := 2, slot := 2, constantValue := 0 }, { name := "hashIsZero", type := .boolean, accessFlags := 2, slot := 3, constantValue := 0 }, { name := "serialVersionUID", type := .long, accessFlags := 26, slot := 0, constantValue := 0 }, { name := "COMPACT_STRINGS", type := .boolean, accessFlags := 24, slot := 1, constantValue := 0 }, { name := "serialPersistentFields", type := (.array (.object "java/io/ObjectStreamField")), accessFlags := 26, slot := 2, constantValue := 0 }, { name := "REPL", type := .char, accessFlags := 26, slot := 3, constantValue := 0 }, { name := "CASE_INSENSITIVE_ORDER", type := (.object "java/util/Comparator"), accessFlags := 25, slot := 4, constantValue := 0 }, { name := "LATIN1", type := .byte, accessFlags := 24, slot := 5, constantValue := 0 }, { name := "UTF16", type := .byte, accessFlags := 24, slot := 6, constantValue := 0 }]
  methods := #[k7m0, k7m1, k7m2, k7m3, k7m4, k7m5, k7m6, k7m7, k7m8, k7m9, k7m10, k7m11]
  instanceTypes := #[(.array .byte), .byte, .int, .boolean]
  staticTypes := #[.long, .boolean, (.array (.object "java/io/ObjectStreamField")), .char, (.object "java/util/Comparator"), .byte, .byte]
  resolved := Array.replicate 1451 none
  statics := some 0 }

def pool8 : Array CpInfo := pool [(6, .class_ 8), (1, u "java/lang/Object"), (0, u "<init>"), (0, u "()V"), (1, .class_ 14), (1, u "java/lang/StringUTF16"), (31, u "$assertionsDisabled"), (0, u "Z"), (13, u "HI_BYTE_SHIFT"), (0, u "I"), (2, u "LO_BYTE_SHIFT"), (49, .methodref 12 116), (0, .nameAndType 117 118), (0, u "compress"), (0, u "([CI[BII)I"), (3, u "([CII)[B"), (138, u "coderFromArrayLen"), (0, u "([BI)B"), (106, .class_ 371), (1, u "java/lang/StringUTF16$LinesSpliterator"), (58, u "MAX_LENGTH"), (196, .class_ 628), (0, u "java/lang/StringUTF16$CodePointsSpliterator"), (0, .class_ 630), (0, u "java/lang/StringUTF16$CharsSpliterator")] 4

def k8m0 : Method := { name := "<init>", desc := "()V", sig := { parameters := [], returnType := none }, accessFlags := 0, code := none }
def k8c1 : Code := { maxStack := 2, maxLocals := 2, code := jdk_52_method_15_code, exceptionTable := #[], attributes := #[] }
def k8m1 : Method := { name := "coderFromArrayLen", desc := "([BI)B", sig := { parameters := [(.array .byte), .int], returnType := some .byte }, accessFlags := 8, code := some k8c1 }
def k8c2 : Code := { maxStack := 5, maxLocals := 6, code := jdk_52_method_16_code, exceptionTable := #[], attributes := #[] }
def k8m2 : Method := { name := "compress", desc := "([CII)[B", sig := { parameters := [(.array .char), .int, .int], returnType := some (.array .byte) }, accessFlags := 9, code := some k8c2 }
def k8c3 : Code := { maxStack := 3, maxLocals := 7, code := jdk_52_method_21_code, exceptionTable := #[], attributes := #[] }
def k8m3 : Method := { name := "compress", desc := "([CI[BII)I", sig := { parameters := [(.array .char), .int, (.array .byte), .int, .int], returnType := some .int }, accessFlags := 9, code := some k8c3 }
/-- java/lang/StringUTF16 -/
def k8 : Class := { plain "java/lang/StringUTF16" (some 0) with
  accessFlags := 48
  interfaces := #[]
  cf := some (fileOf pool8 12 #[.nestMembers #[627, 629, 369]] #[{ accessFlags := 0, nameIndex := 9, descriptorIndex := 10, attributes := #[] }, { accessFlags := 8, nameIndex := 261, descriptorIndex := 262, attributes := #[] }, { accessFlags := 9, nameIndex := 117, descriptorIndex := 122, attributes := #[] }, { accessFlags := 9, nameIndex := 117, descriptorIndex := 118, attributes := #[] }] 48 6 #[] #[{ accessFlags := 26, nameIndex := 61, descriptorIndex := 62, attributes := #[] }, { accessFlags := 26, nameIndex := 65, descriptorIndex := 62, attributes := #[] }, { accessFlags := 24, nameIndex := 430, descriptorIndex := 62, attributes := #[] }, { accessFlags := 4120, nameIndex := 46, descriptorIndex := 47, attributes := #[] }])
  fields := #[{ name := "HI_BYTE_SHIFT", type := .int, accessFlags := 26, slot := 0, constantValue := 0 }, { name := "LO_BYTE_SHIFT", type := .int, accessFlags := 26, slot := 1, constantValue := 0 }, { name := "MAX_LENGTH", type := .int, accessFlags := 24, slot := 2, constantValue := 0 }, { name := "$assertionsDisabled", type := .boolean, accessFlags := 4120, slot := 3, constantValue := 0 }]
  methods := #[k8m0, k8m1, k8m2, k8m3]
  instanceTypes := #[]
  staticTypes := #[.int, .int, .int, .boolean]
  resolved := Array.replicate 635 none
  statics := none }

def pool9 : Array CpInfo := pool [(1, .methodref 2 3), (0, .class_ 4), (0, .nameAndType 5 6), (0, u "java/lang/Object"), (0, u "<init>"), (0, u "()V"), (0, .methodref 8 9), (0, .class_ 10), (0, .nameAndType 11 6), (0, u "com/example/invix/invix/sort/KeyBuffer"), (0, u "clear"), (0, .fieldref 8 13), (0, .nameAndType 14 15), (0, u "count"), (0, u "I"), (0, .methodref 8 17), (0, .nameAndType 18 19), (0, u "start"), (0, u "(I)I"), (0, .methodref 21 22), (0, .class_ 23), (0, .nameAndType 24 25), (0, u "java/lang/String"), (0, u "length"), (0, u "()I"), (0, .fieldref 8 27), (0, .nameAndType 28 29), (0, u "characters"), (0, u "[C"), (0, .methodref 31 32), (0, .class_ 33), (0, .nameAndType 34 35), (0, u "java/lang/Math"), (0, u "max"), (0, u "(II)I"), (0, .methodref 37 38), (0, .class_ 39), (0, .nameAndType 40 41), (0, u "java/util/Arrays"), (0, u "copyOf"), (0, u "([CI)[C"), (0, .methodref 21 43), (0, .nameAndType 44 45), (0, u "getChars"), (0, u "(II[CI)V"), (0, .fieldref 8 47), (0, .nameAndType 48 49), (0, u "ends"), (0, u "[I"), (3, .methodref 21 54), (0, .nameAndType 5 55), (0, u "([CII)V"), (6, .long 2), (3, .long 4), (5, .class_ 73), (0, u "com/example/invix/invix/sort/KeyBuffer$1"), (26, u "add"), (0, u "(Ljava/lang/String;)I"), (1, u "size"), (0, u "key"), (0, u "(I)Ljava/lang/String;"), (3, u "memory"), (0, u "()J")] 33

def k9c0 : Code := { maxStack := 1, maxLocals := 1, code := prog_79_method_1_code, exceptionTable := #[], attributes := #[] }
def k9m0 : Method := { name := "<init>", desc := "()V", sig := { parameters := [], returnType := none }, accessFlags := 1, code := some k9c0 }
def k9c1 : Code := { maxStack := 5, maxLocals := 4, code := prog_79_method_2_code, exceptionTable := #[], attributes := #[] }
def k9m1 : Method := { name := "add", desc := "(Ljava/lang/String;)I", sig := { parameters := [(.object "java/lang/String")], returnType := some .int }, accessFlags := 1, code := some k9c1 }
def k9c2 : Code := { maxStack := 1, maxLocals := 1, code := prog_79_method_3_code, exceptionTable := #[], attributes := #[] }
def k9m2 : Method := { name := "size", desc := "()I", sig := { parameters := [], returnType := some .int }, accessFlags := 1, code := some k9c2 }
def k9c3 : Code := { maxStack := 7, maxLocals := 2, code := prog_79_method_4_code, exceptionTable := #[], attributes := #[] }
def k9m3 : Method := { name := "key", desc := "(I)Ljava/lang/String;", sig := { parameters := [.int], returnType := some (.object "java/lang/String") }, accessFlags := 1, code := some k9c3 }
def k9c4 : Code := { maxStack := 6, maxLocals := 1, code := prog_79_method_7_code, exceptionTable := #[], attributes := #[] }
def k9m4 : Method := { name := "memory", desc := "()J", sig := { parameters := [], returnType := some .long }, accessFlags := 1, code := some k9c4 }
def k9c5 : Code := { maxStack := 2, maxLocals := 1, code := prog_79_method_10_code, exceptionTable := #[], attributes := #[] }
def k9m5 : Method := { name := "clear", desc := "()V", sig := { parameters := [], returnType := none }, accessFlags := 1, code := some k9c5 }
def k9c6 : Code := { maxStack := 3, maxLocals := 2, code := prog_79_method_12_code, exceptionTable := #[], attributes := #[] }
def k9m6 : Method := { name := "start", desc := "(I)I", sig := { parameters := [.int], returnType := some .int }, accessFlags := 2, code := some k9c6 }
/-- com/example/invix/invix/sort/KeyBuffer -/
def k9 : Class := { plain "com/example/invix/invix/sort/KeyBuffer" (some 0) with
  accessFlags := 49
  interfaces := #[]
  cf := some (fileOf pool9 8 #[.nestMembers #[72]] #[{ accessFlags := 1, nameIndex := 5, descriptorIndex := 6, attributes := #[] }, { accessFlags := 1, nameIndex := 100, descriptorIndex := 101, attributes := #[] }, { accessFlags := 1, nameIndex := 103, descriptorIndex := 25, attributes := #[] }, { accessFlags := 1, nameIndex := 104, descriptorIndex := 105, attributes := #[] }, { accessFlags := 1, nameIndex := 109, descriptorIndex := 110, attributes := #[] }, { accessFlags := 1, nameIndex := 11, descriptorIndex := 6, attributes := #[] }, { accessFlags := 2, nameIndex := 18, descriptorIndex := 19, attributes := #[] }] 49 2 #[] #[{ accessFlags := 2, nameIndex := 28, descriptorIndex := 29, attributes := #[] }, { accessFlags := 2, nameIndex := 48, descriptorIndex := 49, attributes := #[] }, { accessFlags := 2, nameIndex := 14, descriptorIndex := 15, attributes := #[] }])
  fields := #[{ name := "characters", type := (.array .char), accessFlags := 2, slot := 0, constantValue := 0 }, { name := "ends", type := (.array .int), accessFlags := 2, slot := 1, constantValue := 0 }, { name := "count", type := .int, accessFlags := 2, slot := 2, constantValue := 0 }]
  methods := #[k9m0, k9m1, k9m2, k9m3, k9m4, k9m5, k9m6]
  instanceTypes := #[(.array .char), (.array .int), .int]
  staticTypes := #[]
  resolved := Array.replicate 144 none
  statics := none }

def pool10 : Array CpInfo := pool [(1, .class_ 2), (0, u "java/lang/Math"), (1, .class_ 6), (1, u "java/lang/Object"), (0, u "<init>"), (0, u "()V"), (89, .class_ 100), (1, u "java/lang/Math$RandomNumberGeneratorHolder"), (71, u "negativeZeroFloatBits"), (0, u "J"), (2, u "negativeZeroDoubleBits"), (21, u "max"), (2, u "min"), (43, u "$assertionsDisabled"), (0, u "Z"), (88, u "(II)I"), (2, u "twoToTheDoubleScaleDown"), (0, u "D"), (4, u "twoToTheDoubleScaleUp"), (9, u "E"), (3, u "PI"), (2, u "TAU"), (2, u "DEGREES_TO_RADIANS"), (0, u "RADIANS_TO_DEGREES")] 94

def k10m0 : Method := { name := "<init>", desc := "()V", sig := { parameters := [], returnType := none }, accessFlags := 2, code := none }
def k10c1 : Code := { maxStack := 2, maxLocals := 2, code := jdk_29_method_65_code, exceptionTable := #[], attributes := #[] }
def k10m1 : Method := { name := "max", desc := "(II)I", sig := { parameters := [.int, .int], returnType := some .int }, accessFlags := 9, code := some k10c1 }
def k10c2 : Code := { maxStack := 2, maxLocals := 2, code := jdk_29_method_69_code, exceptionTable := #[], attributes := #[] }
def k10m2 : Method := { name := "min", desc := "(II)I", sig := { parameters := [.int, .int], returnType := some .int }, accessFlags := 9, code := some k10c2 }
/-- java/lang/Math -/
def k10 : Class := { plain "java/lang/Math" (some 0) with
  accessFlags := 49
  interfaces := #[]
  cf := some (fileOf pool10 1 #[.nestMembers #[98]] #[{ accessFlags := 2, nameIndex := 7, descriptorIndex := 8, attributes := #[] }, { accessFlags := 9, nameIndex := 198, descriptorIndex := 335, attributes := #[] }, { accessFlags := 9, nameIndex := 201, descriptorIndex := 335, attributes := #[] }] 49 4 #[] #[{ accessFlags := 25, nameIndex := 354, descriptorIndex := 339, attributes := #[] }, { accessFlags := 25, nameIndex := 358, descriptorIndex := 339, attributes := #[] }, { accessFlags := 25, nameIndex := 361, descriptorIndex := 339, attributes := #[] }, { accessFlags := 26, nameIndex := 364, descriptorIndex := 339, attributes := #[] }, { accessFlags := 26, nameIndex := 365, descriptorIndex := 339, attributes := #[] }, { accessFlags := 26, nameIndex := 172, descriptorIndex := 173, attributes := #[] }, { accessFlags := 26, nameIndex := 176, descriptorIndex := 173, attributes := #[] }, { accessFlags := 8, nameIndex := 344, descriptorIndex := 339, attributes := #[] }, { accessFlags := 8, nameIndex := 338, descriptorIndex := 339, attributes := #[] }, { accessFlags := 4120, nameIndex := 245, descriptorIndex := 246, attributes := #[] }])
  fields := #[{ name := "E", type := .double, accessFlags := 25, slot := 0, constantValue := 0 }, { name := "PI", type := .double, accessFlags := 25, slot := 1, constantValue := 0 }, { name := "TAU", type := .double, accessFlags := 25, slot := 2, constantValue := 0 }, { name := "DEGREES_TO_RADIANS", type := .double, accessFlags := 26, slot := 3, constantValue := 0 }, { name := "RADIANS_TO_DEGREES", type := .double, accessFlags := 26, slot := 4, constantValue := 0 }, { name := "negativeZeroFloatBits", type := .long, accessFlags := 26, slot := 5, constantValue := 0 }, { name := "negativeZeroDoubleBits", type := .long, accessFlags := 26, slot := 6, constantValue := 0 }, { name := "twoToTheDoubleScaleUp", type := .double, accessFlags := 8, slot := 7, constantValue := 0 }, { name := "twoToTheDoubleScaleDown", type := .double, accessFlags := 8, slot := 8, constantValue := 0 }, { name := "$assertionsDisabled", type := .boolean, accessFlags := 4120, slot := 9, constantValue := 0 }]
  methods := #[k10m0, k10m1, k10m2]
  instanceTypes := #[]
  staticTypes := #[.double, .double, .double, .double, .double, .long, .long, .double, .double, .boolean]
  resolved := Array.replicate 460 none
  statics := none }

def pool11 : Array CpInfo := pool [(2, .class_ 4), (1, u "java/lang/Object"), (0, u "<init>"), (0, u "()V"), (7, .class_ 16), (1, u "java/util/Arrays"), (57, .class_ 76), (1, u "java/util/Arrays$NaturalOrder"), (36, .class_ 115), (1, u "java/util/Arrays$LegacyMergeSort"), (1, u "Z"), (32, .methodref 151 152), (0, .class_ 153), (0, .nameAndType 154 155), (0, u "java/lang/System"), (0, u "arraycopy"), (0, u "(Ljava/lang/Object;ILjava/lang/Object;II)V"), (146, u "copyOf"), (1, .methodref 305 306), (0, .class_ 307), (0, .nameAndType 308 309), (0, u "java/lang/Math"), (0, u "min"), (0, u "(II)I"), (65, .class_ 376), (0, u "java/util/Arrays$ArrayList"), (68, u "$assertionsDisabled"), (269, u "MIN_ARRAY_SORT_GRAN"), (0, u "I"), (2, u "INSERTIONSORT_THRESHOLD"), (153, u "([CI)[C"), (101, .class_ 976), (0, u "java/util/Arrays$ArrayItr")] 52

def k11m0 : Method := { name := "<init>", desc := "()V", sig := { parameters := [], returnType := none }, accessFlags := 2, code := none }
def k11c1 : Code := { maxStack := 6, maxLocals := 3, code := jdk_65_method_125_code, exceptionTable := #[], attributes := #[] }
def k11m1 : Method := { name := "copyOf", desc := "([CI)[C", sig := { parameters := [(.array .char), .int], returnType := some (.array .char) }, accessFlags := 9, code := some k11c1 }
/-- java/util/Arrays -/
def k11 : Class := { plain "java/util/Arrays" (some 0) with
  accessFlags := 49
  interfaces := #[]
  cf := some (fileOf pool11 14 #[.nestMembers #[975, 375, 113, 74]] #[{ accessFlags := 2, nameIndex := 5, descriptorIndex := 6, attributes := #[] }, { accessFlags := 9, nameIndex := 302, descriptorIndex := 873, attributes := #[] }] 49 2 #[] #[{ accessFlags := 26, nameIndex := 715, descriptorIndex := 716, attributes := #[] }, { accessFlags := 26, nameIndex := 719, descriptorIndex := 716, attributes := #[] }, { accessFlags := 4120, nameIndex := 445, descriptorIndex := 117, attributes := #[] }])
  fields := #[{ name := "MIN_ARRAY_SORT_GRAN", type := .int, accessFlags := 26, slot := 0, constantValue := 0 }, { name := "INSERTIONSORT_THRESHOLD", type := .int, accessFlags := 26, slot := 1, constantValue := 0 }, { name := "$assertionsDisabled", type := .boolean, accessFlags := 4120, slot := 2, constantValue := 0 }]
  methods := #[k11m0, k11m1]
  instanceTypes := #[]
  staticTypes := #[.int, .int, .boolean]
  resolved := Array.replicate 1029 none
  statics := none }

def pool12 : Array CpInfo := pool [(2, .class_ 4), (1, u "java/lang/Object"), (0, u "<init>"), (0, u "()V"), (1, .class_ 10), (1, u "java/lang/System"), (0, u "allowSecurityManager"), (0, u "I"), (16, u "cons"), (0, u "Ljava/io/Console;"), (77, .class_ 110), (1, u "java/lang/System$CallersHolder"), (43, u "initialErrStream"), (0, u "Ljava/io/PrintStream;"), (19, u "security"), (0, u "Ljava/lang/SecurityManager;"), (31, .class_ 209), (0, u "java/lang/System$1"), (7, u "props"), (0, u "Ljava/util/Properties;"), (2, u "lineSeparator"), (0, u "Ljava/lang/String;"), (96, .class_ 321), (1, u "java/lang/System$LoggerFinder"), (5, .class_ 328), (0, u "java/lang/System$Logger"), (67, u "err"), (2, u "out"), (91, u "notSupportedJnuEncoding"), (15, u "in"), (17, u "initialIn"), (0, u "Ljava/io/InputStream;"), (35, u "bootLayer"), (0, u "Ljava/lang/ModuleLayer;"), (99, .class_ 664), (0, u "java/lang/System$2"), (9, u "NEVER"), (2, u "MAYBE"), (49, u "arraycopy"), (0, u "(Ljava/lang/Object;ILjava/lang/Object;II)V"), (72, .class_ 802), (0, u "java/lang/System$Logger$Level")] 31

def k12m0 : Method := { name := "<init>", desc := "()V", sig := { parameters := [], returnType := none }, accessFlags := 2, code := none }
def k12m1 : Method := { name := "arraycopy", desc := "(Ljava/lang/Object;ILjava/lang/Object;II)V", sig := { parameters := [(.object "java/lang/Object"), .int, (.object "java/lang/Object"), .int, .int], returnType := none }, accessFlags := 265, code := none }
/-- java/lang/System -/
def k12 : Class := { plain "java/lang/System" (some 0) with
  accessFlags := 49
  interfaces := #[]
  cf := some (fileOf pool12 8 #[.nestMembers #[319, 327, 801, 108, 663, 208]] #[{ accessFlags := 2, nameIndex := 5, descriptorIndex := 6, attributes := #[] }, { accessFlags := 265, nameIndex := 727, descriptorIndex := 728, attributes := #[] }] 49 2 #[] #[{ accessFlags := 25, nameIndex := 507, descriptorIndex := 526, attributes := #[] }, { accessFlags := 25, nameIndex := 399, descriptorIndex := 155, attributes := #[] }, { accessFlags := 25, nameIndex := 396, descriptorIndex := 155, attributes := #[] }, { accessFlags := 10, nameIndex := 525, descriptorIndex := 526, attributes := #[] }, { accessFlags := 26, nameIndex := 674, descriptorIndex := 12, attributes := #[] }, { accessFlags := 26, nameIndex := 677, descriptorIndex := 12, attributes := #[] }, { accessFlags := 10, nameIndex := 11, descriptorIndex := 12, attributes := #[] }, { accessFlags := 74, nameIndex := 175, descriptorIndex := 176, attributes := #[] }, { accessFlags := 10, nameIndex := 491, descriptorIndex := 222, attributes := #[] }, { accessFlags := 74, nameIndex := 29, descriptorIndex := 30, attributes := #[] }, { accessFlags := 74, nameIndex := 154, descriptorIndex := 155, attributes := #[] }, { accessFlags := 10, nameIndex := 217, descriptorIndex := 218, attributes := #[] }, { accessFlags := 10, nameIndex := 221, descriptorIndex := 222, attributes := #[] }, { accessFlags := 8, nameIndex := 562, descriptorIndex := 563, attributes := #[] }])
  fields := #[{ name := "in", type := (.object "java/io/InputStream"), accessFlags := 25, slot := 0, constantValue := 0 }, { name := "out", type := (.object "java/io/PrintStream"), accessFlags := 25, slot := 1, constantValue := 0 }, { name := "err", type := (.object "java/io/PrintStream"), accessFlags := 25, slot := 2, constantValue := 0 }, { name := "initialIn", type := (.object "java/io/InputStream"), accessFlags := 10, slot := 3, constantValue := 0 }, { name := "NEVER", type := .int, accessFlags := 26, slot := 4, constantValue := 0 }, { name := "MAYBE", type := .int, accessFlags := 26, slot := 5, constantValue := 0 }, { name := "allowSecurityManager", type := .int, accessFlags := 10, slot := 6, constantValue := 0 }, { name := "security", type := (.object "java/lang/SecurityManager"), accessFlags := 74, slot := 7, constantValue := 0 }, { name := "notSupportedJnuEncoding", type := (.object "java/lang/String"), accessFlags := 10, slot := 8, constantValue := 0 }, { name := "cons", type := (.object "java/io/Console"), accessFlags := 74, slot := 9, constantValue := 0 }, { name := "initialErrStream", type := (.object "java/io/PrintStream"), accessFlags := 74, slot := 10, constantValue := 0 }, { name := "props", type := (.object "java/util/Properties"), accessFlags := 10, slot := 11, constantValue := 0 }, { name := "lineSeparator", type := (.object "java/lang/String"), accessFlags := 10, slot := 12, constantValue := 0 }, { name := "bootLayer", type := (.object "java/lang/ModuleLayer"), accessFlags := 8, slot := 13, constantValue := 0 }]
  methods := #[k12m0, k12m1]
  instanceTypes := #[]
  staticTypes := #[(.object "java/io/InputStream"), (.object "java/io/PrintStream"), (.object "java/io/PrintStream"), (.object "java/io/InputStream"), .int, .int, .int, (.object "java/lang/SecurityManager"), (.object "java/lang/String"), (.object "java/io/Console"), (.object "java/io/PrintStream"), (.object "java/util/Properties"), (.object "java/lang/String"), (.object "java/lang/ModuleLayer")]
  resolved := Array.replicate 834 none
  statics := none }

def pool13 : Array CpInfo := pool [(2, .class_ 4), (1, u "java/lang/Object"), (0, u "<init>"), (0, u "()V"), (17, .class_ 26), (1, u "jdk/internal/util/Preconditions"), (20, u "checkFromToIndex"), (1, u "checkFromIndexSize"), (5, .class_ 56), (0, u "jdk/internal/util/Preconditions$4"), (57, .class_ 115), (0, u "jdk/internal/util/Preconditions$1"), (7, u "SIOOBE_FORMATTER"), (0, u "Ljava/util/function/BiFunction;"), (0, .class_ 126), (0, u "jdk/internal/util/Preconditions$2"), (3, u "AIOOBE_FORMATTER"), (0, .class_ 132), (0, u "jdk/internal/util/Preconditions$3"), (3, u "IOOBE_FORMATTER"), (46, u "(IIILjava/util/function/BiFunction;)I")] 10

def k13m0 : Method := { name := "<init>", desc := "()V", sig := { parameters := [], returnType := none }, accessFlags := 1, code := none }
def k13c1 : Code := { maxStack := 4, maxLocals := 4, code := jdk_41_method_12_code, exceptionTable := #[], attributes := #[] }
def k13m1 : Method := { name := "checkFromToIndex", desc := "(IIILjava/util/function/BiFunction;)I", sig := { parameters := [.int, .int, .int, (.object "java/util/function/BiFunction")], returnType := some .int }, accessFlags := 9, code := some k13c1 }
def k13c2 : Code := { maxStack := 4, maxLocals := 4, code := jdk_41_method_13_code, exceptionTable := #[], attributes := #[] }
def k13m2 : Method := { name := "checkFromIndexSize", desc := "(IIILjava/util/function/BiFunction;)I", sig := { parameters := [.int, .int, .int, (.object "java/util/function/BiFunction")], returnType := some .int }, accessFlags := 9, code := some k13c2 }
/-- jdk/internal/util/Preconditions -/
def k13 : Class := { plain "jdk/internal/util/Preconditions" (some 0) with
  accessFlags := 33
  interfaces := #[]
  cf := some (fileOf pool13 24 #[.nestMembers #[55, 131, 125, 114]] #[{ accessFlags := 1, nameIndex := 5, descriptorIndex := 6, attributes := #[] }, { accessFlags := 9, nameIndex := 47, descriptorIndex := 183, attributes := #[] }, { accessFlags := 9, nameIndex := 49, descriptorIndex := 183, attributes := #[] }] 33 2 #[] #[{ accessFlags := 25, nameIndex := 123, descriptorIndex := 124, attributes := #[] }, { accessFlags := 25, nameIndex := 130, descriptorIndex := 124, attributes := #[] }, { accessFlags := 25, nameIndex := 136, descriptorIndex := 124, attributes := #[] }])
  fields := #[{ name := "SIOOBE_FORMATTER", type := (.object "java/util/function/BiFunction"), accessFlags := 25, slot := 0, constantValue := 0 }, { name := "AIOOBE_FORMATTER", type := (.object "java/util/function/BiFunction"), accessFlags := 25, slot := 1, constantValue := 0 }, { name := "IOOBE_FORMATTER", type := (.object "java/util/function/BiFunction"), accessFlags := 25, slot := 2, constantValue := 0 }]
  methods := #[k13m0, k13m1, k13m2]
  instanceTypes := #[]
  staticTypes := #[(.object "java/util/function/BiFunction"), (.object "java/util/function/BiFunction"), (.object "java/util/function/BiFunction")]
  resolved := Array.replicate 194 none
  statics := some 1 }

def pool14 : Array CpInfo := pool [(4, .class_ 6), (1, u "java/lang/Object"), (0, u "<init>"), (0, u "()V"), (4, .methodref 14 15), (0, .class_ 16), (0, .nameAndType 17 18), (0, u "java/lang/StringLatin1"), (0, u "inflate"), (0, u "([BI[CII)V"), (102, u "$assertionsDisabled"), (0, u "Z"), (98, .class_ 223), (1, u "java/lang/StringLatin1$LinesSpliterator"), (50, u "getChars"), (0, u "([BII[CI)V"), (5, u "equals"), (0, u "([B[B)Z"), (107, .class_ 391), (0, u "java/lang/StringLatin1$CharsSpliterator")] 3

def k14m0 : Method := { name := "<init>", desc := "()V", sig := { parameters := [], returnType := none }, accessFlags := 0, code := none }
def k14c1 : Code := { maxStack := 6, maxLocals := 5, code := jdk_43_method_11_code, exceptionTable := #[], attributes := #[] }
def k14m1 : Method := { name := "getChars", desc := "([BII[CI)V", sig := { parameters := [(.array .byte), .int, .int, (.array .char), .int], returnType := none }, accessFlags := 9, code := some k14c1 }
def k14c2 : Code := { maxStack := 3, maxLocals := 3, code := jdk_43_method_13_code, exceptionTable := #[], attributes := #[] }
def k14m2 : Method := { name := "equals", desc := "([B[B)Z", sig := { parameters := [(.array .byte), (.array .byte)], returnType := some .boolean }, accessFlags := 9, code := some k14c2 }
def k14c3 : Code := { maxStack := 4, maxLocals := 6, code := jdk_43_method_49_code, exceptionTable := #[], attributes := #[] }
def k14m3 : Method := { name := "inflate", desc := "([BI[CII)V", sig := { parameters := [(.array .byte), .int, (.array .char), .int, .int], returnType := none }, accessFlags := 9, code := some k14c3 }
/-- java/lang/StringLatin1 -/
def k14 : Class := { plain "java/lang/StringLatin1" (some 0) with
  accessFlags := 48
  interfaces := #[]
  cf := some (fileOf pool14 14 #[.nestMembers #[390, 221]] #[{ accessFlags := 0, nameIndex := 7, descriptorIndex := 8, attributes := #[] }, { accessFlags := 9, nameIndex := 274, descriptorIndex := 275, attributes := #[] }, { accessFlags := 9, nameIndex := 281, descriptorIndex := 282, attributes := #[] }, { accessFlags := 9, nameIndex := 17, descriptorIndex := 18, attributes := #[] }] 48 4 #[] #[{ accessFlags := 4120, nameIndex := 121, descriptorIndex := 122, attributes := #[] }])
  fields := #[{ name := "$assertionsDisabled", type := .boolean, accessFlags := 4120, slot := 0, constantValue := 0 }]
  methods := #[k14m0, k14m1, k14m2, k14m3]
  instanceTypes := #[]
  staticTypes := #[.boolean]
  resolved := Array.replicate 395 none
  statics := none }

def pool15 : Array CpInfo := pool [(9, u "<init>"), (6, .class_ 18), (1, u "java/lang/Object"), (0, u "()V"), (1, .class_ 23), (1, u "jdk/internal/util/ArraysSupport"), (0, u "LOG2_ARRAY_LONG_INDEX_SCALE"), (0, u "I"), (2, u "U"), (0, u "Ljdk/internal/misc/Unsafe;"), (8, u "BIG_ENDIAN"), (0, u "Z"), (8, u "LOG2_BYTE_BIT_SIZE"), (4, u "LOG2_ARRAY_INT_INDEX_SCALE"), (54, u "JLA"), (0, u "Ljdk/internal/access/JavaLangAccess;"), (11, u "LOG2_ARRAY_BOOLEAN_INDEX_SCALE"), (9, u "LOG2_ARRAY_BYTE_INDEX_SCALE"), (5, u "LOG2_ARRAY_CHAR_INDEX_SCALE"), (5, u "LOG2_ARRAY_SHORT_INDEX_SCALE"), (18, u "LOG2_ARRAY_FLOAT_INDEX_SCALE"), (24, u "LOG2_ARRAY_DOUBLE_INDEX_SCALE"), (89, u "T_BOOLEAN"), (2, u "T_CHAR"), (1, u "T_FLOAT"), (1, u "T_DOUBLE"), (1, u "T_BYTE"), (1, u "T_SHORT"), (1, u "T_INT"), (1, u "T_LONG"), (1, u "SOFT_MAX_ARRAY_LENGTH")] 83

def k15m0 : Method := { name := "<init>", desc := "()V", sig := { parameters := [], returnType := none }, accessFlags := 2, code := none }
/-- jdk/internal/util/ArraysSupport -/
def k15 : Class := { plain "jdk/internal/util/ArraysSupport" (some 0) with
  accessFlags := 33
  interfaces := #[]
  cf := some (fileOf pool15 21 #[] #[{ accessFlags := 2, nameIndex := 9, descriptorIndex := 19, attributes := #[] }] 33 16 #[] #[{ accessFlags := 24, nameIndex := 28, descriptorIndex := 29, attributes := #[] }, { accessFlags := 26, nameIndex := 38, descriptorIndex := 39, attributes := #[] }, { accessFlags := 25, nameIndex := 121, descriptorIndex := 25, attributes := #[] }, { accessFlags := 25, nameIndex := 131, descriptorIndex := 25, attributes := #[] }, { accessFlags := 25, nameIndex := 137, descriptorIndex := 25, attributes := #[] }, { accessFlags := 25, nameIndex := 143, descriptorIndex := 25, attributes := #[] }, { accessFlags := 25, nameIndex := 53, descriptorIndex := 25, attributes := #[] }, { accessFlags := 25, nameIndex := 24, descriptorIndex := 25, attributes := #[] }, { accessFlags := 25, nameIndex := 162, descriptorIndex := 25, attributes := #[] }, { accessFlags := 25, nameIndex := 187, descriptorIndex := 25, attributes := #[] }, { accessFlags := 26, nameIndex := 48, descriptorIndex := 25, attributes := #[] }, { accessFlags := 25, nameIndex := 277, descriptorIndex := 25, attributes := #[] }, { accessFlags := 25, nameIndex := 280, descriptorIndex := 25, attributes := #[] }, { accessFlags := 25, nameIndex := 282, descriptorIndex := 25, attributes := #[] }, { accessFlags := 25, nameIndex := 284, descriptorIndex := 25, attributes := #[] }, { accessFlags := 25, nameIndex := 286, descriptorIndex := 25, attributes := #[] }, { accessFlags := 25, nameIndex := 288, descriptorIndex := 25, attributes := #[] }, { accessFlags := 25, nameIndex := 290, descriptorIndex := 25, attributes := #[] }, { accessFlags := 25, nameIndex := 292, descriptorIndex := 25, attributes := #[] }, { accessFlags := 26, nameIndex := 108, descriptorIndex := 109, attributes := #[] }, { accessFlags := 25, nameIndex := 294, descriptorIndex := 25, attributes := #[] }])
  fields := #[{ name := "U", type := (.object "jdk/internal/misc/Unsafe"), accessFlags := 24, slot := 0, constantValue := 0 }, { name := "BIG_ENDIAN", type := .boolean, accessFlags := 26, slot := 1, constantValue := 0 }, { name := "LOG2_ARRAY_BOOLEAN_INDEX_SCALE", type := .int, accessFlags := 25, slot := 2, constantValue := 0 }, { name := "LOG2_ARRAY_BYTE_INDEX_SCALE", type := .int, accessFlags := 25, slot := 3, constantValue := 0 }, { name := "LOG2_ARRAY_CHAR_INDEX_SCALE", type := .int, accessFlags := 25, slot := 4, constantValue := 0 }, { name := "LOG2_ARRAY_SHORT_INDEX_SCALE", type := .int, accessFlags := 25, slot := 5, constantValue := 0 }, { name := "LOG2_ARRAY_INT_INDEX_SCALE", type := .int, accessFlags := 25, slot := 6, constantValue := 0 }, { name := "LOG2_ARRAY_LONG_INDEX_SCALE", type := .int, accessFlags := 25, slot := 7, constantValue := 0 }, { name := "LOG2_ARRAY_FLOAT_INDEX_SCALE", type := .int, accessFlags := 25, slot := 8, constantValue := 0 }, { name := "LOG2_ARRAY_DOUBLE_INDEX_SCALE", type := .int, accessFlags := 25, slot := 9, constantValue := 0 }, { name := "LOG2_BYTE_BIT_SIZE", type := .int, accessFlags := 26, slot := 10, constantValue := 0 }, { name := "T_BOOLEAN", type := .int, accessFlags := 25, slot := 11, constantValue := 0 }, { name := "T_CHAR", type := .int, accessFlags := 25, slot := 12, constantValue := 0 }, { name := "T_FLOAT", type := .int, accessFlags := 25, slot := 13, constantValue := 0 }, { name := "T_DOUBLE", type := .int, accessFlags := 25, slot := 14, constantValue := 0 }, { name := "T_BYTE", type := .int, accessFlags := 25, slot := 15, constantValue := 0 }, { name := "T_SHORT", type := .int, accessFlags := 25, slot := 16, constantValue := 0 }, { name := "T_INT", type := .int, accessFlags := 25, slot := 17, constantValue := 0 }, { name := "T_LONG", type := .int, accessFlags := 25, slot := 18, constantValue := 0 }, { name := "JLA", type := (.object "jdk/internal/access/JavaLangAccess"), accessFlags := 26, slot := 19, constantValue := 0 }, { name := "SOFT_MAX_ARRAY_LENGTH", type := .int, accessFlags := 25, slot := 20, constantValue := 0 }]
  methods := #[k15m0]
  instanceTypes := #[]
  staticTypes := #[(.object "jdk/internal/misc/Unsafe"), .boolean, .int, .int, .int, .int, .int, .int, .int, .int, .int, .int, .int, .int, .int, .int, .int, .int, .int, (.object "jdk/internal/access/JavaLangAccess"), .int]
  resolved := Array.replicate 378 none
  statics := none }

def pool16 : Array CpInfo := pool [(1, u "java/lang/Cloneable"), (0, .class_ 1), (0, u "java/lang/Object"), (0, .class_ 3)] 3

/-- java/lang/Cloneable -/
def k16 : Class := { plain "java/lang/Cloneable" (some 0) with
  accessFlags := 1537
  interfaces := #[]
  cf := some (fileOf pool16 2 #[] #[] 1537 4 #[] #[])
  fields := #[]
  methods := #[]
  instanceTypes := #[]
  staticTypes := #[]
  resolved := Array.replicate 8 none
  statics := none }

/-- the primitive byte -/
def k17 : Class := { plain "byte" none with kind := .primitive 'B', accessFlags := 0x411 }
/-- [B -/
def k18 : Class := { plain "[B" (some 0) with kind := .array 17 .byte, interfaces := #[16, 2], accessFlags := 1041 }

/-- the primitive char -/
def k19 : Class := { plain "char" none with kind := .primitive 'C', accessFlags := 0x411 }
/-- [C -/
def k20 : Class := { plain "[C" (some 0) with kind := .array 19 .char, interfaces := #[16, 2], accessFlags := 1041 }

/-- the primitive int -/
def k21 : Class := { plain "int" none with kind := .primitive 'I', accessFlags := 0x411 }
/-- [I -/
def k22 : Class := { plain "[I" (some 0) with kind := .array 21 .int, interfaces := #[16, 2], accessFlags := 1041 }

def heap : Heap := #[{ cls := 7, slots := #[.long 0, .int 1, .null, .int 0, .null, .int 0, .int 0], vm := .statics 7 },
  { cls := 13, slots := #[.null, .null, .null], vm := .statics 13 }]
def classes : Array Class := #[k0, k1, k2, k3, k4, k5, k6, k7, k8, k9, k10, k11, k12, k13, k14, k15, k16, k17, k18, k19, k20, k21, k22]
def interned : List (Array UInt16 × Addr) := []
def slotsUsed : Nat := 10
def theMethod : MethodId := ⟨1, 1⟩
def args0 : Array Value := #[.int 5, .int 1, .int 3, .int 4, .int 5, .int 6]
def aboutOver (below : List Frame) : State where
  vm := { classes := classes, interned := interned.toArray }
  heap := heap
  slotsUsed := slotsUsed
  threads := #[{ frames := .invoking theMethod args0 :: below }]
def below0 : List Frame := [.native { method := ⟨0, 0⟩, args := #[] }]
def about1 : State := aboutOver below0
def p0 : Program := .bare "" "" ""
def e0 : Env := launch0.env 0 0 0
theorem w_frames : about1.frames = Frame.invoking theMethod args0 :: below0 := rfl
set_option maxRecDepth 65536 in
theorem w_args : argsFit about1.vm theMethod args0 = true := by decide +kernel
set_option maxRecDepth 65536 in
theorem w_heap : heapFits about1 = true := by decide +kernel
set_option maxRecDepth 65536 in
theorem w_runnable : about1.curStatus? = some .runnable := by decide +kernel
set_option maxRecDepth 65536 in
theorem w_alone : about1.alone = true := by decide +kernel
set_option maxRecDepth 65536 in
theorem w_named : about1.methodNamed? x = some theMethod := by decide +kernel
set_option maxRecDepth 65536 in
theorem w_hears : about1.hears theMethod below0 = true := by decide +kernel
set_option maxRecDepth 65536 in
theorem w_ripe : about1.ripe theMethod args0 below0 = true := by decide +kernel
theorem w_running : about1.status = .running := rfl
set_option maxRecDepth 65536 in
theorem w_room : about1.hasRoom e0.platform room_1 = true :=
  launch0.hasRoom_least _ room_1 (by decide +kernel) (by decide +kernel) (by decide +kernel) (by decide +kernel) (by decide +kernel) (by decide +kernel)
theorem allAtoms_all (ts : List Jvm.Cond) (a : Array Jvm.Value) (st : Jvm.State) : (allAtoms ts).before a st = ts.all (fun c => c.before a st) := by
  induction ts with
  | nil => rfl
  | cons c t ih =>
    show (Jvm.Cond.and c (allAtoms t)).before a st = _
    rw [Jvm.Cond.before_and, ih, List.all_cons]
def words1 : List Jvm.Cond := Jvm.Cond.code x code maxLocals ret :: tables_1
/-- a 'code' word, met by the world's own term for the bytes: nothing is compared byte by byte -/
theorem code_word {y : MethodName} {bytes : ByteArray} {mx : Nat} {rt : Option FieldType} {a : Array Value} {s : State} {m : MethodId} {meth : Method} {c : Code} (h1 : s.methodNamed? y = some m) (h2 : s.vm.method? m = some meth) (h3 : meth.code = some c) (h4 : c.code = bytes)
    (h5 : (c.maxLocals == mx && c.exceptionTable.isEmpty && decide (c.maxStack ≤ mostOperands) && decide (meth.sig.returnType = rt) && !meth.locks && decide (parseMethodDescriptor y.desc = some meth.sig)) = true) : (Jvm.Cond.code y bytes mx rt).before a s = true := by
  simp only [Bool.and_eq_true, beq_iff_eq, Bool.not_eq_true', decide_eq_true_eq] at h5
  obtain ⟨⟨⟨⟨⟨g1, g2⟩, g3⟩, g4⟩, g5⟩, g6⟩ := h5
  simp [Cond.before, Cond.holds, Cond.value, h1, h2, h3, h4, g1, g2, g3, g4, g5, g6]
def isCode : Jvm.Cond → Bool
  | .code _ _ _ _ => true
  | _ => false
theorem all_split {L : List Jvm.Cond} {P : Jvm.Cond → Bool} (h1 : L.all (fun c => isCode c || P c) = true) (h2 : ∀ c ∈ L.filter isCode, P c = true) : L.all P = true := by
  refine List.all_eq_true.mpr fun c hc => ?_
  have h := List.all_eq_true.mp h1 c hc
  rcases Bool.eq_false_or_eq_true (isCode c) with hi | hi
  · exact h2 c (List.mem_filter.mpr ⟨hc, hi⟩)
  · simpa [hi] using h
set_option maxRecDepth 65536 in
theorem w_c0 : (Jvm.Cond.code x code maxLocals ret).before args0 about1 = true := code_word (m := ⟨1, 1⟩) (meth := k1m1) (c := k1c1) (by decide +kernel) rfl rfl rfl (by decide +kernel)
set_option maxRecDepth 65536 in
theorem w_c1 : (Jvm.Cond.code ({ cls := "java/lang/String", name := "<init>", desc := "([C)V" } : Jvm.MethodName) jdk_42_method_3_code (2 : Nat) (Option.none : Option Jvm.ClassFile.FieldType)).before args0 about1 = true := code_word (m := ⟨7, 1⟩) (meth := k7m1) (c := k7c1) (by decide +kernel) rfl rfl rfl (by decide +kernel)
set_option maxRecDepth 65536 in
theorem w_c2 : (Jvm.Cond.code ({ cls := "java/lang/String", name := "<init>", desc := "([CIILjava/lang/Void;)V" } : Jvm.MethodName) jdk_42_method_149_code (6 : Nat) (Option.none : Option Jvm.ClassFile.FieldType)).before args0 about1 = true := code_word (m := ⟨7, 7⟩) (meth := k7m7) (c := k7c7) (by decide +kernel) rfl rfl rfl (by decide +kernel)
set_option maxRecDepth 65536 in
theorem w_c3 : (Jvm.Cond.code ({ cls := "java/lang/Object", name := "<init>", desc := "()V" } : Jvm.MethodName) object_method_1_code (1 : Nat) (Option.none : Option Jvm.ClassFile.FieldType)).before args0 about1 = true := code_word (m := ⟨0, 0⟩) (meth := k0m0) (c := k0c0) (by decide +kernel) rfl rfl rfl (by decide +kernel)
set_option maxRecDepth 65536 in
theorem w_c4 : (Jvm.Cond.code ({ cls := "java/lang/StringUTF16", name := "compress", desc := "([CII)[B" } : Jvm.MethodName) jdk_52_method_16_code (6 : Nat) (Option.some (Jvm.ClassFile.FieldType.array Jvm.ClassFile.FieldType.byte))).before args0 about1 = true := code_word (m := ⟨8, 2⟩) (meth := k8m2) (c := k8c2) (by decide +kernel) rfl rfl rfl (by decide +kernel)
set_option maxRecDepth 65536 in
theorem w_c5 : (Jvm.Cond.code ({ cls := "java/lang/StringUTF16", name := "compress", desc := "([CI[BII)I" } : Jvm.MethodName) jdk_52_method_21_code (7 : Nat) (Option.some Jvm.ClassFile.FieldType.int)).before args0 about1 = true := code_word (m := ⟨8, 3⟩) (meth := k8m3) (c := k8c3) (by decide +kernel) rfl rfl rfl (by decide +kernel)
set_option maxRecDepth 65536 in
theorem w_c6 : (Jvm.Cond.code ({ cls := "java/lang/StringUTF16", name := "coderFromArrayLen", desc := "([BI)B" } : Jvm.MethodName) jdk_52_method_15_code (2 : Nat) (Option.some Jvm.ClassFile.FieldType.byte)).before args0 about1 = true := code_word (m := ⟨8, 1⟩) (meth := k8m1) (c := k8c1) (by decide +kernel) rfl rfl rfl (by decide +kernel)
set_option maxRecDepth 65536 in
theorem w_c7 : (Jvm.Cond.code ({ cls := "com/example/invix/invix/sort/KeyBuffer", name := "<init>", desc := "()V" } : Jvm.MethodName) prog_79_method_1_code (1 : Nat) (Option.none : Option Jvm.ClassFile.FieldType)).before args0 about1 = true := code_word (m := ⟨9, 0⟩) (meth := k9m0) (c := k9c0) (by decide +kernel) rfl rfl rfl (by decide +kernel)
set_option maxRecDepth 65536 in
theorem w_c8 : (Jvm.Cond.code ({ cls := "com/example/invix/invix/sort/KeyBuffer", name := "clear", desc := "()V" } : Jvm.MethodName) prog_79_method_10_code (1 : Nat) (Option.none : Option Jvm.ClassFile.FieldType)).before args0 about1 = true := code_word (m := ⟨9, 5⟩) (meth := k9m5) (c := k9c5) (by decide +kernel) rfl rfl rfl (by decide +kernel)
set_option maxRecDepth 65536 in
theorem w_c9 : (Jvm.Cond.code ({ cls := "com/example/invix/invix/sort/KeyBuffer", name := "add", desc := "(Ljava/lang/String;)I" } : Jvm.MethodName) prog_79_method_2_code (4 : Nat) (Option.some Jvm.ClassFile.FieldType.int)).before args0 about1 = true := code_word (m := ⟨9, 1⟩) (meth := k9m1) (c := k9c1) (by decide +kernel) rfl rfl rfl (by decide +kernel)
set_option maxRecDepth 65536 in
theorem w_c10 : (Jvm.Cond.code ({ cls := "com/example/invix/invix/sort/KeyBuffer", name := "start", desc := "(I)I" } : Jvm.MethodName) prog_79_method_12_code (2 : Nat) (Option.some Jvm.ClassFile.FieldType.int)).before args0 about1 = true := code_word (m := ⟨9, 6⟩) (meth := k9m6) (c := k9c6) (by decide +kernel) rfl rfl rfl (by decide +kernel)
set_option maxRecDepth 65536 in
theorem w_c11 : (Jvm.Cond.code ({ cls := "java/lang/String", name := "length", desc := "()I" } : Jvm.MethodName) jdk_42_method_54_code (1 : Nat) (Option.some Jvm.ClassFile.FieldType.int)).before args0 about1 = true := code_word (m := ⟨7, 4⟩) (meth := k7m4) (c := k7c4) (by decide +kernel) rfl rfl rfl (by decide +kernel)
set_option maxRecDepth 65536 in
theorem w_c12 : (Jvm.Cond.code ({ cls := "java/lang/String", name := "coder", desc := "()B" } : Jvm.MethodName) jdk_42_method_152_code (1 : Nat) (Option.some Jvm.ClassFile.FieldType.byte)).before args0 about1 = true := code_word (m := ⟨7, 8⟩) (meth := k7m8) (c := k7c8) (by decide +kernel) rfl rfl rfl (by decide +kernel)
set_option maxRecDepth 65536 in
theorem w_c13 : (Jvm.Cond.code ({ cls := "java/lang/Math", name := "max", desc := "(II)I" } : Jvm.MethodName) jdk_29_method_65_code (2 : Nat) (Option.some Jvm.ClassFile.FieldType.int)).before args0 about1 = true := code_word (m := ⟨10, 1⟩) (meth := k10m1) (c := k10c1) (by decide +kernel) rfl rfl rfl (by decide +kernel)
set_option maxRecDepth 65536 in
theorem w_c14 : (Jvm.Cond.code ({ cls := "java/util/Arrays", name := "copyOf", desc := "([CI)[C" } : Jvm.MethodName) jdk_65_method_125_code (3 : Nat) (Option.some (Jvm.ClassFile.FieldType.array Jvm.ClassFile.FieldType.char))).before args0 about1 = true := code_word (m := ⟨11, 1⟩) (meth := k11m1) (c := k11c1) (by decide +kernel) rfl rfl rfl (by decide +kernel)
set_option maxRecDepth 65536 in
theorem w_c15 : (Jvm.Cond.code ({ cls := "java/lang/Math", name := "min", desc := "(II)I" } : Jvm.MethodName) jdk_29_method_69_code (2 : Nat) (Option.some Jvm.ClassFile.FieldType.int)).before args0 about1 = true := code_word (m := ⟨10, 2⟩) (meth := k10m2) (c := k10c2) (by decide +kernel) rfl rfl rfl (by decide +kernel)
set_option maxRecDepth 65536 in
theorem w_c16 : (Jvm.Cond.code ({ cls := "java/lang/String", name := "getChars", desc := "(II[CI)V" } : Jvm.MethodName) jdk_42_method_61_code (5 : Nat) (Option.none : Option Jvm.ClassFile.FieldType)).before args0 about1 = true := code_word (m := ⟨7, 5⟩) (meth := k7m5) (c := k7c5) (by decide +kernel) rfl rfl rfl (by decide +kernel)
set_option maxRecDepth 65536 in
theorem w_c17 : (Jvm.Cond.code ({ cls := "java/lang/String", name := "checkBoundsBeginEnd", desc := "(III)V" } : Jvm.MethodName) jdk_42_method_158_code (3 : Nat) (Option.none : Option Jvm.ClassFile.FieldType)).before args0 about1 = true := code_word (m := ⟨7, 11⟩) (meth := k7m11) (c := k7c11) (by decide +kernel) rfl rfl rfl (by decide +kernel)
set_option maxRecDepth 65536 in
theorem w_c18 : (Jvm.Cond.code ({ cls := "jdk/internal/util/Preconditions", name := "checkFromToIndex", desc := "(IIILjava/util/function/BiFunction;)I" } : Jvm.MethodName) jdk_41_method_12_code (4 : Nat) (Option.some Jvm.ClassFile.FieldType.int)).before args0 about1 = true := code_word (m := ⟨13, 1⟩) (meth := k13m1) (c := k13c1) (by decide +kernel) rfl rfl rfl (by decide +kernel)
set_option maxRecDepth 65536 in
theorem w_c19 : (Jvm.Cond.code ({ cls := "java/lang/String", name := "checkBoundsOffCount", desc := "(III)I" } : Jvm.MethodName) jdk_42_method_157_code (3 : Nat) (Option.some Jvm.ClassFile.FieldType.int)).before args0 about1 = true := code_word (m := ⟨7, 10⟩) (meth := k7m10) (c := k7c10) (by decide +kernel) rfl rfl rfl (by decide +kernel)
set_option maxRecDepth 65536 in
theorem w_c20 : (Jvm.Cond.code ({ cls := "jdk/internal/util/Preconditions", name := "checkFromIndexSize", desc := "(IIILjava/util/function/BiFunction;)I" } : Jvm.MethodName) jdk_41_method_13_code (4 : Nat) (Option.some Jvm.ClassFile.FieldType.int)).before args0 about1 = true := code_word (m := ⟨13, 2⟩) (meth := k13m2) (c := k13c2) (by decide +kernel) rfl rfl rfl (by decide +kernel)
set_option maxRecDepth 65536 in
theorem w_c21 : (Jvm.Cond.code ({ cls := "java/lang/String", name := "isLatin1", desc := "()Z" } : Jvm.MethodName) jdk_42_method_154_code (1 : Nat) (Option.some Jvm.ClassFile.FieldType.boolean)).before args0 about1 = true := code_word (m := ⟨7, 9⟩) (meth := k7m9) (c := k7c9) (by decide +kernel) rfl rfl rfl (by decide +kernel)
set_option maxRecDepth 65536 in
theorem w_c22 : (Jvm.Cond.code ({ cls := "java/lang/StringLatin1", name := "getChars", desc := "([BII[CI)V" } : Jvm.MethodName) jdk_43_method_11_code (5 : Nat) (Option.none : Option Jvm.ClassFile.FieldType)).before args0 about1 = true := code_word (m := ⟨14, 1⟩) (meth := k14m1) (c := k14c1) (by decide +kernel) rfl rfl rfl (by decide +kernel)
set_option maxRecDepth 65536 in
theorem w_c23 : (Jvm.Cond.code ({ cls := "java/lang/StringLatin1", name := "inflate", desc := "([BI[CII)V" } : Jvm.MethodName) jdk_43_method_49_code (6 : Nat) (Option.none : Option Jvm.ClassFile.FieldType)).before args0 about1 = true := code_word (m := ⟨14, 3⟩) (meth := k14m3) (c := k14c3) (by decide +kernel) rfl rfl rfl (by decide +kernel)
set_option maxRecDepth 65536 in
theorem w_c24 : (Jvm.Cond.code ({ cls := "com/example/invix/invix/sort/KeyBuffer", name := "size", desc := "()I" } : Jvm.MethodName) prog_79_method_3_code (1 : Nat) (Option.some Jvm.ClassFile.FieldType.int)).before args0 about1 = true := code_word (m := ⟨9, 2⟩) (meth := k9m2) (c := k9c2) (by decide +kernel) rfl rfl rfl (by decide +kernel)
set_option maxRecDepth 65536 in
theorem w_c25 : (Jvm.Cond.code ({ cls := "com/example/invix/invix/sort/KeyBuffer", name := "memory", desc := "()J" } : Jvm.MethodName) prog_79_method_7_code (1 : Nat) (Option.some Jvm.ClassFile.FieldType.long)).before args0 about1 = true := code_word (m := ⟨9, 4⟩) (meth := k9m4) (c := k9c4) (by decide +kernel) rfl rfl rfl (by decide +kernel)
set_option maxRecDepth 65536 in
theorem w_c26 : (Jvm.Cond.code ({ cls := "com/example/invix/invix/sort/KeyBuffer", name := "key", desc := "(I)Ljava/lang/String;" } : Jvm.MethodName) prog_79_method_4_code (2 : Nat) (Option.some (Jvm.ClassFile.FieldType.object "java/lang/String"))).before args0 about1 = true := code_word (m := ⟨9, 3⟩) (meth := k9m3) (c := k9c3) (by decide +kernel) rfl rfl rfl (by decide +kernel)
set_option maxRecDepth 65536 in
theorem w_c27 : (Jvm.Cond.code ({ cls := "java/lang/String", name := "<init>", desc := "([CII)V" } : Jvm.MethodName) jdk_42_method_4_code (4 : Nat) (Option.none : Option Jvm.ClassFile.FieldType)).before args0 about1 = true := code_word (m := ⟨7, 2⟩) (meth := k7m2) (c := k7c2) (by decide +kernel) rfl rfl rfl (by decide +kernel)
set_option maxRecDepth 65536 in
theorem w_c28 : (Jvm.Cond.code ({ cls := "java/lang/String", name := "rangeCheck", desc := "([CII)Ljava/lang/Void;" } : Jvm.MethodName) jdk_42_method_5_code (3 : Nat) (Option.some (Jvm.ClassFile.FieldType.object "java/lang/Void"))).before args0 about1 = true := code_word (m := ⟨7, 3⟩) (meth := k7m3) (c := k7c3) (by decide +kernel) rfl rfl rfl (by decide +kernel)
set_option maxRecDepth 65536 in
theorem w_c29 : (Jvm.Cond.code ({ cls := "java/lang/String", name := "equals", desc := "(Ljava/lang/Object;)Z" } : Jvm.MethodName) jdk_42_method_66_code (3 : Nat) (Option.some Jvm.ClassFile.FieldType.boolean)).before args0 about1 = true := code_word (m := ⟨7, 6⟩) (meth := k7m6) (c := k7c6) (by decide +kernel) rfl rfl rfl (by decide +kernel)
set_option maxRecDepth 65536 in
theorem w_c30 : (Jvm.Cond.code ({ cls := "java/lang/StringLatin1", name := "equals", desc := "([B[B)Z" } : Jvm.MethodName) jdk_43_method_13_code (3 : Nat) (Option.some Jvm.ClassFile.FieldType.boolean)).before args0 about1 = true := code_word (m := ⟨14, 2⟩) (meth := k14m2) (c := k14c2) (by decide +kernel) rfl rfl rfl (by decide +kernel)
def codes1 : List Jvm.Cond := [Jvm.Cond.code x code maxLocals ret, Jvm.Cond.code ({ cls := "java/lang/String", name := "<init>", desc := "([C)V" } : Jvm.MethodName) jdk_42_method_3_code (2 : Nat) (Option.none : Option Jvm.ClassFile.FieldType), Jvm.Cond.code ({ cls := "java/lang/String", name := "<init>", desc := "([CIILjava/lang/Void;)V" } : Jvm.MethodName) jdk_42_method_149_code (6 : Nat) (Option.none : Option Jvm.ClassFile.FieldType), Jvm.Cond.code ({ cls := "java/lang/Object", name := "<init>", desc := "()V" } : Jvm.MethodName) object_method_1_code (1 : Nat) (Option.none : Option Jvm.ClassFile.FieldType), Jvm.Cond.code ({ cls := "java/lang/StringUTF16", name := "compress", desc := "([CII)[B" } : Jvm.MethodName) jdk_52_method_16_code (6 : Nat) (Option.some (Jvm.ClassFile.FieldType.array Jvm.ClassFile.FieldType.byte)), Jvm.Cond.code ({ cls := "java/lang/StringUTF16", name := "compress", desc := "([CI[BII)I" } : Jvm.MethodName) jdk_52_method_21_code (7 : Nat) (Option.some Jvm.ClassFile.FieldType.int), Jvm.Cond.code ({ cls := "java/lang/StringUTF16", name := "coderFromArrayLen", desc := "([BI)B" } : Jvm.MethodName) jdk_52_method_15_code (2 : Nat) (Option.some Jvm.ClassFile.FieldType.byte), Jvm.Cond.code ({ cls := "com/example/invix/invix/sort/KeyBuffer", name := "<init>", desc := "()V" } : Jvm.MethodName) prog_79_method_1_code (1 : Nat) (Option.none : Option Jvm.ClassFile.FieldType), Jvm.Cond.code ({ cls := "com/example/invix/invix/sort/KeyBuffer", name := "clear", desc := "()V" } : Jvm.MethodName) prog_79_method_10_code (1 : Nat) (Option.none : Option Jvm.ClassFile.FieldType), Jvm.Cond.code ({ cls := "com/example/invix/invix/sort/KeyBuffer", name := "add", desc := "(Ljava/lang/String;)I" } : Jvm.MethodName) prog_79_method_2_code (4 : Nat) (Option.some Jvm.ClassFile.FieldType.int), Jvm.Cond.code ({ cls := "com/example/invix/invix/sort/KeyBuffer", name := "start", desc := "(I)I" } : Jvm.MethodName) prog_79_method_12_code (2 : Nat) (Option.some Jvm.ClassFile.FieldType.int), Jvm.Cond.code ({ cls := "java/lang/String", name := "length", desc := "()I" } : Jvm.MethodName) jdk_42_method_54_code (1 : Nat) (Option.some Jvm.ClassFile.FieldType.int), Jvm.Cond.code ({ cls := "java/lang/String", name := "coder", desc := "()B" } : Jvm.MethodName) jdk_42_method_152_code (1 : Nat) (Option.some Jvm.ClassFile.FieldType.byte), Jvm.Cond.code ({ cls := "java/lang/Math", name := "max", desc := "(II)I" } : Jvm.MethodName) jdk_29_method_65_code (2 : Nat) (Option.some Jvm.ClassFile.FieldType.int), Jvm.Cond.code ({ cls := "java/util/Arrays", name := "copyOf", desc := "([CI)[C" } : Jvm.MethodName) jdk_65_method_125_code (3 : Nat) (Option.some (Jvm.ClassFile.FieldType.array Jvm.ClassFile.FieldType.char)), Jvm.Cond.code ({ cls := "java/lang/Math", name := "min", desc := "(II)I" } : Jvm.MethodName) jdk_29_method_69_code (2 : Nat) (Option.some Jvm.ClassFile.FieldType.int), Jvm.Cond.code ({ cls := "java/lang/String", name := "getChars", desc := "(II[CI)V" } : Jvm.MethodName) jdk_42_method_61_code (5 : Nat) (Option.none : Option Jvm.ClassFile.FieldType), Jvm.Cond.code ({ cls := "java/lang/String", name := "checkBoundsBeginEnd", desc := "(III)V" } : Jvm.MethodName) jdk_42_method_158_code (3 : Nat) (Option.none : Option Jvm.ClassFile.FieldType), Jvm.Cond.code ({ cls := "jdk/internal/util/Preconditions", name := "checkFromToIndex", desc := "(IIILjava/util/function/BiFunction;)I" } : Jvm.MethodName) jdk_41_method_12_code (4 : Nat) (Option.some Jvm.ClassFile.FieldType.int), Jvm.Cond.code ({ cls := "java/lang/String", name := "checkBoundsOffCount", desc := "(III)I" } : Jvm.MethodName) jdk_42_method_157_code (3 : Nat) (Option.some Jvm.ClassFile.FieldType.int), Jvm.Cond.code ({ cls := "jdk/internal/util/Preconditions", name := "checkFromIndexSize", desc := "(IIILjava/util/function/BiFunction;)I" } : Jvm.MethodName) jdk_41_method_13_code (4 : Nat) (Option.some Jvm.ClassFile.FieldType.int), Jvm.Cond.code ({ cls := "java/lang/String", name := "isLatin1", desc := "()Z" } : Jvm.MethodName) jdk_42_method_154_code (1 : Nat) (Option.some Jvm.ClassFile.FieldType.boolean), Jvm.Cond.code ({ cls := "java/lang/StringLatin1", name := "getChars", desc := "([BII[CI)V" } : Jvm.MethodName) jdk_43_method_11_code (5 : Nat) (Option.none : Option Jvm.ClassFile.FieldType), Jvm.Cond.code ({ cls := "java/lang/StringLatin1", name := "inflate", desc := "([BI[CII)V" } : Jvm.MethodName) jdk_43_method_49_code (6 : Nat) (Option.none : Option Jvm.ClassFile.FieldType), Jvm.Cond.code ({ cls := "com/example/invix/invix/sort/KeyBuffer", name := "size", desc := "()I" } : Jvm.MethodName) prog_79_method_3_code (1 : Nat) (Option.some Jvm.ClassFile.FieldType.int), Jvm.Cond.code ({ cls := "com/example/invix/invix/sort/KeyBuffer", name := "memory", desc := "()J" } : Jvm.MethodName) prog_79_method_7_code (1 : Nat) (Option.some Jvm.ClassFile.FieldType.long), Jvm.Cond.code ({ cls := "com/example/invix/invix/sort/KeyBuffer", name := "key", desc := "(I)Ljava/lang/String;" } : Jvm.MethodName) prog_79_method_4_code (2 : Nat) (Option.some (Jvm.ClassFile.FieldType.object "java/lang/String")), Jvm.Cond.code ({ cls := "java/lang/String", name := "<init>", desc := "([CII)V" } : Jvm.MethodName) jdk_42_method_4_code (4 : Nat) (Option.none : Option Jvm.ClassFile.FieldType), Jvm.Cond.code ({ cls := "java/lang/String", name := "rangeCheck", desc := "([CII)Ljava/lang/Void;" } : Jvm.MethodName) jdk_42_method_5_code (3 : Nat) (Option.some (Jvm.ClassFile.FieldType.object "java/lang/Void")), Jvm.Cond.code ({ cls := "java/lang/String", name := "equals", desc := "(Ljava/lang/Object;)Z" } : Jvm.MethodName) jdk_42_method_66_code (3 : Nat) (Option.some Jvm.ClassFile.FieldType.boolean), Jvm.Cond.code ({ cls := "java/lang/StringLatin1", name := "equals", desc := "([B[B)Z" } : Jvm.MethodName) jdk_43_method_13_code (3 : Nat) (Option.some Jvm.ClassFile.FieldType.boolean)]
set_option maxRecDepth 65536 in
theorem codes_eq : words1.filter isCode = codes1 := rfl
theorem w_codes : ∀ c ∈ words1.filter isCode, c.before args0 about1 = true := by
  rw [codes_eq]
  intro c hc
  simp only [codes1, List.mem_cons, List.not_mem_nil, or_false] at hc
  rcases hc with rfl | rfl | rfl | rfl | rfl | rfl | rfl | rfl | rfl | rfl | rfl | rfl | rfl | rfl | rfl | rfl | rfl | rfl | rfl | rfl | rfl | rfl | rfl | rfl | rfl | rfl | rfl | rfl | rfl | rfl | rfl
  · exact w_c0
  · exact w_c1
  · exact w_c2
  · exact w_c3
  · exact w_c4
  · exact w_c5
  · exact w_c6
  · exact w_c7
  · exact w_c8
  · exact w_c9
  · exact w_c10
  · exact w_c11
  · exact w_c12
  · exact w_c13
  · exact w_c14
  · exact w_c15
  · exact w_c16
  · exact w_c17
  · exact w_c18
  · exact w_c19
  · exact w_c20
  · exact w_c21
  · exact w_c22
  · exact w_c23
  · exact w_c24
  · exact w_c25
  · exact w_c26
  · exact w_c27
  · exact w_c28
  · exact w_c29
  · exact w_c30
set_option maxRecDepth 65536 in
theorem w_t1 : (words1.take 24).all (fun c => isCode c || c.before args0 about1) = true := by decide +kernel
set_option maxRecDepth 65536 in
theorem w_t2 : ((words1.drop 24).take 24).all (fun c => isCode c || c.before args0 about1) = true := by decide +kernel
set_option maxRecDepth 65536 in
theorem w_t3 : (((words1.drop 24).drop 24).take 24).all (fun c => isCode c || c.before args0 about1) = true := by decide +kernel
set_option maxRecDepth 65536 in
theorem w_t4 : ((((words1.drop 24).drop 24).drop 24).take 24).all (fun c => isCode c || c.before args0 about1) = true := by decide +kernel
set_option maxRecDepth 65536 in
theorem w_t5 : (((((words1.drop 24).drop 24).drop 24).drop 24).take 24).all (fun c => isCode c || c.before args0 about1) = true := by decide +kernel
set_option maxRecDepth 65536 in
theorem w_t6 : ((((((words1.drop 24).drop 24).drop 24).drop 24).drop 24).take 24).all (fun c => isCode c || c.before args0 about1) = true := by decide +kernel
set_option maxRecDepth 65536 in
theorem w_t7 : ((((((words1.drop 24).drop 24).drop 24).drop 24).drop 24).drop 24).all (fun c => isCode c || c.before args0 about1) = true := by decide +kernel
theorem w_tables : (allAtoms (Jvm.Cond.code x code maxLocals ret :: tables_1)).before args0 about1 = true := by
  rw [allAtoms_all]
  show words1.all (fun c => c.before args0 about1) = true
  refine all_split ?_ w_codes
  rw [← List.take_append_drop 24 words1, List.all_append, w_t1, ← List.take_append_drop 24 (words1.drop 24), List.all_append, w_t2, ← List.take_append_drop 24 ((words1.drop 24).drop 24), List.all_append, w_t3, ← List.take_append_drop 24 (((words1.drop 24).drop 24).drop 24), List.all_append, w_t4, ← List.take_append_drop 24 ((((words1.drop 24).drop 24).drop 24).drop 24), List.all_append, w_t5, ← List.take_append_drop 24 (((((words1.drop 24).drop 24).drop 24).drop 24).drop 24), List.all_append, w_t6, w_t7]
  rfl
set_option maxRecDepth 65536 in
theorem w_rest : rest_1_c.before args0 about1 = true := by decide +kernel
set_option maxRecDepth 65536 in
theorem w_case : (Jvm.Cond.and given_1 narrow_1).before args0 about1 = true := by decide +kernel
theorem w_applies : (headSpec (Jvm.Cond.code x code maxLocals ret :: tables_1) room_1).applies x e0.platform about1 = true :=
  (Spec.applies_iff w_frames).mpr ⟨w_running, w_runnable, w_alone, w_named, w_hears, w_ripe, w_room, w_tables⟩
theorem atStart : AtStart classFile x code maxLocals ret World_1 tables_1 room_1 Calls_1 rest_1 Pre_1 launch0 p0 e0 about1 theMethod args0 below0 :=
  ⟨lists_1, trivial, launch0.admits_env _ _ _, launch0.least_env, fairChoices_fair.cas, fairChoices_fair.clock, w_frames, w_args, w_heap, w_applies, trivial, w_rest, w_case⟩
end start1
theorem witness_1 : WitnessClaimed_1 := ⟨start1.p0, start1.e0, start1.about1, start1.theMethod, start1.args0, start1.below0, start1.atStart⟩
end Jvm.Pilot.@@N@@
