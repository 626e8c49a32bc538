import JvmDerived
import JvmDerived.Pilot.@@N@@Statement
import JvmDerived.Pilot.@@N@@Code
set_option linter.unusedVariables false
set_option linter.unusedSimpArgs false

namespace Jvm.Own
open Sem ClassFile Op Lib Jvm.Stand Jvm.Free Jvm.LawKit Jvm.RoadKit
def Go (p : Program) (e : Env) (below : List Frame) (G : State → Outcome → Prop) (σ : State) : Prop := ∃ s₂ o, Steps p.tables e below σ s₂ ∧ s₂.status = .running ∧ Ended s₂ below o ∧ G s₂ o
theorem Go.step {p : Program} {e : Env} {below : List Frame} {G : State → Outcome → Prop} {σ σ' : State} (h : ∀ t, Steps p.tables e below σ' t → Steps p.tables e below σ t) (k : Go p e below G σ') : Go p e below G σ := by
  obtain ⟨s₂, o, h1, h2⟩ := k
  exact ⟨s₂, o, h _ h1, h2⟩
def RetG (s : State) (Q : Option Value → Heap → List Loc → Prop) (cells slots : Nat) (s₂ : State) (o : Outcome) : Prop := ∃ v L, o = .returned v ∧ Q v s₂.heap L ∧ FrameEnd s o s₂ L cells slots
section
variable {p : Program} {l : Launch} {e : Env} {R : Room} {s : State} {m : MethodId} {args : Array Value} {below : List Frame} {meth : Method} {c : Code} {T : State} {locs : List Loc} {k n : Nat} {G : State → Outcome → Prop} {code : ByteArray} {pc : Nat} {Ls : Array Slot} {st : List Value} {Z : State} {a0 : Array Value} {h : Heap} {n0 : Nat}
theorem Go.leave (X : Stand p l e R s m args below meth c T locs k n) {v : Option Value} (hv : meth.sig.returnType = none → v = none) (hlocks : meth.locks = false) {Q : Option Value → Heap → List Loc → Prop} {cells slots : Nat} {σ : State} (eT : T.heap = h) (hq : Q v h locs) (hk : k ≤ cells) (hn : n ≤ slots)
    (st : ∀ fs, (∀ (f : JFrame) (acts : List Action), f.method = m → f.locked = none → f.entered = [] → (doReturn e (T.setTop f) acts v).1 = T.setFrames fs) → Steps p.tables e below σ (T.setFrames fs)) : Go p e below (RetG s Q cells slots) σ := by
  obtain ⟨fs, hr, hrun, hended, hW, hsame⟩ := X.leave (v := v) hv hlocks
  subst eT
  exact ⟨_, _, st fs hr, hrun, hended, _, _, rfl, hq, ⟨_, rfl⟩, hW, hsame.mono hk hn⟩
/-- null or some object -/
def Rf (v : Value) : Prop := v = .null ∨ ∃ a, v = .ref a
theorem Rf.is {v : Value} (r : Rf v) : v.isRef = true := by rcases r with rfl | ⟨a, rfl⟩ <;> rfl
theorem Rf.cat {v : Value} (r : Rf v) : v.category = 1 := by rcases r with rfl | ⟨a, rfl⟩ <;> rfl
theorem Rf.nar {v : Value} (r : Rf v) {c : String} : narrow (.object c) v = v := by rcases r with rfl | ⟨a, rfl⟩ <;> rfl
theorem Rf.fit {v : Value} (r : Rf v) {c : String} : fits (.object c) v = true := by rcases r with rfl | ⟨a, rfl⟩ <;> rfl
theorem Rf.store {v : Value} (r : Rf v) {ls ls' : Array Slot} {i : Nat} {o : Slot} (hold : ls[i]? = some o) (ho : One o) (hl : ls.setIfInBounds i (.val v) = ls') : storeLocals ls i v = some ls' := by rw [XS.store1 hold ho r.cat, hl]
theorem Rf.of {v : Value} (h : v.isRef = true) : Rf v := ref_cases h
theorem selOf {U : State} {as : Array Value} {y : MethodName} {n : Nat} (wi : (Cond.instantiable y.cls n).before as U = true) (wp : (Cond.privateMethod y).before #[] U = true) (wm : (Cond.instanceMethod y).before as U = true) (hy : y.cls ≠ "java/lang/invoke/MethodHandle" ∧ y.cls ≠ "java/lang/invoke/VarHandle") : (Cond.selects y.cls y y).before as U = true := by
  obtain ⟨c, k, h1, h2, -, h4, -⟩ := Cond.instantiable_spec wi
  exact selects_self_of_private h1 h2 (Bool.or_eq_false_iff.mp h4).1 (Cond.privateMethod_at wp) wm hy
theorem g_iload (X : Stand p l e R s m args below meth c T locs k n) (hx : p.tables.exec = Jvm.exec) (hby : c.code = code) {j : Nat} {v : Int32} (hd : decode code pc = .ok (.iload j, 2)) (hl : Ls[j]? = some (.val (.int v))) (K : Go p e below G (T.setTop (mkF m (pc + 2) Ls (.int v :: st)))) : Go p e below G (T.setTop (mkF m pc Ls st)) := Go.step (fun t q => XS.iload X.here hx rfl (hb hby hd) hl q) K
theorem g_iloadN (X : Stand p l e R s m args below meth c T locs k n) (hx : p.tables.exec = Jvm.exec) (hby : c.code = code) {j : Fin 4} {v : Int32} (hd : decode code pc = .ok (.iload_n j, 1)) (hl : Ls[j.val]? = some (.val (.int v))) (K : Go p e below G (T.setTop (mkF m (pc + 1) Ls (.int v :: st)))) : Go p e below G (T.setTop (mkF m pc Ls st)) := Go.step (fun t q => XS.iloadN X.here hx rfl (hb hby hd) hl q) K
theorem g_lload (X : Stand p l e R s m args below meth c T locs k n) (hx : p.tables.exec = Jvm.exec) (hby : c.code = code) {j : Nat} {v : Int64} (hd : decode code pc = .ok (.lload j, 2)) (hl : Ls[j]? = some (.val (.long v))) (K : Go p e below G (T.setTop (mkF m (pc + 2) Ls (.long v :: st)))) : Go p e below G (T.setTop (mkF m pc Ls st)) := Go.step (fun t q => XS.lload X.here hx rfl (hb hby hd) hl q) K
theorem g_lloadN (X : Stand p l e R s m args below meth c T locs k n) (hx : p.tables.exec = Jvm.exec) (hby : c.code = code) {j : Fin 4} {v : Int64} (hd : decode code pc = .ok (.lload_n j, 1)) (hl : Ls[j.val]? = some (.val (.long v))) (K : Go p e below G (T.setTop (mkF m (pc + 1) Ls (.long v :: st)))) : Go p e below G (T.setTop (mkF m pc Ls st)) := Go.step (fun t q => XS.lloadN X.here hx rfl (hb hby hd) hl q) K
theorem g_aload (X : Stand p l e R s m args below meth c T locs k n) (hx : p.tables.exec = Jvm.exec) (hby : c.code = code) {j : Nat} {v : Value} (hd : decode code pc = .ok (.aload j, 2)) (hl : Ls[j]? = some (.val v)) (hv : v.isRef = true) (K : Go p e below G (T.setTop (mkF m (pc + 2) Ls (v :: st)))) : Go p e below G (T.setTop (mkF m pc Ls st)) := Go.step (fun t q => XS.aload X.here hx rfl (hb hby hd) hl hv q) K
theorem g_aloadN (X : Stand p l e R s m args below meth c T locs k n) (hx : p.tables.exec = Jvm.exec) (hby : c.code = code) {j : Fin 4} {v : Value} (hd : decode code pc = .ok (.aload_n j, 1)) (hl : Ls[j.val]? = some (.val v)) (hv : v.isRef = true) (K : Go p e below G (T.setTop (mkF m (pc + 1) Ls (v :: st)))) : Go p e below G (T.setTop (mkF m pc Ls st)) := Go.step (fun t q => XS.aloadN X.here hx rfl (hb hby hd) hl hv q) K
theorem g_istore (X : Stand p l e R s m args below meth c T locs k n) (hx : p.tables.exec = Jvm.exec) (hby : c.code = code) {j : Nat} {x : Int32} {rest : List Value} {l' : Array Slot} (hd : decode code pc = .ok (.istore j, 2)) (hl : storeLocals Ls j (.int x) = some l') (K : Go p e below G (T.setTop (mkF m (pc + 2) l' rest))) : Go p e below G (T.setTop (mkF m pc Ls (.int x :: rest))) := Go.step (fun t q => XS.istore X.here hx rfl (hb hby hd) rfl hl q) K
theorem g_istoreN (X : Stand p l e R s m args below meth c T locs k n) (hx : p.tables.exec = Jvm.exec) (hby : c.code = code) {j : Fin 4} {x : Int32} {rest : List Value} {l' : Array Slot} (hd : decode code pc = .ok (.istore_n j, 1)) (hl : storeLocals Ls j.val (.int x) = some l') (K : Go p e below G (T.setTop (mkF m (pc + 1) l' rest))) : Go p e below G (T.setTop (mkF m pc Ls (.int x :: rest))) := Go.step (fun t q => XS.istoreN X.here hx rfl (hb hby hd) rfl hl q) K
theorem g_lstore (X : Stand p l e R s m args below meth c T locs k n) (hx : p.tables.exec = Jvm.exec) (hby : c.code = code) {j : Nat} {x : Int64} {rest : List Value} {l' : Array Slot} (hd : decode code pc = .ok (.lstore j, 2)) (hl : storeLocals Ls j (.long x) = some l') (K : Go p e below G (T.setTop (mkF m (pc + 2) l' rest))) : Go p e below G (T.setTop (mkF m pc Ls (.long x :: rest))) := Go.step (fun t q => XS.lstore X.here hx rfl (hb hby hd) rfl hl q) K
theorem g_lstoreN (X : Stand p l e R s m args below meth c T locs k n) (hx : p.tables.exec = Jvm.exec) (hby : c.code = code) {j : Fin 4} {x : Int64} {rest : List Value} {l' : Array Slot} (hd : decode code pc = .ok (.lstore_n j, 1)) (hl : storeLocals Ls j.val (.long x) = some l') (K : Go p e below G (T.setTop (mkF m (pc + 1) l' rest))) : Go p e below G (T.setTop (mkF m pc Ls (.long x :: rest))) := Go.step (fun t q => XS.lstoreN X.here hx rfl (hb hby hd) rfl hl q) K
theorem g_astore (X : Stand p l e R s m args below meth c T locs k n) (hx : p.tables.exec = Jvm.exec) (hby : c.code = code) {j : Nat} {x : Value} {rest : List Value} {l' : Array Slot} (hd : decode code pc = .ok (.astore j, 2)) (hv : x.isRef = true) (hl : storeLocals Ls j x = some l') (K : Go p e below G (T.setTop (mkF m (pc + 2) l' rest))) : Go p e below G (T.setTop (mkF m pc Ls (x :: rest))) := Go.step (fun t q => XS.astore X.here hx rfl (hb hby hd) rfl hv hl q) K
theorem g_astoreN (X : Stand p l e R s m args below meth c T locs k n) (hx : p.tables.exec = Jvm.exec) (hby : c.code = code) {j : Fin 4} {x : Value} {rest : List Value} {l' : Array Slot} (hd : decode code pc = .ok (.astore_n j, 1)) (hv : x.isRef = true) (hl : storeLocals Ls j.val x = some l') (K : Go p e below G (T.setTop (mkF m (pc + 1) l' rest))) : Go p e below G (T.setTop (mkF m pc Ls (x :: rest))) := Go.step (fun t q => XS.astoreN X.here hx rfl (hb hby hd) rfl hv hl q) K
theorem g_iconst (X : Stand p l e R s m args below meth c T locs k n) (hx : p.tables.exec = Jvm.exec) (hby : c.code = code) {i : Int} (v : Int32) (hd : decode code pc = .ok (.iconst i, 1)) (hv : Int32.ofInt i = v) (K : Go p e below G (T.setTop (mkF m (pc + 1) Ls (.int v :: st)))) : Go p e below G (T.setTop (mkF m pc Ls st)) := Go.step (fun t q => XS.iconst X.here hx rfl (hb hby hd) (by rw [hv]; exact q)) K
theorem g_bipush (X : Stand p l e R s m args below meth c T locs k n) (hx : p.tables.exec = Jvm.exec) (hby : c.code = code) {i : Int} (v : Int32) (hd : decode code pc = .ok (.bipush i, 2)) (hv : (Int8.ofInt i).toInt32 = v) (K : Go p e below G (T.setTop (mkF m (pc + 2) Ls (.int v :: st)))) : Go p e below G (T.setTop (mkF m pc Ls st)) := Go.step (fun t q => XS.bipush X.here hx rfl (hb hby hd) (by rw [hv]; exact q)) K
theorem g_sipush (X : Stand p l e R s m args below meth c T locs k n) (hx : p.tables.exec = Jvm.exec) (hby : c.code = code) {i : Int} (v : Int32) (hd : decode code pc = .ok (.sipush i, 3)) (hv : (Int16.ofInt i).toInt32 = v) (K : Go p e below G (T.setTop (mkF m (pc + 3) Ls (.int v :: st)))) : Go p e below G (T.setTop (mkF m pc Ls st)) := Go.step (fun t q => XS.sipush X.here hx rfl (hb hby hd) (by rw [hv]; exact q)) K
theorem g_lconst (X : Stand p l e R s m args below meth c T locs k n) (hx : p.tables.exec = Jvm.exec) (hby : c.code = code) {j : Fin 2} (v : Int64) (hd : decode code pc = .ok (.lconst j, 1)) (hv : Int64.ofNat j = v) (K : Go p e below G (T.setTop (mkF m (pc + 1) Ls (.long v :: st)))) : Go p e below G (T.setTop (mkF m pc Ls st)) := Go.step (fun t q => XS.lconst X.here hx rfl (hb hby hd) (by rw [hv]; exact q)) K
theorem g_topI {x : Int32} (y : Int32) (q : x = y) {rest : List Value} (K : Go p e below G (T.setTop (mkF m pc Ls (.int y :: rest)))) : Go p e below G (T.setTop (mkF m pc Ls (.int x :: rest))) := q ▸ K
theorem g_topJ {x : Int64} (y : Int64) (q : x = y) {rest : List Value} (K : Go p e below G (T.setTop (mkF m pc Ls (.long y :: rest)))) : Go p e below G (T.setTop (mkF m pc Ls (.long x :: rest))) := q ▸ K
theorem g_at {ls ls' : Array Slot} {st' : List Value} (pc' : Nat) (h1 : pc = pc') (h2 : ls = ls') (h3 : st = st') (K : Go p e below G (T.setTop (mkF m pc' ls' st'))) : Go p e below G (T.setTop (mkF m pc ls st)) := h1 ▸ h2 ▸ h3 ▸ K
theorem g_aconst_null (X : Stand p l e R s m args below meth c T locs k n) (hx : p.tables.exec = Jvm.exec) (hby : c.code = code)  (hd : decode code pc = .ok (.aconst_null, 1)) (K : Go p e below G (T.setTop (mkF m (pc + 1) Ls (.null :: st)))) : Go p e below G (T.setTop (mkF m pc Ls st)) := Go.step (fun t q => XS.aconstNull X.here hx rfl (hb hby hd)  q) K
theorem g_iadd (X : Stand p l e R s m args below meth c T locs k n) (hx : p.tables.exec = Jvm.exec) (hby : c.code = code) {x y : Int32} {rest : List Value} (hd : decode code pc = .ok (.iadd, 1)) (K : Go p e below G (T.setTop (mkF m (pc + 1) Ls (.int (x + y) :: rest)))) : Go p e below G (T.setTop (mkF m pc Ls (.int y :: .int x :: rest))) := Go.step (fun t q => XS.iadd X.here hx rfl (hb hby hd) rfl q) K
theorem g_ladd (X : Stand p l e R s m args below meth c T locs k n) (hx : p.tables.exec = Jvm.exec) (hby : c.code = code) {x y : Int64} {rest : List Value} (hd : decode code pc = .ok (.ladd, 1)) (K : Go p e below G (T.setTop (mkF m (pc + 1) Ls (.long (x + y) :: rest)))) : Go p e below G (T.setTop (mkF m pc Ls (.long y :: .long x :: rest))) := Go.step (fun t q => XS.ladd X.here hx rfl (hb hby hd) rfl q) K
theorem g_isub (X : Stand p l e R s m args below meth c T locs k n) (hx : p.tables.exec = Jvm.exec) (hby : c.code = code) {x y : Int32} {rest : List Value} (hd : decode code pc = .ok (.isub, 1)) (K : Go p e below G (T.setTop (mkF m (pc + 1) Ls (.int (x - y) :: rest)))) : Go p e below G (T.setTop (mkF m pc Ls (.int y :: .int x :: rest))) := Go.step (fun t q => XS.isub X.here hx rfl (hb hby hd) rfl q) K
theorem g_lsub (X : Stand p l e R s m args below meth c T locs k n) (hx : p.tables.exec = Jvm.exec) (hby : c.code = code) {x y : Int64} {rest : List Value} (hd : decode code pc = .ok (.lsub, 1)) (K : Go p e below G (T.setTop (mkF m (pc + 1) Ls (.long (x - y) :: rest)))) : Go p e below G (T.setTop (mkF m pc Ls (.long y :: .long x :: rest))) := Go.step (fun t q => XS.lsub X.here hx rfl (hb hby hd) rfl q) K
theorem g_imul (X : Stand p l e R s m args below meth c T locs k n) (hx : p.tables.exec = Jvm.exec) (hby : c.code = code) {x y : Int32} {rest : List Value} (hd : decode code pc = .ok (.imul, 1)) (K : Go p e below G (T.setTop (mkF m (pc + 1) Ls (.int (x * y) :: rest)))) : Go p e below G (T.setTop (mkF m pc Ls (.int y :: .int x :: rest))) := Go.step (fun t q => XS.imul X.here hx rfl (hb hby hd) rfl q) K
theorem g_lmul (X : Stand p l e R s m args below meth c T locs k n) (hx : p.tables.exec = Jvm.exec) (hby : c.code = code) {x y : Int64} {rest : List Value} (hd : decode code pc = .ok (.lmul, 1)) (K : Go p e below G (T.setTop (mkF m (pc + 1) Ls (.long (x * y) :: rest)))) : Go p e below G (T.setTop (mkF m pc Ls (.long y :: .long x :: rest))) := Go.step (fun t q => XS.lmul X.here hx rfl (hb hby hd) rfl q) K
theorem g_iand (X : Stand p l e R s m args below meth c T locs k n) (hx : p.tables.exec = Jvm.exec) (hby : c.code = code) {x y : Int32} {rest : List Value} (hd : decode code pc = .ok (.iand, 1)) (K : Go p e below G (T.setTop (mkF m (pc + 1) Ls (.int (x &&& y) :: rest)))) : Go p e below G (T.setTop (mkF m pc Ls (.int y :: .int x :: rest))) := Go.step (fun t q => XS.iand X.here hx rfl (hb hby hd) rfl q) K
theorem g_land (X : Stand p l e R s m args below meth c T locs k n) (hx : p.tables.exec = Jvm.exec) (hby : c.code = code) {x y : Int64} {rest : List Value} (hd : decode code pc = .ok (.land, 1)) (K : Go p e below G (T.setTop (mkF m (pc + 1) Ls (.long (x &&& y) :: rest)))) : Go p e below G (T.setTop (mkF m pc Ls (.long y :: .long x :: rest))) := Go.step (fun t q => XS.land X.here hx rfl (hb hby hd) rfl q) K
theorem g_ior (X : Stand p l e R s m args below meth c T locs k n) (hx : p.tables.exec = Jvm.exec) (hby : c.code = code) {x y : Int32} {rest : List Value} (hd : decode code pc = .ok (.ior, 1)) (K : Go p e below G (T.setTop (mkF m (pc + 1) Ls (.int (x ||| y) :: rest)))) : Go p e below G (T.setTop (mkF m pc Ls (.int y :: .int x :: rest))) := Go.step (fun t q => XS.ior X.here hx rfl (hb hby hd) rfl q) K
theorem g_lor (X : Stand p l e R s m args below meth c T locs k n) (hx : p.tables.exec = Jvm.exec) (hby : c.code = code) {x y : Int64} {rest : List Value} (hd : decode code pc = .ok (.lor, 1)) (K : Go p e below G (T.setTop (mkF m (pc + 1) Ls (.long (x ||| y) :: rest)))) : Go p e below G (T.setTop (mkF m pc Ls (.long y :: .long x :: rest))) := Go.step (fun t q => XS.lor X.here hx rfl (hb hby hd) rfl q) K
theorem g_ixor (X : Stand p l e R s m args below meth c T locs k n) (hx : p.tables.exec = Jvm.exec) (hby : c.code = code) {x y : Int32} {rest : List Value} (hd : decode code pc = .ok (.ixor, 1)) (K : Go p e below G (T.setTop (mkF m (pc + 1) Ls (.int (x ^^^ y) :: rest)))) : Go p e below G (T.setTop (mkF m pc Ls (.int y :: .int x :: rest))) := Go.step (fun t q => XS.ixor X.here hx rfl (hb hby hd) rfl q) K
theorem g_lxor (X : Stand p l e R s m args below meth c T locs k n) (hx : p.tables.exec = Jvm.exec) (hby : c.code = code) {x y : Int64} {rest : List Value} (hd : decode code pc = .ok (.lxor, 1)) (K : Go p e below G (T.setTop (mkF m (pc + 1) Ls (.long (x ^^^ y) :: rest)))) : Go p e below G (T.setTop (mkF m pc Ls (.long y :: .long x :: rest))) := Go.step (fun t q => XS.lxor X.here hx rfl (hb hby hd) rfl q) K
theorem g_ishl (X : Stand p l e R s m args below meth c T locs k n) (hx : p.tables.exec = Jvm.exec) (hby : c.code = code) {x y : Int32} {rest : List Value} (hd : decode code pc = .ok (.ishl, 1)) (K : Go p e below G (T.setTop (mkF m (pc + 1) Ls (.int (x <<< (y &&& 31)) :: rest)))) : Go p e below G (T.setTop (mkF m pc Ls (.int y :: .int x :: rest))) := Go.step (fun t q => XS.ishl X.here hx rfl (hb hby hd) rfl q) K
theorem g_ishr (X : Stand p l e R s m args below meth c T locs k n) (hx : p.tables.exec = Jvm.exec) (hby : c.code = code) {x y : Int32} {rest : List Value} (hd : decode code pc = .ok (.ishr, 1)) (K : Go p e below G (T.setTop (mkF m (pc + 1) Ls (.int (x >>> (y &&& 31)) :: rest)))) : Go p e below G (T.setTop (mkF m pc Ls (.int y :: .int x :: rest))) := Go.step (fun t q => XS.ishr X.here hx rfl (hb hby hd) rfl q) K
theorem g_iushr (X : Stand p l e R s m args below meth c T locs k n) (hx : p.tables.exec = Jvm.exec) (hby : c.code = code) {x y : Int32} {rest : List Value} (hd : decode code pc = .ok (.iushr, 1)) (K : Go p e below G (T.setTop (mkF m (pc + 1) Ls (.int ((x.toUInt32 >>> (y &&& 31).toUInt32).toInt32) :: rest)))) : Go p e below G (T.setTop (mkF m pc Ls (.int y :: .int x :: rest))) := Go.step (fun t q => XS.iushr X.here hx rfl (hb hby hd) rfl q) K
theorem g_lshl (X : Stand p l e R s m args below meth c T locs k n) (hx : p.tables.exec = Jvm.exec) (hby : c.code = code) {x : Int64} {y : Int32} {rest : List Value} (hd : decode code pc = .ok (.lshl, 1)) (K : Go p e below G (T.setTop (mkF m (pc + 1) Ls (.long (x <<< (y &&& 0x3f).toInt64) :: rest)))) : Go p e below G (T.setTop (mkF m pc Ls (.int y :: .long x :: rest))) := Go.step (fun t q => XS.lshl X.here hx rfl (hb hby hd) rfl q) K
theorem g_lshr (X : Stand p l e R s m args below meth c T locs k n) (hx : p.tables.exec = Jvm.exec) (hby : c.code = code) {x : Int64} {y : Int32} {rest : List Value} (hd : decode code pc = .ok (.lshr, 1)) (K : Go p e below G (T.setTop (mkF m (pc + 1) Ls (.long (x >>> (y &&& 0x3f).toInt64) :: rest)))) : Go p e below G (T.setTop (mkF m pc Ls (.int y :: .long x :: rest))) := Go.step (fun t q => XS.lshr X.here hx rfl (hb hby hd) rfl q) K
theorem g_lushr (X : Stand p l e R s m args below meth c T locs k n) (hx : p.tables.exec = Jvm.exec) (hby : c.code = code) {x : Int64} {y : Int32} {rest : List Value} (hd : decode code pc = .ok (.lushr, 1)) (K : Go p e below G (T.setTop (mkF m (pc + 1) Ls (.long ((x.toUInt64 >>> (y &&& 0x3f).toInt64.toUInt64).toInt64) :: rest)))) : Go p e below G (T.setTop (mkF m pc Ls (.int y :: .long x :: rest))) := Go.step (fun t q => XS.lushr X.here hx rfl (hb hby hd) rfl q) K
theorem g_ineg (X : Stand p l e R s m args below meth c T locs k n) (hx : p.tables.exec = Jvm.exec) (hby : c.code = code) {x : Int32} {rest : List Value} (hd : decode code pc = .ok (.ineg, 1)) (K : Go p e below G (T.setTop (mkF m (pc + 1) Ls (.int (-x) :: rest)))) : Go p e below G (T.setTop (mkF m pc Ls (.int x :: rest))) := Go.step (fun t q => XS.ineg X.here hx rfl (hb hby hd) rfl q) K
theorem g_lneg (X : Stand p l e R s m args below meth c T locs k n) (hx : p.tables.exec = Jvm.exec) (hby : c.code = code) {x : Int64} {rest : List Value} (hd : decode code pc = .ok (.lneg, 1)) (K : Go p e below G (T.setTop (mkF m (pc + 1) Ls (.long (-x) :: rest)))) : Go p e below G (T.setTop (mkF m pc Ls (.long x :: rest))) := Go.step (fun t q => XS.lneg X.here hx rfl (hb hby hd) rfl q) K
theorem g_i2l (X : Stand p l e R s m args below meth c T locs k n) (hx : p.tables.exec = Jvm.exec) (hby : c.code = code) {x : Int32} {rest : List Value} (hd : decode code pc = .ok (.i2l, 1)) (K : Go p e below G (T.setTop (mkF m (pc + 1) Ls (.long (x.toInt64) :: rest)))) : Go p e below G (T.setTop (mkF m pc Ls (.int x :: rest))) := Go.step (fun t q => XS.i2l X.here hx rfl (hb hby hd) rfl q) K
theorem g_l2i (X : Stand p l e R s m args below meth c T locs k n) (hx : p.tables.exec = Jvm.exec) (hby : c.code = code) {x : Int64} {rest : List Value} (hd : decode code pc = .ok (.l2i, 1)) (K : Go p e below G (T.setTop (mkF m (pc + 1) Ls (.int (x.toInt32) :: rest)))) : Go p e below G (T.setTop (mkF m pc Ls (.long x :: rest))) := Go.step (fun t q => XS.l2i X.here hx rfl (hb hby hd) rfl q) K
theorem g_i2b (X : Stand p l e R s m args below meth c T locs k n) (hx : p.tables.exec = Jvm.exec) (hby : c.code = code) {x : Int32} {rest : List Value} (hd : decode code pc = .ok (.i2b, 1)) (K : Go p e below G (T.setTop (mkF m (pc + 1) Ls (.int (x.toInt8.toInt32) :: rest)))) : Go p e below G (T.setTop (mkF m pc Ls (.int x :: rest))) := Go.step (fun t q => XS.i2b X.here hx rfl (hb hby hd) rfl q) K
theorem g_i2s (X : Stand p l e R s m args below meth c T locs k n) (hx : p.tables.exec = Jvm.exec) (hby : c.code = code) {x : Int32} {rest : List Value} (hd : decode code pc = .ok (.i2s, 1)) (K : Go p e below G (T.setTop (mkF m (pc + 1) Ls (.int (x.toInt16.toInt32) :: rest)))) : Go p e below G (T.setTop (mkF m pc Ls (.int x :: rest))) := Go.step (fun t q => XS.i2s X.here hx rfl (hb hby hd) rfl q) K
theorem g_i2c (X : Stand p l e R s m args below meth c T locs k n) (hx : p.tables.exec = Jvm.exec) (hby : c.code = code) {x : Int32} {rest : List Value} (hd : decode code pc = .ok (.i2c, 1)) (K : Go p e below G (T.setTop (mkF m (pc + 1) Ls (.int (x.toUInt32.toUInt16.toUInt32.toInt32) :: rest)))) : Go p e below G (T.setTop (mkF m pc Ls (.int x :: rest))) := Go.step (fun t q => XS.i2c X.here hx rfl (hb hby hd) rfl q) K
theorem g_lcmp (X : Stand p l e R s m args below meth c T locs k n) (hx : p.tables.exec = Jvm.exec) (hby : c.code = code) {x y : Int64} {rest : List Value} (hd : decode code pc = .ok (.lcmp, 1)) (K : Go p e below G (T.setTop (mkF m (pc + 1) Ls (.int (lcmpW x y) :: rest)))) : Go p e below G (T.setTop (mkF m pc Ls (.long y :: .long x :: rest))) := Go.step (fun t q => XS.lcmp X.here hx rfl (hb hby hd) rfl q) K
theorem g_idiv (X : Stand p l e R s m args below meth c T locs k n) (hx : p.tables.exec = Jvm.exec) (hby : c.code = code) {x y : Int32} {rest : List Value} (hd : decode code pc = .ok (.idiv, 1)) (hy : y ≠ 0) (K : Go p e below G (T.setTop (mkF m (pc + 1) Ls (.int (x / y) :: rest)))) : Go p e below G (T.setTop (mkF m pc Ls (.int y :: .int x :: rest))) := Go.step (fun t q => XS.idiv X.here hx rfl (hb hby hd) rfl hy q) K
theorem g_irem (X : Stand p l e R s m args below meth c T locs k n) (hx : p.tables.exec = Jvm.exec) (hby : c.code = code) {x y : Int32} {rest : List Value} (hd : decode code pc = .ok (.irem, 1)) (hy : y ≠ 0) (K : Go p e below G (T.setTop (mkF m (pc + 1) Ls (.int (x % y) :: rest)))) : Go p e below G (T.setTop (mkF m pc Ls (.int y :: .int x :: rest))) := Go.step (fun t q => iremM X hx rfl (hb hby hd) rfl hy q) K
theorem g_iinc (X : Stand p l e R s m args below meth c T locs k n) (hx : p.tables.exec = Jvm.exec) (hby : c.code = code) {j : Nat} {cst : Int} {x : Int32} {l' : Array Slot} (v : Int32) (hd : decode code pc = .ok (.iinc j cst, 3)) (hl : Ls[j]? = some (.val (.int x))) (hv : x + Int32.ofInt cst = v) (hl' : storeLocals Ls j (.int v) = some l') (K : Go p e below G (T.setTop (mkF m (pc + 3) l' st))) : Go p e below G (T.setTop (mkF m pc Ls st)) := Go.step (fun t q => XS.iinc X.here hx rfl (hb hby hd) hl (by rw [hv]; exact hl') q) K
theorem g_dup (X : Stand p l e R s m args below meth c T locs k n) (hx : p.tables.exec = Jvm.exec) (hby : c.code = code) {x : Value} {rest : List Value} (hd : decode code pc = .ok (.dup, 1)) (hc : x.category = 1) (K : Go p e below G (T.setTop (mkF m (pc + 1) Ls (x :: x :: rest)))) : Go p e below G (T.setTop (mkF m pc Ls (x :: rest))) := Go.step (fun t q => XS.dup X.here hx rfl (hb hby hd) rfl hc q) K
theorem g_dup_x1 (X : Stand p l e R s m args below meth c T locs k n) (hx : p.tables.exec = Jvm.exec) (hby : c.code = code) {x y : Value} {rest : List Value} (hd : decode code pc = .ok (.dup_x1, 1)) (hc : x.category = 1) (hc2 : y.category = 1) (K : Go p e below G (T.setTop (mkF m (pc + 1) Ls (x :: y :: x :: rest)))) : Go p e below G (T.setTop (mkF m pc Ls (x :: y :: rest))) := Go.step (fun t q => XS.dupX1 X.here hx rfl (hb hby hd) rfl hc hc2 q) K
theorem g_pop (X : Stand p l e R s m args below meth c T locs k n) (hx : p.tables.exec = Jvm.exec) (hby : c.code = code) {x : Value} {rest : List Value} (hd : decode code pc = .ok (.pop, 1)) (hc : x.category = 1) (K : Go p e below G (T.setTop (mkF m (pc + 1) Ls rest))) : Go p e below G (T.setTop (mkF m pc Ls (x :: rest))) := Go.step (fun t q => XS.pop X.here hx rfl (hb hby hd) rfl hc q) K
theorem g_dup2 (X : Stand p l e R s m args below meth c T locs k n) (hx : p.tables.exec = Jvm.exec) (hby : c.code = code) {x y : Value} {rest : List Value} (hd : decode code pc = .ok (.dup2, 1)) (hc : x.category = 1) (hc2 : y.category = 1) (K : Go p e below G (T.setTop (mkF m (pc + 1) Ls (x :: y :: x :: y :: rest)))) : Go p e below G (T.setTop (mkF m pc Ls (x :: y :: rest))) := Go.step (fun t q => XT.dup2 X.here hx rfl (hb hby hd) rfl hc hc2 q) K
theorem g_dup2L (X : Stand p l e R s m args below meth c T locs k n) (hx : p.tables.exec = Jvm.exec) (hby : c.code = code) {x : Int64} {rest : List Value} (hd : decode code pc = .ok (.dup2, 1)) (K : Go p e below G (T.setTop (mkF m (pc + 1) Ls (.long x :: .long x :: rest)))) : Go p e below G (T.setTop (mkF m pc Ls (.long x :: rest))) := Go.step (fun t q => XT.dup2L X.here hx rfl (hb hby hd) rfl q) K
theorem g_pop2J (X : Stand p l e R s m args below meth c T locs k n) (hx : p.tables.exec = Jvm.exec) (hby : c.code = code) {x : Int64} {rest : List Value} (hd : decode code pc = .ok (.pop2, 1)) (K : Go p e below G (T.setTop (mkF m (pc + 1) Ls rest))) : Go p e below G (T.setTop (mkF m pc Ls (.long x :: rest))) := Go.step (fun t q => by
  have hd' := hb hby hd
  show Steps p.tables e below (T.setTop { method := m, pc := pc, locals := Ls, stack := .long x :: rest, locked := none }) t
  jvm_step X.here [X.here.top, hx, hd', Value.category]
  exact q) K
theorem g_goto (X : Stand p l e R s m args below meth c T locs k n) (hx : p.tables.exec = Jvm.exec) (hby : c.code = code) {d : Int} (pc' : Nat) (hd : decode code pc = .ok (.goto d, 3)) (ho : 0 ≤ (pc : Int) + d) (hp : ((pc : Int) + d).toNat = pc') (K : Go p e below G (T.setTop (mkF m pc' Ls st))) : Go p e below G (T.setTop (mkF m pc Ls st)) := Go.step (fun t q => XS.goto X.here hx rfl (pc0 := pc) (pc' := pc') rfl (hb hby hd) ho hp q) K
theorem g_ifY (X : Stand p l e R s m args below meth c T locs k n) (hx : p.tables.exec = Jvm.exec) (hby : c.code = code) {cd : ClassFile.Cond} {x : Int32} {rest : List Value} {d : Int} (pc' : Nat) (hd : decode code pc = .ok (.ifCond cd d, 3)) (hc : if_icmp.holds cd x 0 = true) (ho : 0 ≤ (pc : Int) + d) (hp : ((pc : Int) + d).toNat = pc') (K : Go p e below G (T.setTop (mkF m pc' Ls rest))) : Go p e below G (T.setTop (mkF m pc Ls (.int x :: rest))) := Go.step (fun t q => XS.ifYes X.here hx rfl (pc0 := pc) (pc' := pc') rfl (hb hby hd) rfl ((if0 _ _).trans hc) ho hp q) K
theorem g_ifN (X : Stand p l e R s m args below meth c T locs k n) (hx : p.tables.exec = Jvm.exec) (hby : c.code = code) {cd : ClassFile.Cond} {x : Int32} {rest : List Value} {d : Int} (hd : decode code pc = .ok (.ifCond cd d, 3)) (hc : if_icmp.holds cd x 0 = false) (K : Go p e below G (T.setTop (mkF m (pc + 3) Ls rest))) : Go p e below G (T.setTop (mkF m pc Ls (.int x :: rest))) := Go.step (fun t q => XS.ifNo X.here hx rfl (hb hby hd) rfl ((if0 _ _).trans hc) q) K
theorem g_icY (X : Stand p l e R s m args below meth c T locs k n) (hx : p.tables.exec = Jvm.exec) (hby : c.code = code) {cd : ClassFile.Cond} {x y : Int32} {rest : List Value} {d : Int} (pc' : Nat) (hd : decode code pc = .ok (.if_icmp cd d, 3)) (hc : if_icmp.holds cd x y = true) (ho : 0 ≤ (pc : Int) + d) (hp : ((pc : Int) + d).toNat = pc') (K : Go p e below G (T.setTop (mkF m pc' Ls rest))) : Go p e below G (T.setTop (mkF m pc Ls (.int y :: .int x :: rest))) := Go.step (fun t q => XS.icmpYes X.here hx rfl (pc0 := pc) (pc' := pc') rfl (hb hby hd) rfl hc ho hp q) K
theorem g_icN (X : Stand p l e R s m args below meth c T locs k n) (hx : p.tables.exec = Jvm.exec) (hby : c.code = code) {cd : ClassFile.Cond} {x y : Int32} {rest : List Value} {d : Int} (hd : decode code pc = .ok (.if_icmp cd d, 3)) (hc : if_icmp.holds cd x y = false) (K : Go p e below G (T.setTop (mkF m (pc + 3) Ls rest))) : Go p e below G (T.setTop (mkF m pc Ls (.int y :: .int x :: rest))) := Go.step (fun t q => XS.icmpNo X.here hx rfl (hb hby hd) rfl hc q) K
theorem g_acmp (X : Stand p l e R s m args below meth c T locs k n) (hx : p.tables.exec = Jvm.exec) (hby : c.code = code) {cd : ACond} {x y : Value} (h1 : x.isRef = true) (h2 : y.isRef = true) {rest : List Value} {d : Int} (pc' : Nat) (same : Bool) (hd : decode code pc = .ok (.if_acmp cd d, 3)) (hq : decide (x = y) = same) (ho : 0 ≤ (pc : Int) + d) (hp : pc' = if acV cd same = true then ((pc : Int) + d).toNat else pc + 3) (K : Go p e below G (T.setTop (mkF m pc' Ls rest))) : Go p e below G (T.setTop (mkF m pc Ls (y :: x :: rest))) := Go.step (fun t q => Jvm.RoadKit.acmp (g := mkF m pc Ls (y :: x :: rest)) X hx rfl h1 h2 (pc0 := pc) (pc' := pc') (same := same) rfl (hb hby hd) rfl hq ho hp q) K
theorem g_ifnullY (X : Stand p l e R s m args below meth c T locs k n) (hx : p.tables.exec = Jvm.exec) (hby : c.code = code) {rest : List Value} {d : Int} (pc' : Nat) (hd : decode code pc = .ok (.ifnull d, 3)) (ho : 0 ≤ (pc : Int) + d) (hp : ((pc : Int) + d).toNat = pc') (K : Go p e below G (T.setTop (mkF m pc' Ls rest))) : Go p e below G (T.setTop (mkF m pc Ls (.null :: rest))) := Go.step (fun t q => XS.ifnullYes X.here hx rfl (pc0 := pc) (pc' := pc') rfl (hb hby hd) rfl ho hp q) K
theorem g_ifnullN (X : Stand p l e R s m args below meth c T locs k n) (hx : p.tables.exec = Jvm.exec) (hby : c.code = code) {b : Addr} {rest : List Value} {d : Int} (hd : decode code pc = .ok (.ifnull d, 3)) (K : Go p e below G (T.setTop (mkF m (pc + 3) Ls rest))) : Go p e below G (T.setTop (mkF m pc Ls (.ref b :: rest))) := Go.step (fun t q => XS.ifnullNo X.here hx rfl (hb hby hd) rfl q) K
theorem g_ifnonnullY (X : Stand p l e R s m args below meth c T locs k n) (hx : p.tables.exec = Jvm.exec) (hby : c.code = code) {b : Addr} {rest : List Value} {d : Int} (pc' : Nat) (hd : decode code pc = .ok (.ifnonnull d, 3)) (ho : 0 ≤ (pc : Int) + d) (hp : ((pc : Int) + d).toNat = pc') (K : Go p e below G (T.setTop (mkF m pc' Ls rest))) : Go p e below G (T.setTop (mkF m pc Ls (.ref b :: rest))) := Go.step (fun t q => XS.ifnonnullYes X.here hx rfl (pc0 := pc) (pc' := pc') rfl (hb hby hd) rfl ho hp q) K
theorem g_ifnonnullN (X : Stand p l e R s m args below meth c T locs k n) (hx : p.tables.exec = Jvm.exec) (hby : c.code = code) {rest : List Value} {d : Int} (hd : decode code pc = .ok (.ifnonnull d, 3)) (K : Go p e below G (T.setTop (mkF m (pc + 3) Ls rest))) : Go p e below G (T.setTop (mkF m pc Ls (.null :: rest))) := Go.step (fun t q => XS.ifnonnullNo X.here hx rfl (hb hby hd) rfl q) K
theorem g_ldcI (X : Stand p l e R s m args below meth c T locs k n) (hx : p.tables.exec = Jvm.exec) (hby : c.code = code) (hZ : Z.Warmed39 s.vm) {own : String} (hown : s.vm.findClass own = some m.cls) {index : Nat} {v : Int32} (w : (Cond.constant own index v).before a0 Z = true) (hd : decode code pc = .ok (.ldc index, 2)) (K : Go p e below G (T.setTop (mkF m (pc + 2) Ls (.int v :: st)))) : Go p e below G (T.setTop (mkF m pc Ls st)) := Go.step (fun t q => X.ldcInt hx hown (mvT hZ w) (g := mkF m pc Ls st) rfl (hb hby hd) t q) K
theorem g_ldcwI (X : Stand p l e R s m args below meth c T locs k n) (hx : p.tables.exec = Jvm.exec) (hby : c.code = code) (hZ : Z.Warmed39 s.vm) {own : String} (hown : s.vm.findClass own = some m.cls) {index : Nat} {v : Int32} (w : (Cond.constant own index v).before a0 Z = true) (hd : decode code pc = .ok (.ldc_w index, 3)) (K : Go p e below G (T.setTop (mkF m (pc + 3) Ls (.int v :: st)))) : Go p e below G (T.setTop (mkF m pc Ls st)) := Go.step (fun t q => X.ldcwInt hx hown (mvT hZ w) (g := mkF m pc Ls st) rfl (hb hby hd) t q) K
theorem g_ldc2J (X : Stand p l e R s m args below meth c T locs k n) (hx : p.tables.exec = Jvm.exec) (hby : c.code = code) (hZ : Z.Warmed39 s.vm) {own : String} (hown : s.vm.findClass own = some m.cls) {index : Nat} {v : Int64} (w : (Cond.constantLong own index v).before a0 Z = true) (hd : decode code pc = .ok (.ldc2_w index, 3)) (K : Go p e below G (T.setTop (mkF m (pc + 3) Ls (.long v :: st)))) : Go p e below G (T.setTop (mkF m pc Ls st)) := Go.step (fun t q => X.ldc2Long hx hown (mvT hZ w) (g := mkF m pc Ls st) rfl (hb hby hd) t q) K
theorem g_getF (X : Stand p l e R s m args below meth c T locs k n) (hx : p.tables.exec = Jvm.exec) (hby : c.code = code) (hZ : Z.Warmed39 s.vm) {own : String} (hown : s.vm.findClass own = some m.cls) {R0 O f d host : String} {index : Nat} (w : (Cond.fieldLink own index R0 f d).before a0 Z = true ∨ (Cond.fieldLinkNest own index R0 f d host).before a0 Z = true) (via : Via Z R0 O f d) (eT : T.heap = h) {a : Addr} {v : Value} (F : Fld Z h a O f d v) {rest : List Value} (hd : decode code pc = .ok (.getfield index, 3)) (K : ∀ T', Stand p l e R s m args below meth c T' locs k n → T'.heap = h → Go p e below G (T'.setTop (mkF m (pc + 3) Ls (v :: rest)))) : Go p e below G (T.setTop (mkF m pc Ls (.ref a :: rest))) := by
  obtain ⟨T', X', e', q⟩ := getF X hx hZ hown w via eT F (g := mkF m pc Ls (.ref a :: rest)) rfl rfl (hb hby hd)
  exact Go.step q (K T' X' e')
theorem g_getS (X : Stand p l e R s m args below meth c T locs k n) (hx : p.tables.exec = Jvm.exec) (hby : c.code = code) (hZ : Z.Warmed39 s.vm) {own : String} (hown : s.vm.findClass own = some m.cls) {R0 O f d host : String} {index : Nat} (w : (Cond.fieldLink own index R0 f d).before a0 Z = true ∨ (Cond.fieldLinkNest own index R0 f d host).before a0 Z = true) (via : Via Z R0 O f d) (eT : T.heap = h) {v : Value} (F : Sta Z h O f d v) (hd : decode code pc = .ok (.getstatic index, 3)) (K : ∀ T', Stand p l e R s m args below meth c T' locs k n → T'.heap = h → Go p e below G (T'.setTop (mkF m (pc + 3) Ls (v :: st)))) : Go p e below G (T.setTop (mkF m pc Ls st)) := by
  obtain ⟨T', X', e', q⟩ := getS2 X hx hZ hown w via eT F (g := mkF m pc Ls st) rfl (hb hby hd)
  exact Go.step q (K T' X' e')
theorem g_putF (X : Stand p l e R s m args below meth c T locs k n) (hx : p.tables.exec = Jvm.exec) (hby : c.code = code) (hZ : Z.Warmed39 s.vm) {own : String} (hown : s.vm.findClass own = some m.cls) {R0 O f d host : String} {index : Nat} (w : (Cond.fieldLink own index R0 f d).before a0 Z = true ∨ (Cond.fieldLinkNest own index R0 f d host).before a0 Z = true) (via : Via Z R0 O f d) (eT : T.heap = h) {C : String} {kk : Nat} {a : Addr} {v old : Value} (F : Fld Z h a O f d old) (E : Exa Z h a C) (L : (Cond.lays C O f d).before a0 Z = true ∨ ((Cond.laysFinal C O f d).before a0 Z = true ∧ own = O ∧ meth.name = "<init>")) (wi : (Cond.instantiable C kk).before a0 Z = true) (ty : FieldType) (hty : parseFieldDescriptor d = some ty) (hn : narrow ty v = v) (hf : fits ty v = true) (N : Fr n0 locs) (ga : n0 ≤ a) {rest : List Value} (hd : decode code pc = .ok (.putfield index, 3)) (K : ∀ T' h', Stand p l e R s m args below meth c T' (locs ++ [⟨a, Jvm.RoadKit.slotOf Z O f d⟩]) k n → T'.heap = h' → Wr h h' a (Jvm.RoadKit.slotOf Z O f d) v → Fld Z h' a O f d v → Fr n0 (locs ++ [⟨a, Jvm.RoadKit.slotOf Z O f d⟩]) → Go p e below G (T'.setTop (mkF m (pc + 3) Ls rest))) : Go p e below G (T.setTop (mkF m pc Ls (v :: .ref a :: rest))) := by
  obtain ⟨T', h', X', e', W, q⟩ := putF X hx hZ hown w via eT F E L wi hty hn hf (g := mkF m pc Ls (v :: .ref a :: rest)) rfl rfl (hb hby hd)
  exact Go.step q (K T' h' X' e' W (F.same W) (Fr.snoc X' N ga))
theorem g_putFN (X : Stand p l e R s m args below meth c T locs k n) (hx : p.tables.exec = Jvm.exec) (hby : c.code = code) (hZ : Z.Warmed39 s.vm) {own : String} (hown : s.vm.findClass own = some m.cls) {R0 O f d : String} {index : Nat} (w : (Cond.fieldLink own index R0 f d).before a0 Z = true) (via : Via Z R0 O f d) (eT : T.heap = h) {C : String} {kk : Nat} {a : Addr} {v old : Value} (F : Fld Z h a O f d old) (E : Exa Z h a C) (L : (Cond.lays C O f d).before a0 Z = true ∨ ((Cond.laysFinal C O f d).before a0 Z = true ∧ own = O ∧ meth.name = "<init>")) (wi : (Cond.instantiable C kk).before a0 Z = true) (ty : FieldType) (hty : parseFieldDescriptor d = some ty) (v' : Value) (hn : narrow ty v = v') (hf : fits ty v' = true) (N : Fr n0 locs) (ga : n0 ≤ a) {rest : List Value} (hd : decode code pc = .ok (.putfield index, 3)) (K : ∀ T' h', Stand p l e R s m args below meth c T' (locs ++ [⟨a, Jvm.RoadKit.slotOf Z O f d⟩]) k n → T'.heap = h' → Wr h h' a (Jvm.RoadKit.slotOf Z O f d) v' → Fld Z h' a O f d v' → Fr n0 (locs ++ [⟨a, Jvm.RoadKit.slotOf Z O f d⟩]) → Go p e below G (T'.setTop (mkF m (pc + 3) Ls rest))) : Go p e below G (T.setTop (mkF m pc Ls (v :: .ref a :: rest))) := by
  obtain ⟨T', h', X', e', W, q⟩ := putFN X hx hZ hown w via eT F E L wi hty hn hf (g := mkF m pc Ls (v :: .ref a :: rest)) rfl rfl (hb hby hd)
  exact Go.step q (K T' h' X' e' W (F.same W) (Fr.snoc X' N ga))
theorem g_new (X : Stand p l e R s m args below meth c T locs k n) (hx : p.tables.exec = Jvm.exec) (hby : c.code = code) (hZ : Z.Warmed39 s.vm) {own : String} (hown : s.vm.findClass own = some m.cls) {C : String} {index j : Nat} (w : (Cond.classLink own index C).before a0 Z = true) (wi : (Cond.instantiable C j).before a0 Z = true) (wz : (Cond.initialized C).before a0 Z = true) (eT : T.heap = h) (hc : k + 1 ≤ R.cells) (hl : n + j ≤ R.slots) (hd : decode code pc = .ok (.new index, 3)) (K : ∀ T' h' x, h.size = x → Stand p l e R s m args below meth c T' locs (k + 1) (n + j) → T'.heap = h' → Ext h h' → Exa Z h' x C → (∀ {O nm d : String} {ty : FieldType}, Laid Z a0 C O nm d → parseFieldDescriptor d = some ty → Fld Z h' x O nm d (defaultValue ty)) → Go p e below G (T'.setTop (mkF m (pc + 3) Ls (.ref x :: st)))) : Go p e below G (T.setTop (mkF m pc Ls st)) := by
  obtain ⟨T', h', X', e', E, A, D, -, q⟩ := newO X hx hZ hown w wi wz eT (g := mkF m pc Ls st) rfl (hb hby hd) hc hl
  exact Go.step q (K T' h' _ rfl X' e' E A D)
theorem g_newarray (X : Stand p l e R s m args below meth c T locs k n) (hx : p.tables.exec = Jvm.exec) (hby : c.code = code) (hZ : Z.Warmed39 s.vm) (aty : ArrayType) (ty : FieldType) (dv : Value) (vs : List Value) (hty : newarray.typeOf aty = ty) (hdv : defaultValue ty = dv) (w : (Cond.arrayClass ty).before a0 Z = true) (eT : T.heap = h) {z : Int32} {rest : List Value} (hn : ¬ z < 0) (cap : Nat) (hvs : List.replicate cap dv = vs) (hcap : z.toNatClampNeg ≤ cap) (hbig : cap * 8 ≤ 536870912) (hc : k + 1 ≤ R.cells) (hl : n + cap ≤ R.slots) (hd : decode code pc = .ok (.newarray aty, 2)) (K : ∀ T' h' kc x, h.size = x → Stand p l e R s m args below meth c T' locs (k + 1) (n + cap) → T'.heap = h' → Ext h h' → Arv Z h' x kc ty z vs dv → Go p e below G (T'.setTop (mkF m (pc + 2) Ls (.ref x :: rest)))) : Go p e below G (T.setTop (mkF m pc Ls (.int z :: rest))) := by
  subst hty hdv hvs
  obtain ⟨T', h', kc, X', e', E, A, q⟩ := newP X hx hZ w eT (g := mkF m pc Ls (.int z :: rest)) rfl (hb hby hd) rfl hn (cap := cap) hcap hbig hc hl
  exact Go.step q (K T' h' kc _ rfl X' e' E ((Arv.new A hn).pad (pad_rep [] _ cap)))
theorem g_anewarray (X : Stand p l e R s m args below meth c T locs k n) (hx : p.tables.exec = Jvm.exec) (hby : c.code = code) (hZ : Z.Warmed39 s.vm) {own : String} (hown : s.vm.findClass own = some m.cls) {C ad : String} {index : Nat} (w1 : (Cond.classLink own index C).before a0 Z = true) (w2 : (Cond.arrayOver (.object C)).before a0 Z = true) (had : "[" ++ (FieldType.object C).toString = ad) (vs : List Value) (eT : T.heap = h) {z : Int32} {rest : List Value} (hn : ¬ z < 0) (cap : Nat) (hvs : List.replicate cap Value.null = vs) (hcap : z.toNatClampNeg ≤ cap) (hbig : cap * 8 ≤ 536870912) (hc : k + 1 ≤ R.cells) (hl : n + cap ≤ R.slots) (hd : decode code pc = .ok (.anewarray index, 3)) (K : ∀ T' h' kc x, h.size = x → Stand p l e R s m args below meth c T' locs (k + 1) (n + cap) → T'.heap = h' → Ext h h' → Arv Z h' x kc (.object C) z vs .null → Exa Z h' x ad → Ovr Z kc C → Go p e below G (T'.setTop (mkF m (pc + 3) Ls (.ref x :: rest)))) : Go p e below G (T.setTop (mkF m pc Ls (.int z :: rest))) := by
  subst hvs
  obtain ⟨T', h', kc, X', e', E, A, Ex, O, q⟩ := newRE X hx hZ hown w1 w2 eT (g := mkF m pc Ls (.int z :: rest)) rfl (hb hby hd) rfl hn (cap := cap) hcap hbig hc hl had
  exact Go.step q (K T' h' kc _ rfl X' e' E ((Arv.new A hn).pad (pad_rep [] _ cap)) Ex O)
theorem g_aastore (X : Stand p l e R s m args below meth c T locs k n) (hx : p.tables.exec = Jvm.exec) (hby : c.code = code) (hZ : Z.Warmed39 s.vm) (eT : T.heap = h) {a : Addr} {kc : ClassId} {C : String} {z : Int32} {vs : List Value} {dv : Value} (V : Arv Z h a kc (.object C) z vs dv) (O : Ovr Z kc C) {j : Int32} {x : Value} (hst : x = .null ∨ ∃ y, x = .ref y ∧ Ins Z h y C true) (i : Nat) (vs' : List Value) (hvs : vs.set i x = vs') (hj : ¬ j < 0 ∧ j < z) (hi : j.toNatClampNeg = i) (hlen : i < vs.length) (N : Fr n0 locs) (ga : n0 ≤ a) {rest : List Value} (hd : decode code pc = .ok (.aastore, 1)) (K : ∀ T' h', Stand p l e R s m args below meth c T' (locs ++ [⟨a, j.toNatClampNeg⟩]) k n → T'.heap = h' → Wr h h' a j.toNatClampNeg x → Arv Z h' a kc (.object C) z vs' dv → Fr n0 (locs ++ [⟨a, j.toNatClampNeg⟩]) → Go p e below G (T'.setTop (mkF m (pc + 1) Ls rest))) : Go p e below G (T.setTop (mkF m pc Ls (x :: .int j :: .ref a :: rest))) := by
  subst hvs
  obtain ⟨cl, Ar, q1, S, M, H, F⟩ := V
  have So : Sto Z h a x := by
    rcases hst with rfl | ⟨y, rfl, I⟩
    · exact Or.inl rfl
    · exact Sto.ofV Ar q1 O I
  have fi : fits (.object C) x = true := by rcases hst with rfl | ⟨y, rfl, I⟩ <;> rfl
  obtain ⟨T', h', X', e', W, q⟩ := stR X hx hZ eT Ar (j := j) (inb_of S hj) rfl So (g := mkF m pc Ls (x :: .int j :: .ref a :: rest)) rfl rfl (hb hby hd)
  exact Go.step q (K T' h' X' e' W (Arv.set Ar q1 S M H F fi W i hi hlen) (Fr.snoc X' N ga))
theorem g_arraycopy (X : Stand p l e R s m args below meth c T locs k n) (hx : p.tables.exec = Jvm.exec) (hby : c.code = code) (hZ : Z.Warmed39 s.vm) {own : String} (hown : s.vm.findClass own = some m.cls) {index : Nat} (w1 : (Cond.methodLink own index Jvm.Stand.acN).before a0 Z = true) (w2 : (Cond.native Jvm.Stand.acN).before a0 Z = true) (w3 : (Cond.static Jvm.Stand.acN).before a0 Z = true) (w4 : (Cond.initialized "java/lang/System").before a0 Z = true) (eT : T.heap = h) {a b : Addr} {ka kb : ClassId} {ty ty' : FieldType} {z z' sp dp nn : Int32} {vs vd us : List Value} {dv dd : Value} (A : Arv Z h a ka ty z vs dv) (B : Arv Z h b kb ty' z' vd dd) (hty : (ty = ty' ∧ refKind ty = false) ∨ (refKind ty = true ∧ refKind ty' = true ∧ StoL Z h b us)) (h1 : ¬ sp < 0) (h2 : ¬ dp < 0) (h3 : ¬ nn < 0) (h4 : sp.toNatClampNeg + nn.toNatClampNeg ≤ z.toNatClampNeg) (h5 : dp.toNatClampNeg + nn.toNatClampNeg ≤ z'.toNatClampNeg) (hus : us = (List.range nn.toNatClampNeg).map fun i => vs.getD (sp.toNatClampNeg + i) dv) (hl : dp.toNatClampNeg + nn.toNatClampNeg ≤ vd.length) (N : Fr n0 locs) (ge : n0 ≤ b) (hsize : Ls.size = c.maxLocals) {rest : List Value} (hd : decode code pc = .ok (.invokestatic index, 3)) (hf : 1 ≤ R.frames) (hlo : (rest.map fun v => v.category).sum + 18 ≤ R.locals) (K : ∀ T' h' L, Stand p l e R s m args below meth c T' L k n → T'.heap = h' → Fr n0 L → Keep h h' [b] → Arv Z h' b kb ty' z' (vd.take dp.toNatClampNeg ++ us ++ vd.drop (dp.toNatClampNeg + nn.toNatClampNeg)) dd → Go p e below G (T'.setTop (mkF m (pc + 3) Ls rest))) : Go p e below G (T.setTop (mkF m pc Ls (.int nn :: .int dp :: .ref b :: .int sp :: .ref a :: rest))) := by
  obtain ⟨T', h', L, X', e', N', K', V', q⟩ := cpA X hx hZ hown w1 w2 w3 w4 eT A B hty h1 h2 h3 h4 h5 hus hl N ge (g := mkF m pc Ls (.int nn :: .int dp :: .ref b :: .int sp :: .ref a :: rest)) rfl hsize rfl (hb hby hd) hf (W := (rest.map fun v => v.category).sum) (by show 2 * 0 + _ ≤ _; omega) (by show _ + (7 + 11) ≤ _; omega)
  exact Go.step q (K T' h' L X' e' N' K' V')
theorem g_iastore (X : Stand p l e R s m args below meth c T locs k n) (hx : p.tables.exec = Jvm.exec) (hby : c.code = code) (hZ : Z.Warmed39 s.vm) (eT : T.heap = h) {a : Addr} {kc : ClassId} {z : Int32} {vs : List Value} {dv : Value} (V : Arv Z h a kc .int z vs dv) {j : Int32} {x : Int32} (i : Nat) (vs' : List Value) (hvs : vs.set i (.int x) = vs') (hj : ¬ j < 0 ∧ j < z) (hi : j.toNatClampNeg = i) (hlen : i < vs.length) (N : Fr n0 locs) (ga : n0 ≤ a) {rest : List Value} (hd : decode code pc = .ok (.iastore, 1)) (K : ∀ T' h', Stand p l e R s m args below meth c T' (locs ++ [⟨a, j.toNatClampNeg⟩]) k n → T'.heap = h' → Wr h h' a j.toNatClampNeg (.int x) → Arv Z h' a kc .int z vs' dv → Fr n0 (locs ++ [⟨a, j.toNatClampNeg⟩]) → Go p e below G (T'.setTop (mkF m (pc + 1) Ls rest))) : Go p e below G (T.setTop (mkF m pc Ls (.int x :: .int j :: .ref a :: rest))) := by
  subst hvs
  obtain ⟨cl, Ar, q1, S, M, H, F⟩ := V
  obtain ⟨T', h', X', e', W, q⟩ := stI X hx hZ eT Ar (j := j) (inb_of S hj) (g := mkF m pc Ls (.int x :: .int j :: .ref a :: rest)) rfl rfl (hb hby hd)
  exact Go.step q (K T' h' X' e' W (Arv.set Ar q1 S M H F rfl W i hi hlen) (Fr.snoc X' N ga))
theorem g_castore (X : Stand p l e R s m args below meth c T locs k n) (hx : p.tables.exec = Jvm.exec) (hby : c.code = code) (hZ : Z.Warmed39 s.vm) (eT : T.heap = h) {a : Addr} {kc : ClassId} {z : Int32} {vs : List Value} {dv : Value} (V : Arv Z h a kc .char z vs dv) {j : Int32} {x : Int32} (i : Nat) (vs' : List Value) (hvs : vs.set i (.int (nar .char x)) = vs') (hj : ¬ j < 0 ∧ j < z) (hi : j.toNatClampNeg = i) (hlen : i < vs.length) (N : Fr n0 locs) (ga : n0 ≤ a) {rest : List Value} (hd : decode code pc = .ok (.castore, 1)) (K : ∀ T' h', Stand p l e R s m args below meth c T' (locs ++ [⟨a, j.toNatClampNeg⟩]) k n → T'.heap = h' → Wr h h' a j.toNatClampNeg (.int (nar .char x)) → Arv Z h' a kc .char z vs' dv → Fr n0 (locs ++ [⟨a, j.toNatClampNeg⟩]) → Go p e below G (T'.setTop (mkF m (pc + 1) Ls rest))) : Go p e below G (T.setTop (mkF m pc Ls (.int x :: .int j :: .ref a :: rest))) := by
  subst hvs
  obtain ⟨cl, Ar, q1, S, M, H, F⟩ := V
  obtain ⟨T', h', X', e', W, q⟩ := stC X hx hZ eT Ar (j := j) (inb_of S hj) (g := mkF m pc Ls (.int x :: .int j :: .ref a :: rest)) rfl rfl (hb hby hd)
  exact Go.step q (K T' h' X' e' W (Arv.set Ar q1 S M H F (fits_nar_char _) W i hi hlen) (Fr.snoc X' N ga))
theorem g_sastore (X : Stand p l e R s m args below meth c T locs k n) (hx : p.tables.exec = Jvm.exec) (hby : c.code = code) (hZ : Z.Warmed39 s.vm) (eT : T.heap = h) {a : Addr} {kc : ClassId} {z : Int32} {vs : List Value} {dv : Value} (V : Arv Z h a kc .short z vs dv) {j : Int32} {x : Int32} (i : Nat) (vs' : List Value) (hvs : vs.set i (.int (nar .short x)) = vs') (hj : ¬ j < 0 ∧ j < z) (hi : j.toNatClampNeg = i) (hlen : i < vs.length) (N : Fr n0 locs) (ga : n0 ≤ a) {rest : List Value} (hd : decode code pc = .ok (.sastore, 1)) (K : ∀ T' h', Stand p l e R s m args below meth c T' (locs ++ [⟨a, j.toNatClampNeg⟩]) k n → T'.heap = h' → Wr h h' a j.toNatClampNeg (.int (nar .short x)) → Arv Z h' a kc .short z vs' dv → Fr n0 (locs ++ [⟨a, j.toNatClampNeg⟩]) → Go p e below G (T'.setTop (mkF m (pc + 1) Ls rest))) : Go p e below G (T.setTop (mkF m pc Ls (.int x :: .int j :: .ref a :: rest))) := by
  subst hvs
  obtain ⟨cl, Ar, q1, S, M, H, F⟩ := V
  obtain ⟨T', h', X', e', W, q⟩ := stS X hx hZ eT Ar (j := j) (inb_of S hj) (g := mkF m pc Ls (.int x :: .int j :: .ref a :: rest)) rfl rfl (hb hby hd)
  exact Go.step q (K T' h' X' e' W (Arv.set Ar q1 S M H F (fits_nar_short _) W i hi hlen) (Fr.snoc X' N ga))
theorem g_bastore (X : Stand p l e R s m args below meth c T locs k n) (hx : p.tables.exec = Jvm.exec) (hby : c.code = code) (hZ : Z.Warmed39 s.vm) (eT : T.heap = h) {a : Addr} {kc : ClassId} {z : Int32} {vs : List Value} {dv : Value} (V : Arv Z h a kc .byte z vs dv) {j : Int32} {x : Int32} (i : Nat) (vs' : List Value) (hvs : vs.set i (.int (nar .byte x)) = vs') (hj : ¬ j < 0 ∧ j < z) (hi : j.toNatClampNeg = i) (hlen : i < vs.length) (N : Fr n0 locs) (ga : n0 ≤ a) {rest : List Value} (hd : decode code pc = .ok (.bastore, 1)) (K : ∀ T' h', Stand p l e R s m args below meth c T' (locs ++ [⟨a, j.toNatClampNeg⟩]) k n → T'.heap = h' → Wr h h' a j.toNatClampNeg (.int (nar .byte x)) → Arv Z h' a kc .byte z vs' dv → Fr n0 (locs ++ [⟨a, j.toNatClampNeg⟩]) → Go p e below G (T'.setTop (mkF m (pc + 1) Ls rest))) : Go p e below G (T.setTop (mkF m pc Ls (.int x :: .int j :: .ref a :: rest))) := by
  subst hvs
  obtain ⟨cl, Ar, q1, S, M, H, F⟩ := V
  obtain ⟨T', h', X', e', W, q⟩ := stB X hx hZ eT Ar (j := j) (inb_of S hj) (g := mkF m pc Ls (.int x :: .int j :: .ref a :: rest)) rfl rfl (hb hby hd)
  exact Go.step q (K T' h' X' e' W (Arv.set Ar q1 S M H F (fits_nar_byte _) W i hi hlen) (Fr.snoc X' N ga))
theorem g_lastore (X : Stand p l e R s m args below meth c T locs k n) (hx : p.tables.exec = Jvm.exec) (hby : c.code = code) (hZ : Z.Warmed39 s.vm) (eT : T.heap = h) {a : Addr} {kc : ClassId} {z : Int32} {vs : List Value} {dv : Value} (V : Arv Z h a kc .long z vs dv) {j : Int32} {x : Int64} (i : Nat) (vs' : List Value) (hvs : vs.set i (.long x) = vs') (hj : ¬ j < 0 ∧ j < z) (hi : j.toNatClampNeg = i) (hlen : i < vs.length) (N : Fr n0 locs) (ga : n0 ≤ a) {rest : List Value} (hd : decode code pc = .ok (.lastore, 1)) (K : ∀ T' h', Stand p l e R s m args below meth c T' (locs ++ [⟨a, j.toNatClampNeg⟩]) k n → T'.heap = h' → Wr h h' a j.toNatClampNeg (.long x) → Arv Z h' a kc .long z vs' dv → Fr n0 (locs ++ [⟨a, j.toNatClampNeg⟩]) → Go p e below G (T'.setTop (mkF m (pc + 1) Ls rest))) : Go p e below G (T.setTop (mkF m pc Ls (.long x :: .int j :: .ref a :: rest))) := by
  subst hvs
  obtain ⟨cl, Ar, q1, S, M, H, F⟩ := V
  obtain ⟨T', h', X', e', W, q⟩ := stJ X hx hZ eT Ar (j := j) (inb_of S hj) (g := mkF m pc Ls (.long x :: .int j :: .ref a :: rest)) rfl rfl (hb hby hd)
  exact Go.step q (K T' h' X' e' W (Arv.set Ar q1 S M H F rfl W i hi hlen) (Fr.snoc X' N ga))
theorem g_iaload (X : Stand p l e R s m args below meth c T locs k n) (hx : p.tables.exec = Jvm.exec) (hby : c.code = code) (hZ : Z.Warmed39 s.vm) (eT : T.heap = h) {a : Addr} {kc : ClassId} {z : Int32} {vs : List Value} {dv : Value} (V : Arv Z h a kc .int z vs dv) {j : Int32} (v : Value) (hj : ¬ j < 0 ∧ j < z) (hv : vs.getD j.toNatClampNeg dv = v) {rest : List Value} (hd : decode code pc = .ok (.iaload, 1)) (K : Go p e below G (T.setTop (mkF m (pc + 1) Ls (v :: rest)))) : Go p e below G (T.setTop (mkF m pc Ls (.int j :: .ref a :: rest))) := by
  obtain ⟨cl, Ar, q1, S, M, H, F⟩ := V
  have hin := inb_of S hj
  exact Go.step (fun t q => X.iaload hx (j := j) (v := v) (by rw [eT]; exact Ar.1) (State.isArrayOf_alike hZ.alike Ar.2.1) Ar.2.2 hin (H.at hin hv) (g := mkF m pc Ls (.int j :: .ref a :: rest)) rfl rfl (hb hby hd) t q) K
theorem g_caload (X : Stand p l e R s m args below meth c T locs k n) (hx : p.tables.exec = Jvm.exec) (hby : c.code = code) (hZ : Z.Warmed39 s.vm) (eT : T.heap = h) {a : Addr} {kc : ClassId} {z : Int32} {vs : List Value} {dv : Value} (V : Arv Z h a kc .char z vs dv) {j : Int32} (v : Value) (hj : ¬ j < 0 ∧ j < z) (hv : vs.getD j.toNatClampNeg dv = v) {rest : List Value} (hd : decode code pc = .ok (.caload, 1)) (K : Go p e below G (T.setTop (mkF m (pc + 1) Ls (v :: rest)))) : Go p e below G (T.setTop (mkF m pc Ls (.int j :: .ref a :: rest))) := by
  obtain ⟨cl, Ar, q1, S, M, H, F⟩ := V
  have hin := inb_of S hj
  exact Go.step (fun t q => X.caload hx (j := j) (v := v) (by rw [eT]; exact Ar.1) (State.isArrayOf_alike hZ.alike Ar.2.1) Ar.2.2 hin (H.at hin hv) (g := mkF m pc Ls (.int j :: .ref a :: rest)) rfl rfl (hb hby hd) t q) K
theorem g_saload (X : Stand p l e R s m args below meth c T locs k n) (hx : p.tables.exec = Jvm.exec) (hby : c.code = code) (hZ : Z.Warmed39 s.vm) (eT : T.heap = h) {a : Addr} {kc : ClassId} {z : Int32} {vs : List Value} {dv : Value} (V : Arv Z h a kc .short z vs dv) {j : Int32} (v : Value) (hj : ¬ j < 0 ∧ j < z) (hv : vs.getD j.toNatClampNeg dv = v) {rest : List Value} (hd : decode code pc = .ok (.saload, 1)) (K : Go p e below G (T.setTop (mkF m (pc + 1) Ls (v :: rest)))) : Go p e below G (T.setTop (mkF m pc Ls (.int j :: .ref a :: rest))) := by
  obtain ⟨cl, Ar, q1, S, M, H, F⟩ := V
  have hin := inb_of S hj
  exact Go.step (fun t q => X.saload hx (j := j) (v := v) (by rw [eT]; exact Ar.1) (State.isArrayOf_alike hZ.alike Ar.2.1) Ar.2.2 hin (H.at hin hv) (g := mkF m pc Ls (.int j :: .ref a :: rest)) rfl rfl (hb hby hd) t q) K
theorem g_baload (X : Stand p l e R s m args below meth c T locs k n) (hx : p.tables.exec = Jvm.exec) (hby : c.code = code) (hZ : Z.Warmed39 s.vm) (eT : T.heap = h) {a : Addr} {kc : ClassId} {z : Int32} {vs : List Value} {dv : Value} (V : Arv Z h a kc .byte z vs dv) {j : Int32} (v : Value) (hj : ¬ j < 0 ∧ j < z) (hv : vs.getD j.toNatClampNeg dv = v) {rest : List Value} (hd : decode code pc = .ok (.baload, 1)) (K : Go p e below G (T.setTop (mkF m (pc + 1) Ls (v :: rest)))) : Go p e below G (T.setTop (mkF m pc Ls (.int j :: .ref a :: rest))) := by
  obtain ⟨cl, Ar, q1, S, M, H, F⟩ := V
  have hin := inb_of S hj
  exact Go.step (fun t q => X.baloadBytes hx (j := j) (v := v) (by rw [eT]; exact Ar.1) (State.isArrayOf_alike hZ.alike Ar.2.1) Ar.2.2 hin (H.at hin hv) (g := mkF m pc Ls (.int j :: .ref a :: rest)) rfl rfl (hb hby hd) t q) K
theorem g_laload (X : Stand p l e R s m args below meth c T locs k n) (hx : p.tables.exec = Jvm.exec) (hby : c.code = code) (hZ : Z.Warmed39 s.vm) (eT : T.heap = h) {a : Addr} {kc : ClassId} {z : Int32} {vs : List Value} {dv : Value} (V : Arv Z h a kc .long z vs dv) {j : Int32} (v : Value) (hj : ¬ j < 0 ∧ j < z) (hv : vs.getD j.toNatClampNeg dv = v) {rest : List Value} (hd : decode code pc = .ok (.laload, 1)) (K : Go p e below G (T.setTop (mkF m (pc + 1) Ls (v :: rest)))) : Go p e below G (T.setTop (mkF m pc Ls (.int j :: .ref a :: rest))) := by
  obtain ⟨cl, Ar, q1, S, M, H, F⟩ := V
  have hin := inb_of S hj
  exact Go.step (fun t q => X.laload hx (j := j) (v := v) (by rw [eT]; exact Ar.1) (State.isArrayOf_alike hZ.alike Ar.2.1) Ar.2.2 hin (H.at hin hv) (g := mkF m pc Ls (.int j :: .ref a :: rest)) rfl rfl (hb hby hd) t q) K
theorem g_aaload (X : Stand p l e R s m args below meth c T locs k n) (hx : p.tables.exec = Jvm.exec) (hby : c.code = code) (hZ : Z.Warmed39 s.vm) (eT : T.heap = h) {a : Addr} {kc : ClassId} {ty : FieldType} {z : Int32} {vs : List Value} {dv : Value} (V : Arv Z h a kc ty z vs dv) (hty : ty.isReference = true) {j : Int32} (v : Value) (hj : ¬ j < 0 ∧ j < z) (hv : vs.getD j.toNatClampNeg dv = v) {rest : List Value} (hd : decode code pc = .ok (.aaload, 1)) (K : Go p e below G (T.setTop (mkF m (pc + 1) Ls (v :: rest)))) : Go p e below G (T.setTop (mkF m pc Ls (.int j :: .ref a :: rest))) := by
  obtain ⟨cl, Ar, q1, S, M, H, F⟩ := V
  have hin := inb_of S hj
  exact Go.step (fun t q => X.aaload hx (j := j) (v := v) (by rw [eT]; exact Ar.1) (State.isArrayOf_alike hZ.alike Ar.2.1) hty Ar.2.2 hin (H.at hin hv) (g := mkF m pc Ls (.int j :: .ref a :: rest)) rfl rfl (hb hby hd) t q) K
theorem g_arraylength (X : Stand p l e R s m args below meth c T locs k n) (hx : p.tables.exec = Jvm.exec) (hby : c.code = code) (hZ : Z.Warmed39 s.vm) (eT : T.heap = h) {a : Addr} {kc : ClassId} {ty : FieldType} {z : Int32} {vs : List Value} {dv : Value} (V : Arv Z h a kc ty z vs dv) {rest : List Value} (hd : decode code pc = .ok (.arraylength, 1)) (K : Go p e below G (T.setTop (mkF m (pc + 1) Ls (.int z :: rest)))) : Go p e below G (T.setTop (mkF m pc Ls (.ref a :: rest))) := by
  obtain ⟨cl, Ar, q1, S, M, H, F⟩ := V
  refine Go.step (fun t q => X.arraylength hx (by rw [eT]; exact Ar.1) (State.isArrayOf_alike hZ.alike Ar.2.1) (g := mkF m pc Ls (.ref a :: rest)) rfl rfl (hb hby hd) t q) ?_
  rw [len_of S M]
  exact K
theorem g_checkcast (X : Stand p l e R s m args below meth c T locs k n) (hx : p.tables.exec = Jvm.exec) (hby : c.code = code) (hZ : Z.Warmed39 s.vm) {own : String} (hown : s.vm.findClass own = some m.cls) {C : String} {index : Nat} (w : (Cond.classLink own index C).before a0 Z = true) (eT : T.heap = h) {a : Addr} (I : Ins Z h a C true) {rest : List Value} (hd : decode code pc = .ok (.checkcast index, 3)) (K : ∀ T', Stand p l e R s m args below meth c T' locs k n → T'.heap = h → Go p e below G (T'.setTop (mkF m (pc + 3) Ls (.ref a :: rest)))) : Go p e below G (T.setTop (mkF m pc Ls (.ref a :: rest))) := by
  obtain ⟨T', X', e', q⟩ := castY X hx hZ hown w eT I (g := mkF m pc Ls (.ref a :: rest)) rfl rfl (hb hby hd)
  exact Go.step q (K T' X' e')
theorem g_instanceof (X : Stand p l e R s m args below meth c T locs k n) (hx : p.tables.exec = Jvm.exec) (hby : c.code = code) (hZ : Z.Warmed39 s.vm) {own : String} (hown : s.vm.findClass own = some m.cls) {C : String} {index : Nat} (w : (Cond.classLink own index C).before a0 Z = true) (eT : T.heap = h) {a : Addr} (I : Ins Z h a C true) {rest : List Value} (hd : decode code pc = .ok (.instanceof index, 3)) (K : ∀ T', Stand p l e R s m args below meth c T' locs k n → T'.heap = h → Go p e below G (T'.setTop (mkF m (pc + 3) Ls (.int 1 :: rest)))) : Go p e below G (T.setTop (mkF m pc Ls (.ref a :: rest))) := by
  obtain ⟨T', X', e', q⟩ := instY X hx hZ hown w eT I (g := mkF m pc Ls (.ref a :: rest)) rfl rfl (hb hby hd)
  exact Go.step q (K T' X' e')
theorem g_instNo (X : Stand p l e R s m args below meth c T locs k n) (hx : p.tables.exec = Jvm.exec) (hby : c.code = code) (hZ : Z.Warmed39 s.vm) {own : String} (hown : s.vm.findClass own = some m.cls) {C K : String} {index : Nat} (w : (Cond.classLink own index K).before a0 Z = true) (eT : T.heap = h) {a : Addr} (E : Exa Z h a C) (F : ∃ c t, Z.vm.findClass C = some c ∧ Z.vm.findClass K = some t ∧ Z.vm.assignable c t = false) {rest : List Value} (hd : decode code pc = .ok (.instanceof index, 3)) (K' : ∀ T', Stand p l e R s m args below meth c T' locs k n → T'.heap = h → Go p e below G (T'.setTop (mkF m (pc + 3) Ls (.int 0 :: rest)))) : Go p e below G (T.setTop (mkF m pc Ls (.ref a :: rest))) := by
  obtain ⟨T', X', e', q⟩ := instNo X hx hZ hown w eT E F (g := mkF m pc Ls (.ref a :: rest)) rfl rfl (hb hby hd)
  exact Go.step q (K' T' X' e')
theorem g_instanceofNull (X : Stand p l e R s m args below meth c T locs k n) (hx : p.tables.exec = Jvm.exec) (hby : c.code = code) {index : Nat} {rest : List Value} (hd : decode code pc = .ok (.instanceof index, 3)) (K : Go p e below G (T.setTop (mkF m (pc + 3) Ls (.int 0 :: rest)))) : Go p e below G (T.setTop (mkF m pc Ls (.null :: rest))) := Go.step (fun t q => X.instanceofNull hx (g := mkF m pc Ls (.null :: rest)) rfl rfl (hb hby hd) t q) K
theorem g_checkcastNull (X : Stand p l e R s m args below meth c T locs k n) (hx : p.tables.exec = Jvm.exec) (hby : c.code = code) {index : Nat} {rest : List Value} (hd : decode code pc = .ok (.checkcast index, 3)) (K : Go p e below G (T.setTop (mkF m (pc + 3) Ls (.null :: rest)))) : Go p e below G (T.setTop (mkF m pc Ls (.null :: rest))) := Go.step (fun t q => X.checkcastNull hx (g := mkF m pc Ls (.null :: rest)) rfl rfl (hb hby hd) t q) K
theorem g_initO (X : Stand p l e R s m args below meth c T locs k n) (hx : p.tables.exec = Jvm.exec) (hby : c.code = code) (hZ : Z.Warmed39 s.vm) {own : String} (hown : s.vm.findClass own = some m.cls) {idx : Nat} (w1 : (Cond.methodLink own idx Lib.objectInit).before a0 Z = true) (w2 : (Cond.instanceMethod Lib.objectInit).before a0 Z = true) (w3 : (Cond.code Lib.objectInit ⟨#[0xb1]⟩ 1 none).before a0 Z = true) (eT : T.heap = h) (hsize : Ls.size = c.maxLocals) {a : Addr} {rest : List Value} (hf : 1 ≤ R.frames) (hl : (rest.map fun v => v.category).sum + 12 ≤ R.locals) (hd : decode code pc = .ok (.invokespecial idx, 3)) (K : ∀ T', Stand p l e R s m args below meth c T' locs k n → T'.heap = h → Go p e below G (T'.setTop (mkF m (pc + 3) Ls rest))) : Go p e below G (T.setTop (mkF m pc Ls (.ref a :: rest))) := by
  obtain ⟨T', X', e', q⟩ := initO X hx hZ hown w1 w2 w3 eT (g := mkF m pc Ls (.ref a :: rest)) rfl hsize rfl (hb hby hd) hf (W := (rest.map fun v => v.category).sum) (by show 2 * 0 + _ ≤ _; omega) hl
  exact Go.step q (K T' X' e')
theorem g_static (X : Stand p l e R s m args below meth c T locs k n) (hx : p.tables.exec = Jvm.exec) (hby : c.code = code) (hZ : Z.Warmed39 s.vm) {own : String} (hown : s.vm.findClass own = some m.cls) {index : Nat} {y : MethodName} {bytes : ByteArray} {maxL : Nat} {ret : Option FieldType} {rm : Room} {as' : Array Value} {Q : Option Value → Heap → List Loc → Prop} (hM : MetFree l y (head1 [Cond.code y bytes maxL ret] rm) (fun a U => a = as' ∧ Z.Warmed39 U.vm ∧ U.heap = h) (fun _ _ _ _ _ => True) (fun _ U o U' => RetG U Q rm.cells rm.slots U' o)) (wl : (Cond.methodLink own index y).before a0 Z = true) (ws : (Cond.static y).before a0 Z = true) (wz : (Cond.initialized y.cls).before a0 Z = true) (wc : (Cond.code y bytes maxL ret).before a0 Z = true) (hy : y.cls ≠ "java/lang/invoke/MethodHandle" ∧ y.cls ≠ "java/lang/invoke/VarHandle") (eT : T.heap = h) (hsize : Ls.size = c.maxLocals) (argsL : List Value) {rest : List Value} (hlen : ∀ sig, parseMethodDescriptor y.desc = some sig → argsL.length = sig.parameters.length) (has : argsL.toArray = as') (hst : st = argsL.reverse ++ rest) (hf : rm.frames + 1 ≤ R.frames) (hl : (rest.map fun v => v.category).sum + (maxL + 11) + rm.locals ≤ R.locals) (hc : k + rm.cells ≤ R.cells) (hs : n + rm.slots ≤ R.slots) (hd : decode code pc = .ok (.invokestatic index, 3)) (K : ∀ v T' L, Stand p l e R s m args below meth c T' (locs ++ L) (k + rm.cells) (n + rm.slots) → Q v T'.heap L → Go p e below G (T'.setTop (mkF m (pc + 3) Ls (v.toList ++ rest)))) : Go p e below G (T.setTop (mkF m pc Ls st)) := by
  obtain ⟨v, _, ⟨T', L', k', n'⟩, -, X', ⟨L, hq, l1, l2, l3⟩, q⟩ := Jvm.LawKit.callS X hx (y := y) hown (mvT hZ wl) (mvT hZ ws) (mvT hZ wz) (mvT hZ wc) hy (backOf (W := (rest.map fun v => v.category).sum) hM hZ wc wz hf hl) (g := mkF m pc Ls st) rfl hsize (argsL := argsL) (rest := rest) hlen hst (by show 2 * 0 + _ ≤ _; omega) (hb hby hd) (fun _ _ => ⟨has, eT, hc, hs⟩)
  dsimp only [Pt.U, Pt.locs, Pt.cells, Pt.slots] at X' l1 l2 l3 q hq
  subst l1 l2 l3
  exact Go.step q (K v T' L X' hq)
theorem g_special (X : Stand p l e R s m args below meth c T locs k n) (hx : p.tables.exec = Jvm.exec) (hby : c.code = code) (hZ : Z.Warmed39 s.vm) {own : String} (hown : s.vm.findClass own = some m.cls) {index : Nat} {y : MethodName} {bytes : ByteArray} {maxL : Nat} {ret : Option FieldType} {rm : Room} {as' : Array Value} {Q : Option Value → Heap → List Loc → Prop} (hM : MetFree l y (head1 [Cond.code y bytes maxL ret] rm) (fun a U => a = as' ∧ Z.Warmed39 U.vm ∧ U.heap = h) (fun _ _ _ _ _ => True) (fun _ U o U' => RetG U Q rm.cells rm.slots U' o)) (hy1 : y.name = "<init>") (hret : ret = none) (wl : (Cond.methodLink own index y).before a0 Z = true) (ws : (Cond.instanceMethod y).before a0 Z = true) (wz : (Cond.initialized y.cls).before a0 Z = true) (wc : (Cond.code y bytes maxL ret).before a0 Z = true) (hy : y.cls ≠ "java/lang/invoke/MethodHandle" ∧ y.cls ≠ "java/lang/invoke/VarHandle") (eT : T.heap = h) (hsize : Ls.size = c.maxLocals) {a : Addr} (argsL : List Value) {rest : List Value} (hlen : ∀ sig, parseMethodDescriptor y.desc = some sig → argsL.length = sig.parameters.length) (has : (.ref a :: argsL).toArray = as') (hst : st = argsL.reverse ++ .ref a :: rest) (hf : rm.frames + 1 ≤ R.frames) (hl : (rest.map fun v => v.category).sum + (maxL + 11) + rm.locals ≤ R.locals) (hc : k + rm.cells ≤ R.cells) (hs : n + rm.slots ≤ R.slots) (hd : decode code pc = .ok (.invokespecial index, 3)) (K : ∀ v T' L, Stand p l e R s m args below meth c T' (locs ++ L) (k + rm.cells) (n + rm.slots) → Q v T'.heap L → Go p e below G (T'.setTop (mkF m (pc + 3) Ls (v.toList ++ rest)))) : Go p e below G (T.setTop (mkF m pc Ls st)) := by
  subst hret
  obtain ⟨v, _, ⟨T', L', k', n'⟩, -, X', ⟨L, hq, l1, l2, l3⟩, q⟩ := X.specialBack hx (y := y) hy1 hown (mvT hZ wl) (mvT hZ ws) (mvT hZ wc) hy (backOf (W := (rest.map fun v => v.category).sum) hM hZ wc wz hf hl) (g := mkF m pc Ls st) rfl hsize (Steps.refl _) (a := a) (argsL := argsL) (rest := rest) hlen hst (by show 2 * 0 + _ ≤ _; omega) (hb hby hd) (fun _ _ => ⟨has, eT, hc, hs⟩)
  dsimp only [Pt.U, Pt.locs, Pt.cells, Pt.slots] at X' l1 l2 l3 q hq
  subst l1 l2 l3
  exact Go.step (fun t r => q.trans r) (K v T' L X' hq)
theorem g_virtual (X : Stand p l e R s m args below meth c T locs k n) (hx : p.tables.exec = Jvm.exec) (hby : c.code = code) (hZ : Z.Warmed39 s.vm) {own : String} (hown : s.vm.findClass own = some m.cls) {C : String} {index : Nat} {z : MethodName} {y : MethodName} {bytes : ByteArray} {maxL : Nat} {ret : Option FieldType} {rm : Room} {as' : Array Value} {Q : Option Value → Heap → List Loc → Prop} (hM : MetFree l y (head1 [Cond.code y bytes maxL ret] rm) (fun a U => a = as' ∧ Z.Warmed39 U.vm ∧ U.heap = h) (fun _ _ _ _ _ => True) (fun _ U o U' => RetG U Q rm.cells rm.slots U' o)) (wl : (Cond.methodLink own index z).before a0 Z = true) (wd : (Cond.declares z).before a0 Z = true) (hnf : NotFace s z) (wsel : (Cond.selects C z y).before a0 Z = true) (ws : (Cond.instanceMethod y).before a0 Z = true) (wz : (Cond.initialized y.cls).before a0 Z = true) (wc : (Cond.code y bytes maxL ret).before a0 Z = true) (hy : z.cls ≠ "java/lang/invoke/MethodHandle" ∧ z.cls ≠ "java/lang/invoke/VarHandle") (eT : T.heap = h) {a : Addr} (E : Exa Z h a C) (hsize : Ls.size = c.maxLocals) (argsL : List Value) {rest : List Value} (hlen : ∀ sig, parseMethodDescriptor z.desc = some sig → argsL.length = sig.parameters.length) (has : (.ref a :: argsL).toArray = as') (hst : st = argsL.reverse ++ .ref a :: rest) (hf : rm.frames + 1 ≤ R.frames) (hl : (rest.map fun v => v.category).sum + (maxL + 11) + rm.locals ≤ R.locals) (hc : k + rm.cells ≤ R.cells) (hs : n + rm.slots ≤ R.slots) (hd : decode code pc = .ok (.invokevirtual index, 3)) (K : ∀ v T' L, Stand p l e R s m args below meth c T' (locs ++ L) (k + rm.cells) (n + rm.slots) → Q v T'.heap L → Go p e below G (T'.setTop (mkF m (pc + 3) Ls (v.toList ++ rest)))) : Go p e below G (T.setTop (mkF m pc Ls st)) := by
  obtain ⟨cq, kq, qa, qb, qc⟩ := isOf hZ eT E
  obtain ⟨v, _, ⟨T', L', k', n'⟩, -, X', ⟨L, hq, l1, l2, l3⟩, q⟩ := X.virtualBack hx (y := z) (z := y) hown (mvT hZ wl) (mvT hZ wd) hnf (mvT hZ wsel) (mvT hZ ws) hy (backOf (W := (rest.map fun v => v.category).sum) hM hZ wc wz hf hl) qa qc (g := mkF m pc Ls st) rfl hsize (Steps.refl _) (argsL := argsL) (rest := rest) hlen hst (by show 2 * 0 + _ ≤ _; omega) (hb hby hd) (fun _ _ => ⟨has, eT, hc, hs⟩)
  dsimp only [Pt.U, Pt.locs, Pt.cells, Pt.slots] at X' l1 l2 l3 q hq
  subst l1 l2 l3
  exact Go.step (fun t r => q.trans r) (K v T' L X' hq)
theorem g_private (X : Stand p l e R s m args below meth c T locs k n) (hx : p.tables.exec = Jvm.exec) (hby : c.code = code) (hZ : Z.Warmed39 s.vm) {own : String} (hown : s.vm.findClass own = some m.cls) {index j : Nat} {y : MethodName} {bytes : ByteArray} {maxL : Nat} {ret : Option FieldType} {rm : Room} {as' : Array Value} {Q : Option Value → Heap → List Loc → Prop} (hM : MetFree l y (head1 [Cond.code y bytes maxL ret] rm) (fun a U => a = as' ∧ Z.Warmed39 U.vm ∧ U.heap = h) (fun _ _ _ _ _ => True) (fun _ U o U' => RetG U Q rm.cells rm.slots U' o)) (wl : (Cond.methodLink own index y).before a0 Z = true) (ws : (Cond.instanceMethod y).before a0 Z = true) (wi : (Cond.instantiable y.cls j).before a0 Z = true) (wp : (Cond.privateMethod y).before a0 Z = true) (wz : (Cond.initialized y.cls).before a0 Z = true) (wc : (Cond.code y bytes maxL ret).before a0 Z = true) (hy : y.cls ≠ "java/lang/invoke/MethodHandle" ∧ y.cls ≠ "java/lang/invoke/VarHandle") (eT : T.heap = h) {a : Addr} {C : String} (E : Exa Z h a C) (hsize : Ls.size = c.maxLocals) (argsL : List Value) {rest : List Value} (hlen : ∀ sig, parseMethodDescriptor y.desc = some sig → argsL.length = sig.parameters.length) (has : (.ref a :: argsL).toArray = as') (hst : st = argsL.reverse ++ .ref a :: rest) (hf : rm.frames + 1 ≤ R.frames) (hl : (rest.map fun v => v.category).sum + (maxL + 11) + rm.locals ≤ R.locals) (hc : k + rm.cells ≤ R.cells) (hs : n + rm.slots ≤ R.slots) (hd : decode code pc = .ok (.invokevirtual index, 3)) (K : ∀ v T' L, Stand p l e R s m args below meth c T' (locs ++ L) (k + rm.cells) (n + rm.slots) → Q v T'.heap L → Go p e below G (T'.setTop (mkF m (pc + 3) Ls (v.toList ++ rest)))) : Go p e below G (T.setTop (mkF m pc Ls st)) := by
  obtain ⟨cq, q1, q2⟩ := E.cell
  obtain ⟨v, _, ⟨T', L', k', n'⟩, -, X', ⟨L, hq, l1, l2, l3⟩, q⟩ := X.privateBack hx (y := y) hown (mvT hZ wl) (mvT hZ ws) (selOf (mvT hZ wi) (mvP hZ wp) (mvT hZ ws) hy) (Cond.privateMethod_at (mvP hZ wp (args := #[]))) (mvT hZ wc) hy (backOf (W := (rest.map fun v => v.category).sum) hM hZ wc wz hf hl) (g := mkF m pc Ls st) rfl hsize (Steps.refl _) (a := a) (by rw [eT]; exact q1) q2 (argsL := argsL) (rest := rest) hlen hst (by show 2 * 0 + _ ≤ _; omega) (hb hby hd) (fun _ _ => ⟨has, eT, hc, hs⟩)
  dsimp only [Pt.U, Pt.locs, Pt.cells, Pt.slots] at X' l1 l2 l3 q hq
  subst l1 l2 l3
  exact Go.step (fun t r => q.trans r) (K v T' L X' hq)
theorem g_interface (X : Stand p l e R s m args below meth c T locs k n) (hx : p.tables.exec = Jvm.exec) (hby : c.code = code) (hZ : Z.Warmed39 s.vm) {own : String} (hown : s.vm.findClass own = some m.cls) {C : String} {index count : Nat} {z : MethodName} {y : MethodName} {bytes : ByteArray} {maxL : Nat} {ret : Option FieldType} {rm : Room} {as' : Array Value} {Q : Option Value → Heap → List Loc → Prop} (hM : MetFree l y (head1 [Cond.code y bytes maxL ret] rm) (fun a U => a = as' ∧ Z.Warmed39 U.vm ∧ U.heap = h) (fun _ _ _ _ _ => True) (fun _ U o U' => RetG U Q rm.cells rm.slots U' o)) (wl : (Cond.methodLink own index z).before a0 Z = true) (wd : (Cond.declares z).before a0 Z = true) (wf : (Cond.interfaceMethod z.cls z.cls z.name z.desc).before a0 Z = true) (wsel : (Cond.selects C z y).before a0 Z = true) (ws : (Cond.instanceMethod y).before a0 Z = true) (wp : (Cond.publicMethod y).before a0 Z = true) (wu : (Cond.unhidden C z.name z.desc).before a0 Z = true) (wca : (Cond.castable C z.cls).before a0 Z = true) (wz : (Cond.initialized y.cls).before a0 Z = true) (wc : (Cond.code y bytes maxL ret).before a0 Z = true) (hy : z.cls ≠ "java/lang/invoke/MethodHandle" ∧ z.cls ≠ "java/lang/invoke/VarHandle") (eT : T.heap = h) {a : Addr} (E : Exa Z h a C) (hsize : Ls.size = c.maxLocals) (argsL : List Value) {rest : List Value} (hlen : ∀ sig, parseMethodDescriptor z.desc = some sig → argsL.length = sig.parameters.length) (has : (.ref a :: argsL).toArray = as') (hst : st = argsL.reverse ++ .ref a :: rest) (hf : rm.frames + 1 ≤ R.frames) (hl : (rest.map fun v => v.category).sum + (maxL + 11) + rm.locals ≤ R.locals) (hc : k + rm.cells ≤ R.cells) (hs : n + rm.slots ≤ R.slots) (hd : decode code pc = .ok (.invokeinterface index count, 5)) (K : ∀ v T' L, Stand p l e R s m args below meth c T' (locs ++ L) (k + rm.cells) (n + rm.slots) → Q v T'.heap L → Go p e below G (T'.setTop (mkF m (pc + 5) Ls (v.toList ++ rest)))) : Go p e below G (T.setTop (mkF m pc Ls st)) := by
  obtain ⟨cq, kq, qa, qb, qc⟩ := isOf hZ eT E
  obtain ⟨v, _, ⟨T', L', k', n'⟩, -, X', ⟨L, hq, l1, l2, l3⟩, q⟩ := X.interfaceBack hx (xi := z) (y := y) hown (mvT hZ wl) (mvT hZ wd) (mvT hZ wf (by simp [Cond.onTables, Cond.keepsFace, Cond.keeps, Cond.steady, Cond.faceAtom, hy.1, hy.2])) (mvT hZ wsel) (mvT hZ ws) (mvT hZ wp) (mvT hZ wu) (mvT hZ wca) hy (backOf (W := (rest.map fun v => v.category).sum) hM hZ wc wz hf hl) qa qb qc (g := mkF m pc Ls st) rfl hsize (Steps.refl _) (argsL := argsL) (rest := rest) hlen hst (by show 2 * 0 + _ ≤ _; omega) (hb hby hd) (fun _ _ => ⟨has, eT, hc, hs⟩)
  dsimp only [Pt.U, Pt.locs, Pt.cells, Pt.slots] at X' l1 l2 l3 q hq
  subst l1 l2 l3
  exact Go.step (fun t r => q.trans r) (K v T' L X' hq)
theorem g_ret (X : Stand p l e R s m args below meth c T locs k n) (hx : p.tables.exec = Jvm.exec) (hby : c.code = code) (hret : meth.sig.returnType = none) (hlocks : meth.locks = false) {Q : Option Value → Heap → List Loc → Prop} {cells slots : Nat} (hd : decode code pc = .ok (.return_, 1)) (eT : T.heap = h) (hk : k ≤ cells) (hn : n ≤ slots) (hq : Q none h locs) : Go p e below (RetG s Q cells slots) (T.setTop (mkF m pc Ls [])) := Go.leave X (v := none) (fun _ => rfl) hlocks eT hq hk hn (fun fs hr => X.returnOut hx hret (hb hby hd) hr)
theorem g_iret (X : Stand p l e R s m args below meth c T locs k n) (hx : p.tables.exec = Jvm.exec) (hby : c.code = code) {z : Int32} {rest : List Value} (hret : meth.sig.returnType = some .int) (hlocks : meth.locks = false) {Q : Option Value → Heap → List Loc → Prop} {cells slots : Nat} (hd : decode code pc = .ok (.ireturn, 1)) (eT : T.heap = h) (hk : k ≤ cells) (hn : n ≤ slots) (hq : Q (some (.int z)) h locs) : Go p e below (RetG s Q cells slots) (T.setTop (mkF m pc Ls (.int z :: rest))) := Go.leave X (v := some (.int z)) (fun q => by rw [hret] at q; cases q) hlocks eT hq hk hn (fun fs hr => retOut X hx (t := .int) hret rfl (Or.inl ⟨rfl, Or.inl rfl, z, rfl⟩) (hb hby hd) hr)
theorem g_nret (X : Stand p l e R s m args below meth c T locs k n) (hx : p.tables.exec = Jvm.exec) (hby : c.code = code) {z : Int32} {rest : List Value} {t : FieldType} (ht : t = .boolean ∨ t = .byte ∨ t = .char ∨ t = .short) (hret : meth.sig.returnType = some t) (hlocks : meth.locks = false) {Q : Option Value → Heap → List Loc → Prop} {cells slots : Nat} (hd : decode code pc = .ok (.ireturn, 1)) (eT : T.heap = h) (hk : k ≤ cells) (hn : n ≤ slots) (hq : Q (some (.int (nar t z))) h locs) : Go p e below (RetG s Q cells slots) (T.setTop (mkF m pc Ls (.int z :: rest))) := Go.leave X (v := some (.int (nar t z))) (fun q => by rw [hret] at q; cases q) hlocks eT hq hk hn (fun fs hr => retN X hx (t := t) hret ht (hb hby hd) hr)
theorem g_lret (X : Stand p l e R s m args below meth c T locs k n) (hx : p.tables.exec = Jvm.exec) (hby : c.code = code) {z : Int64} {rest : List Value} (hret : meth.sig.returnType = some .long) (hlocks : meth.locks = false) {Q : Option Value → Heap → List Loc → Prop} {cells slots : Nat} (hd : decode code pc = .ok (.lreturn, 1)) (eT : T.heap = h) (hk : k ≤ cells) (hn : n ≤ slots) (hq : Q (some (.long z)) h locs) : Go p e below (RetG s Q cells slots) (T.setTop (mkF m pc Ls (.long z :: rest))) := Go.leave X (v := some (.long z)) (fun q => by rw [hret] at q; cases q) hlocks eT hq hk hn (fun fs hr => retOut X hx (t := .long) hret rfl (Or.inr (Or.inl ⟨rfl, rfl, z, rfl⟩)) (hb hby hd) hr)
theorem g_aret (X : Stand p l e R s m args below meth c T locs k n) (hx : p.tables.exec = Jvm.exec) (hby : c.code = code) {z : Value} {rest : List Value} {t : FieldType} (ht : t.isReference = true) (hz : z.isRef = true) (hnar : narrow t z = z) (hret : meth.sig.returnType = some t) (hlocks : meth.locks = false) {Q : Option Value → Heap → List Loc → Prop} {cells slots : Nat} (hd : decode code pc = .ok (.areturn, 1)) (eT : T.heap = h) (hk : k ≤ cells) (hn : n ≤ slots) (hq : Q (some z) h locs) : Go p e below (RetG s Q cells slots) (T.setTop (mkF m pc Ls (z :: rest))) := Go.leave X (v := some z) (fun q => by rw [hret] at q; cases q) hlocks eT hq hk hn (fun fs hr => retOut X hx (t := t) hret hnar (Or.inr (Or.inr (Or.inr (Or.inr ⟨rfl, ht, hz⟩)))) (hb hby hd) hr)
end
end Jvm.Own

namespace Jvm.Own
open Sem ClassFile Op Lib Jvm.Stand Jvm.Free Jvm.LawKit Jvm.RoadKit
def RetW (s : State) (Q : Option Value → Heap → List Loc → Prop) (cells slots : Nat) (s₂ : State) (o : Outcome) : Prop := ∃ v L, o = .returned v ∧ Q v s₂.heap L ∧ ReturnedEndW s o s₂ L cells slots
theorem own_widen {s u : State} {o : Outcome} {L L' : List Loc} {a b c d : Nat} (hq : ReturnedEndW s o u L a b) (N : Fr s.heap.size L) (hc : a ≤ c) (hd : b ≤ d) : ReturnedEndW s o u L' c d :=
  ⟨hq.1, hq.2.1, hq.2.2.1, (hq.2.2.2.sift fun y hy => Or.inr (N y hy)).mono hc hd⟩
section
variable {p : Program} {l : Launch} {e : Env} {R : Room} {s : State} {vm0 : Vm} {m : MethodId} {args : Array Value} {below : List Frame} {meth : Method} {c : Code} {T : State} {locs : List Loc} {k n k0 : Nat} {G : State → Outcome → Prop} {code : ByteArray} {pc : Nat} {Ls : Array Slot} {st : List Value} {Z : State} {a0 : Array Value} {h : Heap} {n0 : Nat}
theorem Go.leaveW (X : Stand p l e R (s.setVm vm0) m args below meth c T locs k n) {v : Option Value} (hv : meth.sig.returnType = none → v = none) (hlocks : meth.locks = false) {Q : Option Value → Heap → List Loc → Prop} {cells slots : Nat} {σ : State} (hS : s.Since vm0 k0) (eT : T.heap = h) (hkk : k0 ≤ h.size) (hq : Q v h locs) (hk : k ≤ cells) (hn : n ≤ slots)
    (st : ∀ fs, (∀ (f : JFrame) (acts : List Action), f.method = m → f.locked = none → f.entered = [] → (doReturn e (T.setTop f) acts v).1 = T.setFrames fs) → Steps p.tables e below σ (T.setFrames fs)) : Go p e below (RetW s Q cells slots) σ := by
  subst eT
  obtain ⟨fs, hr, hrun, hended, h1, h2, h3, h4⟩ := X.leaveW hS hkk (v := v) hv hlocks
  exact ⟨_, _, st fs hr, hrun, hended, _, _, rfl, hq, h1, h2, h3, h4.mono hk hn⟩
theorem g_retW (X : Stand p l e R (s.setVm vm0) m args below meth c T locs k n) (hx : p.tables.exec = Jvm.exec) (hby : c.code = code) (hret : meth.sig.returnType = none) (hlocks : meth.locks = false) {Q : Option Value → Heap → List Loc → Prop} {cells slots : Nat} (hS : s.Since vm0 k0) (hd : decode code pc = .ok (.return_, 1)) (eT : T.heap = h) (hkk : k0 ≤ h.size) (hk : k ≤ cells) (hn : n ≤ slots) (hq : Q none h locs) : Go p e below (RetW s Q cells slots) (T.setTop (mkF m pc Ls [])) := Go.leaveW X (v := none) (fun _ => rfl) hlocks hS eT hkk hq hk hn (fun fs hr => X.returnOut hx hret (hb hby hd) hr)
theorem g_iretW (X : Stand p l e R (s.setVm vm0) m args below meth c T locs k n) (hx : p.tables.exec = Jvm.exec) (hby : c.code = code) {z : Int32} {rest : List Value} (hret : meth.sig.returnType = some .int) (hlocks : meth.locks = false) {Q : Option Value → Heap → List Loc → Prop} {cells slots : Nat} (hS : s.Since vm0 k0) (hd : decode code pc = .ok (.ireturn, 1)) (eT : T.heap = h) (hkk : k0 ≤ h.size) (hk : k ≤ cells) (hn : n ≤ slots) (hq : Q (some (.int z)) h locs) : Go p e below (RetW s Q cells slots) (T.setTop (mkF m pc Ls (.int z :: rest))) := Go.leaveW X (v := some (.int z)) (fun q => by rw [hret] at q; cases q) hlocks hS eT hkk hq hk hn (fun fs hr => retOut X hx (t := .int) hret rfl (Or.inl ⟨rfl, Or.inl rfl, z, rfl⟩) (hb hby hd) hr)
theorem g_nretW (X : Stand p l e R (s.setVm vm0) m args below meth c T locs k n) (hx : p.tables.exec = Jvm.exec) (hby : c.code = code) {z : Int32} {rest : List Value} {t : FieldType} (ht : t = .boolean ∨ t = .byte ∨ t = .char ∨ t = .short) (hret : meth.sig.returnType = some t) (hlocks : meth.locks = false) {Q : Option Value → Heap → List Loc → Prop} {cells slots : Nat} (hS : s.Since vm0 k0) (hd : decode code pc = .ok (.ireturn, 1)) (eT : T.heap = h) (hkk : k0 ≤ h.size) (hk : k ≤ cells) (hn : n ≤ slots) (hq : Q (some (.int (nar t z))) h locs) : Go p e below (RetW s Q cells slots) (T.setTop (mkF m pc Ls (.int z :: rest))) := Go.leaveW X (v := some (.int (nar t z))) (fun q => by rw [hret] at q; cases q) hlocks hS eT hkk hq hk hn (fun fs hr => retN X hx (t := t) hret ht (hb hby hd) hr)
theorem g_lretW (X : Stand p l e R (s.setVm vm0) m args below meth c T locs k n) (hx : p.tables.exec = Jvm.exec) (hby : c.code = code) {z : Int64} {rest : List Value} (hret : meth.sig.returnType = some .long) (hlocks : meth.locks = false) {Q : Option Value → Heap → List Loc → Prop} {cells slots : Nat} (hS : s.Since vm0 k0) (hd : decode code pc = .ok (.lreturn, 1)) (eT : T.heap = h) (hkk : k0 ≤ h.size) (hk : k ≤ cells) (hn : n ≤ slots) (hq : Q (some (.long z)) h locs) : Go p e below (RetW s Q cells slots) (T.setTop (mkF m pc Ls (.long z :: rest))) := Go.leaveW X (v := some (.long z)) (fun q => by rw [hret] at q; cases q) hlocks hS eT hkk hq hk hn (fun fs hr => retOut X hx (t := .long) hret rfl (Or.inr (Or.inl ⟨rfl, rfl, z, rfl⟩)) (hb hby hd) hr)
theorem g_aretW (X : Stand p l e R (s.setVm vm0) m args below meth c T locs k n) (hx : p.tables.exec = Jvm.exec) (hby : c.code = code) {z : Value} {rest : List Value} {t : FieldType} (ht : t.isReference = true) (hz : z.isRef = true) (hnar : narrow t z = z) (hret : meth.sig.returnType = some t) (hlocks : meth.locks = false) {Q : Option Value → Heap → List Loc → Prop} {cells slots : Nat} (hS : s.Since vm0 k0) (hd : decode code pc = .ok (.areturn, 1)) (eT : T.heap = h) (hkk : k0 ≤ h.size) (hk : k ≤ cells) (hn : n ≤ slots) (hq : Q (some z) h locs) : Go p e below (RetW s Q cells slots) (T.setTop (mkF m pc Ls (z :: rest))) := Go.leaveW X (v := some z) (fun q => by rw [hret] at q; cases q) hlocks hS eT hkk hq hk hn (fun fs hr => retOut X hx (t := t) hret hnar (Or.inr (Or.inr (Or.inr (Or.inr ⟨rfl, ht, hz⟩)))) (hb hby hd) hr)
theorem g_ldcS (X : Stand p l e R (s.setVm vm0) m args below meth c T locs k n) (hx : p.tables.exec = Jvm.exec) (hby : c.code = code) (hZ : Z.Warmed39 (s.setVm vm0).vm) {own : String} (hown : (s.setVm vm0).vm.findClass own = some m.cls) {text : String} {index : Nat} (w : (Cond.stringLink own index text).before a0 Z = true) (wS : ∀ a ∈ Bundle.stringAtoms, a.before a0 Z = true) (eT : T.heap = h) (hS : s.Since vm0 k0) (hk : k0 ≤ h.size) (nn : Nat) (hnn : 4 * text.toList.length ≤ nn) (hbig : nn ≤ 536870912) (hc : k + 2 ≤ R.cells) (hl : n + (nn + 4) ≤ R.slots) (hd : decode code pc = .ok (.ldc index, 2)) (K : ∀ a T' h' k1, Stand p l e R (s.setVm T'.vm) m args below meth c T' locs (k + 2) (n + (nn + 4)) → T'.heap = h' → Ext h h' → s.Since T'.vm k1 → k1 ≤ h'.size → Z.Warmed39 (s.setVm T'.vm).vm → (s.setVm T'.vm).vm.findClass own = some m.cls → Go p e below G (T'.setTop (mkF m (pc + 2) Ls (.ref a :: st)))) : Go p e below G (T.setTop (mkF m pc Ls st)) := by
  obtain ⟨a, T', h', k1, X', e', E, hS', hk', hZ', ho', q⟩ := ldcS X hx hZ hown w wS eT hS hk (g := mkF m pc Ls st) rfl (hb hby hd) hnn hbig hc hl
  exact Go.step q (K a T' h' k1 X' e' E hS' hk' hZ' ho')
theorem g_ldcwS (X : Stand p l e R (s.setVm vm0) m args below meth c T locs k n) (hx : p.tables.exec = Jvm.exec) (hby : c.code = code) (hZ : Z.Warmed39 (s.setVm vm0).vm) {own : String} (hown : (s.setVm vm0).vm.findClass own = some m.cls) {text : String} {index : Nat} (w : (Cond.stringLink own index text).before a0 Z = true) (wS : ∀ a ∈ Bundle.stringAtoms, a.before a0 Z = true) (eT : T.heap = h) (hS : s.Since vm0 k0) (hk : k0 ≤ h.size) (nn : Nat) (hnn : 4 * text.toList.length ≤ nn) (hbig : nn ≤ 536870912) (hc : k + 2 ≤ R.cells) (hl : n + (nn + 4) ≤ R.slots) (hd : decode code pc = .ok (.ldc_w index, 3)) (K : ∀ a T' h' k1, Stand p l e R (s.setVm T'.vm) m args below meth c T' locs (k + 2) (n + (nn + 4)) → T'.heap = h' → Ext h h' → s.Since T'.vm k1 → k1 ≤ h'.size → Z.Warmed39 (s.setVm T'.vm).vm → (s.setVm T'.vm).vm.findClass own = some m.cls → Go p e below G (T'.setTop (mkF m (pc + 3) Ls (.ref a :: st)))) : Go p e below G (T.setTop (mkF m pc Ls st)) := by
  obtain ⟨a, T', h', k1, X', e', E, hS', hk', hZ', ho', q⟩ := ldcSW X hx hZ hown w wS eT hS hk (g := mkF m pc Ls st) rfl (hb hby hd) hnn hbig hc hl
  exact Go.step q (K a T' h' k1 X' e' E hS' hk' hZ' ho')
theorem g_ldcSV (X : Stand p l e R (s.setVm vm0) m args below meth c T locs k n) (hx : p.tables.exec = Jvm.exec) (hby : c.code = code) (hZ : Z.Warmed39 (s.setVm vm0).vm) {own : String} (hown : (s.setVm vm0).vm.findClass own = some m.cls) {text : String} {index : Nat} (w : (Cond.stringLink own index text).before a0 Z = true) (wS : ∀ a ∈ Bundle.stringAtoms, a.before a0 Z = true) (eT : T.heap = h) (hS : s.Since vm0 k0) (hk : k0 ≤ h.size) (N : Fr s.heap.size locs) (hkeep : ∀ (b : Addr) (cl : Cell), Z.heap[b]? = some cl → s.heap[b]? = some cl) (hI : vm0.interned = Z.vm.interned) (hh : Jvm.Lit.constHeld Z own index) (hcw : Jvm.Lit.compactW.before a0 Z = true) (vs : List Value) (z : Int32) (ht : (∀ c ∈ text.toList, c.toNat < 256) ∧ text.toList.map (fun c => Value.int (Jvm.Lit.byteI c.toNat.toUInt16)) = vs) (hz : ¬ z < 0) (hlz : z.toNatClampNeg = vs.length) (nn : Nat) (hnn : 4 * text.toList.length ≤ nn) (hbig : nn ≤ 536870912) (hc : k + 2 ≤ R.cells) (hl : n + (nn + 4) ≤ R.slots) (hd : decode code pc = .ok (.ldc index, 2)) (K : ∀ a T' h' k1 b kb, Stand p l e R (s.setVm T'.vm) m args below meth c T' locs (k + 2) (n + (nn + 4)) → T'.heap = h' → Ext h h' → s.Since T'.vm k1 → k1 ≤ h'.size → Z.Warmed39 (s.setVm T'.vm).vm → (s.setVm T'.vm).vm.findClass own = some m.cls → Exa Z h' a "java/lang/String" → Fld Z h' a "java/lang/String" "coder" "B" (.int 0) → Fld Z h' a "java/lang/String" "value" "[B" (.ref b) → Arv Z h' b kb .byte z vs (.int 0) → Lit (s.setVm T'.vm) own index a → Go p e below G (T'.setTop (mkF m (pc + 2) Ls (.ref a :: st)))) : Go p e below G (T.setTop (mkF m pc Ls st)) := by
  obtain ⟨a, T', h', k1, b, kb, X', e', E, hS', hk', hZ', ho', r1, r2, r3, r4, -, -, -, r5, q⟩ := ldcSVL X hx hZ hown w wS eT hS hk N hkeep (Ts := []) ⟨#[], by rw [hI]; simp, fun q hq => by simp at hq⟩ (by simp) hh hcw ht hz hlz (g := mkF m pc Ls st) rfl (hb hby hd) hnn hbig hc hl
  exact Go.step q (K a T' h' k1 b kb X' e' E hS' hk' hZ' ho' r1 r2 r3 r4 r5)
theorem g_ldcAgain (X : Stand p l e R (s.setVm vm0) m args below meth c T locs k n) (hx : p.tables.exec = Jvm.exec) (hby : c.code = code) (hZ : Z.Warmed39 (s.setVm vm0).vm) {own : String} (hown : (s.setVm vm0).vm.findClass own = some m.cls) {text : String} {index : Nat} (w : (Cond.stringLink own index text).before a0 Z = true) {a : Addr} (L : Lit (s.setVm vm0) own index a) (hd : decode code pc = .ok (.ldc index, 2)) (K : Go p e below G (T.setTop (mkF m (pc + 2) Ls (.ref a :: st)))) : Go p e below G (T.setTop (mkF m pc Ls st)) := Go.step (ldcAgain X hx hZ hown w L (g := mkF m pc Ls st) rfl (hb hby hd)) K
theorem backW {y : MethodName} {bytes : ByteArray} {maxL : Nat} {ret : Option FieldType} {rm : Room} {len W : Nat} {as' : Array Value} {Q : Option Value → Heap → List Loc → Prop} {PV : Vm → Prop}
    (hM : MetFree l y (head1 [Cond.code y bytes maxL ret] rm) (fun a U => a = as' ∧ PV U.vm ∧ U.heap = h) (fun _ _ _ _ _ => True) (fun _ U o U' => RetW U Q rm.cells rm.slots U' o))
    (hZ : Z.Warmed39 s.vm) (hPV : ∀ vm, s.WarmedH vm → PV vm) (wc : (Cond.code y bytes maxL ret).before a0 Z = true) (wz : (Cond.initialized y.cls).before a0 Z = true) (hf : rm.frames + 1 ≤ R.frames) (hl : W + (maxL + 11) + rm.locals ≤ R.locals) :
    BackS l R p e below s args y len W (fun A a => a = as' ∧ A.U.heap = h ∧ A.cells + rm.cells ≤ R.cells ∧ A.slots + rm.slots ≤ R.slots)
      (fun A _ v B => ∃ L, Q v B.U.heap L ∧ B.locs = A.locs ++ L ∧ B.cells = A.cells + rm.cells ∧ B.slots = A.slots + rm.slots) :=
  BackS.of_freeW (bytes := bytes) (maxL := maxL) (ret := ret) (E := fun _ _ o t L k n => k = rm.cells ∧ n = rm.slots ∧ ∃ v, o = .returned v ∧ Q v t.heap L) hM hf hl
    (fun m meth c A a Y hp => have hU : Z.Warmed39 A.U.vm := wtrans hZ Y.warmed
      ⟨by show (Cond.and _ .tt).before a A.U = true; rw [Cond.before_and, mv hU wc]; rfl, mv hU wc, mv hU wz, hp.2.2.1, hp.2.2.2⟩)
    (fun m meth c A a g mk Y hp => ⟨hp.1, hPV _ Y.warmed, hp.2.1⟩) (fun _ _ _ _ _ _ _ _ _ => trivial)
    (fun _ _ _ _ ⟨v, L, h1, h2, h3⟩ => ⟨L, _, _, h3, rfl, rfl, v, h1, h2⟩)
    (fun m meth c A a g mk v t L k n Y hp _ _ ⟨e1, e2, v', e3, e4⟩ => by cases e3; subst e1 e2; exact ⟨L, e4, rfl, rfl, rfl⟩)
theorem g_staticW (X : Stand p l e R (s.setVm vm0) m args below meth c T locs k n) (hx : p.tables.exec = Jvm.exec) (hby : c.code = code) (hZ : Z.Warmed39 (s.setVm vm0).vm) {own : String} (hown : (s.setVm vm0).vm.findClass own = some m.cls) {index : Nat} {y : MethodName} {bytes : ByteArray} {maxL : Nat} {ret : Option FieldType} {rm : Room} {as' : Array Value} {Q : Option Value → Heap → List Loc → Prop} {PV : Vm → Prop} (hM : MetFree l y (head1 [Cond.code y bytes maxL ret] rm) (fun a U => a = as' ∧ PV U.vm ∧ U.heap = h) (fun _ _ _ _ _ => True) (fun _ U o U' => RetW U Q rm.cells rm.slots U' o)) (hPV : ∀ vm, (s.setVm vm0).WarmedH vm → PV vm) (hS : s.Since vm0 k0) (hkk : k0 ≤ h.size) (wl : (Cond.methodLink own index y).before a0 Z = true) (ws : (Cond.static y).before a0 Z = true) (wz : (Cond.initialized y.cls).before a0 Z = true) (wc : (Cond.code y bytes maxL ret).before a0 Z = true) (hy : y.cls ≠ "java/lang/invoke/MethodHandle" ∧ y.cls ≠ "java/lang/invoke/VarHandle") (eT : T.heap = h) (hsize : Ls.size = c.maxLocals) (argsL : List Value) {rest : List Value} (hlen : ∀ sig, parseMethodDescriptor y.desc = some sig → argsL.length = sig.parameters.length) (has : argsL.toArray = as') (hst : st = argsL.reverse ++ rest) (hf : rm.frames + 1 ≤ R.frames) (hl : (rest.map fun v => v.category).sum + (maxL + 11) + rm.locals ≤ R.locals) (hc : k + rm.cells ≤ R.cells) (hs : n + rm.slots ≤ R.slots) (hd : decode code pc = .ok (.invokestatic index, 3)) (K : ∀ v T' L, Stand p l e R (s.setVm T'.vm) m args below meth c T' (locs ++ L) (k + rm.cells) (n + rm.slots) → s.Since T'.vm T'.heap.size → Z.Warmed39 (s.setVm T'.vm).vm → (s.setVm T'.vm).vm.findClass own = some m.cls → Q v T'.heap L → Go p e below G (T'.setTop (mkF m (pc + 3) Ls (v.toList ++ rest)))) : Go p e below G (T.setTop (mkF m pc Ls st)) := by
  obtain ⟨v, _, ⟨T', L', k', n'⟩, -, X', hs', hg', ⟨L, hq, l1, l2, l3⟩, q⟩ := callSS X hx (y := y) hown (mvT hZ wl) (mvT hZ ws) (mvT hZ wz) (mvT hZ wc) hy (backW (W := (rest.map fun v => v.category).sum) hM hZ hPV wc wz hf hl) (g := mkF m pc Ls st) rfl hsize (argsL := argsL) (rest := rest) hlen hst (by show 2 * 0 + _ ≤ _; omega) (hb hby hd) (fun _ _ => ⟨has, eT, hc, hs⟩)
  dsimp only [Pt.U, Pt.locs, Pt.cells, Pt.slots] at X' hs' hg' l1 l2 l3 q hq
  subst l1 l2 l3
  obtain ⟨X2, hS2, hZ2, ho2⟩ := rebS hS (Nat.le_trans hkk (by rw [← eT]; exact Nat.le_refl _)) X' hs' hg' hZ hown
  exact Go.step (fun t r => q.trans r) (K v T' L X2 hS2 hZ2 ho2 hq)
theorem g_specialW (X : Stand p l e R (s.setVm vm0) m args below meth c T locs k n) (hx : p.tables.exec = Jvm.exec) (hby : c.code = code) (hZ : Z.Warmed39 (s.setVm vm0).vm) {own : String} (hown : (s.setVm vm0).vm.findClass own = some m.cls) {index : Nat} {y : MethodName} {bytes : ByteArray} {maxL : Nat} {ret : Option FieldType} {rm : Room} {as' : Array Value} {Q : Option Value → Heap → List Loc → Prop} {PV : Vm → Prop} (hM : MetFree l y (head1 [Cond.code y bytes maxL ret] rm) (fun a U => a = as' ∧ PV U.vm ∧ U.heap = h) (fun _ _ _ _ _ => True) (fun _ U o U' => RetW U Q rm.cells rm.slots U' o)) (hPV : ∀ vm, (s.setVm vm0).WarmedH vm → PV vm) (hS : s.Since vm0 k0) (hkk : k0 ≤ h.size) (hy1 : y.name = "<init>") (hret : ret = none) (wl : (Cond.methodLink own index y).before a0 Z = true) (ws : (Cond.instanceMethod y).before a0 Z = true) (wz : (Cond.initialized y.cls).before a0 Z = true) (wc : (Cond.code y bytes maxL ret).before a0 Z = true) (hy : y.cls ≠ "java/lang/invoke/MethodHandle" ∧ y.cls ≠ "java/lang/invoke/VarHandle") (eT : T.heap = h) (hsize : Ls.size = c.maxLocals) {a : Addr} (argsL : List Value) {rest : List Value} (hlen : ∀ sig, parseMethodDescriptor y.desc = some sig → argsL.length = sig.parameters.length) (has : (.ref a :: argsL).toArray = as') (hst : st = argsL.reverse ++ .ref a :: rest) (hf : rm.frames + 1 ≤ R.frames) (hl : (rest.map fun v => v.category).sum + (maxL + 11) + rm.locals ≤ R.locals) (hc : k + rm.cells ≤ R.cells) (hs : n + rm.slots ≤ R.slots) (hd : decode code pc = .ok (.invokespecial index, 3)) (K : ∀ v T' L, Stand p l e R (s.setVm T'.vm) m args below meth c T' (locs ++ L) (k + rm.cells) (n + rm.slots) → s.Since T'.vm T'.heap.size → Z.Warmed39 (s.setVm T'.vm).vm → (s.setVm T'.vm).vm.findClass own = some m.cls → Q v T'.heap L → Go p e below G (T'.setTop (mkF m (pc + 3) Ls (v.toList ++ rest)))) : Go p e below G (T.setTop (mkF m pc Ls st)) := by
  subst hret
  obtain ⟨v, _, ⟨T', L', k', n'⟩, -, X', hs', hg', ⟨L, hq, l1, l2, l3⟩, q⟩ := X.specialBackS hx (y := y) hy1 hown (mvT hZ wl) (mvT hZ ws) (mvT hZ wc) hy (backW (W := (rest.map fun v => v.category).sum) hM hZ hPV wc wz hf hl) (g := mkF m pc Ls st) rfl hsize (Steps.refl _) (a := a) (argsL := argsL) (rest := rest) hlen hst (by show 2 * 0 + _ ≤ _; omega) (hb hby hd) (fun _ _ => ⟨has, eT, hc, hs⟩)
  dsimp only [Pt.U, Pt.locs, Pt.cells, Pt.slots] at X' hs' hg' l1 l2 l3 q hq
  subst l1 l2 l3
  obtain ⟨X2, hS2, hZ2, ho2⟩ := rebS hS (Nat.le_trans hkk (by rw [← eT]; exact Nat.le_refl _)) X' hs' hg' hZ hown
  exact Go.step (fun t r => q.trans r) (K v T' L X2 hS2 hZ2 ho2 hq)
theorem g_virtualW (X : Stand p l e R (s.setVm vm0) m args below meth c T locs k n) (hx : p.tables.exec = Jvm.exec) (hby : c.code = code) (hZ : Z.Warmed39 (s.setVm vm0).vm) {own : String} (hown : (s.setVm vm0).vm.findClass own = some m.cls) {C : String} {index : Nat} {z : MethodName} {y : MethodName} {bytes : ByteArray} {maxL : Nat} {ret : Option FieldType} {rm : Room} {as' : Array Value} {Q : Option Value → Heap → List Loc → Prop} {PV : Vm → Prop} (hM : MetFree l y (head1 [Cond.code y bytes maxL ret] rm) (fun a U => a = as' ∧ PV U.vm ∧ U.heap = h) (fun _ _ _ _ _ => True) (fun _ U o U' => RetW U Q rm.cells rm.slots U' o)) (hPV : ∀ vm, (s.setVm vm0).WarmedH vm → PV vm) (hS : s.Since vm0 k0) (hkk : k0 ≤ h.size) (wl : (Cond.methodLink own index z).before a0 Z = true) (wd : (Cond.declares z).before a0 Z = true) (hnf : NotFace (s.setVm vm0) z) (wsel : (Cond.selects C z y).before a0 Z = true) (ws : (Cond.instanceMethod y).before a0 Z = true) (wz : (Cond.initialized y.cls).before a0 Z = true) (wc : (Cond.code y bytes maxL ret).before a0 Z = true) (hy : z.cls ≠ "java/lang/invoke/MethodHandle" ∧ z.cls ≠ "java/lang/invoke/VarHandle") (eT : T.heap = h) {a : Addr} (E : Exa Z h a C) (hsize : Ls.size = c.maxLocals) (argsL : List Value) {rest : List Value} (hlen : ∀ sig, parseMethodDescriptor z.desc = some sig → argsL.length = sig.parameters.length) (has : (.ref a :: argsL).toArray = as') (hst : st = argsL.reverse ++ .ref a :: rest) (hf : rm.frames + 1 ≤ R.frames) (hl : (rest.map fun v => v.category).sum + (maxL + 11) + rm.locals ≤ R.locals) (hc : k + rm.cells ≤ R.cells) (hs : n + rm.slots ≤ R.slots) (hd : decode code pc = .ok (.invokevirtual index, 3)) (K : ∀ v T' L, Stand p l e R (s.setVm T'.vm) m args below meth c T' (locs ++ L) (k + rm.cells) (n + rm.slots) → s.Since T'.vm T'.heap.size → Z.Warmed39 (s.setVm T'.vm).vm → (s.setVm T'.vm).vm.findClass own = some m.cls → Q v T'.heap L → Go p e below G (T'.setTop (mkF m (pc + 3) Ls (v.toList ++ rest)))) : Go p e below G (T.setTop (mkF m pc Ls st)) := by
  obtain ⟨cq, kq, qa, qb, qc⟩ := isOf hZ eT E
  obtain ⟨v, _, ⟨T', L', k', n'⟩, -, X', hs', hg', ⟨L, hq, l1, l2, l3⟩, q⟩ := X.virtualBackS hx (y := z) (z := y) hown (mvT hZ wl) (mvT hZ wd) hnf (mvT hZ wsel) (mvT hZ ws) hy (backW (W := (rest.map fun v => v.category).sum) hM hZ hPV wc wz hf hl) qa qc (g := mkF m pc Ls st) rfl hsize (Steps.refl _) (argsL := argsL) (rest := rest) hlen hst (by show 2 * 0 + _ ≤ _; omega) (hb hby hd) (fun _ _ => ⟨has, eT, hc, hs⟩)
  dsimp only [Pt.U, Pt.locs, Pt.cells, Pt.slots] at X' hs' hg' l1 l2 l3 q hq
  subst l1 l2 l3
  obtain ⟨X2, hS2, hZ2, ho2⟩ := rebS hS (Nat.le_trans hkk (by rw [← eT]; exact Nat.le_refl _)) X' hs' hg' hZ hown
  exact Go.step (fun t r => q.trans r) (K v T' L X2 hS2 hZ2 ho2 hq)
end
end Jvm.Own

namespace Jvm.Pilot.@@N@@
open Jvm Jvm.ClassFile Sem Op Lib Jvm.Free Jvm.Stand Jvm.LawKit Jvm.RoadKit Bundle Jvm.Own Jvm.Pilot.@@N@@.Jvm.D


theorem own_up (j : Nat) : Int32.ofNat j + (1 : Int32) = Int32.ofNat (j + 1) := by rw [Int32.ofNat_add]; rfl
theorem own_up2 (q : Int32) (j : Nat) : q + Int32.ofNat j + (1 : Int32) = q + Int32.ofNat (j + 1) := by rw [Int32.add_assoc, own_up]
theorem own_shr0 (n : Int32) : n >>> ((0 : Int32) &&& 31) = n := by
  rw [show (0 : Int32) &&& 31 = 0 from rfl]; simp
theorem own_sm {j N : Nat} {n : Int32} (hn : n.toInt = N) (h : j ≤ N) : (Int32.ofNat j).toInt = j := by
  have r := rng32 n
  exact Int32.toInt_ofNat_of_lt (by omega)
theorem own_tn {j N : Nat} {n : Int32} (hn : n.toInt = N) (h : j ≤ N) : (Int32.ofNat j).toNatClampNeg = j := by
  simp only [Int32.toNatClampNeg, own_sm hn h]; omega
theorem own_nN {N : Nat} {n : Int32} (hn : n.toInt = N) : n.toNatClampNeg = N := by simp only [Int32.toNatClampNeg, hn]; omega
theorem own_ltn {j N : Nat} {n : Int32} (hn : n.toInt = N) (h : j < N) : Int32.ofNat j < n := by rw [Int32.lt_iff_toInt_lt, own_sm hn (by omega)]; omega
theorem own_nltn {N : Nat} {n : Int32} (hn : n.toInt = N) : ¬ Int32.ofNat N < n := by rw [Int32.lt_iff_toInt_lt, own_sm hn (Nat.le_refl _)]; omega
theorem own_inn {j N : Nat} {n : Int32} (hn : n.toInt = N) (h : j < N) : ¬ Int32.ofNat j < 0 ∧ Int32.ofNat j < n := by
  refine ⟨?_, own_ltn hn h⟩
  have e0 : (0 : Int32).toInt = 0 := rfl
  rw [Int32.lt_iff_toInt_lt, own_sm hn (by omega)]; omega
theorem own_offs {off n cap : Int32} {j N : Nat} (h0 : 0 ≤ off.toInt) (hn : n.toInt = N) (hc : off.toInt + n.toInt ≤ cap.toInt) (h : j ≤ N) : (off + Int32.ofNat j).toInt = off.toInt + j := by
  have h1 := c_iadd off (Int32.ofNat j)
  have h2 := rng32 (off + Int32.ofNat j)
  have h3 := rng32 cap
  rw [own_sm hn h] at h1
  omega
theorem own_offin {off n cap : Int32} {j N : Nat} (h0 : 0 ≤ off.toInt) (hn : n.toInt = N) (hc : off.toInt + n.toInt ≤ cap.toInt) (h : j < N) : ¬ (off + Int32.ofNat j) < 0 ∧ off + Int32.ofNat j < cap := by
  have e := own_offs h0 hn hc (Nat.le_of_lt h)
  have e0 : (0 : Int32).toInt = 0 := rfl
  rw [Int32.lt_iff_toInt_lt, Int32.lt_iff_toInt_lt]; omega
theorem own_len {i n : Int32} {L : Nat} (h : ¬ i < 0 ∧ i < n) (q : n.toNatClampNeg ≤ L) : i.toNatClampNeg < L := by
  obtain ⟨h1, h2⟩ := h
  have e0 : (0 : Int32).toInt = 0 := rfl
  rw [Int32.lt_iff_toInt_lt] at h1 h2
  simp only [Int32.toNatClampNeg] at *; omega
theorem own_ib {Z : State} {h : Heap} {b : Addr} {kb : ClassId} {n : Int32} {bs : List Value} {d : Value} (V : Arv Z h b kb .byte n bs d) {i : Nat} (hi : i < n.toNatClampNeg) : ∃ x : Int32, bs.getD i d = .int x := by
  obtain ⟨c, A, q1, S, M, H, F⟩ := V
  have q := F i (by omega)
  cases hq : bs.getD i d <;> rw [hq] at q <;> first | exact ⟨_, rfl⟩ | (simp [fits] at q)
def own_max (a b : Int32) : Int32 := if a < b then b else a
theorem own_nn {x : Int32} (h : 0 ≤ x.toInt) : ¬ x < 0 := by
  have e0 : (0 : Int32).toInt = 0 := rfl
  rw [Int32.lt_iff_toInt_lt]; omega
theorem own_le {x y : Int32} (h : x.toInt ≤ y.toInt) : ¬ y < x := by rw [Int32.lt_iff_toInt_lt]; omega
theorem own_or3 {a b c : Int32} (h1 : 0 ≤ a.toInt) (h2 : 0 ≤ b.toInt) (h3 : 0 ≤ c.toInt) : ¬ (a ||| b) ||| c < 0 := own_nn ((c_orS (a ||| b) c).1 ((c_orS a b).1 h1 h2) h3)
theorem own_fits {off n cap : Int32} (h0 : 0 ≤ off.toInt) (h1 : 0 ≤ n.toInt) (hc : off.toInt + n.toInt ≤ cap.toInt) : ¬ (cap - off) < n := by
  have h2 := c_isub cap off
  have h3 := rng32 (cap - off)
  have h4 := rng32 cap
  rw [Int32.lt_iff_toInt_lt]; omega
theorem own_tc {n : Int32} (h : 0 ≤ n.toInt) : (n.toNatClampNeg : Int) = n.toInt := by simp only [Int32.toNatClampNeg]; omega

def own_grow (cap e : Int32) : Int32 := if cap < e then own_max ((2 : Int32) * cap) e else cap
theorem own_add {e n : Int32} (h0 : 0 ≤ e.toInt) (h1 : 0 ≤ n.toInt) (h2 : e.toInt ≤ 10000) (h3 : n.toInt ≤ 10000) : (e + n).toInt = e.toInt + n.toInt := by
  have h := c_iadd e n
  have r := rng32 (e + n)
  omega
theorem own_dbl {cap : Int32} (h0 : 0 ≤ cap.toInt) (h1 : cap.toInt ≤ 10000) : ((2 : Int32) * cap).toInt = 2 * cap.toInt := by
  have h := c_imul 2 cap
  have r := rng32 ((2 : Int32) * cap)
  have ex2 : (2 : Int32).toInt = 2 := rfl
  rw [ex2] at h
  omega
theorem own_nl {cap e : Int32} {B : Int} (h0 : 0 ≤ cap.toInt) (h1 : cap.toInt ≤ 10000) (h2 : cap < e) (h3 : 2 * cap.toInt ≤ B) (h4 : e.toInt ≤ B) : cap.toInt < (own_max ((2 : Int32) * cap) e).toInt ∧ (own_max ((2 : Int32) * cap) e).toInt ≤ B ∧ e.toInt ≤ (own_max ((2 : Int32) * cap) e).toInt := by
  have d := own_dbl h0 h1
  rw [Int32.lt_iff_toInt_lt] at h2
  unfold own_max
  split
  · omega
  · rename_i q
    rw [Int32.lt_iff_toInt_lt] at q
    omega
theorem own_growb {cap e : Int32} {B : Int} (h0 : 1024 ≤ cap.toInt) (h1 : cap.toInt ≤ 10000) (h3 : 2 * cap.toInt ≤ B) (h4 : e.toInt ≤ B) : 1024 ≤ (own_grow cap e).toInt ∧ (own_grow cap e).toInt ≤ B := by
  unfold own_grow
  split
  · rename_i q
    have := own_nl (B := B) (by omega) h1 q h3 h4
    omega
  · omega
theorem own_setD {l : List Value} {i : Nat} {x d : Value} (h : i < l.length) : (l.set i x).getD i d = x := by
  simp [List.getD_eq_getElem?_getD, List.getElem?_set_self h]
theorem own_repD {N : Nat} {i : Nat} (h : i < N) : ∃ x : Int32, (List.replicate N (Value.int (0 : Int32))).getD i (.int (0 : Int32)) = .int x ∧ ¬ (255 : Int32) < x := by
  refine ⟨0, ?_, by decide⟩
  simp [List.getD_eq_getElem?_getD, h]

theorem own_c255 (x : Int32) : ¬ (255 : Int32) < ((x &&& (255 : Int32)).toUInt32.toUInt16.toUInt32.toInt32) := by
  have h1 := c_mask x 255 8 (by decide) (by decide)
  have h2 := c_i2c (x &&& 255)
  have e : (255 : Int32).toInt = 255 := rfl
  rw [Int32.lt_iff_toInt_lt, e]; omega
def own_pick {α : Type} (s : Int32) (x0 x1 x2 x3 : α) : α := if s = 0 then x0 else if s = 1 then x1 else if s = 2 then x2 else x3
theorem own_pickP {α : Type} {P : α → Prop} (s : Int32) {x0 x1 x2 x3 : α} (h0 : P x0) (h1 : P x1) (h2 : P x2) (h3 : P x3) : P (own_pick s x0 x1 x2 x3) := by
  unfold own_pick
  split
  · exact h0
  · split
    · exact h1
    · split
      · exact h2
      · exact h3
def own_LS (Z : State) (h : Heap) (a b : Addr) (kb : ClassId) (n : Int32) (bs : List Value) : Prop := Exa Z h a "java/lang/String" ∧ Fld Z h a "java/lang/String" "coder" "B" (.int (0 : Int32)) ∧ Fld Z h a "java/lang/String" "value" "[B" (.ref b) ∧ Arv Z h b kb .byte n bs (.int (0 : Int32))
theorem own_pickS {Z : State} {h : Heap} (s : Int32) {a0 a1 a2 a3 b0 b1 b2 b3 : Addr} {k0 k1 k2 k3 : ClassId} {n0 n1 n2 n3 : Int32} {v0 v1 v2 v3 : List Value} (h0 : own_LS Z h a0 b0 k0 n0 v0) (h1 : own_LS Z h a1 b1 k1 n1 v1) (h2 : own_LS Z h a2 b2 k2 n2 v2) (h3 : own_LS Z h a3 b3 k3 n3 v3) : own_LS Z h (own_pick s a0 a1 a2 a3) (own_pick s b0 b1 b2 b3) (own_pick s k0 k1 k2 k3) (own_pick s n0 n1 n2 n3) (own_pick s v0 v1 v2 v3) := by
  unfold own_pick
  split
  · exact h0
  · split
    · exact h1
    · split
      · exact h2
      · exact h3
def own_lf (s : Int32) : Int32 := own_pick s (0 : Int32) 1 1024 2100
theorem own_lfb (s : Int32) : 0 ≤ (own_lf s).toInt ∧ (own_lf s).toInt ≤ 2100 := own_pickP (P := fun z : Int32 => 0 ≤ z.toInt ∧ z.toInt ≤ 2100) s ⟨by decide, by decide⟩ ⟨by decide, by decide⟩ ⟨by decide, by decide⟩ ⟨by decide, by decide⟩
theorem own_nech {x ch ch1 : Addr} {h : Heap} (h1 : x ≠ ch) (h2 : x < h.size) (q : ch1 = ch ∨ h.size ≤ ch1) : x ≠ ch1 := by
  rcases q with rfl | q
  · exact h1
  · exact Nat.ne_of_lt (Nat.lt_of_lt_of_le h2 q)
theorem own_loch {ch ch1 n0 : Nat} {h : Heap} (h1 : n0 ≤ ch) (h2 : n0 ≤ h.size) (q : ch1 = ch ∨ h.size ≤ ch1) : n0 ≤ ch1 := by
  rcases q with rfl | q
  · exact h1
  · exact Nat.le_trans h2 q

theorem d14_0 : decode method_3_code 0 = .ok (.iload_n 0, 1) := by decide +kernel
theorem d14_1 : decode method_3_code 1 = .ok (.ifCond .ne 5, 3) := by decide +kernel
theorem d14_4 : decode method_3_code 4 = .ok (.aload_n 1, 1) := by decide +kernel
theorem d14_5 : decode method_3_code 5 = .ok (.areturn, 1) := by decide +kernel
theorem d14_6 : decode method_3_code 6 = .ok (.iload_n 0, 1) := by decide +kernel
theorem d14_7 : decode method_3_code 7 = .ok (.iconst 1, 1) := by decide +kernel
theorem d14_8 : decode method_3_code 8 = .ok (.if_icmp .ne 5, 3) := by decide +kernel
theorem d14_11 : decode method_3_code 11 = .ok (.aload_n 2, 1) := by decide +kernel
theorem d14_12 : decode method_3_code 12 = .ok (.areturn, 1) := by decide +kernel
theorem d14_13 : decode method_3_code 13 = .ok (.iload_n 0, 1) := by decide +kernel
theorem d14_14 : decode method_3_code 14 = .ok (.iconst 2, 1) := by decide +kernel
theorem d14_15 : decode method_3_code 15 = .ok (.if_icmp .ne 5, 3) := by decide +kernel
theorem d14_18 : decode method_3_code 18 = .ok (.aload_n 3, 1) := by decide +kernel
theorem d14_19 : decode method_3_code 19 = .ok (.areturn, 1) := by decide +kernel
theorem d14_20 : decode method_3_code 20 = .ok (.aload 4, 2) := by decide +kernel
theorem d14_22 : decode method_3_code 22 = .ok (.areturn, 1) := by decide +kernel
theorem own_pn0 : plainName "com/example/invix/invix/sort/KeyBufferMemoryPinLaw" = true := by first | (simp [plainName, overriddenIn]; done) | decide +kernel
def Q_pick (Z : State) (sx : Int32) (k0 : Addr) (k1 : Addr) (k2 : Addr) (k3 : Addr) (h0 : Heap) (n0 : Nat) (v : Option Value) (h : Heap) (L : List Loc) : Prop := v = some (.ref (own_pick sx k0 k1 k2 k3)) ∧ Fr n0 L ∧ h = h0
set_option maxRecDepth 65536 in
set_option maxHeartbeats 40000000 in
theorem rm_pick (l : Launch) (Z : State) (a0 : Array Value) (hw : ∀ d ∈ tables_1, d.before a0 Z = true) (ws : List Jvm.Cond) (sx : Int32) (k0 : Addr) (k1 : Addr) (k2 : Addr) (k3 : Addr) (h0 : Heap) (n0 : Nat) (Z0 : n0 ≤ h0.size) :
    MetFree l (⟨"com/example/invix/invix/sort/KeyBufferMemoryPinLaw", "pick", "(ILjava/lang/String;Ljava/lang/String;Ljava/lang/String;Ljava/lang/String;)Ljava/lang/String;"⟩ : MethodName) (head1 (Jvm.Cond.code (⟨"com/example/invix/invix/sort/KeyBufferMemoryPinLaw", "pick", "(ILjava/lang/String;Ljava/lang/String;Ljava/lang/String;Ljava/lang/String;)Ljava/lang/String;"⟩ : MethodName) method_3_code 5 (some (.object "java/lang/String")) :: ws) ({ frames := 0, cells := 0, slots := 0, locals := 0 } : Room)) (fun aa_ U => aa_ = #[(.int sx), (.ref k0), (.ref k1), (.ref k2), (.ref k3)] ∧ Z.Warmed39 U.vm ∧ U.heap = h0) (fun _ _ _ _ _ => True) (fun _ U o_ U' => RetG U (Q_pick Z sx k0 k1 k2 k3 h0 n0) 0 0 U' o_) := by
  refine MetFree.of_bodySF (plainFor_of_name own_pn0) hisR ?_
  intro p e s m args below meth c_ s₁ Bd hml0 hP hK
  obtain ⟨rfl, hZ, hh⟩ := hP
  have hx := Bd.exec
  have hby := Bd.bytes
  have hml : c_.maxLocals = 5 := hml0
  have hown : s.vm.findClass "com/example/invix/invix/sort/KeyBufferMemoryPinLaw" = some m.cls := findClass_of_methodNamed Bd.named
  have hnm := (name_of_methodNamed Bd.named Bd.method).1
  have X0 : Stand p l e ({ frames := 0, cells := 0, slots := 0, locals := 0 } : Room) s m #[(.int sx), (.ref k0), (.ref k1), (.ref k2), (.ref k3)] below meth c_ s₁ [] 0 0 := Stand.of_body Bd
  have e0 : s₁.heap = h0 := by rw [← hh, Bd.state]; rfl
  have N0 := Fr.nil n0
  show Go p e below (RetG s (Q_pick Z sx k0 k1 k2 k3 h0 n0) 0 0) (s₁.setTop (entryFrame m #[(.int sx), (.ref k0), (.ref k1), (.ref k2), (.ref k3)] 5))
  rw [show entryFrame m #[(.int sx), (.ref k0), (.ref k1), (.ref k2), (.ref k3)] 5 = mkF m 0 #[.val (.int sx), .val (.ref k0), .val (.ref k1), .val (.ref k2), .val (.ref k3)] [] from by first | (simp [entryFrame, mkF, argsToLocals, Value.category]; done) | rfl]
  refine g_iloadN X0 hx hby d14_0 rfl ?_
  by_cases hc1_1 : sx = (0 : Int32)
  · skip
    refine g_ifN X0 hx hby d14_1 (teq hc1_1).2 ?_
    refine g_aloadN X0 hx hby d14_4 rfl rfl ?_
    refine g_aret X0 hx hby (t := (.object "java/lang/String")) rfl rfl rfl Bd.returns Bd.notSynchronized d14_5 e0 (by decide) (by decide) ?_
    show (Q_pick Z sx k0 k1 k2 k3 h0 n0) (some (.ref k0)) _ _
    exact ⟨by simp [own_pick, hc1_1], N0, rfl⟩
  · skip
    refine g_ifY X0 hx hby 6 d14_1 (feq hc1_1).2 (by decide) (by decide) ?_
    refine g_iloadN X0 hx hby d14_6 rfl ?_
    refine g_iconst X0 hx hby (1 : Int32) d14_7 rfl ?_
    by_cases hc8_2 : sx = (1 : Int32)
    · skip
      refine g_icN X0 hx hby d14_8 (teq hc8_2).2 ?_
      refine g_aloadN X0 hx hby d14_11 rfl rfl ?_
      refine g_aret X0 hx hby (t := (.object "java/lang/String")) rfl rfl rfl Bd.returns Bd.notSynchronized d14_12 e0 (by decide) (by decide) ?_
      show (Q_pick Z sx k0 k1 k2 k3 h0 n0) (some (.ref k1)) _ _
      exact ⟨by simp [own_pick, hc1_1, hc8_2], N0, rfl⟩
    · skip
      refine g_icY X0 hx hby 13 d14_8 (feq hc8_2).2 (by decide) (by decide) ?_
      refine g_iloadN X0 hx hby d14_13 rfl ?_
      refine g_iconst X0 hx hby (2 : Int32) d14_14 rfl ?_
      by_cases hc15_3 : sx = (2 : Int32)
      · skip
        refine g_icN X0 hx hby d14_15 (teq hc15_3).2 ?_
        refine g_aloadN X0 hx hby d14_18 rfl rfl ?_
        refine g_aret X0 hx hby (t := (.object "java/lang/String")) rfl rfl rfl Bd.returns Bd.notSynchronized d14_19 e0 (by decide) (by decide) ?_
        show (Q_pick Z sx k0 k1 k2 k3 h0 n0) (some (.ref k2)) _ _
        exact ⟨by simp [own_pick, hc1_1, hc8_2, hc15_3], N0, rfl⟩
      · skip
        refine g_icY X0 hx hby 20 d14_15 (feq hc15_3).2 (by decide) (by decide) ?_
        refine g_aload X0 hx hby d14_20 rfl rfl ?_
        refine g_aret X0 hx hby (t := (.object "java/lang/String")) rfl rfl rfl Bd.returns Bd.notSynchronized d14_22 e0 (by decide) (by decide) ?_
        show (Q_pick Z sx k0 k1 k2 k3 h0 n0) (some (.ref k3)) _ _
        exact ⟨by simp [own_pick, hc1_1, hc8_2, hc15_3], N0, rfl⟩

theorem d30_0 : decode method_4_code 0 = .ok (.iload_n 0, 1) := by decide +kernel
theorem d30_1 : decode method_4_code 1 = .ok (.ifCond .ne 5, 3) := by decide +kernel
theorem d30_4 : decode method_4_code 4 = .ok (.iconst 0, 1) := by decide +kernel
theorem d30_5 : decode method_4_code 5 = .ok (.ireturn, 1) := by decide +kernel
theorem d30_6 : decode method_4_code 6 = .ok (.iload_n 0, 1) := by decide +kernel
theorem d30_7 : decode method_4_code 7 = .ok (.iconst 1, 1) := by decide +kernel
theorem d30_8 : decode method_4_code 8 = .ok (.if_icmp .ne 5, 3) := by decide +kernel
theorem d30_11 : decode method_4_code 11 = .ok (.iconst 1, 1) := by decide +kernel
theorem d30_12 : decode method_4_code 12 = .ok (.ireturn, 1) := by decide +kernel
theorem d30_13 : decode method_4_code 13 = .ok (.iload_n 0, 1) := by decide +kernel
theorem d30_14 : decode method_4_code 14 = .ok (.iconst 2, 1) := by decide +kernel
theorem d30_15 : decode method_4_code 15 = .ok (.if_icmp .ne 7, 3) := by decide +kernel
theorem d30_18 : decode method_4_code 18 = .ok (.sipush 1024, 3) := by decide +kernel
theorem d30_21 : decode method_4_code 21 = .ok (.ireturn, 1) := by decide +kernel
theorem d30_22 : decode method_4_code 22 = .ok (.sipush 2100, 3) := by decide +kernel
theorem d30_25 : decode method_4_code 25 = .ok (.ireturn, 1) := by decide +kernel
def Q_lenf (Z : State) (sx : Int32) (h0 : Heap) (n0 : Nat) (v : Option Value) (h : Heap) (L : List Loc) : Prop := v = some (.int (own_lf sx)) ∧ Fr n0 L ∧ h = h0
set_option maxRecDepth 65536 in
set_option maxHeartbeats 40000000 in
theorem rm_lenf (l : Launch) (Z : State) (a0 : Array Value) (hw : ∀ d ∈ tables_1, d.before a0 Z = true) (ws : List Jvm.Cond) (sx : Int32) (h0 : Heap) (n0 : Nat) (Z0 : n0 ≤ h0.size) :
    MetFree l (⟨"com/example/invix/invix/sort/KeyBufferMemoryPinLaw", "length", "(I)I"⟩ : MethodName) (head1 (Jvm.Cond.code (⟨"com/example/invix/invix/sort/KeyBufferMemoryPinLaw", "length", "(I)I"⟩ : MethodName) method_4_code 1 (some .int) :: ws) ({ frames := 0, cells := 0, slots := 0, locals := 0 } : Room)) (fun aa_ U => aa_ = #[(.int sx)] ∧ Z.Warmed39 U.vm ∧ U.heap = h0) (fun _ _ _ _ _ => True) (fun _ U o_ U' => RetG U (Q_lenf Z sx h0 n0) 0 0 U' o_) := by
  refine MetFree.of_bodySF (plainFor_of_name own_pn0) hisR ?_
  intro p e s m args below meth c_ s₁ Bd hml0 hP hK
  obtain ⟨rfl, hZ, hh⟩ := hP
  have hx := Bd.exec
  have hby := Bd.bytes
  have hml : c_.maxLocals = 1 := hml0
  have hown : s.vm.findClass "com/example/invix/invix/sort/KeyBufferMemoryPinLaw" = some m.cls := findClass_of_methodNamed Bd.named
  have hnm := (name_of_methodNamed Bd.named Bd.method).1
  have X0 : Stand p l e ({ frames := 0, cells := 0, slots := 0, locals := 0 } : Room) s m #[(.int sx)] below meth c_ s₁ [] 0 0 := Stand.of_body Bd
  have e0 : s₁.heap = h0 := by rw [← hh, Bd.state]; rfl
  have N0 := Fr.nil n0
  show Go p e below (RetG s (Q_lenf Z sx h0 n0) 0 0) (s₁.setTop (entryFrame m #[(.int sx)] 1))
  rw [show entryFrame m #[(.int sx)] 1 = mkF m 0 #[.val (.int sx)] [] from by first | (simp [entryFrame, mkF, argsToLocals, Value.category]; done) | rfl]
  refine g_iloadN X0 hx hby d30_0 rfl ?_
  by_cases hc1_1 : sx = (0 : Int32)
  · skip
    refine g_ifN X0 hx hby d30_1 (teq hc1_1).2 ?_
    refine g_iconst X0 hx hby (0 : Int32) d30_4 rfl ?_
    refine g_iret X0 hx hby Bd.returns Bd.notSynchronized d30_5 e0 (by decide) (by decide) ?_
    show (Q_lenf Z sx h0 n0) (some (.int (0 : Int32))) _ _
    exact ⟨by simp [own_lf, own_pick, hc1_1], N0, rfl⟩
  · skip
    refine g_ifY X0 hx hby 6 d30_1 (feq hc1_1).2 (by decide) (by decide) ?_
    refine g_iloadN X0 hx hby d30_6 rfl ?_
    refine g_iconst X0 hx hby (1 : Int32) d30_7 rfl ?_
    by_cases hc8_2 : sx = (1 : Int32)
    · skip
      refine g_icN X0 hx hby d30_8 (teq hc8_2).2 ?_
      refine g_iconst X0 hx hby (1 : Int32) d30_11 rfl ?_
      refine g_iret X0 hx hby Bd.returns Bd.notSynchronized d30_12 e0 (by decide) (by decide) ?_
      show (Q_lenf Z sx h0 n0) (some (.int (1 : Int32))) _ _
      exact ⟨by simp [own_lf, own_pick, hc1_1, hc8_2], N0, rfl⟩
    · skip
      refine g_icY X0 hx hby 13 d30_8 (feq hc8_2).2 (by decide) (by decide) ?_
      refine g_iloadN X0 hx hby d30_13 rfl ?_
      refine g_iconst X0 hx hby (2 : Int32) d30_14 rfl ?_
      by_cases hc15_3 : sx = (2 : Int32)
      · skip
        refine g_icN X0 hx hby d30_15 (teq hc15_3).2 ?_
        refine g_sipush X0 hx hby (1024 : Int32) d30_18 rfl ?_
        refine g_iret X0 hx hby Bd.returns Bd.notSynchronized d30_21 e0 (by decide) (by decide) ?_
        show (Q_lenf Z sx h0 n0) (some (.int (1024 : Int32))) _ _
        exact ⟨by simp [own_lf, own_pick, hc1_1, hc8_2, hc15_3], N0, rfl⟩
      · skip
        refine g_icY X0 hx hby 22 d30_15 (feq hc15_3).2 (by decide) (by decide) ?_
        refine g_sipush X0 hx hby (2100 : Int32) d30_22 rfl ?_
        refine g_iret X0 hx hby Bd.returns Bd.notSynchronized d30_25 e0 (by decide) (by decide) ?_
        show (Q_lenf Z sx h0 n0) (some (.int (2100 : Int32))) _ _
        exact ⟨by simp [own_lf, own_pick, hc1_1, hc8_2, hc15_3], N0, rfl⟩

theorem d27_0 : decode jdk_29_method_65_code 0 = .ok (.iload_n 0, 1) := by decide +kernel
theorem d27_1 : decode jdk_29_method_65_code 1 = .ok (.iload_n 1, 1) := by decide +kernel
theorem d27_2 : decode jdk_29_method_65_code 2 = .ok (.if_icmp .lt 7, 3) := by decide +kernel
theorem d27_9 : decode jdk_29_method_65_code 9 = .ok (.iload_n 1, 1) := by decide +kernel
theorem d27_10 : decode jdk_29_method_65_code 10 = .ok (.ireturn, 1) := by decide +kernel
theorem d27_5 : decode jdk_29_method_65_code 5 = .ok (.iload_n 0, 1) := by decide +kernel
theorem d27_6 : decode jdk_29_method_65_code 6 = .ok (.goto 4, 3) := by decide +kernel
def Q_mmax (Z : State) (a : Int32) (b : Int32) (h0 : Heap) (n0 : Nat) (v : Option Value) (h : Heap) (L : List Loc) : Prop := v = some (.int (own_max a b)) ∧ Fr n0 L ∧ h = h0
set_option maxRecDepth 65536 in
set_option maxHeartbeats 40000000 in
theorem rm_mmax (l : Launch) (Z : State) (a0 : Array Value) (hw : ∀ d ∈ tables_1, d.before a0 Z = true) (ws : List Jvm.Cond) (a : Int32) (b : Int32) (h0 : Heap) (n0 : Nat) (Z0 : n0 ≤ h0.size) :
    MetFree l (⟨"java/lang/Math", "max", "(II)I"⟩ : MethodName) (head1 (Jvm.Cond.code (⟨"java/lang/Math", "max", "(II)I"⟩ : MethodName) jdk_29_method_65_code 2 (some .int) :: ws) ({ frames := 0, cells := 0, slots := 0, locals := 0 } : Room)) (fun aa_ U => aa_ = #[(.int a), (.int b)] ∧ Z.Warmed39 U.vm ∧ U.heap = h0) (fun _ _ _ _ _ => True) (fun _ U o_ U' => RetG U (Q_mmax Z a b h0 n0) 0 0 U' o_) := by
  refine MetFree.of_bodySF (Jvm.Free.JP.mathPlain rfl (by decide +kernel)) hisR ?_
  intro p e s m args below meth c_ s₁ Bd hml0 hP hK
  obtain ⟨rfl, hZ, hh⟩ := hP
  have hx := Bd.exec
  have hby := Bd.bytes
  have hml : c_.maxLocals = 2 := hml0
  have hown : s.vm.findClass "java/lang/Math" = some m.cls := findClass_of_methodNamed Bd.named
  have hnm := (name_of_methodNamed Bd.named Bd.method).1
  have X0 : Stand p l e ({ frames := 0, cells := 0, slots := 0, locals := 0 } : Room) s m #[(.int a), (.int b)] below meth c_ s₁ [] 0 0 := Stand.of_body Bd
  have e0 : s₁.heap = h0 := by rw [← hh, Bd.state]; rfl
  have N0 := Fr.nil n0
  show Go p e below (RetG s (Q_mmax Z a b h0 n0) 0 0) (s₁.setTop (entryFrame m #[(.int a), (.int b)] 2))
  rw [show entryFrame m #[(.int a), (.int b)] 2 = mkF m 0 #[.val (.int a), .val (.int b)] [] from by first | (simp [entryFrame, mkF, argsToLocals, Value.category]; done) | rfl]
  refine g_iloadN X0 hx hby d27_0 rfl ?_
  refine g_iloadN X0 hx hby d27_1 rfl ?_
  by_cases hc2_1 : a < b
  · skip
    refine g_icY X0 hx hby 9 d27_2 (tlt hc2_1).1 (by decide) (by decide) ?_
    refine g_iloadN X0 hx hby d27_9 rfl ?_
    refine g_iret X0 hx hby Bd.returns Bd.notSynchronized d27_10 e0 (by decide) (by decide) ?_
    show (Q_mmax Z a b h0 n0) (some (.int b)) _ _
    exact ⟨by simp [own_max, hc2_1], N0, rfl⟩
  · skip
    refine g_icN X0 hx hby d27_2 (flt hc2_1).1 ?_
    refine g_iloadN X0 hx hby d27_5 rfl ?_
    refine g_goto X0 hx hby 10 d27_6 (by decide) (by decide) ?_
    refine g_iret X0 hx hby Bd.returns Bd.notSynchronized d27_10 e0 (by decide) (by decide) ?_
    show (Q_mmax Z a b h0 n0) (some (.int a)) _ _
    exact ⟨by simp [own_max, hc2_1], N0, rfl⟩

theorem d29_0 : decode jdk_29_method_69_code 0 = .ok (.iload_n 0, 1) := by decide +kernel
theorem d29_1 : decode jdk_29_method_69_code 1 = .ok (.iload_n 1, 1) := by decide +kernel
theorem d29_2 : decode jdk_29_method_69_code 2 = .ok (.if_icmp .gt 7, 3) := by decide +kernel
theorem d29_5 : decode jdk_29_method_69_code 5 = .ok (.iload_n 0, 1) := by decide +kernel
theorem d29_6 : decode jdk_29_method_69_code 6 = .ok (.goto 4, 3) := by decide +kernel
theorem d29_10 : decode jdk_29_method_69_code 10 = .ok (.ireturn, 1) := by decide +kernel
def Q_mmin (Z : State) (a : Int32) (b : Int32) (h0 : Heap) (n0 : Nat) (v : Option Value) (h : Heap) (L : List Loc) : Prop := v = some (.int a) ∧ Fr n0 L ∧ h = h0
set_option maxRecDepth 65536 in
set_option maxHeartbeats 40000000 in
theorem rm_mmin (l : Launch) (Z : State) (a0 : Array Value) (hw : ∀ d ∈ tables_1, d.before a0 Z = true) (ws : List Jvm.Cond) (a : Int32) (b : Int32) (h0 : Heap) (n0 : Nat) (Z0 : n0 ≤ h0.size) (hab : ¬ b < a) :
    MetFree l (⟨"java/lang/Math", "min", "(II)I"⟩ : MethodName) (head1 (Jvm.Cond.code (⟨"java/lang/Math", "min", "(II)I"⟩ : MethodName) jdk_29_method_69_code 2 (some .int) :: ws) ({ frames := 0, cells := 0, slots := 0, locals := 0 } : Room)) (fun aa_ U => aa_ = #[(.int a), (.int b)] ∧ Z.Warmed39 U.vm ∧ U.heap = h0) (fun _ _ _ _ _ => True) (fun _ U o_ U' => RetG U (Q_mmin Z a b h0 n0) 0 0 U' o_) := by
  refine MetFree.of_bodySF (Jvm.Free.JP.mathPlain rfl (by decide +kernel)) hisR ?_
  intro p e s m args below meth c_ s₁ Bd hml0 hP hK
  obtain ⟨rfl, hZ, hh⟩ := hP
  have hx := Bd.exec
  have hby := Bd.bytes
  have hml : c_.maxLocals = 2 := hml0
  have hown : s.vm.findClass "java/lang/Math" = some m.cls := findClass_of_methodNamed Bd.named
  have hnm := (name_of_methodNamed Bd.named Bd.method).1
  have X0 : Stand p l e ({ frames := 0, cells := 0, slots := 0, locals := 0 } : Room) s m #[(.int a), (.int b)] below meth c_ s₁ [] 0 0 := Stand.of_body Bd
  have e0 : s₁.heap = h0 := by rw [← hh, Bd.state]; rfl
  have N0 := Fr.nil n0
  show Go p e below (RetG s (Q_mmin Z a b h0 n0) 0 0) (s₁.setTop (entryFrame m #[(.int a), (.int b)] 2))
  rw [show entryFrame m #[(.int a), (.int b)] 2 = mkF m 0 #[.val (.int a), .val (.int b)] [] from by first | (simp [entryFrame, mkF, argsToLocals, Value.category]; done) | rfl]
  refine g_iloadN X0 hx hby d29_0 rfl ?_
  refine g_iloadN X0 hx hby d29_1 rfl ?_
  refine g_icN X0 hx hby d29_2 (flt (hab : ¬ (b < a))).2.2.1 ?_
  refine g_iloadN X0 hx hby d29_5 rfl ?_
  refine g_goto X0 hx hby 10 d29_6 (by decide) (by decide) ?_
  refine g_iret X0 hx hby Bd.returns Bd.notSynchronized d29_10 e0 (by decide) (by decide) ?_
  show (Q_mmin Z a b h0 n0) (some (.int a)) _ _
  exact ⟨rfl, N0, rfl⟩

theorem d31_0 : decode method_5_code 0 = .ok (.iload_n 1, 1) := by decide +kernel
theorem d31_1 : decode method_5_code 1 = .ok (.iload_n 0, 1) := by decide +kernel
theorem d31_2 : decode method_5_code 2 = .ok (.if_icmp .le 11, 3) := by decide +kernel
theorem d31_5 : decode method_5_code 5 = .ok (.iconst 2, 1) := by decide +kernel
theorem d31_6 : decode method_5_code 6 = .ok (.iload_n 0, 1) := by decide +kernel
theorem d31_7 : decode method_5_code 7 = .ok (.imul, 1) := by decide +kernel
theorem d31_8 : decode method_5_code 8 = .ok (.iload_n 1, 1) := by decide +kernel
theorem d31_9 : decode method_5_code 9 = .ok (.invokestatic 52, 3) := by decide +kernel
theorem own_pd0 : parseMethodDescriptor "(II)I" = some ⟨[.int, .int], some .int⟩ := by decide +kernel
theorem d31_12 : decode method_5_code 12 = .ok (.ireturn, 1) := by decide +kernel
theorem d31_13 : decode method_5_code 13 = .ok (.iload_n 0, 1) := by decide +kernel
theorem d31_14 : decode method_5_code 14 = .ok (.ireturn, 1) := by decide +kernel
def Q_growf (Z : State) (cap : Int32) (en : Int32) (h0 : Heap) (n0 : Nat) (v : Option Value) (h : Heap) (L : List Loc) : Prop := v = some (.int (own_grow cap en)) ∧ Fr n0 L ∧ h = h0
set_option maxRecDepth 65536 in
set_option maxHeartbeats 40000000 in
theorem rm_growf (l : Launch) (Z : State) (a0 : Array Value) (hw : ∀ d ∈ tables_1, d.before a0 Z = true) (ws : List Jvm.Cond) (cap : Int32) (en : Int32) (h0 : Heap) (n0 : Nat) (Z0 : n0 ≤ h0.size) :
    MetFree l (⟨"com/example/invix/invix/sort/KeyBufferMemoryPinLaw", "grow", "(II)I"⟩ : MethodName) (head1 (Jvm.Cond.code (⟨"com/example/invix/invix/sort/KeyBufferMemoryPinLaw", "grow", "(II)I"⟩ : MethodName) method_5_code 2 (some .int) :: ws) ({ frames := 1, cells := 0, slots := 0, locals := 13 } : Room)) (fun aa_ U => aa_ = #[(.int cap), (.int en)] ∧ Z.Warmed39 U.vm ∧ U.heap = h0) (fun _ _ _ _ _ => True) (fun _ U o_ U' => RetG U (Q_growf Z cap en h0 n0) 0 0 U' o_) := by
  refine MetFree.of_bodySF (plainFor_of_name own_pn0) hisR ?_
  intro p e s m args below meth c_ s₁ Bd hml0 hP hK
  obtain ⟨rfl, hZ, hh⟩ := hP
  have hx := Bd.exec
  have hby := Bd.bytes
  have hml : c_.maxLocals = 2 := hml0
  have hown : s.vm.findClass "com/example/invix/invix/sort/KeyBufferMemoryPinLaw" = some m.cls := findClass_of_methodNamed Bd.named
  have hnm := (name_of_methodNamed Bd.named Bd.method).1
  have X0 : Stand p l e ({ frames := 1, cells := 0, slots := 0, locals := 13 } : Room) s m #[(.int cap), (.int en)] below meth c_ s₁ [] 0 0 := Stand.of_body Bd
  have e0 : s₁.heap = h0 := by rw [← hh, Bd.state]; rfl
  have N0 := Fr.nil n0
  have w128_ := hw _ (List.mem_of_getElem? (i := 128) rfl)
  have w129_ := hw _ (List.mem_of_getElem? (i := 129) rfl)
  have w130_ := hw _ (List.mem_of_getElem? (i := 130) rfl)
  have w149_ := hw _ (List.mem_of_getElem? (i := 149) rfl)
  show Go p e below (RetG s (Q_growf Z cap en h0 n0) 0 0) (s₁.setTop (entryFrame m #[(.int cap), (.int en)] 2))
  rw [show entryFrame m #[(.int cap), (.int en)] 2 = mkF m 0 #[.val (.int cap), .val (.int en)] [] from by first | (simp [entryFrame, mkF, argsToLocals, Value.category]; done) | rfl]
  refine g_iloadN X0 hx hby d31_0 rfl ?_
  refine g_iloadN X0 hx hby d31_1 rfl ?_
  by_cases hc2_1 : cap < en
  · skip
    refine g_icN X0 hx hby d31_2 (tlt hc2_1).2.2.2 ?_
    refine g_iconst X0 hx hby (2 : Int32) d31_5 rfl ?_
    refine g_iloadN X0 hx hby d31_6 rfl ?_
    refine g_imul X0 hx hby d31_7 ?_
    refine g_iloadN X0 hx hby d31_8 rfl ?_
    refine g_static X0 hx hby hZ hown (rm_mmax l Z a0 hw [] ((2 : Int32) * cap) en h0 n0 Z0 ) w149_ w128_ w129_ w130_ (by decide) e0 (by rw [hml]; rfl) [(.int ((2 : Int32) * cap)), (.int en)] (lenOf own_pd0 rfl) rfl rfl (Nat.le_of_ble_eq_true rfl) (Nat.le_of_ble_eq_true rfl) (Nat.le_of_ble_eq_true rfl) (Nat.le_of_ble_eq_true rfl) d31_9 (fun v2 T2 L2 X2 hQ2 => ?_)
    obtain ⟨rfl, N2q, eh2⟩ := hQ2
    have N2 := Fr.app N0 N2q
    refine g_iret X2 hx hby Bd.returns Bd.notSynchronized d31_12 eh2 (by decide) (by decide) ?_
    show (Q_growf Z cap en h0 n0) (some (.int (own_max ((2 : Int32) * cap) en))) _ _
    exact ⟨by simp [own_grow, hc2_1], N2, rfl⟩
  · skip
    refine g_icY X0 hx hby 13 d31_2 (flt hc2_1).2.2.2 (by decide) (by decide) ?_
    refine g_iloadN X0 hx hby d31_13 rfl ?_
    refine g_iret X0 hx hby Bd.returns Bd.notSynchronized d31_14 e0 (by decide) (by decide) ?_
    show (Q_growf Z cap en h0 n0) (some (.int cap)) _ _
    exact ⟨by simp [own_grow, hc2_1], N0, rfl⟩

theorem d2_0 : decode jdk_43_method_3_code 0 = .ok (.iload_n 0, 1) := by decide +kernel
theorem d2_1 : decode jdk_43_method_3_code 1 = .ok (.sipush 255, 3) := by decide +kernel
theorem d2_4 : decode jdk_43_method_3_code 4 = .ok (.if_icmp .gt 7, 3) := by decide +kernel
theorem d2_7 : decode jdk_43_method_3_code 7 = .ok (.iconst 1, 1) := by decide +kernel
theorem d2_8 : decode jdk_43_method_3_code 8 = .ok (.goto 4, 3) := by decide +kernel
theorem d2_12 : decode jdk_43_method_3_code 12 = .ok (.ireturn, 1) := by decide +kernel
theorem own_pn1 : plainName "java/lang/StringLatin1" = true := by first | (simp [plainName, overriddenIn]; done) | decide +kernel
def Q_canenc (Z : State) (c : Int32) (h0 : Heap) (n0 : Nat) (v : Option Value) (h : Heap) (L : List Loc) : Prop := v = some (.int (1 : Int32)) ∧ Fr n0 L ∧ h = h0
set_option maxRecDepth 65536 in
set_option maxHeartbeats 40000000 in
theorem rm_canenc (l : Launch) (Z : State) (a0 : Array Value) (hw : ∀ d ∈ tables_1, d.before a0 Z = true) (ws : List Jvm.Cond) (c : Int32) (h0 : Heap) (n0 : Nat) (Z0 : n0 ≤ h0.size) (hc : ¬ (255 : Int32) < c) :
    MetFree l (⟨"java/lang/StringLatin1", "canEncode", "(C)Z"⟩ : MethodName) (head1 (Jvm.Cond.code (⟨"java/lang/StringLatin1", "canEncode", "(C)Z"⟩ : MethodName) jdk_43_method_3_code 1 (some .boolean) :: ws) ({ frames := 0, cells := 0, slots := 0, locals := 0 } : Room)) (fun aa_ U => aa_ = #[(.int c)] ∧ Z.Warmed39 U.vm ∧ U.heap = h0) (fun _ _ _ _ _ => True) (fun _ U o_ U' => RetG U (Q_canenc Z c h0 n0) 0 0 U' o_) := by
  refine MetFree.of_bodySF (plainFor_of_name own_pn1) hisR ?_
  intro p e s m args below meth c_ s₁ Bd hml0 hP hK
  obtain ⟨rfl, hZ, hh⟩ := hP
  have hx := Bd.exec
  have hby := Bd.bytes
  have hml : c_.maxLocals = 1 := hml0
  have hown : s.vm.findClass "java/lang/StringLatin1" = some m.cls := findClass_of_methodNamed Bd.named
  have hnm := (name_of_methodNamed Bd.named Bd.method).1
  have X0 : Stand p l e ({ frames := 0, cells := 0, slots := 0, locals := 0 } : Room) s m #[(.int c)] below meth c_ s₁ [] 0 0 := Stand.of_body Bd
  have e0 : s₁.heap = h0 := by rw [← hh, Bd.state]; rfl
  have N0 := Fr.nil n0
  show Go p e below (RetG s (Q_canenc Z c h0 n0) 0 0) (s₁.setTop (entryFrame m #[(.int c)] 1))
  rw [show entryFrame m #[(.int c)] 1 = mkF m 0 #[.val (.int c)] [] from by first | (simp [entryFrame, mkF, argsToLocals, Value.category]; done) | rfl]
  refine g_iloadN X0 hx hby d2_0 rfl ?_
  refine g_sipush X0 hx hby (255 : Int32) d2_1 rfl ?_
  refine g_icN X0 hx hby d2_4 (flt (hc : ¬ ((255 : Int32) < c))).2.2.1 ?_
  refine g_iconst X0 hx hby (1 : Int32) d2_7 rfl ?_
  refine g_goto X0 hx hby 12 d2_8 (by decide) (by decide) ?_
  refine g_nret X0 hx hby (t := .boolean) (by simp) Bd.returns Bd.notSynchronized d2_12 e0 (by decide) (by decide) ?_
  show (Q_canenc Z c h0 n0) (some (.int (1 : Int32))) _ _
  exact ⟨rfl, N0, rfl⟩

theorem d3_0 : decode jdk_43_method_46_code 0 = .ok (.iconst 1, 1) := by decide +kernel
theorem d3_1 : decode jdk_43_method_46_code 1 = .ok (.newarray .byte, 2) := by decide +kernel
theorem d3_3 : decode jdk_43_method_46_code 3 = .ok (.dup, 1) := by decide +kernel
theorem d3_4 : decode jdk_43_method_46_code 4 = .ok (.iconst 0, 1) := by decide +kernel
theorem d3_5 : decode jdk_43_method_46_code 5 = .ok (.iload_n 0, 1) := by decide +kernel
theorem d3_6 : decode jdk_43_method_46_code 6 = .ok (.i2b, 1) := by decide +kernel
theorem d3_7 : decode jdk_43_method_46_code 7 = .ok (.bastore, 1) := by decide +kernel
theorem d3_8 : decode jdk_43_method_46_code 8 = .ok (.areturn, 1) := by decide +kernel
def Q_tobytes (Z : State) (c : Int32) (h0 : Heap) (n0 : Nat) (v : Option Value) (h : Heap) (L : List Loc) : Prop := Fr n0 L ∧ Keep h0 h [] ∧ ∃ (b : Addr) (kb : ClassId), v = some (.ref b) ∧ h0.size ≤ b ∧ Arv Z h b kb .byte (1 : Int32) [(.int (nar .byte (c.toInt8.toInt32)))] (.int (0 : Int32))
set_option maxRecDepth 65536 in
set_option maxHeartbeats 40000000 in
theorem rm_tobytes (l : Launch) (Z : State) (a0 : Array Value) (hw : ∀ d ∈ tables_1, d.before a0 Z = true) (ws : List Jvm.Cond) (c : Int32) (h0 : Heap) (n0 : Nat) (Z0 : n0 ≤ h0.size) :
    MetFree l (⟨"java/lang/StringLatin1", "toBytes", "(C)[B"⟩ : MethodName) (head1 (Jvm.Cond.code (⟨"java/lang/StringLatin1", "toBytes", "(C)[B"⟩ : MethodName) jdk_43_method_46_code 1 (some (.array .byte)) :: ws) ({ frames := 0, cells := 1, slots := 1, locals := 0 } : Room)) (fun aa_ U => aa_ = #[(.int c)] ∧ Z.Warmed39 U.vm ∧ U.heap = h0) (fun _ _ _ _ _ => True) (fun _ U o_ U' => RetG U (Q_tobytes Z c h0 n0) 1 1 U' o_) := by
  refine MetFree.of_bodySF (plainFor_of_name own_pn1) hisR ?_
  intro p e s m args below meth c_ s₁ Bd hml0 hP hK
  obtain ⟨rfl, hZ, hh⟩ := hP
  have hx := Bd.exec
  have hby := Bd.bytes
  have hml : c_.maxLocals = 1 := hml0
  have hown : s.vm.findClass "java/lang/StringLatin1" = some m.cls := findClass_of_methodNamed Bd.named
  have hnm := (name_of_methodNamed Bd.named Bd.method).1
  have X0 : Stand p l e ({ frames := 0, cells := 1, slots := 1, locals := 0 } : Room) s m #[(.int c)] below meth c_ s₁ [] 0 0 := Stand.of_body Bd
  have e0 : s₁.heap = h0 := by rw [← hh, Bd.state]; rfl
  have N0 := Fr.nil n0
  have w3_ := hw _ (List.mem_of_getElem? (i := 3) rfl)
  show Go p e below (RetG s (Q_tobytes Z c h0 n0) 1 1) (s₁.setTop (entryFrame m #[(.int c)] 1))
  rw [show entryFrame m #[(.int c)] 1 = mkF m 0 #[.val (.int c)] [] from by first | (simp [entryFrame, mkF, argsToLocals, Value.category]; done) | rfl]
  refine g_iconst X0 hx hby (1 : Int32) d3_0 rfl ?_
  refine g_newarray X0 hx hby hZ .byte .byte (.int (0 : Int32)) [(.int (0 : Int32))] rfl rfl w3_ e0 (by decide) 1 rfl (by decide) (by decide) (by decide) (by decide) d3_1 (fun T1 h1 k1 b1 g1 X1 e1 E1 V1 => ?_)
  refine g_dup X1 hx hby d3_3 rfl ?_
  refine g_iconst X1 hx hby (0 : Int32) d3_4 rfl ?_
  refine g_iloadN X1 hx hby d3_5 rfl ?_
  refine g_i2b X1 hx hby d3_6 ?_
  have g_b1 : n0 ≤ b1 := Nat.le_trans Z0 (Nat.le_of_eq g1)
  refine g_bastore X1 hx hby hZ e1 V1 0 [(.int (nar .byte (c.toInt8.toInt32)))] rfl ⟨by decide, by decide⟩ rfl (Nat.le_of_ble_eq_true rfl) N0 g_b1 d3_7 (fun T2 h2 X2 e2 W2 V2 N2 => ?_)
  refine g_aret X2 hx hby (t := (.array .byte)) rfl rfl rfl Bd.returns Bd.notSynchronized d3_8 e2 (by decide) (by decide) ?_
  show (Q_tobytes Z c h0 n0) (some (.ref b1)) _ _
  exact ⟨N2, (((Keep.refl h0 []).ext E1).wr W2 (Or.inr (Nat.le_trans (Nat.le_refl _) (Nat.le_of_eq g1)))), b1, k1, rfl, (Nat.le_trans (Nat.le_refl _) (Nat.le_of_eq g1)), V2⟩

theorem d4_0 : decode jdk_42_method_151_code 0 = .ok (.aload_n 0, 1) := by decide +kernel
theorem d4_1 : decode jdk_42_method_151_code 1 = .ok (.invokespecial 1, 3) := by decide +kernel
theorem d4_4 : decode jdk_42_method_151_code 4 = .ok (.aload_n 0, 1) := by decide +kernel
theorem d4_5 : decode jdk_42_method_151_code 5 = .ok (.aload_n 1, 1) := by decide +kernel
theorem d4_6 : decode jdk_42_method_151_code 6 = .ok (.putfield 9, 3) := by decide +kernel
theorem d4_9 : decode jdk_42_method_151_code 9 = .ok (.aload_n 0, 1) := by decide +kernel
theorem d4_10 : decode jdk_42_method_151_code 10 = .ok (.iload_n 2, 1) := by decide +kernel
theorem d4_11 : decode jdk_42_method_151_code 11 = .ok (.putfield 15, 3) := by decide +kernel
theorem d4_14 : decode jdk_42_method_151_code 14 = .ok (.return_, 1) := by decide +kernel
theorem own_pn2 : plainName "java/lang/String" = true := by first | (simp [plainName, overriddenIn]; done) | decide +kernel
def Q_initBB (Z : State) (a : Addr) (b : Addr) (cd : Int32) (h0 : Heap) (n0 : Nat) (v : Option Value) (h : Heap) (L : List Loc) : Prop := v = none ∧ Fr n0 L ∧ Keep h0 h [a] ∧ Exa Z h a "java/lang/String" ∧ Fld Z h a "java/lang/String" "coder" "B" (.int (nar .byte cd)) ∧ Fld Z h a "java/lang/String" "value" "[B" (.ref b)
set_option maxRecDepth 65536 in
set_option maxHeartbeats 40000000 in
theorem rm_initBB (l : Launch) (Z : State) (a0 : Array Value) (hw : ∀ d ∈ tables_1, d.before a0 Z = true) (ws : List Jvm.Cond) (a : Addr) (b : Addr) (cd : Int32) (h0 : Heap) (n0 : Nat) (Z0 : n0 ≤ h0.size) (E : Exa Z h0 a "java/lang/String") (FC : Fld Z h0 a "java/lang/String" "coder" "B" (.int (0 : Int32))) (FV : Fld Z h0 a "java/lang/String" "value" "[B" .null) (ga : n0 ≤ a) :
    MetFree l (⟨"java/lang/String", "<init>", "([BB)V"⟩ : MethodName) (head1 (Jvm.Cond.code (⟨"java/lang/String", "<init>", "([BB)V"⟩ : MethodName) jdk_42_method_151_code 3 none :: ws) ({ frames := 1, cells := 0, slots := 0, locals := 12 } : Room)) (fun aa_ U => aa_ = #[(.ref a), (.ref b), (.int cd)] ∧ Z.Warmed39 U.vm ∧ U.heap = h0) (fun _ _ _ _ _ => True) (fun _ U o_ U' => RetG U (Q_initBB Z a b cd h0 n0) 0 0 U' o_) := by
  refine MetFree.of_bodySF (plainFor_of_name own_pn2) hisR ?_
  intro p e s m args below meth c_ s₁ Bd hml0 hP hK
  obtain ⟨rfl, hZ, hh⟩ := hP
  have hx := Bd.exec
  have hby := Bd.bytes
  have hml : c_.maxLocals = 3 := hml0
  have hown : s.vm.findClass "java/lang/String" = some m.cls := findClass_of_methodNamed Bd.named
  have hnm := (name_of_methodNamed Bd.named Bd.method).1
  have X0 : Stand p l e ({ frames := 1, cells := 0, slots := 0, locals := 12 } : Room) s m #[(.ref a), (.ref b), (.int cd)] below meth c_ s₁ [] 0 0 := Stand.of_body Bd
  have e0 : s₁.heap = h0 := by rw [← hh, Bd.state]; rfl
  have N0 := Fr.nil n0
  have w2_ := hw _ (List.mem_of_getElem? (i := 2) rfl)
  have w4_ := hw _ (List.mem_of_getElem? (i := 4) rfl)
  have w5_ := hw _ (List.mem_of_getElem? (i := 5) rfl)
  have w24_ := hw _ (List.mem_of_getElem? (i := 24) rfl)
  have w25_ := hw _ (List.mem_of_getElem? (i := 25) rfl)
  have w26_ := hw _ (List.mem_of_getElem? (i := 26) rfl)
  have w27_ := hw _ (List.mem_of_getElem? (i := 27) rfl)
  have w28_ := hw _ (List.mem_of_getElem? (i := 28) rfl)
  show Go p e below (RetG s (Q_initBB Z a b cd h0 n0) 0 0) (s₁.setTop (entryFrame m #[(.ref a), (.ref b), (.int cd)] 3))
  rw [show entryFrame m #[(.ref a), (.ref b), (.int cd)] 3 = mkF m 0 #[.val (.ref a), .val (.ref b), .val (.int cd)] [] from by first | (simp [entryFrame, mkF, argsToLocals, Value.category]; done) | rfl]
  refine g_aloadN X0 hx hby d4_0 rfl rfl ?_
  refine g_initO X0 hx hby hZ hown w24_ w25_ w26_ e0 (by rw [hml]; rfl) (Nat.le_of_ble_eq_true rfl) (Nat.le_of_ble_eq_true rfl) d4_1 (fun T1 X1 e1 => ?_)
  refine g_aloadN X1 hx hby d4_4 rfl rfl ?_
  refine g_aloadN X1 hx hby d4_5 rfl rfl ?_
  refine g_putF X1 hx hby hZ hown (host := "") (Or.inl w27_) Via.refl e1 FV E (Or.inr ⟨w4_, rfl, hnm⟩) w2_ (.array .byte) (by decide) rfl rfl N0 ga d4_6 (fun T2 h2 X2 e2 W2 F2 N2 => ?_)
  refine g_aloadN X2 hx hby d4_9 rfl rfl ?_
  refine g_iloadN X2 hx hby d4_10 rfl ?_
  have f3 := (E.wr W2)
  have f4 := (FC.other W2 (Or.inr (slot_ne (Or.inr w5_) (Or.inr w4_) (by decide) (t := .byte) (t' := (.array .byte)) (by decide) (by decide))))
  refine g_putFN X2 hx hby hZ hown w28_ Via.refl e2 f4 f3 (Or.inr ⟨w5_, rfl, hnm⟩) w2_ .byte (by decide) (.int (nar .byte cd)) rfl (fits_nar_byte _) N2 ga d4_11 (fun T5 h5 X5 e5 W5 F5 N5 => ?_)
  have f6 := (f3.wr W5)
  have f7 := (F2.other W5 (Or.inr (slot_ne (Or.inr w4_) (Or.inr w5_) (by decide) (t := (.array .byte)) (t' := .byte) (by decide) (by decide))))
  refine g_ret X5 hx hby Bd.returns Bd.notSynchronized d4_14 e5 (by decide) (by decide) ?_
  show (Q_initBB Z a b cd h0 n0) none _ _
  exact ⟨rfl, N5, (((Keep.refl h0 [a]).wr W2 (Or.inl (List.mem_of_getElem? (i := 0) rfl))).wr W5 (Or.inl (List.mem_of_getElem? (i := 0) rfl))), f6, F5, f7⟩

theorem d1_0 : decode jdk_42_method_139_code 0 = .ok (.getstatic 38, 3) := by decide +kernel
theorem d1_3 : decode jdk_42_method_139_code 3 = .ok (.ifCond .eq 23, 3) := by decide +kernel
theorem d1_6 : decode jdk_42_method_139_code 6 = .ok (.iload_n 0, 1) := by decide +kernel
theorem d1_7 : decode jdk_42_method_139_code 7 = .ok (.invokestatic 1015, 3) := by decide +kernel
theorem own_pd1 : parseMethodDescriptor "(C)Z" = some ⟨[.char], some .boolean⟩ := by decide +kernel
theorem d1_10 : decode jdk_42_method_139_code 10 = .ok (.ifCond .eq 16, 3) := by decide +kernel
theorem d1_13 : decode jdk_42_method_139_code 13 = .ok (.new 10, 3) := by decide +kernel
theorem d1_16 : decode jdk_42_method_139_code 16 = .ok (.dup, 1) := by decide +kernel
theorem d1_17 : decode jdk_42_method_139_code 17 = .ok (.iload_n 0, 1) := by decide +kernel
theorem d1_18 : decode jdk_42_method_139_code 18 = .ok (.invokestatic 1018, 3) := by decide +kernel
theorem own_pd2 : parseMethodDescriptor "(C)[B" = some ⟨[.char], some (.array .byte)⟩ := by decide +kernel
theorem d1_21 : decode jdk_42_method_139_code 21 = .ok (.iconst 0, 1) := by decide +kernel
theorem d1_22 : decode jdk_42_method_139_code 22 = .ok (.invokespecial 209, 3) := by decide +kernel
theorem own_pd3 : parseMethodDescriptor "([BB)V" = some ⟨[(.array .byte), .byte], none⟩ := by decide +kernel
theorem d1_25 : decode jdk_42_method_139_code 25 = .ok (.areturn, 1) := by decide +kernel
def Q_valueof (Z : State) (c : Int32) (cz : Int32) (h0 : Heap) (n0 : Nat) (v : Option Value) (h : Heap) (L : List Loc) : Prop := Fr n0 L ∧ Keep h0 h [] ∧ ∃ (a b : Addr) (kb : ClassId), v = some (.ref a) ∧ h0.size ≤ a ∧ h0.size ≤ b ∧ Exa Z h a "java/lang/String" ∧ Fld Z h a "java/lang/String" "coder" "B" (.int (0 : Int32)) ∧ Fld Z h a "java/lang/String" "value" "[B" (.ref b) ∧ Arv Z h b kb .byte (1 : Int32) [(.int (nar .byte (c.toInt8.toInt32)))] (.int (0 : Int32))
set_option maxRecDepth 65536 in
set_option maxHeartbeats 40000000 in
theorem rm_valueof (l : Launch) (Z : State) (a0 : Array Value) (hw : ∀ d ∈ tables_1, d.before a0 Z = true) (ws : List Jvm.Cond) (c : Int32) (cz : Int32) (h0 : Heap) (n0 : Nat) (Z0 : n0 ≤ h0.size) (O2 : Sta Z Z.heap "java/lang/String" "COMPACT_STRINGS" "Z" (.int cz)) (P5 : ¬ cz = (0 : Int32)) (OLD : Old Z n0 h0) (hc : ¬ (255 : Int32) < c) :
    MetFree l (⟨"java/lang/String", "valueOf", "(C)Ljava/lang/String;"⟩ : MethodName) (head1 (Jvm.Cond.code (⟨"java/lang/String", "valueOf", "(C)Ljava/lang/String;"⟩ : MethodName) jdk_42_method_139_code 1 (some (.object "java/lang/String")) :: ws) ({ frames := 2, cells := 2, slots := 5, locals := 27 } : Room)) (fun aa_ U => aa_ = #[(.int c)] ∧ Z.Warmed39 U.vm ∧ U.heap = h0) (fun _ _ _ _ _ => True) (fun _ U o_ U' => RetG U (Q_valueof Z c cz h0 n0) 2 5 U' o_) := by
  refine MetFree.of_bodySF (plainFor_of_name own_pn2) hisR ?_
  intro p e s m args below meth c_ s₁ Bd hml0 hP hK
  obtain ⟨rfl, hZ, hh⟩ := hP
  have hx := Bd.exec
  have hby := Bd.bytes
  have hml : c_.maxLocals = 1 := hml0
  have hown : s.vm.findClass "java/lang/String" = some m.cls := findClass_of_methodNamed Bd.named
  have hnm := (name_of_methodNamed Bd.named Bd.method).1
  have X0 : Stand p l e ({ frames := 2, cells := 2, slots := 5, locals := 27 } : Room) s m #[(.int c)] below meth c_ s₁ [] 0 0 := Stand.of_body Bd
  have e0 : s₁.heap = h0 := by rw [← hh, Bd.state]; rfl
  have N0 := Fr.nil n0
  have w1_ := hw _ (List.mem_of_getElem? (i := 1) rfl)
  have w2_ := hw _ (List.mem_of_getElem? (i := 2) rfl)
  have w4_ := hw _ (List.mem_of_getElem? (i := 4) rfl)
  have w5_ := hw _ (List.mem_of_getElem? (i := 5) rfl)
  have w11_ := hw _ (List.mem_of_getElem? (i := 11) rfl)
  have w12_ := hw _ (List.mem_of_getElem? (i := 12) rfl)
  have w13_ := hw _ (List.mem_of_getElem? (i := 13) rfl)
  have w14_ := hw _ (List.mem_of_getElem? (i := 14) rfl)
  have w15_ := hw _ (List.mem_of_getElem? (i := 15) rfl)
  have w16_ := hw _ (List.mem_of_getElem? (i := 16) rfl)
  have w17_ := hw _ (List.mem_of_getElem? (i := 17) rfl)
  have w18_ := hw _ (List.mem_of_getElem? (i := 18) rfl)
  have w19_ := hw _ (List.mem_of_getElem? (i := 19) rfl)
  have w20_ := hw _ (List.mem_of_getElem? (i := 20) rfl)
  have w21_ := hw _ (List.mem_of_getElem? (i := 21) rfl)
  have w23_ := hw _ (List.mem_of_getElem? (i := 23) rfl)
  show Go p e below (RetG s (Q_valueof Z c cz h0 n0) 2 5) (s₁.setTop (entryFrame m #[(.int c)] 1))
  rw [show entryFrame m #[(.int c)] 1 = mkF m 0 #[.val (.int c)] [] from by first | (simp [entryFrame, mkF, argsToLocals, Value.category]; done) | rfl]
  refine g_getS X0 hx hby hZ hown (host := "") (Or.inl w11_) Via.refl e0 (O2.ext OLD.2) d1_0 (fun T1 X1 e1 => ?_)
  refine g_ifN X1 hx hby d1_3 (feq (P5 : ¬ (cz = (0 : Int32)))).1 ?_
  refine g_iloadN X1 hx hby d1_6 rfl ?_
  refine g_static X1 hx hby hZ hown (rm_canenc l Z a0 hw [] c h0 n0 Z0 hc) w12_ w13_ w14_ w15_ (by decide) e1 (by rw [hml]; rfl) [(.int c)] (lenOf own_pd1 rfl) rfl rfl (Nat.le_of_ble_eq_true rfl) (Nat.le_of_ble_eq_true rfl) (Nat.le_of_ble_eq_true rfl) (Nat.le_of_ble_eq_true rfl) d1_7 (fun v2 T2 L2 X2 hQ2 => ?_)
  obtain ⟨rfl, N2q, eh2⟩ := hQ2
  have N2 := Fr.app N0 N2q
  refine g_ifN X2 hx hby d1_10 (feq (by decide : ¬ ((1 : Int32) = (0 : Int32)))).1 ?_
  refine g_new X2 hx hby hZ hown w16_ w2_ w1_ eh2 (by decide) (by decide) d1_13 (fun T3 h3 b3 g3 X3 e3 E3 A3 D3 => ?_)
  have F_value_b3 : Fld Z h3 b3 "java/lang/String" "value" "[B" .null := D3 (Or.inr w4_) (ty := (.array .byte)) (by decide)
  have F_coder_b3 : Fld Z h3 b3 "java/lang/String" "coder" "B" (.int (0 : Int32)) := D3 (Or.inr w5_) (ty := .byte) (by decide)
  refine g_dup X3 hx hby d1_16 rfl ?_
  refine g_iloadN X3 hx hby d1_17 rfl ?_
  have z5 := (Nat.le_trans Z0 E3.1)
  refine g_static X3 hx hby hZ hown (rm_tobytes l Z a0 hw [] c h3 n0 z5 ) w17_ w18_ w14_ w19_ (by decide) e3 (by rw [hml]; rfl) [(.int c)] (lenOf own_pd2 rfl) rfl rfl (Nat.le_of_ble_eq_true rfl) (Nat.le_of_ble_eq_true rfl) (Nat.le_of_ble_eq_true rfl) (Nat.le_of_ble_eq_true rfl) d1_18 (fun v4 T4 L4 X4 hQ4 => ?_)
  obtain ⟨N4q, K4, bb, kb, rfl, lob, Vb⟩ := hQ4
  have N4 := Fr.app N2 N4q
  refine g_iconst X4 hx hby (0 : Int32) d1_21 rfl ?_
  have f7 := (A3.keep K4)
  have f8 := (F_coder_b3.keep K4 nin0)
  have f9 := (F_value_b3.keep K4 nin0)
  have g_b3 : n0 ≤ b3 := Nat.le_trans Z0 (Nat.le_of_eq g3)
  have z10 := (Nat.le_trans z5 K4.1)
  refine g_special X4 hx hby hZ hown (rm_initBB l Z a0 hw [] b3 bb (0 : Int32) T4.heap n0 z10 f7 f8 f9 g_b3) rfl rfl w20_ w21_ w1_ w23_ (by decide) rfl (by rw [hml]; rfl) [(.ref bb), (.int (0 : Int32))] (lenOf own_pd3 rfl) rfl rfl (Nat.le_of_ble_eq_true rfl) (Nat.le_of_ble_eq_true rfl) (Nat.le_of_ble_eq_true rfl) (Nat.le_of_ble_eq_true rfl) d1_22 (fun v6 T6 L6 X6 hQ6 => ?_)
  obtain ⟨rfl, N6q, K6, Es6, Cs6, Vs6⟩ := hQ6
  have N6 := Fr.app N4 N6q
  have ne11 : bb ≠ b3 := (Ne.symm (Nat.ne_of_lt (Nat.lt_of_lt_of_le A3.lt lob)))
  have f12 := (Vb.keep K6 (ninS ne11 nin0))
  refine g_aret X6 hx hby (t := (.object "java/lang/String")) rfl rfl rfl Bd.returns Bd.notSynchronized d1_25 rfl (by decide) (by decide) ?_
  show (Q_valueof Z c cz h0 n0) (some (.ref b3)) _ _
  exact ⟨N6, ((((Keep.refl h0 []).ext E3).trans K4 all0).trans K6 (allS (Or.inr (Nat.le_trans (Nat.le_refl _) (Nat.le_of_eq g3))) all0)), b3, bb, kb, rfl, (Nat.le_trans (Nat.le_refl _) (Nat.le_of_eq g3)), (Nat.le_trans E3.1 lob), Es6, Cs6, Vs6, f12⟩

theorem own_pd4 : parseMethodDescriptor "(C)Ljava/lang/String;" = some ⟨[.char], some (.object "java/lang/String")⟩ := by decide +kernel
theorem d9_0 : decode jdk_52_method_21_code 0 = .ok (.iconst 0, 1) := by decide +kernel
theorem d9_1 : decode jdk_52_method_21_code 1 = .ok (.istore 5, 2) := by decide +kernel
theorem d9_3 : decode jdk_52_method_21_code 3 = .ok (.iload 5, 2) := by decide +kernel
theorem d9_5 : decode jdk_52_method_21_code 5 = .ok (.iload 4, 2) := by decide +kernel
theorem d9_7 : decode jdk_52_method_21_code 7 = .ok (.if_icmp .ge 37, 3) := by decide +kernel
theorem d9_44 : decode jdk_52_method_21_code 44 = .ok (.iload 4, 2) := by decide +kernel
theorem d9_46 : decode jdk_52_method_21_code 46 = .ok (.ireturn, 1) := by decide +kernel
theorem d9_10 : decode jdk_52_method_21_code 10 = .ok (.aload_n 0, 1) := by decide +kernel
theorem d9_11 : decode jdk_52_method_21_code 11 = .ok (.iload_n 1, 1) := by decide +kernel
theorem d9_12 : decode jdk_52_method_21_code 12 = .ok (.caload, 1) := by decide +kernel
theorem d9_13 : decode jdk_52_method_21_code 13 = .ok (.istore 6, 2) := by decide +kernel
theorem d9_15 : decode jdk_52_method_21_code 15 = .ok (.iload 6, 2) := by decide +kernel
theorem d9_17 : decode jdk_52_method_21_code 17 = .ok (.sipush 255, 3) := by decide +kernel
theorem d9_20 : decode jdk_52_method_21_code 20 = .ok (.if_icmp .le 6, 3) := by decide +kernel
theorem d9_26 : decode jdk_52_method_21_code 26 = .ok (.aload_n 2, 1) := by decide +kernel
theorem d9_27 : decode jdk_52_method_21_code 27 = .ok (.iload_n 3, 1) := by decide +kernel
theorem d9_28 : decode jdk_52_method_21_code 28 = .ok (.iload 6, 2) := by decide +kernel
theorem d9_30 : decode jdk_52_method_21_code 30 = .ok (.i2b, 1) := by decide +kernel
theorem d9_31 : decode jdk_52_method_21_code 31 = .ok (.bastore, 1) := by decide +kernel
theorem d9_32 : decode jdk_52_method_21_code 32 = .ok (.iinc 1 1, 3) := by decide +kernel
theorem d9_35 : decode jdk_52_method_21_code 35 = .ok (.iinc 3 1, 3) := by decide +kernel
theorem d9_38 : decode jdk_52_method_21_code 38 = .ok (.iinc 5 1, 3) := by decide +kernel
theorem d9_41 : decode jdk_52_method_21_code 41 = .ok (.goto (-38), 3) := by decide +kernel
theorem own_pn3 : plainName "java/lang/StringUTF16" = true := by first | (simp [plainName, overriddenIn]; done) | decide +kernel
def Q_cmp5N (Z : State) (ca : Addr) (ba : Addr) (kc : ClassId) (kb : ClassId) (nn : Int32) (N : Nat) (cs : List Value) (bs : List Value) (h0 : Heap) (n0 : Nat) (v : Option Value) (h : Heap) (L : List Loc) : Prop := v = some (.int nn) ∧ Fr n0 L ∧ Keep h0 h [ba] ∧ ∃ bs' : List Value, Arv Z h ba kb .byte nn bs' (.int (0 : Int32))
set_option maxRecDepth 65536 in
set_option maxHeartbeats 40000000 in
theorem rm_cmp5N (l : Launch) (Z : State) (a0 : Array Value) (hw : ∀ d ∈ tables_1, d.before a0 Z = true) (ws : List Jvm.Cond) (ca : Addr) (ba : Addr) (kc : ClassId) (kb : ClassId) (nn : Int32) (N : Nat) (cs : List Value) (bs : List Value) (h0 : Heap) (n0 : Nat) (Z0 : n0 ≤ h0.size) (hn : nn.toInt = N) (VC : Arv Z h0 ca kc .char nn cs (.int (0 : Int32))) (VB : Arv Z h0 ba kb .byte nn bs (.int (0 : Int32))) (nab : ca ≠ ba) (gb : n0 ≤ ba) (hbl : nn.toNatClampNeg ≤ bs.length) (hcs : ∀ i, i < N → ∃ x : Int32, cs.getD i (.int (0 : Int32)) = .int x ∧ ¬ (255 : Int32) < x) :
    MetFree l (⟨"java/lang/StringUTF16", "compress", "([CI[BII)I"⟩ : MethodName) (head1 (Jvm.Cond.code (⟨"java/lang/StringUTF16", "compress", "([CI[BII)I"⟩ : MethodName) jdk_52_method_21_code 7 (some .int) :: ws) ({ frames := 0, cells := 0, slots := 0, locals := 0 } : Room)) (fun aa_ U => aa_ = #[(.ref ca), (.int (0 : Int32)), (.ref ba), (.int (0 : Int32)), (.int nn)] ∧ Z.Warmed39 U.vm ∧ U.heap = h0) (fun _ _ _ _ _ => True) (fun _ U o_ U' => RetG U (Q_cmp5N Z ca ba kc kb nn N cs bs h0 n0) 0 0 U' o_) := by
  refine MetFree.of_bodySF (plainFor_of_name own_pn3) hisR ?_
  intro p e s m args below meth c_ s₁ Bd hml0 hP hK
  obtain ⟨rfl, hZ, hh⟩ := hP
  have hx := Bd.exec
  have hby := Bd.bytes
  have hml : c_.maxLocals = 7 := hml0
  have hown : s.vm.findClass "java/lang/StringUTF16" = some m.cls := findClass_of_methodNamed Bd.named
  have hnm := (name_of_methodNamed Bd.named Bd.method).1
  have X0 : Stand p l e ({ frames := 0, cells := 0, slots := 0, locals := 0 } : Room) s m #[(.ref ca), (.int (0 : Int32)), (.ref ba), (.int (0 : Int32)), (.int nn)] below meth c_ s₁ [] 0 0 := Stand.of_body Bd
  have e0 : s₁.heap = h0 := by rw [← hh, Bd.state]; rfl
  have N0 := Fr.nil n0
  show Go p e below (RetG s (Q_cmp5N Z ca ba kc kb nn N cs bs h0 n0) 0 0) (s₁.setTop (entryFrame m #[(.ref ca), (.int (0 : Int32)), (.ref ba), (.int (0 : Int32)), (.int nn)] 7))
  rw [show entryFrame m #[(.ref ca), (.int (0 : Int32)), (.ref ba), (.int (0 : Int32)), (.int nn)] 7 = mkF m 0 #[.val (.ref ca), .val (.int (0 : Int32)), .val (.ref ba), .val (.int (0 : Int32)), .val (.int nn), .unset, .unset] [] from by first | (simp [entryFrame, mkF, argsToLocals, Value.category]; done) | rfl]
  refine g_iconst X0 hx hby (0 : Int32) d9_0 rfl ?_
  refine g_istore X0 hx hby d9_1 (l' := #[.val (.ref ca), .val (.int (0 : Int32)), .val (.ref ba), .val (.int (0 : Int32)), .val (.int nn), .val (.int (0 : Int32)), .unset]) rfl ?_
  have loop : ∀ (kk j : Nat) (o6 : Slot) (bs9 : List Value) (T9 : State) (locs9 : List Loc) (h9 : Heap), j + kk = N → Stand p l e ({ frames := 0, cells := 0, slots := 0, locals := 0 } : Room) s m #[(.ref ca), (.int (0 : Int32)), (.ref ba), (.int (0 : Int32)), (.int nn)] below meth c_ T9 locs9 0 0 → T9.heap = h9 → Fr n0 locs9 → Keep h0 h9 [ba] → (One o6) → (Arv Z h9 ca kc .char nn cs (.int (0 : Int32))) → (Arv Z h9 ba kb .byte nn bs9 (.int (0 : Int32))) → (nn.toNatClampNeg ≤ bs9.length) →  Go p e below (RetG s (Q_cmp5N Z ca ba kc kb nn N cs bs h0 n0) 0 0) (T9.setTop (mkF m 3 #[.val (.ref ca), .val (.int (Int32.ofNat j)), .val (.ref ba), .val (.int (Int32.ofNat j)), .val (.int nn), .val (.int (Int32.ofNat j)), o6] [])) := by
    intro kk
    induction kk with
    | zero =>
      intro j o6 bs9 T9 locs9 h9 hj X9 e9 N9 K9 ho6 VC9 VB9 hl9
      have z9 : n0 ≤ h9.size := Nat.le_trans Z0 K9.1
      obtain rfl : N = j := by omega
      refine g_iload X9 hx hby d9_3 rfl ?_
      refine g_iload X9 hx hby d9_5 rfl ?_
      refine g_icY X9 hx hby 44 d9_7 (flt (own_nltn hn : ¬ ((Int32.ofNat N) < nn))).2.1 (by decide) (by decide) ?_
      refine g_iload X9 hx hby d9_44 rfl ?_
      refine g_iret X9 hx hby Bd.returns Bd.notSynchronized d9_46 e9 (by decide) (by decide) ?_
      show (Q_cmp5N Z ca ba kc kb nn N cs bs h0 n0) (some (.int nn)) _ _
      exact ⟨rfl, N9, K9, _, VB9⟩
    | succ kk ih =>
      intro j o6 bs9 T9 locs9 h9 hj X9 e9 N9 K9 ho6 VC9 VB9 hl9
      have z9 : n0 ≤ h9.size := Nat.le_trans Z0 K9.1
      refine g_iload X9 hx hby d9_3 rfl ?_
      refine g_iload X9 hx hby d9_5 rfl ?_
      refine g_icN X9 hx hby d9_7 (tlt (own_ltn hn (by omega) : (Int32.ofNat j) < nn)).2.1 ?_
      refine g_aloadN X9 hx hby d9_10 rfl rfl ?_
      refine g_iloadN X9 hx hby d9_11 rfl ?_
      obtain ⟨x9, hx9, hb9⟩ := hcs j (by omega)
      refine g_caload X9 hx hby hZ e9 VC9 (.int x9) (own_inn hn (by omega)) (by rw [own_tn hn (by omega)]; exact hx9) d9_12 ?_
      refine g_istore X9 hx hby d9_13 (l' := #[.val (.ref ca), .val (.int (Int32.ofNat j)), .val (.ref ba), .val (.int (Int32.ofNat j)), .val (.int nn), .val (.int (Int32.ofNat j)), .val (.int x9)]) (by rw [XS.store1 (o := o6) rfl ho6 rfl]; rfl) ?_
      refine g_iload X9 hx hby d9_15 rfl ?_
      refine g_sipush X9 hx hby (255 : Int32) d9_17 rfl ?_
      refine g_icY X9 hx hby 26 d9_20 (flt (hb9 : ¬ ((255 : Int32) < x9))).2.2.2 (by decide) (by decide) ?_
      refine g_aloadN X9 hx hby d9_26 rfl rfl ?_
      refine g_iloadN X9 hx hby d9_27 rfl ?_
      refine g_iload X9 hx hby d9_28 rfl ?_
      refine g_i2b X9 hx hby d9_30 ?_
      refine g_bastore X9 hx hby hZ e9 VB9 j (bs9.set j (.int (nar .byte (x9.toInt8.toInt32)))) rfl (own_inn hn (by omega)) (own_tn hn (by omega)) (by have := own_nN hn; omega) N9 gb d9_31 (fun T1 h1 X1 e1 W1 V1 N1 => ?_)
      refine g_iinc X1 hx hby ((Int32.ofNat j) + (1 : Int32)) d9_32 rfl rfl (l' := #[.val (.ref ca), .val (.int ((Int32.ofNat j) + (1 : Int32))), .val (.ref ba), .val (.int (Int32.ofNat j)), .val (.int nn), .val (.int (Int32.ofNat j)), .val (.int x9)]) rfl ?_
      refine g_iinc X1 hx hby ((Int32.ofNat j) + (1 : Int32)) d9_35 rfl rfl (l' := #[.val (.ref ca), .val (.int ((Int32.ofNat j) + (1 : Int32))), .val (.ref ba), .val (.int ((Int32.ofNat j) + (1 : Int32))), .val (.int nn), .val (.int (Int32.ofNat j)), .val (.int x9)]) rfl ?_
      refine g_iinc X1 hx hby ((Int32.ofNat j) + (1 : Int32)) d9_38 rfl rfl (l' := #[.val (.ref ca), .val (.int ((Int32.ofNat j) + (1 : Int32))), .val (.ref ba), .val (.int ((Int32.ofNat j) + (1 : Int32))), .val (.int nn), .val (.int ((Int32.ofNat j) + (1 : Int32))), .val (.int x9)]) rfl ?_
      refine g_goto X1 hx hby 3 d9_41 (by decide) (by decide) ?_
      have f2 := (VC9.other W1 nab)
      rw [own_up]
      exact ih (j + 1) _ _ _ _ _ (by omega) X1 e1 N1 (K9.wr W1 (Or.inl (List.mem_of_getElem? (i := 0) rfl))) (One.val rfl) f2 V1 (by rw [List.length_set]; exact hl9)
  refine loop N 0 _ _ _ _ _ (by omega) X0 e0 N0 (Keep.refl h0 [ba]) (Or.inl rfl) VC VB hbl

theorem d8_0 : decode jdk_52_method_16_code 0 = .ok (.iload_n 2, 1) := by decide +kernel
theorem d8_1 : decode jdk_52_method_16_code 1 = .ok (.newarray .byte, 2) := by decide +kernel
theorem d8_3 : decode jdk_52_method_16_code 3 = .ok (.astore_n 3, 1) := by decide +kernel
theorem d8_4 : decode jdk_52_method_16_code 4 = .ok (.aload_n 0, 1) := by decide +kernel
theorem d8_5 : decode jdk_52_method_16_code 5 = .ok (.iload_n 1, 1) := by decide +kernel
theorem d8_6 : decode jdk_52_method_16_code 6 = .ok (.aload_n 3, 1) := by decide +kernel
theorem d8_7 : decode jdk_52_method_16_code 7 = .ok (.iconst 0, 1) := by decide +kernel
theorem d8_8 : decode jdk_52_method_16_code 8 = .ok (.iload_n 2, 1) := by decide +kernel
theorem d8_9 : decode jdk_52_method_16_code 9 = .ok (.invokestatic 115, 3) := by decide +kernel
theorem own_pd5 : parseMethodDescriptor "([CI[BII)I" = some ⟨[(.array .char), .int, (.array .byte), .int, .int], some .int⟩ := by decide +kernel
theorem d8_12 : decode jdk_52_method_16_code 12 = .ok (.istore 4, 2) := by decide +kernel
theorem d8_14 : decode jdk_52_method_16_code 14 = .ok (.iload 4, 2) := by decide +kernel
theorem d8_16 : decode jdk_52_method_16_code 16 = .ok (.iload_n 2, 1) := by decide +kernel
theorem d8_17 : decode jdk_52_method_16_code 17 = .ok (.if_icmp .eq 40, 3) := by decide +kernel
theorem d8_57 : decode jdk_52_method_16_code 57 = .ok (.aload_n 3, 1) := by decide +kernel
theorem d8_58 : decode jdk_52_method_16_code 58 = .ok (.areturn, 1) := by decide +kernel
def Q_cmpN_1024 (Z : State) (ca : Addr) (kc : ClassId) (cs : List Value) (h0 : Heap) (n0 : Nat) (v : Option Value) (h : Heap) (L : List Loc) : Prop := Fr n0 L ∧ Keep h0 h [] ∧ ∃ (b : Addr) (kb : ClassId) (bs : List Value), v = some (.ref b) ∧ h0.size ≤ b ∧ Arv Z h b kb .byte (1024 : Int32) bs (.int (0 : Int32))
set_option maxRecDepth 65536 in
set_option maxHeartbeats 40000000 in
theorem rm_cmpN_1024 (l : Launch) (Z : State) (a0 : Array Value) (hw : ∀ d ∈ tables_1, d.before a0 Z = true) (ws : List Jvm.Cond) (ca : Addr) (kc : ClassId) (cs : List Value) (h0 : Heap) (n0 : Nat) (Z0 : n0 ≤ h0.size) (VC : Arv Z h0 ca kc .char (1024 : Int32) cs (.int (0 : Int32))) (hcs : ∀ i, i < 1024 → ∃ x : Int32, cs.getD i (.int (0 : Int32)) = .int x ∧ ¬ (255 : Int32) < x) :
    MetFree l (⟨"java/lang/StringUTF16", "compress", "([CII)[B"⟩ : MethodName) (head1 (Jvm.Cond.code (⟨"java/lang/StringUTF16", "compress", "([CII)[B"⟩ : MethodName) jdk_52_method_16_code 6 (some (.array .byte)) :: ws) ({ frames := 1, cells := 1, slots := 1024, locals := 18 } : Room)) (fun aa_ U => aa_ = #[(.ref ca), (.int (0 : Int32)), (.int (1024 : Int32))] ∧ Z.Warmed39 U.vm ∧ U.heap = h0) (fun _ _ _ _ _ => True) (fun _ U o_ U' => RetG U (Q_cmpN_1024 Z ca kc cs h0 n0) 1 1024 U' o_) := by
  refine MetFree.of_bodySF (plainFor_of_name own_pn3) hisR ?_
  intro p e s m args below meth c_ s₁ Bd hml0 hP hK
  obtain ⟨rfl, hZ, hh⟩ := hP
  have hx := Bd.exec
  have hby := Bd.bytes
  have hml : c_.maxLocals = 6 := hml0
  have hown : s.vm.findClass "java/lang/StringUTF16" = some m.cls := findClass_of_methodNamed Bd.named
  have hnm := (name_of_methodNamed Bd.named Bd.method).1
  have X0 : Stand p l e ({ frames := 1, cells := 1, slots := 1024, locals := 18 } : Room) s m #[(.ref ca), (.int (0 : Int32)), (.int (1024 : Int32))] below meth c_ s₁ [] 0 0 := Stand.of_body Bd
  have e0 : s₁.heap = h0 := by rw [← hh, Bd.state]; rfl
  have N0 := Fr.nil n0
  have w3_ := hw _ (List.mem_of_getElem? (i := 3) rfl)
  have w39_ := hw _ (List.mem_of_getElem? (i := 39) rfl)
  have w41_ := hw _ (List.mem_of_getElem? (i := 41) rfl)
  have w42_ := hw _ (List.mem_of_getElem? (i := 42) rfl)
  have w43_ := hw _ (List.mem_of_getElem? (i := 43) rfl)
  show Go p e below (RetG s (Q_cmpN_1024 Z ca kc cs h0 n0) 1 1024) (s₁.setTop (entryFrame m #[(.ref ca), (.int (0 : Int32)), (.int (1024 : Int32))] 6))
  rw [show entryFrame m #[(.ref ca), (.int (0 : Int32)), (.int (1024 : Int32))] 6 = mkF m 0 #[.val (.ref ca), .val (.int (0 : Int32)), .val (.int (1024 : Int32)), .unset, .unset, .unset] [] from by first | (simp [entryFrame, mkF, argsToLocals, Value.category]; done) | rfl]
  refine g_iloadN X0 hx hby d8_0 rfl ?_
  refine g_newarray X0 hx hby hZ .byte .byte (.int (0 : Int32)) (List.replicate 1024 (.int (0 : Int32))) rfl rfl w3_ e0 (by decide) 1024 rfl (by decide) (by decide) (by decide) (by decide) d8_1 (fun T1 h1 k1 b1 g1 X1 e1 E1 V1 => ?_)
  refine g_astoreN X1 hx hby d8_3 rfl (l' := #[.val (.ref ca), .val (.int (0 : Int32)), .val (.int (1024 : Int32)), .val (.ref b1), .unset, .unset]) rfl ?_
  refine g_aloadN X1 hx hby d8_4 rfl rfl ?_
  refine g_iloadN X1 hx hby d8_5 rfl ?_
  refine g_aloadN X1 hx hby d8_6 rfl rfl ?_
  refine g_iconst X1 hx hby (0 : Int32) d8_7 rfl ?_
  refine g_iloadN X1 hx hby d8_8 rfl ?_
  have f3 := (VC.ext E1)
  have ne4 : ca ≠ b1 := (Nat.ne_of_lt (Nat.lt_of_lt_of_le VC.lt (Nat.le_of_eq g1)))
  have g_b1 : n0 ≤ b1 := Nat.le_trans Z0 (Nat.le_of_eq g1)
  have z5 := (Nat.le_trans Z0 E1.1)
  refine g_static X1 hx hby hZ hown (rm_cmp5N l Z a0 hw [] ca b1 kc k1 (1024 : Int32) 1024 cs (List.replicate 1024 (.int (0 : Int32))) h1 n0 z5 rfl f3 V1 ne4 g_b1 (by rw [List.length_replicate]; exact Nat.le_of_ble_eq_true rfl) hcs) w41_ w42_ w39_ w43_ (by decide) e1 (by rw [hml]; rfl) [(.ref ca), (.int (0 : Int32)), (.ref b1), (.int (0 : Int32)), (.int (1024 : Int32))] (lenOf own_pd5 rfl) rfl rfl (Nat.le_of_ble_eq_true rfl) (Nat.le_of_ble_eq_true rfl) (Nat.le_of_ble_eq_true rfl) (Nat.le_of_ble_eq_true rfl) d8_9 (fun v2 T2 L2 X2 hQ2 => ?_)
  obtain ⟨rfl, N2q, K2, bs2, V2⟩ := hQ2
  have N2 := Fr.app N0 N2q
  refine g_istore X2 hx hby d8_12 (l' := #[.val (.ref ca), .val (.int (0 : Int32)), .val (.int (1024 : Int32)), .val (.ref b1), .val (.int (1024 : Int32)), .unset]) rfl ?_
  refine g_iload X2 hx hby d8_14 rfl ?_
  refine g_iloadN X2 hx hby d8_16 rfl ?_
  refine g_icY X2 hx hby 57 d8_17 (teq (by decide : (1024 : Int32) = (1024 : Int32))).1 (by decide) (by decide) ?_
  refine g_aloadN X2 hx hby d8_57 rfl rfl ?_
  refine g_aret X2 hx hby (t := (.array .byte)) rfl rfl rfl Bd.returns Bd.notSynchronized d8_58 rfl (by decide) (by decide) ?_
  show (Q_cmpN_1024 Z ca kc cs h0 n0) (some (.ref b1)) _ _
  exact ⟨N2, (((Keep.refl h0 []).ext E1).trans K2 (allS (Or.inr (Nat.le_trans (Nat.le_refl _) (Nat.le_of_eq g1))) all0)), b1, k1, _, rfl, (Nat.le_trans (Nat.le_refl _) (Nat.le_of_eq g1)), V2⟩

theorem d10_0 : decode jdk_52_method_15_code 0 = .ok (.iload_n 1, 1) := by decide +kernel
theorem d10_1 : decode jdk_52_method_15_code 1 = .ok (.aload_n 0, 1) := by decide +kernel
theorem d10_2 : decode jdk_52_method_15_code 2 = .ok (.arraylength, 1) := by decide +kernel
theorem d10_3 : decode jdk_52_method_15_code 3 = .ok (.isub, 1) := by decide +kernel
theorem d10_4 : decode jdk_52_method_15_code 4 = .ok (.bipush 31, 2) := by decide +kernel
theorem d10_6 : decode jdk_52_method_15_code 6 = .ok (.iushr, 1) := by decide +kernel
theorem d10_7 : decode jdk_52_method_15_code 7 = .ok (.i2b, 1) := by decide +kernel
theorem d10_8 : decode jdk_52_method_15_code 8 = .ok (.ireturn, 1) := by decide +kernel
def Q_cfal_1024_1024 (Z : State) (ba : Addr) (kb : ClassId) (bs : List Value) (h0 : Heap) (n0 : Nat) (v : Option Value) (h : Heap) (L : List Loc) : Prop := v = some (.int (0 : Int32)) ∧ Fr n0 L ∧ h = h0
set_option maxRecDepth 65536 in
set_option maxHeartbeats 40000000 in
theorem rm_cfal_1024_1024 (l : Launch) (Z : State) (a0 : Array Value) (hw : ∀ d ∈ tables_1, d.before a0 Z = true) (ws : List Jvm.Cond) (ba : Addr) (kb : ClassId) (bs : List Value) (h0 : Heap) (n0 : Nat) (Z0 : n0 ≤ h0.size) (VB : Arv Z h0 ba kb .byte (1024 : Int32) bs (.int (0 : Int32))) :
    MetFree l (⟨"java/lang/StringUTF16", "coderFromArrayLen", "([BI)B"⟩ : MethodName) (head1 (Jvm.Cond.code (⟨"java/lang/StringUTF16", "coderFromArrayLen", "([BI)B"⟩ : MethodName) jdk_52_method_15_code 2 (some .byte) :: ws) ({ frames := 0, cells := 0, slots := 0, locals := 0 } : Room)) (fun aa_ U => aa_ = #[(.ref ba), (.int (1024 : Int32))] ∧ Z.Warmed39 U.vm ∧ U.heap = h0) (fun _ _ _ _ _ => True) (fun _ U o_ U' => RetG U (Q_cfal_1024_1024 Z ba kb bs h0 n0) 0 0 U' o_) := by
  refine MetFree.of_bodySF (plainFor_of_name own_pn3) hisR ?_
  intro p e s m args below meth c_ s₁ Bd hml0 hP hK
  obtain ⟨rfl, hZ, hh⟩ := hP
  have hx := Bd.exec
  have hby := Bd.bytes
  have hml : c_.maxLocals = 2 := hml0
  have hown : s.vm.findClass "java/lang/StringUTF16" = some m.cls := findClass_of_methodNamed Bd.named
  have hnm := (name_of_methodNamed Bd.named Bd.method).1
  have X0 : Stand p l e ({ frames := 0, cells := 0, slots := 0, locals := 0 } : Room) s m #[(.ref ba), (.int (1024 : Int32))] below meth c_ s₁ [] 0 0 := Stand.of_body Bd
  have e0 : s₁.heap = h0 := by rw [← hh, Bd.state]; rfl
  have N0 := Fr.nil n0
  show Go p e below (RetG s (Q_cfal_1024_1024 Z ba kb bs h0 n0) 0 0) (s₁.setTop (entryFrame m #[(.ref ba), (.int (1024 : Int32))] 2))
  rw [show entryFrame m #[(.ref ba), (.int (1024 : Int32))] 2 = mkF m 0 #[.val (.ref ba), .val (.int (1024 : Int32))] [] from by first | (simp [entryFrame, mkF, argsToLocals, Value.category]; done) | rfl]
  refine g_iloadN X0 hx hby d10_0 rfl ?_
  refine g_aloadN X0 hx hby d10_1 rfl rfl ?_
  refine g_arraylength X0 hx hby hZ e0 VB d10_2 ?_
  refine g_isub X0 hx hby d10_3 ?_
  refine g_topI (0 : Int32) (by decide) ?_
  refine g_bipush X0 hx hby (31 : Int32) d10_4 rfl ?_
  refine g_iushr X0 hx hby d10_6 ?_
  refine g_topI (0 : Int32) (by decide) ?_
  refine g_i2b X0 hx hby d10_7 ?_
  refine g_topI (0 : Int32) (by decide) ?_
  refine g_nret X0 hx hby (t := .byte) (by simp) Bd.returns Bd.notSynchronized d10_8 e0 (by decide) (by decide) ?_
  show (Q_cfal_1024_1024 Z ba kb bs h0 n0) (some (.int (0 : Int32))) _ _
  exact ⟨rfl, N0, rfl⟩

theorem d7_0 : decode jdk_42_method_149_code 0 = .ok (.aload_n 0, 1) := by decide +kernel
theorem d7_1 : decode jdk_42_method_149_code 1 = .ok (.invokespecial 1, 3) := by decide +kernel
theorem d7_4 : decode jdk_42_method_149_code 4 = .ok (.iload_n 3, 1) := by decide +kernel
theorem d7_5 : decode jdk_42_method_149_code 5 = .ok (.ifCond .ne 22, 3) := by decide +kernel
theorem d7_27 : decode jdk_42_method_149_code 27 = .ok (.getstatic 38, 3) := by decide +kernel
theorem d7_30 : decode jdk_42_method_149_code 30 = .ok (.ifCond .eq 28, 3) := by decide +kernel
theorem d7_33 : decode jdk_42_method_149_code 33 = .ok (.aload_n 1, 1) := by decide +kernel
theorem d7_34 : decode jdk_42_method_149_code 34 = .ok (.iload_n 2, 1) := by decide +kernel
theorem d7_35 : decode jdk_42_method_149_code 35 = .ok (.iload_n 3, 1) := by decide +kernel
theorem d7_36 : decode jdk_42_method_149_code 36 = .ok (.invokestatic 177, 3) := by decide +kernel
theorem own_pd6 : parseMethodDescriptor "([CII)[B" = some ⟨[(.array .char), .int, .int], some (.array .byte)⟩ := by decide +kernel
theorem d7_39 : decode jdk_42_method_149_code 39 = .ok (.astore 5, 2) := by decide +kernel
theorem d7_41 : decode jdk_42_method_149_code 41 = .ok (.aload_n 0, 1) := by decide +kernel
theorem d7_42 : decode jdk_42_method_149_code 42 = .ok (.aload 5, 2) := by decide +kernel
theorem d7_44 : decode jdk_42_method_149_code 44 = .ok (.iload_n 3, 1) := by decide +kernel
theorem d7_45 : decode jdk_42_method_149_code 45 = .ok (.invokestatic 47, 3) := by decide +kernel
theorem own_pd7 : parseMethodDescriptor "([BI)B" = some ⟨[(.array .byte), .int], some .byte⟩ := by decide +kernel
theorem d7_48 : decode jdk_42_method_149_code 48 = .ok (.putfield 15, 3) := by decide +kernel
theorem d7_51 : decode jdk_42_method_149_code 51 = .ok (.aload_n 0, 1) := by decide +kernel
theorem d7_52 : decode jdk_42_method_149_code 52 = .ok (.aload 5, 2) := by decide +kernel
theorem d7_54 : decode jdk_42_method_149_code 54 = .ok (.putfield 9, 3) := by decide +kernel
theorem d7_57 : decode jdk_42_method_149_code 57 = .ok (.return_, 1) := by decide +kernel
def Q_iniN4_1024 (Z : State) (a : Addr) (ca : Addr) (kc : ClassId) (cs : List Value) (cz : Int32) (h0 : Heap) (n0 : Nat) (v : Option Value) (h : Heap) (L : List Loc) : Prop := v = none ∧ Fr n0 L ∧ Keep h0 h [a] ∧ ∃ (b : Addr) (kb : ClassId) (bs : List Value), h0.size ≤ b ∧ Exa Z h a "java/lang/String" ∧ Fld Z h a "java/lang/String" "coder" "B" (.int (0 : Int32)) ∧ Fld Z h a "java/lang/String" "value" "[B" (.ref b) ∧ Arv Z h b kb .byte (1024 : Int32) bs (.int (0 : Int32))
set_option maxRecDepth 65536 in
set_option maxHeartbeats 40000000 in
theorem rm_iniN4_1024 (l : Launch) (Z : State) (a0 : Array Value) (hw : ∀ d ∈ tables_1, d.before a0 Z = true) (ws : List Jvm.Cond) (a : Addr) (ca : Addr) (kc : ClassId) (cs : List Value) (cz : Int32) (h0 : Heap) (n0 : Nat) (Z0 : n0 ≤ h0.size) (O2 : Sta Z Z.heap "java/lang/String" "COMPACT_STRINGS" "Z" (.int cz)) (P5 : ¬ cz = (0 : Int32)) (OLD : Old Z n0 h0) (E : Exa Z h0 a "java/lang/String") (FC : Fld Z h0 a "java/lang/String" "coder" "B" (.int (0 : Int32))) (FV : Fld Z h0 a "java/lang/String" "value" "[B" .null) (ga : n0 ≤ a) (VC : Arv Z h0 ca kc .char (1024 : Int32) cs (.int (0 : Int32))) (hcs : ∀ i, i < 1024 → ∃ x : Int32, cs.getD i (.int (0 : Int32)) = .int x ∧ ¬ (255 : Int32) < x) :
    MetFree l (⟨"java/lang/String", "<init>", "([CIILjava/lang/Void;)V"⟩ : MethodName) (head1 (Jvm.Cond.code (⟨"java/lang/String", "<init>", "([CIILjava/lang/Void;)V"⟩ : MethodName) jdk_42_method_149_code 6 none :: ws) ({ frames := 2, cells := 1, slots := 1024, locals := 35 } : Room)) (fun aa_ U => aa_ = #[(.ref a), (.ref ca), (.int (0 : Int32)), (.int (1024 : Int32)), .null] ∧ Z.Warmed39 U.vm ∧ U.heap = h0) (fun _ _ _ _ _ => True) (fun _ U o_ U' => RetG U (Q_iniN4_1024 Z a ca kc cs cz h0 n0) 1 1024 U' o_) := by
  refine MetFree.of_bodySF (plainFor_of_name own_pn2) hisR ?_
  intro p e s m args below meth c_ s₁ Bd hml0 hP hK
  obtain ⟨rfl, hZ, hh⟩ := hP
  have hx := Bd.exec
  have hby := Bd.bytes
  have hml : c_.maxLocals = 6 := hml0
  have hown : s.vm.findClass "java/lang/String" = some m.cls := findClass_of_methodNamed Bd.named
  have hnm := (name_of_methodNamed Bd.named Bd.method).1
  have X0 : Stand p l e ({ frames := 2, cells := 1, slots := 1024, locals := 35 } : Room) s m #[(.ref a), (.ref ca), (.int (0 : Int32)), (.int (1024 : Int32)), .null] below meth c_ s₁ [] 0 0 := Stand.of_body Bd
  have e0 : s₁.heap = h0 := by rw [← hh, Bd.state]; rfl
  have N0 := Fr.nil n0
  have w2_ := hw _ (List.mem_of_getElem? (i := 2) rfl)
  have w4_ := hw _ (List.mem_of_getElem? (i := 4) rfl)
  have w5_ := hw _ (List.mem_of_getElem? (i := 5) rfl)
  have w11_ := hw _ (List.mem_of_getElem? (i := 11) rfl)
  have w24_ := hw _ (List.mem_of_getElem? (i := 24) rfl)
  have w25_ := hw _ (List.mem_of_getElem? (i := 25) rfl)
  have w26_ := hw _ (List.mem_of_getElem? (i := 26) rfl)
  have w27_ := hw _ (List.mem_of_getElem? (i := 27) rfl)
  have w28_ := hw _ (List.mem_of_getElem? (i := 28) rfl)
  have w37_ := hw _ (List.mem_of_getElem? (i := 37) rfl)
  have w38_ := hw _ (List.mem_of_getElem? (i := 38) rfl)
  have w39_ := hw _ (List.mem_of_getElem? (i := 39) rfl)
  have w40_ := hw _ (List.mem_of_getElem? (i := 40) rfl)
  have w44_ := hw _ (List.mem_of_getElem? (i := 44) rfl)
  have w45_ := hw _ (List.mem_of_getElem? (i := 45) rfl)
  have w46_ := hw _ (List.mem_of_getElem? (i := 46) rfl)
  show Go p e below (RetG s (Q_iniN4_1024 Z a ca kc cs cz h0 n0) 1 1024) (s₁.setTop (entryFrame m #[(.ref a), (.ref ca), (.int (0 : Int32)), (.int (1024 : Int32)), .null] 6))
  rw [show entryFrame m #[(.ref a), (.ref ca), (.int (0 : Int32)), (.int (1024 : Int32)), .null] 6 = mkF m 0 #[.val (.ref a), .val (.ref ca), .val (.int (0 : Int32)), .val (.int (1024 : Int32)), .val .null, .unset] [] from by first | (simp [entryFrame, mkF, argsToLocals, Value.category]; done) | rfl]
  refine g_aloadN X0 hx hby d7_0 rfl rfl ?_
  refine g_initO X0 hx hby hZ hown w24_ w25_ w26_ e0 (by rw [hml]; rfl) (Nat.le_of_ble_eq_true rfl) (Nat.le_of_ble_eq_true rfl) d7_1 (fun T1 X1 e1 => ?_)
  refine g_iloadN X1 hx hby d7_4 rfl ?_
  refine g_ifY X1 hx hby 27 d7_5 (feq (by decide : ¬ ((1024 : Int32) = (0 : Int32)))).2 (by decide) (by decide) ?_
  refine g_getS X1 hx hby hZ hown (host := "") (Or.inl w11_) Via.refl e1 (O2.ext OLD.2) d7_27 (fun T2 X2 e2 => ?_)
  refine g_ifN X2 hx hby d7_30 (feq (P5 : ¬ (cz = (0 : Int32)))).1 ?_
  refine g_aloadN X2 hx hby d7_33 rfl rfl ?_
  refine g_iloadN X2 hx hby d7_34 rfl ?_
  refine g_iloadN X2 hx hby d7_35 rfl ?_
  refine g_static X2 hx hby hZ hown (rm_cmpN_1024 l Z a0 hw [] ca kc cs h0 n0 Z0 VC hcs) w37_ w38_ w39_ w40_ (by decide) e2 (by rw [hml]; rfl) [(.ref ca), (.int (0 : Int32)), (.int (1024 : Int32))] (lenOf own_pd6 rfl) rfl rfl (Nat.le_of_ble_eq_true rfl) (Nat.le_of_ble_eq_true rfl) (Nat.le_of_ble_eq_true rfl) (Nat.le_of_ble_eq_true rfl) d7_36 (fun v3 T3 L3 X3 hQ3 => ?_)
  obtain ⟨N3q, K3, t3, kt3, bs3, rfl, lt3, V3⟩ := hQ3
  have N3 := Fr.app N0 N3q
  refine g_astore X3 hx hby d7_39 rfl (l' := #[.val (.ref a), .val (.ref ca), .val (.int (0 : Int32)), .val (.int (1024 : Int32)), .val .null, .val (.ref t3)]) rfl ?_
  refine g_aloadN X3 hx hby d7_41 rfl rfl ?_
  refine g_aload X3 hx hby d7_42 rfl rfl ?_
  refine g_iloadN X3 hx hby d7_44 rfl ?_
  have z5 := (Nat.le_trans Z0 K3.1)
  refine g_static X3 hx hby hZ hown (rm_cfal_1024_1024 l Z a0 hw [] t3 kt3 bs3 T3.heap n0 z5 V3) w44_ w45_ w39_ w46_ (by decide) rfl (by rw [hml]; rfl) [(.ref t3), (.int (1024 : Int32))] (lenOf own_pd7 rfl) rfl rfl (Nat.le_of_ble_eq_true rfl) (Nat.le_of_ble_eq_true rfl) (Nat.le_of_ble_eq_true rfl) (Nat.le_of_ble_eq_true rfl) d7_45 (fun v4 T4 L4 X4 hQ4 => ?_)
  obtain ⟨rfl, N4q, eh4⟩ := hQ4
  have N4 := Fr.app N3 N4q
  have f6 := (E.keep K3)
  have f7 := (FC.keep K3 nin0)
  refine g_putFN X4 hx hby hZ hown w28_ Via.refl eh4 f7 f6 (Or.inr ⟨w5_, rfl, hnm⟩) w2_ .byte (by decide) (.int (0 : Int32)) rfl rfl N4 ga d7_48 (fun T8 h8 X8 e8 W8 F8 N8 => ?_)
  refine g_aloadN X8 hx hby d7_51 rfl rfl ?_
  refine g_aload X8 hx hby d7_52 rfl rfl ?_
  have f9 := (f6.wr W8)
  have f10 := ((FV.keep K3 nin0).other W8 (Or.inr (slot_ne (Or.inr w4_) (Or.inr w5_) (by decide) (t := (.array .byte)) (t' := .byte) (by decide) (by decide))))
  refine g_putF X8 hx hby hZ hown (host := "") (Or.inl w27_) Via.refl e8 f10 f9 (Or.inr ⟨w4_, rfl, hnm⟩) w2_ (.array .byte) (by decide) rfl rfl N8 ga d7_54 (fun T11 h11 X11 e11 W11 F11 N11 => ?_)
  have f12 := (f9.wr W11)
  have f13 := (F8.other W11 (Or.inr (slot_ne (Or.inr w5_) (Or.inr w4_) (by decide) (t := .byte) (t' := (.array .byte)) (by decide) (by decide))))
  have ne14 : t3 ≠ a := (Ne.symm (Nat.ne_of_lt (Nat.lt_of_lt_of_le E.lt lt3)))
  have f15 := ((V3.other W8 ne14).other W11 ne14)
  refine g_ret X11 hx hby Bd.returns Bd.notSynchronized d7_57 e11 (by decide) (by decide) ?_
  show (Q_iniN4_1024 Z a ca kc cs cz h0 n0) none _ _
  exact ⟨rfl, N11, ((((Keep.refl h0 [a]).trans K3 all0).wr W8 (Or.inl (List.mem_of_getElem? (i := 0) rfl))).wr W11 (Or.inl (List.mem_of_getElem? (i := 0) rfl))), t3, kt3, _, (Nat.le_trans (Nat.le_refl _) lt3), f12, f13, F11, f15⟩

theorem d6_0 : decode jdk_42_method_3_code 0 = .ok (.aload_n 0, 1) := by decide +kernel
theorem d6_1 : decode jdk_42_method_3_code 1 = .ok (.aload_n 1, 1) := by decide +kernel
theorem d6_2 : decode jdk_42_method_3_code 2 = .ok (.iconst 0, 1) := by decide +kernel
theorem d6_3 : decode jdk_42_method_3_code 3 = .ok (.aload_n 1, 1) := by decide +kernel
theorem d6_4 : decode jdk_42_method_3_code 4 = .ok (.arraylength, 1) := by decide +kernel
theorem d6_5 : decode jdk_42_method_3_code 5 = .ok (.aconst_null, 1) := by decide +kernel
theorem d6_6 : decode jdk_42_method_3_code 6 = .ok (.invokespecial 27, 3) := by decide +kernel
theorem own_pd8 : parseMethodDescriptor "([CIILjava/lang/Void;)V" = some ⟨[(.array .char), .int, .int, (.object "java/lang/Void")], none⟩ := by decide +kernel
theorem d6_9 : decode jdk_42_method_3_code 9 = .ok (.return_, 1) := by decide +kernel
def Q_iniN1_1024 (Z : State) (a : Addr) (ca : Addr) (kc : ClassId) (cs : List Value) (cz : Int32) (h0 : Heap) (n0 : Nat) (v : Option Value) (h : Heap) (L : List Loc) : Prop := v = none ∧ Fr n0 L ∧ Keep h0 h [a] ∧ ∃ (b : Addr) (kb : ClassId) (bs : List Value), h0.size ≤ b ∧ Exa Z h a "java/lang/String" ∧ Fld Z h a "java/lang/String" "coder" "B" (.int (0 : Int32)) ∧ Fld Z h a "java/lang/String" "value" "[B" (.ref b) ∧ Arv Z h b kb .byte (1024 : Int32) bs (.int (0 : Int32))
set_option maxRecDepth 65536 in
set_option maxHeartbeats 40000000 in
theorem rm_iniN1_1024 (l : Launch) (Z : State) (a0 : Array Value) (hw : ∀ d ∈ tables_1, d.before a0 Z = true) (ws : List Jvm.Cond) (a : Addr) (ca : Addr) (kc : ClassId) (cs : List Value) (cz : Int32) (h0 : Heap) (n0 : Nat) (Z0 : n0 ≤ h0.size) (O2 : Sta Z Z.heap "java/lang/String" "COMPACT_STRINGS" "Z" (.int cz)) (P5 : ¬ cz = (0 : Int32)) (OLD : Old Z n0 h0) (E : Exa Z h0 a "java/lang/String") (FC : Fld Z h0 a "java/lang/String" "coder" "B" (.int (0 : Int32))) (FV : Fld Z h0 a "java/lang/String" "value" "[B" .null) (ga : n0 ≤ a) (VC : Arv Z h0 ca kc .char (1024 : Int32) cs (.int (0 : Int32))) (hcs : ∀ i, i < 1024 → ∃ x : Int32, cs.getD i (.int (0 : Int32)) = .int x ∧ ¬ (255 : Int32) < x) :
    MetFree l (⟨"java/lang/String", "<init>", "([C)V"⟩ : MethodName) (head1 (Jvm.Cond.code (⟨"java/lang/String", "<init>", "([C)V"⟩ : MethodName) jdk_42_method_3_code 2 none :: ws) ({ frames := 3, cells := 1, slots := 1024, locals := 52 } : Room)) (fun aa_ U => aa_ = #[(.ref a), (.ref ca)] ∧ Z.Warmed39 U.vm ∧ U.heap = h0) (fun _ _ _ _ _ => True) (fun _ U o_ U' => RetG U (Q_iniN1_1024 Z a ca kc cs cz h0 n0) 1 1024 U' o_) := by
  refine MetFree.of_bodySF (plainFor_of_name own_pn2) hisR ?_
  intro p e s m args below meth c_ s₁ Bd hml0 hP hK
  obtain ⟨rfl, hZ, hh⟩ := hP
  have hx := Bd.exec
  have hby := Bd.bytes
  have hml : c_.maxLocals = 2 := hml0
  have hown : s.vm.findClass "java/lang/String" = some m.cls := findClass_of_methodNamed Bd.named
  have hnm := (name_of_methodNamed Bd.named Bd.method).1
  have X0 : Stand p l e ({ frames := 3, cells := 1, slots := 1024, locals := 52 } : Room) s m #[(.ref a), (.ref ca)] below meth c_ s₁ [] 0 0 := Stand.of_body Bd
  have e0 : s₁.heap = h0 := by rw [← hh, Bd.state]; rfl
  have N0 := Fr.nil n0
  have w1_ := hw _ (List.mem_of_getElem? (i := 1) rfl)
  have w34_ := hw _ (List.mem_of_getElem? (i := 34) rfl)
  have w35_ := hw _ (List.mem_of_getElem? (i := 35) rfl)
  have w36_ := hw _ (List.mem_of_getElem? (i := 36) rfl)
  show Go p e below (RetG s (Q_iniN1_1024 Z a ca kc cs cz h0 n0) 1 1024) (s₁.setTop (entryFrame m #[(.ref a), (.ref ca)] 2))
  rw [show entryFrame m #[(.ref a), (.ref ca)] 2 = mkF m 0 #[.val (.ref a), .val (.ref ca)] [] from by first | (simp [entryFrame, mkF, argsToLocals, Value.category]; done) | rfl]
  refine g_aloadN X0 hx hby d6_0 rfl rfl ?_
  refine g_aloadN X0 hx hby d6_1 rfl rfl ?_
  refine g_iconst X0 hx hby (0 : Int32) d6_2 rfl ?_
  refine g_aloadN X0 hx hby d6_3 rfl rfl ?_
  refine g_arraylength X0 hx hby hZ e0 VC d6_4 ?_
  refine g_aconst_null X0 hx hby d6_5 ?_
  refine g_special X0 hx hby hZ hown (rm_iniN4_1024 l Z a0 hw [] a ca kc cs cz h0 n0 Z0 O2 P5 OLD E FC FV ga VC hcs) rfl rfl w34_ w35_ w1_ w36_ (by decide) e0 (by rw [hml]; rfl) [(.ref ca), (.int (0 : Int32)), (.int (1024 : Int32)), .null] (lenOf own_pd8 rfl) rfl rfl (Nat.le_of_ble_eq_true rfl) (Nat.le_of_ble_eq_true rfl) (Nat.le_of_ble_eq_true rfl) (Nat.le_of_ble_eq_true rfl) d6_6 (fun v1 T1 L1 X1 hQ1 => ?_)
  obtain ⟨rfl, N1q, R1⟩ := hQ1
  have N1 := Fr.app N0 N1q
  refine g_ret X1 hx hby Bd.returns Bd.notSynchronized d6_9 rfl (by decide) (by decide) ?_
  show (Q_iniN1_1024 Z a ca kc cs cz h0 n0) none _ _
  exact ⟨rfl, N1, R1⟩

theorem own_pd9 : parseMethodDescriptor "([C)V" = some ⟨[(.array .char)], none⟩ := by decide +kernel
def Q_cmpN_2100 (Z : State) (ca : Addr) (kc : ClassId) (cs : List Value) (h0 : Heap) (n0 : Nat) (v : Option Value) (h : Heap) (L : List Loc) : Prop := Fr n0 L ∧ Keep h0 h [] ∧ ∃ (b : Addr) (kb : ClassId) (bs : List Value), v = some (.ref b) ∧ h0.size ≤ b ∧ Arv Z h b kb .byte (2100 : Int32) bs (.int (0 : Int32))
set_option maxRecDepth 65536 in
set_option maxHeartbeats 40000000 in
theorem rm_cmpN_2100 (l : Launch) (Z : State) (a0 : Array Value) (hw : ∀ d ∈ tables_1, d.before a0 Z = true) (ws : List Jvm.Cond) (ca : Addr) (kc : ClassId) (cs : List Value) (h0 : Heap) (n0 : Nat) (Z0 : n0 ≤ h0.size) (VC : Arv Z h0 ca kc .char (2100 : Int32) cs (.int (0 : Int32))) (hcs : ∀ i, i < 2100 → ∃ x : Int32, cs.getD i (.int (0 : Int32)) = .int x ∧ ¬ (255 : Int32) < x) :
    MetFree l (⟨"java/lang/StringUTF16", "compress", "([CII)[B"⟩ : MethodName) (head1 (Jvm.Cond.code (⟨"java/lang/StringUTF16", "compress", "([CII)[B"⟩ : MethodName) jdk_52_method_16_code 6 (some (.array .byte)) :: ws) ({ frames := 1, cells := 1, slots := 2100, locals := 18 } : Room)) (fun aa_ U => aa_ = #[(.ref ca), (.int (0 : Int32)), (.int (2100 : Int32))] ∧ Z.Warmed39 U.vm ∧ U.heap = h0) (fun _ _ _ _ _ => True) (fun _ U o_ U' => RetG U (Q_cmpN_2100 Z ca kc cs h0 n0) 1 2100 U' o_) := by
  refine MetFree.of_bodySF (plainFor_of_name own_pn3) hisR ?_
  intro p e s m args below meth c_ s₁ Bd hml0 hP hK
  obtain ⟨rfl, hZ, hh⟩ := hP
  have hx := Bd.exec
  have hby := Bd.bytes
  have hml : c_.maxLocals = 6 := hml0
  have hown : s.vm.findClass "java/lang/StringUTF16" = some m.cls := findClass_of_methodNamed Bd.named
  have hnm := (name_of_methodNamed Bd.named Bd.method).1
  have X0 : Stand p l e ({ frames := 1, cells := 1, slots := 2100, locals := 18 } : Room) s m #[(.ref ca), (.int (0 : Int32)), (.int (2100 : Int32))] below meth c_ s₁ [] 0 0 := Stand.of_body Bd
  have e0 : s₁.heap = h0 := by rw [← hh, Bd.state]; rfl
  have N0 := Fr.nil n0
  have w3_ := hw _ (List.mem_of_getElem? (i := 3) rfl)
  have w39_ := hw _ (List.mem_of_getElem? (i := 39) rfl)
  have w41_ := hw _ (List.mem_of_getElem? (i := 41) rfl)
  have w42_ := hw _ (List.mem_of_getElem? (i := 42) rfl)
  have w43_ := hw _ (List.mem_of_getElem? (i := 43) rfl)
  show Go p e below (RetG s (Q_cmpN_2100 Z ca kc cs h0 n0) 1 2100) (s₁.setTop (entryFrame m #[(.ref ca), (.int (0 : Int32)), (.int (2100 : Int32))] 6))
  rw [show entryFrame m #[(.ref ca), (.int (0 : Int32)), (.int (2100 : Int32))] 6 = mkF m 0 #[.val (.ref ca), .val (.int (0 : Int32)), .val (.int (2100 : Int32)), .unset, .unset, .unset] [] from by first | (simp [entryFrame, mkF, argsToLocals, Value.category]; done) | rfl]
  refine g_iloadN X0 hx hby d8_0 rfl ?_
  refine g_newarray X0 hx hby hZ .byte .byte (.int (0 : Int32)) (List.replicate 2100 (.int (0 : Int32))) rfl rfl w3_ e0 (by decide) 2100 rfl (by decide) (by decide) (by decide) (by decide) d8_1 (fun T1 h1 k1 b1 g1 X1 e1 E1 V1 => ?_)
  refine g_astoreN X1 hx hby d8_3 rfl (l' := #[.val (.ref ca), .val (.int (0 : Int32)), .val (.int (2100 : Int32)), .val (.ref b1), .unset, .unset]) rfl ?_
  refine g_aloadN X1 hx hby d8_4 rfl rfl ?_
  refine g_iloadN X1 hx hby d8_5 rfl ?_
  refine g_aloadN X1 hx hby d8_6 rfl rfl ?_
  refine g_iconst X1 hx hby (0 : Int32) d8_7 rfl ?_
  refine g_iloadN X1 hx hby d8_8 rfl ?_
  have f3 := (VC.ext E1)
  have ne4 : ca ≠ b1 := (Nat.ne_of_lt (Nat.lt_of_lt_of_le VC.lt (Nat.le_of_eq g1)))
  have g_b1 : n0 ≤ b1 := Nat.le_trans Z0 (Nat.le_of_eq g1)
  have z5 := (Nat.le_trans Z0 E1.1)
  refine g_static X1 hx hby hZ hown (rm_cmp5N l Z a0 hw [] ca b1 kc k1 (2100 : Int32) 2100 cs (List.replicate 2100 (.int (0 : Int32))) h1 n0 z5 rfl f3 V1 ne4 g_b1 (by rw [List.length_replicate]; exact Nat.le_of_ble_eq_true rfl) hcs) w41_ w42_ w39_ w43_ (by decide) e1 (by rw [hml]; rfl) [(.ref ca), (.int (0 : Int32)), (.ref b1), (.int (0 : Int32)), (.int (2100 : Int32))] (lenOf own_pd5 rfl) rfl rfl (Nat.le_of_ble_eq_true rfl) (Nat.le_of_ble_eq_true rfl) (Nat.le_of_ble_eq_true rfl) (Nat.le_of_ble_eq_true rfl) d8_9 (fun v2 T2 L2 X2 hQ2 => ?_)
  obtain ⟨rfl, N2q, K2, bs2, V2⟩ := hQ2
  have N2 := Fr.app N0 N2q
  refine g_istore X2 hx hby d8_12 (l' := #[.val (.ref ca), .val (.int (0 : Int32)), .val (.int (2100 : Int32)), .val (.ref b1), .val (.int (2100 : Int32)), .unset]) rfl ?_
  refine g_iload X2 hx hby d8_14 rfl ?_
  refine g_iloadN X2 hx hby d8_16 rfl ?_
  refine g_icY X2 hx hby 57 d8_17 (teq (by decide : (2100 : Int32) = (2100 : Int32))).1 (by decide) (by decide) ?_
  refine g_aloadN X2 hx hby d8_57 rfl rfl ?_
  refine g_aret X2 hx hby (t := (.array .byte)) rfl rfl rfl Bd.returns Bd.notSynchronized d8_58 rfl (by decide) (by decide) ?_
  show (Q_cmpN_2100 Z ca kc cs h0 n0) (some (.ref b1)) _ _
  exact ⟨N2, (((Keep.refl h0 []).ext E1).trans K2 (allS (Or.inr (Nat.le_trans (Nat.le_refl _) (Nat.le_of_eq g1))) all0)), b1, k1, _, rfl, (Nat.le_trans (Nat.le_refl _) (Nat.le_of_eq g1)), V2⟩

def Q_cfal_2100_2100 (Z : State) (ba : Addr) (kb : ClassId) (bs : List Value) (h0 : Heap) (n0 : Nat) (v : Option Value) (h : Heap) (L : List Loc) : Prop := v = some (.int (0 : Int32)) ∧ Fr n0 L ∧ h = h0
set_option maxRecDepth 65536 in
set_option maxHeartbeats 40000000 in
theorem rm_cfal_2100_2100 (l : Launch) (Z : State) (a0 : Array Value) (hw : ∀ d ∈ tables_1, d.before a0 Z = true) (ws : List Jvm.Cond) (ba : Addr) (kb : ClassId) (bs : List Value) (h0 : Heap) (n0 : Nat) (Z0 : n0 ≤ h0.size) (VB : Arv Z h0 ba kb .byte (2100 : Int32) bs (.int (0 : Int32))) :
    MetFree l (⟨"java/lang/StringUTF16", "coderFromArrayLen", "([BI)B"⟩ : MethodName) (head1 (Jvm.Cond.code (⟨"java/lang/StringUTF16", "coderFromArrayLen", "([BI)B"⟩ : MethodName) jdk_52_method_15_code 2 (some .byte) :: ws) ({ frames := 0, cells := 0, slots := 0, locals := 0 } : Room)) (fun aa_ U => aa_ = #[(.ref ba), (.int (2100 : Int32))] ∧ Z.Warmed39 U.vm ∧ U.heap = h0) (fun _ _ _ _ _ => True) (fun _ U o_ U' => RetG U (Q_cfal_2100_2100 Z ba kb bs h0 n0) 0 0 U' o_) := by
  refine MetFree.of_bodySF (plainFor_of_name own_pn3) hisR ?_
  intro p e s m args below meth c_ s₁ Bd hml0 hP hK
  obtain ⟨rfl, hZ, hh⟩ := hP
  have hx := Bd.exec
  have hby := Bd.bytes
  have hml : c_.maxLocals = 2 := hml0
  have hown : s.vm.findClass "java/lang/StringUTF16" = some m.cls := findClass_of_methodNamed Bd.named
  have hnm := (name_of_methodNamed Bd.named Bd.method).1
  have X0 : Stand p l e ({ frames := 0, cells := 0, slots := 0, locals := 0 } : Room) s m #[(.ref ba), (.int (2100 : Int32))] below meth c_ s₁ [] 0 0 := Stand.of_body Bd
  have e0 : s₁.heap = h0 := by rw [← hh, Bd.state]; rfl
  have N0 := Fr.nil n0
  show Go p e below (RetG s (Q_cfal_2100_2100 Z ba kb bs h0 n0) 0 0) (s₁.setTop (entryFrame m #[(.ref ba), (.int (2100 : Int32))] 2))
  rw [show entryFrame m #[(.ref ba), (.int (2100 : Int32))] 2 = mkF m 0 #[.val (.ref ba), .val (.int (2100 : Int32))] [] from by first | (simp [entryFrame, mkF, argsToLocals, Value.category]; done) | rfl]
  refine g_iloadN X0 hx hby d10_0 rfl ?_
  refine g_aloadN X0 hx hby d10_1 rfl rfl ?_
  refine g_arraylength X0 hx hby hZ e0 VB d10_2 ?_
  refine g_isub X0 hx hby d10_3 ?_
  refine g_topI (0 : Int32) (by decide) ?_
  refine g_bipush X0 hx hby (31 : Int32) d10_4 rfl ?_
  refine g_iushr X0 hx hby d10_6 ?_
  refine g_topI (0 : Int32) (by decide) ?_
  refine g_i2b X0 hx hby d10_7 ?_
  refine g_topI (0 : Int32) (by decide) ?_
  refine g_nret X0 hx hby (t := .byte) (by simp) Bd.returns Bd.notSynchronized d10_8 e0 (by decide) (by decide) ?_
  show (Q_cfal_2100_2100 Z ba kb bs h0 n0) (some (.int (0 : Int32))) _ _
  exact ⟨rfl, N0, rfl⟩

def Q_iniN4_2100 (Z : State) (a : Addr) (ca : Addr) (kc : ClassId) (cs : List Value) (cz : Int32) (h0 : Heap) (n0 : Nat) (v : Option Value) (h : Heap) (L : List Loc) : Prop := v = none ∧ Fr n0 L ∧ Keep h0 h [a] ∧ ∃ (b : Addr) (kb : ClassId) (bs : List Value), h0.size ≤ b ∧ Exa Z h a "java/lang/String" ∧ Fld Z h a "java/lang/String" "coder" "B" (.int (0 : Int32)) ∧ Fld Z h a "java/lang/String" "value" "[B" (.ref b) ∧ Arv Z h b kb .byte (2100 : Int32) bs (.int (0 : Int32))
set_option maxRecDepth 65536 in
set_option maxHeartbeats 40000000 in
theorem rm_iniN4_2100 (l : Launch) (Z : State) (a0 : Array Value) (hw : ∀ d ∈ tables_1, d.before a0 Z = true) (ws : List Jvm.Cond) (a : Addr) (ca : Addr) (kc : ClassId) (cs : List Value) (cz : Int32) (h0 : Heap) (n0 : Nat) (Z0 : n0 ≤ h0.size) (O2 : Sta Z Z.heap "java/lang/String" "COMPACT_STRINGS" "Z" (.int cz)) (P5 : ¬ cz = (0 : Int32)) (OLD : Old Z n0 h0) (E : Exa Z h0 a "java/lang/String") (FC : Fld Z h0 a "java/lang/String" "coder" "B" (.int (0 : Int32))) (FV : Fld Z h0 a "java/lang/String" "value" "[B" .null) (ga : n0 ≤ a) (VC : Arv Z h0 ca kc .char (2100 : Int32) cs (.int (0 : Int32))) (hcs : ∀ i, i < 2100 → ∃ x : Int32, cs.getD i (.int (0 : Int32)) = .int x ∧ ¬ (255 : Int32) < x) :
    MetFree l (⟨"java/lang/String", "<init>", "([CIILjava/lang/Void;)V"⟩ : MethodName) (head1 (Jvm.Cond.code (⟨"java/lang/String", "<init>", "([CIILjava/lang/Void;)V"⟩ : MethodName) jdk_42_method_149_code 6 none :: ws) ({ frames := 2, cells := 1, slots := 2100, locals := 35 } : Room)) (fun aa_ U => aa_ = #[(.ref a), (.ref ca), (.int (0 : Int32)), (.int (2100 : Int32)), .null] ∧ Z.Warmed39 U.vm ∧ U.heap = h0) (fun _ _ _ _ _ => True) (fun _ U o_ U' => RetG U (Q_iniN4_2100 Z a ca kc cs cz h0 n0) 1 2100 U' o_) := by
  refine MetFree.of_bodySF (plainFor_of_name own_pn2) hisR ?_
  intro p e s m args below meth c_ s₁ Bd hml0 hP hK
  obtain ⟨rfl, hZ, hh⟩ := hP
  have hx := Bd.exec
  have hby := Bd.bytes
  have hml : c_.maxLocals = 6 := hml0
  have hown : s.vm.findClass "java/lang/String" = some m.cls := findClass_of_methodNamed Bd.named
  have hnm := (name_of_methodNamed Bd.named Bd.method).1
  have X0 : Stand p l e ({ frames := 2, cells := 1, slots := 2100, locals := 35 } : Room) s m #[(.ref a), (.ref ca), (.int (0 : Int32)), (.int (2100 : Int32)), .null] below meth c_ s₁ [] 0 0 := Stand.of_body Bd
  have e0 : s₁.heap = h0 := by rw [← hh, Bd.state]; rfl
  have N0 := Fr.nil n0
  have w2_ := hw _ (List.mem_of_getElem? (i := 2) rfl)
  have w4_ := hw _ (List.mem_of_getElem? (i := 4) rfl)
  have w5_ := hw _ (List.mem_of_getElem? (i := 5) rfl)
  have w11_ := hw _ (List.mem_of_getElem? (i := 11) rfl)
  have w24_ := hw _ (List.mem_of_getElem? (i := 24) rfl)
  have w25_ := hw _ (List.mem_of_getElem? (i := 25) rfl)
  have w26_ := hw _ (List.mem_of_getElem? (i := 26) rfl)
  have w27_ := hw _ (List.mem_of_getElem? (i := 27) rfl)
  have w28_ := hw _ (List.mem_of_getElem? (i := 28) rfl)
  have w37_ := hw _ (List.mem_of_getElem? (i := 37) rfl)
  have w38_ := hw _ (List.mem_of_getElem? (i := 38) rfl)
  have w39_ := hw _ (List.mem_of_getElem? (i := 39) rfl)
  have w40_ := hw _ (List.mem_of_getElem? (i := 40) rfl)
  have w44_ := hw _ (List.mem_of_getElem? (i := 44) rfl)
  have w45_ := hw _ (List.mem_of_getElem? (i := 45) rfl)
  have w46_ := hw _ (List.mem_of_getElem? (i := 46) rfl)
  show Go p e below (RetG s (Q_iniN4_2100 Z a ca kc cs cz h0 n0) 1 2100) (s₁.setTop (entryFrame m #[(.ref a), (.ref ca), (.int (0 : Int32)), (.int (2100 : Int32)), .null] 6))
  rw [show entryFrame m #[(.ref a), (.ref ca), (.int (0 : Int32)), (.int (2100 : Int32)), .null] 6 = mkF m 0 #[.val (.ref a), .val (.ref ca), .val (.int (0 : Int32)), .val (.int (2100 : Int32)), .val .null, .unset] [] from by first | (simp [entryFrame, mkF, argsToLocals, Value.category]; done) | rfl]
  refine g_aloadN X0 hx hby d7_0 rfl rfl ?_
  refine g_initO X0 hx hby hZ hown w24_ w25_ w26_ e0 (by rw [hml]; rfl) (Nat.le_of_ble_eq_true rfl) (Nat.le_of_ble_eq_true rfl) d7_1 (fun T1 X1 e1 => ?_)
  refine g_iloadN X1 hx hby d7_4 rfl ?_
  refine g_ifY X1 hx hby 27 d7_5 (feq (by decide : ¬ ((2100 : Int32) = (0 : Int32)))).2 (by decide) (by decide) ?_
  refine g_getS X1 hx hby hZ hown (host := "") (Or.inl w11_) Via.refl e1 (O2.ext OLD.2) d7_27 (fun T2 X2 e2 => ?_)
  refine g_ifN X2 hx hby d7_30 (feq (P5 : ¬ (cz = (0 : Int32)))).1 ?_
  refine g_aloadN X2 hx hby d7_33 rfl rfl ?_
  refine g_iloadN X2 hx hby d7_34 rfl ?_
  refine g_iloadN X2 hx hby d7_35 rfl ?_
  refine g_static X2 hx hby hZ hown (rm_cmpN_2100 l Z a0 hw [] ca kc cs h0 n0 Z0 VC hcs) w37_ w38_ w39_ w40_ (by decide) e2 (by rw [hml]; rfl) [(.ref ca), (.int (0 : Int32)), (.int (2100 : Int32))] (lenOf own_pd6 rfl) rfl rfl (Nat.le_of_ble_eq_true rfl) (Nat.le_of_ble_eq_true rfl) (Nat.le_of_ble_eq_true rfl) (Nat.le_of_ble_eq_true rfl) d7_36 (fun v3 T3 L3 X3 hQ3 => ?_)
  obtain ⟨N3q, K3, t3, kt3, bs3, rfl, lt3, V3⟩ := hQ3
  have N3 := Fr.app N0 N3q
  refine g_astore X3 hx hby d7_39 rfl (l' := #[.val (.ref a), .val (.ref ca), .val (.int (0 : Int32)), .val (.int (2100 : Int32)), .val .null, .val (.ref t3)]) rfl ?_
  refine g_aloadN X3 hx hby d7_41 rfl rfl ?_
  refine g_aload X3 hx hby d7_42 rfl rfl ?_
  refine g_iloadN X3 hx hby d7_44 rfl ?_
  have z5 := (Nat.le_trans Z0 K3.1)
  refine g_static X3 hx hby hZ hown (rm_cfal_2100_2100 l Z a0 hw [] t3 kt3 bs3 T3.heap n0 z5 V3) w44_ w45_ w39_ w46_ (by decide) rfl (by rw [hml]; rfl) [(.ref t3), (.int (2100 : Int32))] (lenOf own_pd7 rfl) rfl rfl (Nat.le_of_ble_eq_true rfl) (Nat.le_of_ble_eq_true rfl) (Nat.le_of_ble_eq_true rfl) (Nat.le_of_ble_eq_true rfl) d7_45 (fun v4 T4 L4 X4 hQ4 => ?_)
  obtain ⟨rfl, N4q, eh4⟩ := hQ4
  have N4 := Fr.app N3 N4q
  have f6 := (E.keep K3)
  have f7 := (FC.keep K3 nin0)
  refine g_putFN X4 hx hby hZ hown w28_ Via.refl eh4 f7 f6 (Or.inr ⟨w5_, rfl, hnm⟩) w2_ .byte (by decide) (.int (0 : Int32)) rfl rfl N4 ga d7_48 (fun T8 h8 X8 e8 W8 F8 N8 => ?_)
  refine g_aloadN X8 hx hby d7_51 rfl rfl ?_
  refine g_aload X8 hx hby d7_52 rfl rfl ?_
  have f9 := (f6.wr W8)
  have f10 := ((FV.keep K3 nin0).other W8 (Or.inr (slot_ne (Or.inr w4_) (Or.inr w5_) (by decide) (t := (.array .byte)) (t' := .byte) (by decide) (by decide))))
  refine g_putF X8 hx hby hZ hown (host := "") (Or.inl w27_) Via.refl e8 f10 f9 (Or.inr ⟨w4_, rfl, hnm⟩) w2_ (.array .byte) (by decide) rfl rfl N8 ga d7_54 (fun T11 h11 X11 e11 W11 F11 N11 => ?_)
  have f12 := (f9.wr W11)
  have f13 := (F8.other W11 (Or.inr (slot_ne (Or.inr w5_) (Or.inr w4_) (by decide) (t := .byte) (t' := (.array .byte)) (by decide) (by decide))))
  have ne14 : t3 ≠ a := (Ne.symm (Nat.ne_of_lt (Nat.lt_of_lt_of_le E.lt lt3)))
  have f15 := ((V3.other W8 ne14).other W11 ne14)
  refine g_ret X11 hx hby Bd.returns Bd.notSynchronized d7_57 e11 (by decide) (by decide) ?_
  show (Q_iniN4_2100 Z a ca kc cs cz h0 n0) none _ _
  exact ⟨rfl, N11, ((((Keep.refl h0 [a]).trans K3 all0).wr W8 (Or.inl (List.mem_of_getElem? (i := 0) rfl))).wr W11 (Or.inl (List.mem_of_getElem? (i := 0) rfl))), t3, kt3, _, (Nat.le_trans (Nat.le_refl _) lt3), f12, f13, F11, f15⟩

def Q_iniN1_2100 (Z : State) (a : Addr) (ca : Addr) (kc : ClassId) (cs : List Value) (cz : Int32) (h0 : Heap) (n0 : Nat) (v : Option Value) (h : Heap) (L : List Loc) : Prop := v = none ∧ Fr n0 L ∧ Keep h0 h [a] ∧ ∃ (b : Addr) (kb : ClassId) (bs : List Value), h0.size ≤ b ∧ Exa Z h a "java/lang/String" ∧ Fld Z h a "java/lang/String" "coder" "B" (.int (0 : Int32)) ∧ Fld Z h a "java/lang/String" "value" "[B" (.ref b) ∧ Arv Z h b kb .byte (2100 : Int32) bs (.int (0 : Int32))
set_option maxRecDepth 65536 in
set_option maxHeartbeats 40000000 in
theorem rm_iniN1_2100 (l : Launch) (Z : State) (a0 : Array Value) (hw : ∀ d ∈ tables_1, d.before a0 Z = true) (ws : List Jvm.Cond) (a : Addr) (ca : Addr) (kc : ClassId) (cs : List Value) (cz : Int32) (h0 : Heap) (n0 : Nat) (Z0 : n0 ≤ h0.size) (O2 : Sta Z Z.heap "java/lang/String" "COMPACT_STRINGS" "Z" (.int cz)) (P5 : ¬ cz = (0 : Int32)) (OLD : Old Z n0 h0) (E : Exa Z h0 a "java/lang/String") (FC : Fld Z h0 a "java/lang/String" "coder" "B" (.int (0 : Int32))) (FV : Fld Z h0 a "java/lang/String" "value" "[B" .null) (ga : n0 ≤ a) (VC : Arv Z h0 ca kc .char (2100 : Int32) cs (.int (0 : Int32))) (hcs : ∀ i, i < 2100 → ∃ x : Int32, cs.getD i (.int (0 : Int32)) = .int x ∧ ¬ (255 : Int32) < x) :
    MetFree l (⟨"java/lang/String", "<init>", "([C)V"⟩ : MethodName) (head1 (Jvm.Cond.code (⟨"java/lang/String", "<init>", "([C)V"⟩ : MethodName) jdk_42_method_3_code 2 none :: ws) ({ frames := 3, cells := 1, slots := 2100, locals := 52 } : Room)) (fun aa_ U => aa_ = #[(.ref a), (.ref ca)] ∧ Z.Warmed39 U.vm ∧ U.heap = h0) (fun _ _ _ _ _ => True) (fun _ U o_ U' => RetG U (Q_iniN1_2100 Z a ca kc cs cz h0 n0) 1 2100 U' o_) := by
  refine MetFree.of_bodySF (plainFor_of_name own_pn2) hisR ?_
  intro p e s m args below meth c_ s₁ Bd hml0 hP hK
  obtain ⟨rfl, hZ, hh⟩ := hP
  have hx := Bd.exec
  have hby := Bd.bytes
  have hml : c_.maxLocals = 2 := hml0
  have hown : s.vm.findClass "java/lang/String" = some m.cls := findClass_of_methodNamed Bd.named
  have hnm := (name_of_methodNamed Bd.named Bd.method).1
  have X0 : Stand p l e ({ frames := 3, cells := 1, slots := 2100, locals := 52 } : Room) s m #[(.ref a), (.ref ca)] below meth c_ s₁ [] 0 0 := Stand.of_body Bd
  have e0 : s₁.heap = h0 := by rw [← hh, Bd.state]; rfl
  have N0 := Fr.nil n0
  have w1_ := hw _ (List.mem_of_getElem? (i := 1) rfl)
  have w34_ := hw _ (List.mem_of_getElem? (i := 34) rfl)
  have w35_ := hw _ (List.mem_of_getElem? (i := 35) rfl)
  have w36_ := hw _ (List.mem_of_getElem? (i := 36) rfl)
  show Go p e below (RetG s (Q_iniN1_2100 Z a ca kc cs cz h0 n0) 1 2100) (s₁.setTop (entryFrame m #[(.ref a), (.ref ca)] 2))
  rw [show entryFrame m #[(.ref a), (.ref ca)] 2 = mkF m 0 #[.val (.ref a), .val (.ref ca)] [] from by first | (simp [entryFrame, mkF, argsToLocals, Value.category]; done) | rfl]
  refine g_aloadN X0 hx hby d6_0 rfl rfl ?_
  refine g_aloadN X0 hx hby d6_1 rfl rfl ?_
  refine g_iconst X0 hx hby (0 : Int32) d6_2 rfl ?_
  refine g_aloadN X0 hx hby d6_3 rfl rfl ?_
  refine g_arraylength X0 hx hby hZ e0 VC d6_4 ?_
  refine g_aconst_null X0 hx hby d6_5 ?_
  refine g_special X0 hx hby hZ hown (rm_iniN4_2100 l Z a0 hw [] a ca kc cs cz h0 n0 Z0 O2 P5 OLD E FC FV ga VC hcs) rfl rfl w34_ w35_ w1_ w36_ (by decide) e0 (by rw [hml]; rfl) [(.ref ca), (.int (0 : Int32)), (.int (2100 : Int32)), .null] (lenOf own_pd8 rfl) rfl rfl (Nat.le_of_ble_eq_true rfl) (Nat.le_of_ble_eq_true rfl) (Nat.le_of_ble_eq_true rfl) (Nat.le_of_ble_eq_true rfl) d6_6 (fun v1 T1 L1 X1 hQ1 => ?_)
  obtain ⟨rfl, N1q, R1⟩ := hQ1
  have N1 := Fr.app N0 N1q
  refine g_ret X1 hx hby Bd.returns Bd.notSynchronized d6_9 rfl (by decide) (by decide) ?_
  show (Q_iniN1_2100 Z a ca kc cs cz h0 n0) none _ _
  exact ⟨rfl, N1, R1⟩

theorem d12_0 : decode prog_79_method_10_code 0 = .ok (.aload_n 0, 1) := by decide +kernel
theorem d12_1 : decode prog_79_method_10_code 1 = .ok (.sipush 1024, 3) := by decide +kernel
theorem d12_4 : decode prog_79_method_10_code 4 = .ok (.newarray .char, 2) := by decide +kernel
theorem d12_6 : decode prog_79_method_10_code 6 = .ok (.putfield 26, 3) := by decide +kernel
theorem d12_9 : decode prog_79_method_10_code 9 = .ok (.aload_n 0, 1) := by decide +kernel
theorem d12_10 : decode prog_79_method_10_code 10 = .ok (.sipush 128, 3) := by decide +kernel
theorem d12_13 : decode prog_79_method_10_code 13 = .ok (.newarray .int, 2) := by decide +kernel
theorem d12_15 : decode prog_79_method_10_code 15 = .ok (.putfield 46, 3) := by decide +kernel
theorem d12_18 : decode prog_79_method_10_code 18 = .ok (.aload_n 0, 1) := by decide +kernel
theorem d12_19 : decode prog_79_method_10_code 19 = .ok (.iconst 0, 1) := by decide +kernel
theorem d12_20 : decode prog_79_method_10_code 20 = .ok (.putfield 12, 3) := by decide +kernel
theorem d12_23 : decode prog_79_method_10_code 23 = .ok (.return_, 1) := by decide +kernel
theorem own_pn4 : plainName "com/example/invix/invix/sort/KeyBuffer" = true := by first | (simp [plainName, overriddenIn]; done) | decide +kernel
def Q_clear (Z : State) (ko : Addr) (oc : Value) (oe : Value) (on : Int32) (h0 : Heap) (n0 : Nat) (v : Option Value) (h : Heap) (L : List Loc) : Prop := v = none ∧ Fr n0 L ∧ Keep h0 h [ko] ∧ ∃ (ch en : Addr) (kc ke : ClassId), h0.size ≤ ch ∧ h0.size ≤ en ∧ ch ≠ en ∧ Exa Z h ko "com/example/invix/invix/sort/KeyBuffer" ∧ Fld Z h ko "com/example/invix/invix/sort/KeyBuffer" "characters" "[C" (.ref ch) ∧ Fld Z h ko "com/example/invix/invix/sort/KeyBuffer" "ends" "[I" (.ref en) ∧ Fld Z h ko "com/example/invix/invix/sort/KeyBuffer" "count" "I" (.int (0 : Int32)) ∧ Arv Z h ch kc .char (1024 : Int32) (List.replicate 1024 (.int (0 : Int32))) (.int (0 : Int32)) ∧ Arv Z h en ke .int (128 : Int32) (List.replicate 128 (.int (0 : Int32))) (.int (0 : Int32))
set_option maxRecDepth 65536 in
set_option maxHeartbeats 40000000 in
theorem rm_clear (l : Launch) (Z : State) (a0 : Array Value) (hw : ∀ d ∈ tables_1, d.before a0 Z = true) (ws : List Jvm.Cond) (ko : Addr) (oc : Value) (oe : Value) (on : Int32) (h0 : Heap) (n0 : Nat) (Z0 : n0 ≤ h0.size) (E : Exa Z h0 ko "com/example/invix/invix/sort/KeyBuffer") (F1 : Fld Z h0 ko "com/example/invix/invix/sort/KeyBuffer" "characters" "[C" oc) (F2 : Fld Z h0 ko "com/example/invix/invix/sort/KeyBuffer" "ends" "[I" oe) (F3 : Fld Z h0 ko "com/example/invix/invix/sort/KeyBuffer" "count" "I" (.int on)) (gk : n0 ≤ ko) :
    MetFree l (⟨"com/example/invix/invix/sort/KeyBuffer", "clear", "()V"⟩ : MethodName) (head1 (Jvm.Cond.code (⟨"com/example/invix/invix/sort/KeyBuffer", "clear", "()V"⟩ : MethodName) prog_79_method_10_code 1 none :: ws) ({ frames := 0, cells := 2, slots := 1152, locals := 0 } : Room)) (fun aa_ U => aa_ = #[(.ref ko)] ∧ Z.Warmed39 U.vm ∧ U.heap = h0) (fun _ _ _ _ _ => True) (fun _ U o_ U' => RetG U (Q_clear Z ko oc oe on h0 n0) 2 1152 U' o_) := by
  refine MetFree.of_bodySF (plainFor_of_name own_pn4) hisR ?_
  intro p e s m args below meth c_ s₁ Bd hml0 hP hK
  obtain ⟨rfl, hZ, hh⟩ := hP
  have hx := Bd.exec
  have hby := Bd.bytes
  have hml : c_.maxLocals = 1 := hml0
  have hown : s.vm.findClass "com/example/invix/invix/sort/KeyBuffer" = some m.cls := findClass_of_methodNamed Bd.named
  have hnm := (name_of_methodNamed Bd.named Bd.method).1
  have X0 : Stand p l e ({ frames := 0, cells := 2, slots := 1152, locals := 0 } : Room) s m #[(.ref ko)] below meth c_ s₁ [] 0 0 := Stand.of_body Bd
  have e0 : s₁.heap = h0 := by rw [← hh, Bd.state]; rfl
  have N0 := Fr.nil n0
  have w30_ := hw _ (List.mem_of_getElem? (i := 30) rfl)
  have w48_ := hw _ (List.mem_of_getElem? (i := 48) rfl)
  have w59_ := hw _ (List.mem_of_getElem? (i := 59) rfl)
  have w60_ := hw _ (List.mem_of_getElem? (i := 60) rfl)
  have w61_ := hw _ (List.mem_of_getElem? (i := 61) rfl)
  have w62_ := hw _ (List.mem_of_getElem? (i := 62) rfl)
  have w63_ := hw _ (List.mem_of_getElem? (i := 63) rfl)
  have w64_ := hw _ (List.mem_of_getElem? (i := 64) rfl)
  have w65_ := hw _ (List.mem_of_getElem? (i := 65) rfl)
  show Go p e below (RetG s (Q_clear Z ko oc oe on h0 n0) 2 1152) (s₁.setTop (entryFrame m #[(.ref ko)] 1))
  rw [show entryFrame m #[(.ref ko)] 1 = mkF m 0 #[.val (.ref ko)] [] from by first | (simp [entryFrame, mkF, argsToLocals, Value.category]; done) | rfl]
  refine g_aloadN X0 hx hby d12_0 rfl rfl ?_
  refine g_sipush X0 hx hby (1024 : Int32) d12_1 rfl ?_
  refine g_newarray X0 hx hby hZ .char .char (.int (0 : Int32)) (List.replicate 1024 (.int (0 : Int32))) rfl rfl w30_ e0 (by decide) 1024 rfl (by decide) (by decide) (by decide) (by decide) d12_4 (fun T1 h1 k1 b1 g1 X1 e1 E1 V1 => ?_)
  have f2 := (E.ext E1)
  have f3 := (F1.ext E1)
  refine g_putF X1 hx hby hZ hown (host := "") (Or.inl w59_) Via.refl e1 f3 f2 (Or.inl w60_) w48_ (.array .char) (by decide) rfl rfl N0 gk d12_6 (fun T4 h4 X4 e4 W4 F4 N4 => ?_)
  refine g_aloadN X4 hx hby d12_9 rfl rfl ?_
  refine g_sipush X4 hx hby (128 : Int32) d12_10 rfl ?_
  refine g_newarray X4 hx hby hZ .int .int (.int (0 : Int32)) (List.replicate 128 (.int (0 : Int32))) rfl rfl w61_ e4 (by decide) 128 rfl (by decide) (by decide) (by decide) (by decide) d12_13 (fun T5 h5 k5 b5 g5 X5 e5 E5 V5 => ?_)
  have f6 := ((f2.wr W4).ext E5)
  have f7 := (((F2.ext E1).other W4 (Or.inr (slot_ne (Or.inl w63_) (Or.inl w60_) (by decide) (t := (.array .int)) (t' := (.array .char)) (by decide) (by decide)))).ext E5)
  refine g_putF X5 hx hby hZ hown (host := "") (Or.inl w62_) Via.refl e5 f7 f6 (Or.inl w63_) w48_ (.array .int) (by decide) rfl rfl N4 gk d12_15 (fun T8 h8 X8 e8 W8 F8 N8 => ?_)
  refine g_aloadN X8 hx hby d12_18 rfl rfl ?_
  refine g_iconst X8 hx hby (0 : Int32) d12_19 rfl ?_
  have f9 := (f6.wr W8)
  have f10 := ((((F3.ext E1).other W4 (Or.inr (slot_ne (Or.inl w65_) (Or.inl w60_) (by decide) (t := .int) (t' := (.array .char)) (by decide) (by decide)))).ext E5).other W8 (Or.inr (slot_ne (Or.inl w65_) (Or.inl w63_) (by decide) (t := .int) (t' := (.array .int)) (by decide) (by decide))))
  refine g_putF X8 hx hby hZ hown (host := "") (Or.inl w64_) Via.refl e8 f10 f9 (Or.inl w65_) w48_ .int (by decide) rfl rfl N8 gk d12_20 (fun T11 h11 X11 e11 W11 F11 N11 => ?_)
  have ne12 : b1 ≠ b5 := (Nat.ne_of_lt (Nat.lt_of_lt_of_le V1.lt (Nat.le_trans (Keep.of_wr W4).1 (Nat.le_of_eq g5))))
  have f13 := (f9.wr W11)
  have f14 := (((F4.ext E5).other W8 (Or.inr (slot_ne (Or.inl w60_) (Or.inl w63_) (by decide) (t := (.array .char)) (t' := (.array .int)) (by decide) (by decide)))).other W11 (Or.inr (slot_ne (Or.inl w60_) (Or.inl w65_) (by decide) (t := (.array .char)) (t' := .int) (by decide) (by decide))))
  have f15 := (F8.other W11 (Or.inr (slot_ne (Or.inl w63_) (Or.inl w65_) (by decide) (t := (.array .int)) (t' := .int) (by decide) (by decide))))
  have ne16 : b1 ≠ ko := (Ne.symm (Nat.ne_of_lt (Nat.lt_of_lt_of_le E.lt (Nat.le_of_eq g1))))
  have f17 := ((((V1.other W4 ne16).ext E5).other W8 ne16).other W11 ne16)
  have ne18 : b5 ≠ ko := (Ne.symm (Nat.ne_of_lt (Nat.lt_of_lt_of_le E.lt (Nat.le_trans (Nat.le_trans E1.1 (Keep.of_wr W4).1) (Nat.le_of_eq g5)))))
  have f19 := ((V5.other W8 ne18).other W11 ne18)
  refine g_ret X11 hx hby Bd.returns Bd.notSynchronized d12_23 e11 (by decide) (by decide) ?_
  show (Q_clear Z ko oc oe on h0 n0) none _ _
  exact ⟨rfl, N11, ((((((Keep.refl h0 [ko]).ext E1).wr W4 (Or.inl (List.mem_of_getElem? (i := 0) rfl))).ext E5).wr W8 (Or.inl (List.mem_of_getElem? (i := 0) rfl))).wr W11 (Or.inl (List.mem_of_getElem? (i := 0) rfl))), b1, b5, k1, k5, (Nat.le_trans (Nat.le_refl _) (Nat.le_of_eq g1)), (Nat.le_trans (Nat.le_trans E1.1 (Keep.of_wr W4).1) (Nat.le_of_eq g5)), ne12, f13, f14, f15, F11, f17, f19⟩

theorem d11_0 : decode prog_79_method_1_code 0 = .ok (.aload_n 0, 1) := by decide +kernel
theorem d11_1 : decode prog_79_method_1_code 1 = .ok (.invokespecial 1, 3) := by decide +kernel
theorem d11_4 : decode prog_79_method_1_code 4 = .ok (.aload_n 0, 1) := by decide +kernel
theorem d11_5 : decode prog_79_method_1_code 5 = .ok (.invokevirtual 7, 3) := by decide +kernel
theorem own_pd10 : parseMethodDescriptor "()V" = some ⟨[], none⟩ := by decide +kernel
theorem d11_8 : decode prog_79_method_1_code 8 = .ok (.return_, 1) := by decide +kernel
def Q_kini (Z : State) (ko : Addr) (h0 : Heap) (n0 : Nat) (v : Option Value) (h : Heap) (L : List Loc) : Prop := v = none ∧ Fr n0 L ∧ Keep h0 h [ko] ∧ ∃ (ch en : Addr) (kc ke : ClassId), h0.size ≤ ch ∧ h0.size ≤ en ∧ ch ≠ en ∧ Exa Z h ko "com/example/invix/invix/sort/KeyBuffer" ∧ Fld Z h ko "com/example/invix/invix/sort/KeyBuffer" "characters" "[C" (.ref ch) ∧ Fld Z h ko "com/example/invix/invix/sort/KeyBuffer" "ends" "[I" (.ref en) ∧ Fld Z h ko "com/example/invix/invix/sort/KeyBuffer" "count" "I" (.int (0 : Int32)) ∧ Arv Z h ch kc .char (1024 : Int32) (List.replicate 1024 (.int (0 : Int32))) (.int (0 : Int32)) ∧ Arv Z h en ke .int (128 : Int32) (List.replicate 128 (.int (0 : Int32))) (.int (0 : Int32))
set_option maxRecDepth 65536 in
set_option maxHeartbeats 40000000 in
theorem rm_kini (l : Launch) (Z : State) (a0 : Array Value) (hw : ∀ d ∈ tables_1, d.before a0 Z = true) (ws : List Jvm.Cond) (ko : Addr) (h0 : Heap) (n0 : Nat) (Z0 : n0 ≤ h0.size) (E : Exa Z h0 ko "com/example/invix/invix/sort/KeyBuffer") (F1 : Fld Z h0 ko "com/example/invix/invix/sort/KeyBuffer" "characters" "[C" .null) (F2 : Fld Z h0 ko "com/example/invix/invix/sort/KeyBuffer" "ends" "[I" .null) (F3 : Fld Z h0 ko "com/example/invix/invix/sort/KeyBuffer" "count" "I" (.int (0 : Int32))) (gk : n0 ≤ ko) :
    MetFree l (⟨"com/example/invix/invix/sort/KeyBuffer", "<init>", "()V"⟩ : MethodName) (head1 (Jvm.Cond.code (⟨"com/example/invix/invix/sort/KeyBuffer", "<init>", "()V"⟩ : MethodName) prog_79_method_1_code 1 none :: ws) ({ frames := 1, cells := 2, slots := 1152, locals := 12 } : Room)) (fun aa_ U => aa_ = #[(.ref ko)] ∧ Z.Warmed39 U.vm ∧ U.heap = h0) (fun _ _ _ _ _ => True) (fun _ U o_ U' => RetG U (Q_kini Z ko h0 n0) 2 1152 U' o_) := by
  refine MetFree.of_bodySF (plainFor_of_name own_pn4) hisR ?_
  intro p e s m args below meth c_ s₁ Bd hml0 hP hK
  obtain ⟨rfl, hZ, hh⟩ := hP
  have hx := Bd.exec
  have hby := Bd.bytes
  have hml : c_.maxLocals = 1 := hml0
  have hown : s.vm.findClass "com/example/invix/invix/sort/KeyBuffer" = some m.cls := findClass_of_methodNamed Bd.named
  have hnm := (name_of_methodNamed Bd.named Bd.method).1
  have X0 : Stand p l e ({ frames := 1, cells := 2, slots := 1152, locals := 12 } : Room) s m #[(.ref ko)] below meth c_ s₁ [] 0 0 := Stand.of_body Bd
  have e0 : s₁.heap = h0 := by rw [← hh, Bd.state]; rfl
  have N0 := Fr.nil n0
  have w25_ := hw _ (List.mem_of_getElem? (i := 25) rfl)
  have w26_ := hw _ (List.mem_of_getElem? (i := 26) rfl)
  have w49_ := hw _ (List.mem_of_getElem? (i := 49) rfl)
  have w53_ := hw _ (List.mem_of_getElem? (i := 53) rfl)
  have w54_ := hw _ (List.mem_of_getElem? (i := 54) rfl)
  have w55_ := hw _ (List.mem_of_getElem? (i := 55) rfl)
  have w56_ := hw _ (List.mem_of_getElem? (i := 56) rfl)
  have w57_ := hw _ (List.mem_of_getElem? (i := 57) rfl)
  have w58_ := hw _ (List.mem_of_getElem? (i := 58) rfl)
  show Go p e below (RetG s (Q_kini Z ko h0 n0) 2 1152) (s₁.setTop (entryFrame m #[(.ref ko)] 1))
  rw [show entryFrame m #[(.ref ko)] 1 = mkF m 0 #[.val (.ref ko)] [] from by first | (simp [entryFrame, mkF, argsToLocals, Value.category]; done) | rfl]
  refine g_aloadN X0 hx hby d11_0 rfl rfl ?_
  refine g_initO X0 hx hby hZ hown w53_ w25_ w26_ e0 (by rw [hml]; rfl) (Nat.le_of_ble_eq_true rfl) (Nat.le_of_ble_eq_true rfl) d11_1 (fun T1 X1 e1 => ?_)
  refine g_aloadN X1 hx hby d11_4 rfl rfl ?_
  refine g_virtual X1 hx hby hZ hown (rm_clear l Z a0 hw [] ko .null .null (0 : Int32) h0 n0 Z0 E F1 F2 F3 gk) w54_ w55_ (notFace_of_selects (args := #[]) (mvT hZ w57_)) w57_ w56_ w49_ w58_ (by decide) e1 E (by rw [hml]; rfl) [] (lenOf own_pd10 rfl) rfl rfl (Nat.le_of_ble_eq_true rfl) (Nat.le_of_ble_eq_true rfl) (Nat.le_of_ble_eq_true rfl) (Nat.le_of_ble_eq_true rfl) d11_5 (fun v2 T2 L2 X2 hQ2 => ?_)
  obtain ⟨rfl, N2q, R2⟩ := hQ2
  have N2 := Fr.app N0 N2q
  refine g_ret X2 hx hby Bd.returns Bd.notSynchronized d11_8 rfl (by decide) (by decide) ?_
  show (Q_kini Z ko h0 n0) none _ _
  exact ⟨rfl, N2, R2⟩

theorem d13_0 : decode prog_79_method_7_code 0 = .ok (.ldc2_w 62, 3) := by decide +kernel
theorem d13_3 : decode prog_79_method_7_code 3 = .ok (.aload_n 0, 1) := by decide +kernel
theorem d13_4 : decode prog_79_method_7_code 4 = .ok (.getfield 26, 3) := by decide +kernel
theorem d13_7 : decode prog_79_method_7_code 7 = .ok (.arraylength, 1) := by decide +kernel
theorem d13_8 : decode prog_79_method_7_code 8 = .ok (.i2l, 1) := by decide +kernel
theorem d13_9 : decode prog_79_method_7_code 9 = .ok (.lmul, 1) := by decide +kernel
theorem d13_10 : decode prog_79_method_7_code 10 = .ok (.ldc2_w 66, 3) := by decide +kernel
theorem d13_13 : decode prog_79_method_7_code 13 = .ok (.aload_n 0, 1) := by decide +kernel
theorem d13_14 : decode prog_79_method_7_code 14 = .ok (.getfield 46, 3) := by decide +kernel
theorem d13_17 : decode prog_79_method_7_code 17 = .ok (.arraylength, 1) := by decide +kernel
theorem d13_18 : decode prog_79_method_7_code 18 = .ok (.i2l, 1) := by decide +kernel
theorem d13_19 : decode prog_79_method_7_code 19 = .ok (.lmul, 1) := by decide +kernel
theorem d13_20 : decode prog_79_method_7_code 20 = .ok (.ladd, 1) := by decide +kernel
theorem d13_21 : decode prog_79_method_7_code 21 = .ok (.lreturn, 1) := by decide +kernel
def Q_memory (Z : State) (ko : Addr) (ch : Addr) (en : Addr) (kc : ClassId) (ke : ClassId) (cap : Int32) (vc : List Value) (ve : List Value) (h0 : Heap) (n0 : Nat) (v : Option Value) (h : Heap) (L : List Loc) : Prop := v = some (.long (((2 : Int64) * (cap.toInt64)) + (512 : Int64))) ∧ Fr n0 L ∧ h = h0
set_option maxRecDepth 65536 in
set_option maxHeartbeats 40000000 in
theorem rm_memory (l : Launch) (Z : State) (a0 : Array Value) (hw : ∀ d ∈ tables_1, d.before a0 Z = true) (ws : List Jvm.Cond) (ko : Addr) (ch : Addr) (en : Addr) (kc : ClassId) (ke : ClassId) (cap : Int32) (vc : List Value) (ve : List Value) (h0 : Heap) (n0 : Nat) (Z0 : n0 ≤ h0.size) (F1 : Fld Z h0 ko "com/example/invix/invix/sort/KeyBuffer" "characters" "[C" (.ref ch)) (F2 : Fld Z h0 ko "com/example/invix/invix/sort/KeyBuffer" "ends" "[I" (.ref en)) (VCh : Arv Z h0 ch kc .char cap vc (.int (0 : Int32))) (VE : Arv Z h0 en ke .int (128 : Int32) ve (.int (0 : Int32))) :
    MetFree l (⟨"com/example/invix/invix/sort/KeyBuffer", "memory", "()J"⟩ : MethodName) (head1 (Jvm.Cond.code (⟨"com/example/invix/invix/sort/KeyBuffer", "memory", "()J"⟩ : MethodName) prog_79_method_7_code 1 (some .long) :: ws) ({ frames := 0, cells := 0, slots := 0, locals := 0 } : Room)) (fun aa_ U => aa_ = #[(.ref ko)] ∧ Z.Warmed39 U.vm ∧ U.heap = h0) (fun _ _ _ _ _ => True) (fun _ U o_ U' => RetG U (Q_memory Z ko ch en kc ke cap vc ve h0 n0) 0 0 U' o_) := by
  refine MetFree.of_bodySF (plainFor_of_name own_pn4) hisR ?_
  intro p e s m args below meth c_ s₁ Bd hml0 hP hK
  obtain ⟨rfl, hZ, hh⟩ := hP
  have hx := Bd.exec
  have hby := Bd.bytes
  have hml : c_.maxLocals = 1 := hml0
  have hown : s.vm.findClass "com/example/invix/invix/sort/KeyBuffer" = some m.cls := findClass_of_methodNamed Bd.named
  have hnm := (name_of_methodNamed Bd.named Bd.method).1
  have X0 : Stand p l e ({ frames := 0, cells := 0, slots := 0, locals := 0 } : Room) s m #[(.ref ko)] below meth c_ s₁ [] 0 0 := Stand.of_body Bd
  have e0 : s₁.heap = h0 := by rw [← hh, Bd.state]; rfl
  have N0 := Fr.nil n0
  have w59_ := hw _ (List.mem_of_getElem? (i := 59) rfl)
  have w62_ := hw _ (List.mem_of_getElem? (i := 62) rfl)
  have w71_ := hw _ (List.mem_of_getElem? (i := 71) rfl)
  have w72_ := hw _ (List.mem_of_getElem? (i := 72) rfl)
  show Go p e below (RetG s (Q_memory Z ko ch en kc ke cap vc ve h0 n0) 0 0) (s₁.setTop (entryFrame m #[(.ref ko)] 1))
  rw [show entryFrame m #[(.ref ko)] 1 = mkF m 0 #[.val (.ref ko)] [] from by first | (simp [entryFrame, mkF, argsToLocals, Value.category]; done) | rfl]
  refine g_ldc2J X0 hx hby hZ hown w71_ d13_0 ?_
  refine g_aloadN X0 hx hby d13_3 rfl rfl ?_
  refine g_getF X0 hx hby hZ hown (host := "") (Or.inl w59_) Via.refl e0 F1 d13_4 (fun T1 X1 e1 => ?_)
  refine g_arraylength X1 hx hby hZ e1 VCh d13_7 ?_
  refine g_i2l X1 hx hby d13_8 ?_
  refine g_lmul X1 hx hby d13_9 ?_
  refine g_ldc2J X1 hx hby hZ hown w72_ d13_10 ?_
  refine g_aloadN X1 hx hby d13_13 rfl rfl ?_
  refine g_getF X1 hx hby hZ hown (host := "") (Or.inl w62_) Via.refl e1 F2 d13_14 (fun T2 X2 e2 => ?_)
  refine g_arraylength X2 hx hby hZ e2 VE d13_17 ?_
  refine g_i2l X2 hx hby d13_18 ?_
  refine g_topJ (128 : Int64) (by decide) ?_
  refine g_lmul X2 hx hby d13_19 ?_
  refine g_topJ (512 : Int64) (by decide) ?_
  refine g_ladd X2 hx hby d13_20 ?_
  refine g_lret X2 hx hby Bd.returns Bd.notSynchronized d13_21 e2 (by decide) (by decide) ?_
  show (Q_memory Z ko ch en kc ke cap vc ve h0 n0) (some (.long (((2 : Int64) * (cap.toInt64)) + (512 : Int64)))) _ _
  exact ⟨rfl, N0, rfl⟩

theorem own_pd11 : parseMethodDescriptor "()J" = some ⟨[], some .long⟩ := by decide +kernel
theorem own_pd12 : parseMethodDescriptor "(ILjava/lang/String;Ljava/lang/String;Ljava/lang/String;Ljava/lang/String;)Ljava/lang/String;" = some ⟨[.int, (.object "java/lang/String"), (.object "java/lang/String"), (.object "java/lang/String"), (.object "java/lang/String")], some (.object "java/lang/String")⟩ := by decide +kernel
theorem d16_0 : decode prog_79_method_12_code 0 = .ok (.iload_n 1, 1) := by decide +kernel
theorem d16_1 : decode prog_79_method_12_code 1 = .ok (.ifCond .ne 7, 3) := by decide +kernel
theorem d16_4 : decode prog_79_method_12_code 4 = .ok (.iconst 0, 1) := by decide +kernel
theorem d16_5 : decode prog_79_method_12_code 5 = .ok (.goto 11, 3) := by decide +kernel
theorem d16_16 : decode prog_79_method_12_code 16 = .ok (.ireturn, 1) := by decide +kernel
def Q_start_0 (Z : State) (ko : Addr) (h0 : Heap) (n0 : Nat) (v : Option Value) (h : Heap) (L : List Loc) : Prop := v = some (.int (0 : Int32)) ∧ Fr n0 L ∧ h = h0
set_option maxRecDepth 65536 in
set_option maxHeartbeats 40000000 in
theorem rm_start_0 (l : Launch) (Z : State) (a0 : Array Value) (hw : ∀ d ∈ tables_1, d.before a0 Z = true) (ws : List Jvm.Cond) (ko : Addr) (h0 : Heap) (n0 : Nat) (Z0 : n0 ≤ h0.size) :
    MetFree l (⟨"com/example/invix/invix/sort/KeyBuffer", "start", "(I)I"⟩ : MethodName) (head1 (Jvm.Cond.code (⟨"com/example/invix/invix/sort/KeyBuffer", "start", "(I)I"⟩ : MethodName) prog_79_method_12_code 2 (some .int) :: ws) ({ frames := 0, cells := 0, slots := 0, locals := 0 } : Room)) (fun aa_ U => aa_ = #[(.ref ko), (.int (0 : Int32))] ∧ Z.Warmed39 U.vm ∧ U.heap = h0) (fun _ _ _ _ _ => True) (fun _ U o_ U' => RetG U (Q_start_0 Z ko h0 n0) 0 0 U' o_) := by
  refine MetFree.of_bodySF (plainFor_of_name own_pn4) hisR ?_
  intro p e s m args below meth c_ s₁ Bd hml0 hP hK
  obtain ⟨rfl, hZ, hh⟩ := hP
  have hx := Bd.exec
  have hby := Bd.bytes
  have hml : c_.maxLocals = 2 := hml0
  have hown : s.vm.findClass "com/example/invix/invix/sort/KeyBuffer" = some m.cls := findClass_of_methodNamed Bd.named
  have hnm := (name_of_methodNamed Bd.named Bd.method).1
  have X0 : Stand p l e ({ frames := 0, cells := 0, slots := 0, locals := 0 } : Room) s m #[(.ref ko), (.int (0 : Int32))] below meth c_ s₁ [] 0 0 := Stand.of_body Bd
  have e0 : s₁.heap = h0 := by rw [← hh, Bd.state]; rfl
  have N0 := Fr.nil n0
  show Go p e below (RetG s (Q_start_0 Z ko h0 n0) 0 0) (s₁.setTop (entryFrame m #[(.ref ko), (.int (0 : Int32))] 2))
  rw [show entryFrame m #[(.ref ko), (.int (0 : Int32))] 2 = mkF m 0 #[.val (.ref ko), .val (.int (0 : Int32))] [] from by first | (simp [entryFrame, mkF, argsToLocals, Value.category]; done) | rfl]
  refine g_iloadN X0 hx hby d16_0 rfl ?_
  refine g_ifN X0 hx hby d16_1 (teq (by decide : (0 : Int32) = (0 : Int32))).2 ?_
  refine g_iconst X0 hx hby (0 : Int32) d16_4 rfl ?_
  refine g_goto X0 hx hby 16 d16_5 (by decide) (by decide) ?_
  refine g_iret X0 hx hby Bd.returns Bd.notSynchronized d16_16 e0 (by decide) (by decide) ?_
  show (Q_start_0 Z ko h0 n0) (some (.int (0 : Int32))) _ _
  exact ⟨rfl, N0, rfl⟩

theorem d18_0 : decode jdk_42_method_152_code 0 = .ok (.getstatic 38, 3) := by decide +kernel
theorem d18_3 : decode jdk_42_method_152_code 3 = .ok (.ifCond .eq 10, 3) := by decide +kernel
theorem d18_6 : decode jdk_42_method_152_code 6 = .ok (.aload_n 0, 1) := by decide +kernel
theorem d18_7 : decode jdk_42_method_152_code 7 = .ok (.getfield 15, 3) := by decide +kernel
theorem d18_10 : decode jdk_42_method_152_code 10 = .ok (.goto 4, 3) := by decide +kernel
theorem d18_14 : decode jdk_42_method_152_code 14 = .ok (.ireturn, 1) := by decide +kernel
def Q_coder (Z : State) (a : Addr) (cd : Int32) (cz : Int32) (h0 : Heap) (n0 : Nat) (v : Option Value) (h : Heap) (L : List Loc) : Prop := v = some (.int (nar .byte cd)) ∧ Fr n0 L ∧ h = h0
set_option maxRecDepth 65536 in
set_option maxHeartbeats 40000000 in
theorem rm_coder (l : Launch) (Z : State) (a0 : Array Value) (hw : ∀ d ∈ tables_1, d.before a0 Z = true) (ws : List Jvm.Cond) (a : Addr) (cd : Int32) (cz : Int32) (h0 : Heap) (n0 : Nat) (Z0 : n0 ≤ h0.size) (O2 : Sta Z Z.heap "java/lang/String" "COMPACT_STRINGS" "Z" (.int cz)) (P5 : ¬ cz = (0 : Int32)) (OLD : Old Z n0 h0) (C : Fld Z h0 a "java/lang/String" "coder" "B" (.int cd)) :
    MetFree l (⟨"java/lang/String", "coder", "()B"⟩ : MethodName) (head1 (Jvm.Cond.code (⟨"java/lang/String", "coder", "()B"⟩ : MethodName) jdk_42_method_152_code 1 (some .byte) :: ws) ({ frames := 0, cells := 0, slots := 0, locals := 0 } : Room)) (fun aa_ U => aa_ = #[(.ref a)] ∧ Z.Warmed39 U.vm ∧ U.heap = h0) (fun _ _ _ _ _ => True) (fun _ U o_ U' => RetG U (Q_coder Z a cd cz h0 n0) 0 0 U' o_) := by
  refine MetFree.of_bodySF (plainFor_of_name own_pn2) hisR ?_
  intro p e s m args below meth c_ s₁ Bd hml0 hP hK
  obtain ⟨rfl, hZ, hh⟩ := hP
  have hx := Bd.exec
  have hby := Bd.bytes
  have hml : c_.maxLocals = 1 := hml0
  have hown : s.vm.findClass "java/lang/String" = some m.cls := findClass_of_methodNamed Bd.named
  have hnm := (name_of_methodNamed Bd.named Bd.method).1
  have X0 : Stand p l e ({ frames := 0, cells := 0, slots := 0, locals := 0 } : Room) s m #[(.ref a)] below meth c_ s₁ [] 0 0 := Stand.of_body Bd
  have e0 : s₁.heap = h0 := by rw [← hh, Bd.state]; rfl
  have N0 := Fr.nil n0
  have w11_ := hw _ (List.mem_of_getElem? (i := 11) rfl)
  have w28_ := hw _ (List.mem_of_getElem? (i := 28) rfl)
  show Go p e below (RetG s (Q_coder Z a cd cz h0 n0) 0 0) (s₁.setTop (entryFrame m #[(.ref a)] 1))
  rw [show entryFrame m #[(.ref a)] 1 = mkF m 0 #[.val (.ref a)] [] from by first | (simp [entryFrame, mkF, argsToLocals, Value.category]; done) | rfl]
  refine g_getS X0 hx hby hZ hown (host := "") (Or.inl w11_) Via.refl e0 (O2.ext OLD.2) d18_0 (fun T1 X1 e1 => ?_)
  refine g_ifN X1 hx hby d18_3 (feq (P5 : ¬ (cz = (0 : Int32)))).1 ?_
  refine g_aloadN X1 hx hby d18_6 rfl rfl ?_
  refine g_getF X1 hx hby hZ hown (host := "") (Or.inl w28_) Via.refl e1 C d18_7 (fun T2 X2 e2 => ?_)
  refine g_goto X2 hx hby 14 d18_10 (by decide) (by decide) ?_
  refine g_nret X2 hx hby (t := .byte) (by simp) Bd.returns Bd.notSynchronized d18_14 e2 (by decide) (by decide) ?_
  show (Q_coder Z a cd cz h0 n0) (some (.int (nar .byte cd))) _ _
  exact ⟨rfl, N0, rfl⟩

theorem d17_0 : decode jdk_42_method_54_code 0 = .ok (.aload_n 0, 1) := by decide +kernel
theorem d17_1 : decode jdk_42_method_54_code 1 = .ok (.getfield 9, 3) := by decide +kernel
theorem d17_4 : decode jdk_42_method_54_code 4 = .ok (.arraylength, 1) := by decide +kernel
theorem d17_5 : decode jdk_42_method_54_code 5 = .ok (.aload_n 0, 1) := by decide +kernel
theorem d17_6 : decode jdk_42_method_54_code 6 = .ok (.invokevirtual 335, 3) := by decide +kernel
theorem own_pd13 : parseMethodDescriptor "()B" = some ⟨[], some .byte⟩ := by decide +kernel
theorem d17_9 : decode jdk_42_method_54_code 9 = .ok (.ishr, 1) := by decide +kernel
theorem d17_10 : decode jdk_42_method_54_code 10 = .ok (.ireturn, 1) := by decide +kernel
def Q_lenN (Z : State) (a : Addr) (b : Addr) (kb : ClassId) (nn : Int32) (bs : List Value) (cz : Int32) (h0 : Heap) (n0 : Nat) (v : Option Value) (h : Heap) (L : List Loc) : Prop := v = some (.int nn) ∧ Fr n0 L ∧ h = h0
set_option maxRecDepth 65536 in
set_option maxHeartbeats 40000000 in
theorem rm_lenN (l : Launch) (Z : State) (a0 : Array Value) (hw : ∀ d ∈ tables_1, d.before a0 Z = true) (ws : List Jvm.Cond) (a : Addr) (b : Addr) (kb : ClassId) (nn : Int32) (bs : List Value) (cz : Int32) (h0 : Heap) (n0 : Nat) (Z0 : n0 ≤ h0.size) (O2 : Sta Z Z.heap "java/lang/String" "COMPACT_STRINGS" "Z" (.int cz)) (P5 : ¬ cz = (0 : Int32)) (OLD : Old Z n0 h0) (E : Exa Z h0 a "java/lang/String") (C : Fld Z h0 a "java/lang/String" "coder" "B" (.int (0 : Int32))) (VF : Fld Z h0 a "java/lang/String" "value" "[B" (.ref b)) (VB : Arv Z h0 b kb .byte nn bs (.int (0 : Int32))) :
    MetFree l (⟨"java/lang/String", "length", "()I"⟩ : MethodName) (head1 (Jvm.Cond.code (⟨"java/lang/String", "length", "()I"⟩ : MethodName) jdk_42_method_54_code 1 (some .int) :: ws) ({ frames := 1, cells := 0, slots := 0, locals := 13 } : Room)) (fun aa_ U => aa_ = #[(.ref a)] ∧ Z.Warmed39 U.vm ∧ U.heap = h0) (fun _ _ _ _ _ => True) (fun _ U o_ U' => RetG U (Q_lenN Z a b kb nn bs cz h0 n0) 0 0 U' o_) := by
  refine MetFree.of_bodySF (plainFor_of_name own_pn2) hisR ?_
  intro p e s m args below meth c_ s₁ Bd hml0 hP hK
  obtain ⟨rfl, hZ, hh⟩ := hP
  have hx := Bd.exec
  have hby := Bd.bytes
  have hml : c_.maxLocals = 1 := hml0
  have hown : s.vm.findClass "java/lang/String" = some m.cls := findClass_of_methodNamed Bd.named
  have hnm := (name_of_methodNamed Bd.named Bd.method).1
  have X0 : Stand p l e ({ frames := 1, cells := 0, slots := 0, locals := 13 } : Room) s m #[(.ref a)] below meth c_ s₁ [] 0 0 := Stand.of_body Bd
  have e0 : s₁.heap = h0 := by rw [← hh, Bd.state]; rfl
  have N0 := Fr.nil n0
  have w1_ := hw _ (List.mem_of_getElem? (i := 1) rfl)
  have w27_ := hw _ (List.mem_of_getElem? (i := 27) rfl)
  have w91_ := hw _ (List.mem_of_getElem? (i := 91) rfl)
  have w92_ := hw _ (List.mem_of_getElem? (i := 92) rfl)
  have w93_ := hw _ (List.mem_of_getElem? (i := 93) rfl)
  have w94_ := hw _ (List.mem_of_getElem? (i := 94) rfl)
  have w95_ := hw _ (List.mem_of_getElem? (i := 95) rfl)
  show Go p e below (RetG s (Q_lenN Z a b kb nn bs cz h0 n0) 0 0) (s₁.setTop (entryFrame m #[(.ref a)] 1))
  rw [show entryFrame m #[(.ref a)] 1 = mkF m 0 #[.val (.ref a)] [] from by first | (simp [entryFrame, mkF, argsToLocals, Value.category]; done) | rfl]
  refine g_aloadN X0 hx hby d17_0 rfl rfl ?_
  refine g_getF X0 hx hby hZ hown (host := "") (Or.inl w27_) Via.refl e0 VF d17_1 (fun T1 X1 e1 => ?_)
  refine g_arraylength X1 hx hby hZ e1 VB d17_4 ?_
  refine g_aloadN X1 hx hby d17_5 rfl rfl ?_
  refine g_virtual X1 hx hby hZ hown (rm_coder l Z a0 hw [] a (0 : Int32) cz h0 n0 Z0 O2 P5 OLD C) w91_ w92_ (notFace_of_selects (args := #[]) (mvT hZ w94_)) w94_ w93_ w1_ w95_ (by decide) e1 E (by rw [hml]; rfl) [] (lenOf own_pd13 rfl) rfl rfl (Nat.le_of_ble_eq_true rfl) (Nat.le_of_ble_eq_true rfl) (Nat.le_of_ble_eq_true rfl) (Nat.le_of_ble_eq_true rfl) d17_6 (fun v2 T2 L2 X2 hQ2 => ?_)
  obtain ⟨rfl, N2q, eh2⟩ := hQ2
  have N2 := Fr.app N0 N2q
  refine g_topI (T := T2) (0 : Int32) (by decide) ?_
  refine g_ishr X2 hx hby d17_9 ?_
  refine g_iret X2 hx hby Bd.returns Bd.notSynchronized d17_10 eh2 (by decide) (by decide) ?_
  show (Q_lenN Z a b kb nn bs cz h0 n0) (some (.int (nn >>> ((0 : Int32) &&& 31)))) _ _
  exact ⟨by rw [own_shr0], N2, rfl⟩

theorem d28_0 : decode jdk_65_method_125_code 0 = .ok (.iload_n 1, 1) := by decide +kernel
theorem d28_1 : decode jdk_65_method_125_code 1 = .ok (.aload_n 0, 1) := by decide +kernel
theorem d28_2 : decode jdk_65_method_125_code 2 = .ok (.arraylength, 1) := by decide +kernel
theorem d28_3 : decode jdk_65_method_125_code 3 = .ok (.if_icmp .ne 11, 3) := by decide +kernel
theorem d28_14 : decode jdk_65_method_125_code 14 = .ok (.iload_n 1, 1) := by decide +kernel
theorem d28_15 : decode jdk_65_method_125_code 15 = .ok (.newarray .char, 2) := by decide +kernel
theorem d28_17 : decode jdk_65_method_125_code 17 = .ok (.astore_n 2, 1) := by decide +kernel
theorem d28_18 : decode jdk_65_method_125_code 18 = .ok (.aload_n 0, 1) := by decide +kernel
theorem d28_19 : decode jdk_65_method_125_code 19 = .ok (.iconst 0, 1) := by decide +kernel
theorem d28_20 : decode jdk_65_method_125_code 20 = .ok (.aload_n 2, 1) := by decide +kernel
theorem d28_21 : decode jdk_65_method_125_code 21 = .ok (.iconst 0, 1) := by decide +kernel
theorem d28_22 : decode jdk_65_method_125_code 22 = .ok (.aload_n 0, 1) := by decide +kernel
theorem d28_23 : decode jdk_65_method_125_code 23 = .ok (.arraylength, 1) := by decide +kernel
theorem d28_24 : decode jdk_65_method_125_code 24 = .ok (.iload_n 1, 1) := by decide +kernel
theorem d28_25 : decode jdk_65_method_125_code 25 = .ok (.invokestatic 304, 3) := by decide +kernel
theorem d28_28 : decode jdk_65_method_125_code 28 = .ok (.invokestatic 150, 3) := by decide +kernel
theorem d28_31 : decode jdk_65_method_125_code 31 = .ok (.aload_n 2, 1) := by decide +kernel
theorem d28_32 : decode jdk_65_method_125_code 32 = .ok (.areturn, 1) := by decide +kernel
theorem own_pn5 : plainName "java/util/Arrays" = true := by first | (simp [plainName, overriddenIn]; done) | decide +kernel
def Q_copyof_2100 (Z : State) (ch : Addr) (kc : ClassId) (cap : Int32) (vc : List Value) (nl : Int32) (h0 : Heap) (n0 : Nat) (v : Option Value) (h : Heap) (L : List Loc) : Prop := Fr n0 L ∧ Keep h0 h [] ∧ ∃ (d : Addr) (kd : ClassId) (vd : List Value), v = some (.ref d) ∧ h0.size ≤ d ∧ Arv Z h d kd .char nl vd (.int (0 : Int32)) ∧ nl.toNatClampNeg ≤ vd.length
set_option maxRecDepth 65536 in
set_option maxHeartbeats 40000000 in
theorem rm_copyof_2100 (l : Launch) (Z : State) (a0 : Array Value) (hw : ∀ d ∈ tables_1, d.before a0 Z = true) (ws : List Jvm.Cond) (ch : Addr) (kc : ClassId) (cap : Int32) (vc : List Value) (nl : Int32) (h0 : Heap) (n0 : Nat) (Z0 : n0 ≤ h0.size) (VC : Arv Z h0 ch kc .char cap vc (.int (0 : Int32))) (hp1 : 0 ≤ cap.toInt) (hp2 : cap.toInt < nl.toInt) (hp3 : nl.toInt ≤ 2100) :
    MetFree l (⟨"java/util/Arrays", "copyOf", "([CI)[C"⟩ : MethodName) (head1 (Jvm.Cond.code (⟨"java/util/Arrays", "copyOf", "([CI)[C"⟩ : MethodName) jdk_65_method_125_code 3 (some (.array .char)) :: ws) ({ frames := 1, cells := 1, slots := 2100, locals := 18 } : Room)) (fun aa_ U => aa_ = #[(.ref ch), (.int nl)] ∧ Z.Warmed39 U.vm ∧ U.heap = h0) (fun _ _ _ _ _ => True) (fun _ U o_ U' => RetG U (Q_copyof_2100 Z ch kc cap vc nl h0 n0) 1 2100 U' o_) := by
  refine MetFree.of_bodySF (plainFor_of_name own_pn5) hisR ?_
  intro p e s m args below meth c_ s₁ Bd hml0 hP hK
  obtain ⟨rfl, hZ, hh⟩ := hP
  have hx := Bd.exec
  have hby := Bd.bytes
  have hml : c_.maxLocals = 3 := hml0
  have hown : s.vm.findClass "java/util/Arrays" = some m.cls := findClass_of_methodNamed Bd.named
  have hnm := (name_of_methodNamed Bd.named Bd.method).1
  have X0 : Stand p l e ({ frames := 1, cells := 1, slots := 2100, locals := 18 } : Room) s m #[(.ref ch), (.int nl)] below meth c_ s₁ [] 0 0 := Stand.of_body Bd
  have e0 : s₁.heap = h0 := by rw [← hh, Bd.state]; rfl
  have N0 := Fr.nil n0
  have w30_ := hw _ (List.mem_of_getElem? (i := 30) rfl)
  have w129_ := hw _ (List.mem_of_getElem? (i := 129) rfl)
  have w135_ := hw _ (List.mem_of_getElem? (i := 135) rfl)
  have w136_ := hw _ (List.mem_of_getElem? (i := 136) rfl)
  have w137_ := hw _ (List.mem_of_getElem? (i := 137) rfl)
  have w138_ := hw _ (List.mem_of_getElem? (i := 138) rfl)
  have w139_ := hw _ (List.mem_of_getElem? (i := 139) rfl)
  have w140_ := hw _ (List.mem_of_getElem? (i := 140) rfl)
  have w141_ := hw _ (List.mem_of_getElem? (i := 141) rfl)
  have b1 := own_tc hp1
  have b2 := own_tc (Int.le_trans hp1 (Int.le_of_lt hp2))
  have nl0 : ¬ nl < 0 := own_nn (by omega)
  show Go p e below (RetG s (Q_copyof_2100 Z ch kc cap vc nl h0 n0) 1 2100) (s₁.setTop (entryFrame m #[(.ref ch), (.int nl)] 3))
  rw [show entryFrame m #[(.ref ch), (.int nl)] 3 = mkF m 0 #[.val (.ref ch), .val (.int nl), .unset] [] from by first | (simp [entryFrame, mkF, argsToLocals, Value.category]; done) | rfl]
  refine g_iloadN X0 hx hby d28_0 rfl ?_
  refine g_aloadN X0 hx hby d28_1 rfl rfl ?_
  refine g_arraylength X0 hx hby hZ e0 VC d28_2 ?_
  refine g_icY X0 hx hby 14 d28_3 (feq ((fun q => by rw [q] at hp2; omega) : ¬ (nl = cap))).2 (by decide) (by decide) ?_
  refine g_iloadN X0 hx hby d28_14 rfl ?_
  refine g_newarray X0 hx hby hZ .char .char (.int (0 : Int32)) (List.replicate 2100 (.int (0 : Int32))) rfl rfl w30_ e0 nl0 2100 rfl (by omega) (by decide) (by decide) (by decide) d28_15 (fun T1 h1 k1 b1 g1 X1 e1 E1 V1 => ?_)
  refine g_astoreN X1 hx hby d28_17 rfl (l' := #[.val (.ref ch), .val (.int nl), .val (.ref b1)]) rfl ?_
  refine g_aloadN X1 hx hby d28_18 rfl rfl ?_
  refine g_iconst X1 hx hby (0 : Int32) d28_19 rfl ?_
  refine g_aloadN X1 hx hby d28_20 rfl rfl ?_
  refine g_iconst X1 hx hby (0 : Int32) d28_21 rfl ?_
  refine g_aloadN X1 hx hby d28_22 rfl rfl ?_
  have f2 := (VC.ext E1)
  refine g_arraylength X1 hx hby hZ e1 f2 d28_23 ?_
  refine g_iloadN X1 hx hby d28_24 rfl ?_
  have z4 := (Nat.le_trans Z0 E1.1)
  refine g_static X1 hx hby hZ hown (rm_mmin l Z a0 hw [] cap nl h1 n0 z4 (own_le (by omega))) w135_ w136_ w129_ w137_ (by decide) e1 (by rw [hml]; rfl) [(.int cap), (.int nl)] (lenOf own_pd0 rfl) rfl rfl (Nat.le_of_ble_eq_true rfl) (Nat.le_of_ble_eq_true rfl) (Nat.le_of_ble_eq_true rfl) (Nat.le_of_ble_eq_true rfl) d28_25 (fun v3 T3 L3 X3 hQ3 => ?_)
  obtain ⟨rfl, N3q, eh3⟩ := hQ3
  have N3 := Fr.app N0 N3q
  have g_b1 : n0 ≤ b1 := Nat.le_trans Z0 (Nat.le_of_eq g1)
  refine g_arraycopy X3 hx hby hZ hown w138_ w141_ w139_ w140_ eh3 f2 V1 (Or.inl ⟨rfl, rfl⟩) (by decide) (by decide) (own_nn hp1) (by show 0 + _ ≤ _; omega) (by show 0 + _ ≤ _; omega) rfl (by rw [List.length_replicate]; show 0 + _ ≤ _; omega) N3 g_b1 (by rw [hml]; rfl) d28_28 (Nat.le_of_ble_eq_true rfl) (Nat.le_of_ble_eq_true rfl) (fun T5 h5 L5 X5 e5 N5 K5 V5 => ?_)
  refine g_aloadN X5 hx hby d28_31 rfl rfl ?_
  refine g_aret X5 hx hby (t := (.array .char)) rfl rfl rfl Bd.returns Bd.notSynchronized d28_32 e5 (by decide) (by decide) ?_
  show (Q_copyof_2100 Z ch kc cap vc nl h0 n0) (some (.ref b1)) _ _
  exact ⟨N5, (((Keep.refl h0 []).ext E1).trans K5 (allS (Or.inr (Nat.le_trans (Nat.le_refl _) (Nat.le_of_eq g1))) all0)), b1, k1, _, rfl, (Nat.le_trans (Nat.le_refl _) (Nat.le_of_eq g1)), V5, by simp only [List.length_append, List.length_take, List.length_drop, List.length_map, List.length_range, List.length_replicate]; omega⟩

theorem d26_0 : decode jdk_43_method_49_code 0 = .ok (.iconst 0, 1) := by decide +kernel
theorem d26_1 : decode jdk_43_method_49_code 1 = .ok (.istore 5, 2) := by decide +kernel
theorem d26_3 : decode jdk_43_method_49_code 3 = .ok (.iload 5, 2) := by decide +kernel
theorem d26_5 : decode jdk_43_method_49_code 5 = .ok (.iload 4, 2) := by decide +kernel
theorem d26_7 : decode jdk_43_method_49_code 7 = .ok (.if_icmp .ge 26, 3) := by decide +kernel
theorem d26_33 : decode jdk_43_method_49_code 33 = .ok (.return_, 1) := by decide +kernel
theorem d26_10 : decode jdk_43_method_49_code 10 = .ok (.aload_n 2, 1) := by decide +kernel
theorem d26_11 : decode jdk_43_method_49_code 11 = .ok (.iload_n 3, 1) := by decide +kernel
theorem d26_12 : decode jdk_43_method_49_code 12 = .ok (.iinc 3 1, 3) := by decide +kernel
theorem d26_15 : decode jdk_43_method_49_code 15 = .ok (.aload_n 0, 1) := by decide +kernel
theorem d26_16 : decode jdk_43_method_49_code 16 = .ok (.iload_n 1, 1) := by decide +kernel
theorem d26_17 : decode jdk_43_method_49_code 17 = .ok (.iinc 1 1, 3) := by decide +kernel
theorem d26_20 : decode jdk_43_method_49_code 20 = .ok (.baload, 1) := by decide +kernel
theorem d26_21 : decode jdk_43_method_49_code 21 = .ok (.sipush 255, 3) := by decide +kernel
theorem d26_24 : decode jdk_43_method_49_code 24 = .ok (.iand, 1) := by decide +kernel
theorem d26_25 : decode jdk_43_method_49_code 25 = .ok (.i2c, 1) := by decide +kernel
theorem d26_26 : decode jdk_43_method_49_code 26 = .ok (.castore, 1) := by decide +kernel
theorem d26_27 : decode jdk_43_method_49_code 27 = .ok (.iinc 5 1, 3) := by decide +kernel
theorem d26_30 : decode jdk_43_method_49_code 30 = .ok (.goto (-27), 3) := by decide +kernel
def Q_inflate (Z : State) (b : Addr) (kb : ClassId) (nn : Int32) (bs : List Value) (ch : Addr) (kc : ClassId) (cap : Int32) (vc : List Value) (off : Int32) (N : Nat) (h0 : Heap) (n0 : Nat) (v : Option Value) (h : Heap) (L : List Loc) : Prop := v = none ∧ Fr n0 L ∧ Keep h0 h [ch] ∧ ∃ vc' : List Value, Arv Z h ch kc .char cap vc' (.int (0 : Int32)) ∧ cap.toNatClampNeg ≤ vc'.length
set_option maxRecDepth 65536 in
set_option maxHeartbeats 40000000 in
theorem rm_inflate (l : Launch) (Z : State) (a0 : Array Value) (hw : ∀ d ∈ tables_1, d.before a0 Z = true) (ws : List Jvm.Cond) (b : Addr) (kb : ClassId) (nn : Int32) (bs : List Value) (ch : Addr) (kc : ClassId) (cap : Int32) (vc : List Value) (off : Int32) (N : Nat) (h0 : Heap) (n0 : Nat) (Z0 : n0 ≤ h0.size) (VB : Arv Z h0 b kb .byte nn bs (.int (0 : Int32))) (VC : Arv Z h0 ch kc .char cap vc (.int (0 : Int32))) (hl : cap.toNatClampNeg ≤ vc.length) (ho : 0 ≤ off.toInt) (hz : 0 ≤ nn.toInt) (hcap : off.toInt + nn.toInt ≤ cap.toInt) (gc : n0 ≤ ch) (nbc : b ≠ ch) (hn : nn.toInt = N) :
    MetFree l (⟨"java/lang/StringLatin1", "inflate", "([BI[CII)V"⟩ : MethodName) (head1 (Jvm.Cond.code (⟨"java/lang/StringLatin1", "inflate", "([BI[CII)V"⟩ : MethodName) jdk_43_method_49_code 6 none :: ws) ({ frames := 0, cells := 0, slots := 0, locals := 0 } : Room)) (fun aa_ U => aa_ = #[(.ref b), (.int (0 : Int32)), (.ref ch), (.int off), (.int nn)] ∧ Z.Warmed39 U.vm ∧ U.heap = h0) (fun _ _ _ _ _ => True) (fun _ U o_ U' => RetG U (Q_inflate Z b kb nn bs ch kc cap vc off N h0 n0) 0 0 U' o_) := by
  refine MetFree.of_bodySF (plainFor_of_name own_pn1) hisR ?_
  intro p e s m args below meth c_ s₁ Bd hml0 hP hK
  obtain ⟨rfl, hZ, hh⟩ := hP
  have hx := Bd.exec
  have hby := Bd.bytes
  have hml : c_.maxLocals = 6 := hml0
  have hown : s.vm.findClass "java/lang/StringLatin1" = some m.cls := findClass_of_methodNamed Bd.named
  have hnm := (name_of_methodNamed Bd.named Bd.method).1
  have X0 : Stand p l e ({ frames := 0, cells := 0, slots := 0, locals := 0 } : Room) s m #[(.ref b), (.int (0 : Int32)), (.ref ch), (.int off), (.int nn)] below meth c_ s₁ [] 0 0 := Stand.of_body Bd
  have e0 : s₁.heap = h0 := by rw [← hh, Bd.state]; rfl
  have N0 := Fr.nil n0
  show Go p e below (RetG s (Q_inflate Z b kb nn bs ch kc cap vc off N h0 n0) 0 0) (s₁.setTop (entryFrame m #[(.ref b), (.int (0 : Int32)), (.ref ch), (.int off), (.int nn)] 6))
  rw [show entryFrame m #[(.ref b), (.int (0 : Int32)), (.ref ch), (.int off), (.int nn)] 6 = mkF m 0 #[.val (.ref b), .val (.int (0 : Int32)), .val (.ref ch), .val (.int off), .val (.int nn), .unset] [] from by first | (simp [entryFrame, mkF, argsToLocals, Value.category]; done) | rfl]
  refine g_iconst X0 hx hby (0 : Int32) d26_0 rfl ?_
  refine g_istore X0 hx hby d26_1 (l' := #[.val (.ref b), .val (.int (0 : Int32)), .val (.ref ch), .val (.int off), .val (.int nn), .val (.int (0 : Int32))]) rfl ?_
  rw [show mkF m 3 #[.val (.ref b), .val (.int (0 : Int32)), .val (.ref ch), .val (.int off), .val (.int nn), .val (.int (0 : Int32))] [] = mkF m 3 #[.val (.ref b), .val (.int (Int32.ofNat 0)), .val (.ref ch), .val (.int (off + Int32.ofNat 0)), .val (.int nn), .val (.int (Int32.ofNat 0))] [] from by rw [show off + Int32.ofNat 0 = off from Int32.add_zero off]; rfl]
  have loop : ∀ (kk j : Nat) (vc9 : List Value) (T9 : State) (locs9 : List Loc) (h9 : Heap), j + kk = N → Stand p l e ({ frames := 0, cells := 0, slots := 0, locals := 0 } : Room) s m #[(.ref b), (.int (0 : Int32)), (.ref ch), (.int off), (.int nn)] below meth c_ T9 locs9 0 0 → T9.heap = h9 → Fr n0 locs9 → Keep h0 h9 [ch] → (Arv Z h9 b kb .byte nn bs (.int (0 : Int32))) → (Arv Z h9 ch kc .char cap vc9 (.int (0 : Int32))) → (cap.toNatClampNeg ≤ vc9.length) →  Go p e below (RetG s (Q_inflate Z b kb nn bs ch kc cap vc off N h0 n0) 0 0) (T9.setTop (mkF m 3 #[.val (.ref b), .val (.int (Int32.ofNat j)), .val (.ref ch), .val (.int (off + Int32.ofNat j)), .val (.int nn), .val (.int (Int32.ofNat j))] [])) := by
    intro kk
    induction kk with
    | zero =>
      intro j vc9 T9 locs9 h9 hj X9 e9 N9 K9 VB9 VC9 hl9
      have z9 : n0 ≤ h9.size := Nat.le_trans Z0 K9.1
      obtain rfl : N = j := by omega
      refine g_iload X9 hx hby d26_3 rfl ?_
      refine g_iload X9 hx hby d26_5 rfl ?_
      refine g_icY X9 hx hby 33 d26_7 (flt (own_nltn hn : ¬ ((Int32.ofNat N) < nn))).2.1 (by decide) (by decide) ?_
      refine g_ret X9 hx hby Bd.returns Bd.notSynchronized d26_33 e9 (by decide) (by decide) ?_
      show (Q_inflate Z b kb nn bs ch kc cap vc off N h0 n0) none _ _
      exact ⟨rfl, N9, K9, _, VC9, hl9⟩
    | succ kk ih =>
      intro j vc9 T9 locs9 h9 hj X9 e9 N9 K9 VB9 VC9 hl9
      have z9 : n0 ≤ h9.size := Nat.le_trans Z0 K9.1
      refine g_iload X9 hx hby d26_3 rfl ?_
      refine g_iload X9 hx hby d26_5 rfl ?_
      refine g_icN X9 hx hby d26_7 (tlt (own_ltn hn (by omega) : (Int32.ofNat j) < nn)).2.1 ?_
      refine g_aloadN X9 hx hby d26_10 rfl rfl ?_
      refine g_iloadN X9 hx hby d26_11 rfl ?_
      refine g_iinc X9 hx hby ((off + Int32.ofNat j) + (1 : Int32)) d26_12 rfl rfl (l' := #[.val (.ref b), .val (.int (Int32.ofNat j)), .val (.ref ch), .val (.int ((off + Int32.ofNat j) + (1 : Int32))), .val (.int nn), .val (.int (Int32.ofNat j))]) rfl ?_
      refine g_aloadN X9 hx hby d26_15 rfl rfl ?_
      refine g_iloadN X9 hx hby d26_16 rfl ?_
      refine g_iinc X9 hx hby ((Int32.ofNat j) + (1 : Int32)) d26_17 rfl rfl (l' := #[.val (.ref b), .val (.int ((Int32.ofNat j) + (1 : Int32))), .val (.ref ch), .val (.int ((off + Int32.ofNat j) + (1 : Int32))), .val (.int nn), .val (.int (Int32.ofNat j))]) rfl ?_
      obtain ⟨x9, hx9⟩ := own_ib VB9 (i := j) (by have := own_nN hn; omega)
      refine g_baload X9 hx hby hZ e9 VB9 (.int x9) (own_inn hn (by omega)) (by rw [own_tn hn (by omega)]; exact hx9) d26_20 ?_
      refine g_sipush X9 hx hby (255 : Int32) d26_21 rfl ?_
      refine g_iand X9 hx hby d26_24 ?_
      refine g_i2c X9 hx hby d26_25 ?_
      refine g_castore X9 hx hby hZ e9 VC9 (off + Int32.ofNat j).toNatClampNeg (vc9.set (off + Int32.ofNat j).toNatClampNeg (.int (nar .char ((x9 &&& (255 : Int32)).toUInt32.toUInt16.toUInt32.toInt32)))) rfl (own_offin ho hn hcap (by omega)) rfl (own_len (own_offin ho hn hcap (by omega)) hl9) N9 gc d26_26 (fun T1 h1 X1 e1 W1 V1 N1 => ?_)
      refine g_iinc X1 hx hby ((Int32.ofNat j) + (1 : Int32)) d26_27 rfl rfl (l' := #[.val (.ref b), .val (.int ((Int32.ofNat j) + (1 : Int32))), .val (.ref ch), .val (.int ((off + Int32.ofNat j) + (1 : Int32))), .val (.int nn), .val (.int ((Int32.ofNat j) + (1 : Int32)))]) rfl ?_
      refine g_goto X1 hx hby 3 d26_30 (by decide) (by decide) ?_
      have f2 := (VB9.other W1 nbc)
      rw [own_up2, own_up]
      exact ih (j + 1) _ _ _ _ (by omega) X1 e1 N1 (K9.wr W1 (Or.inl (List.mem_of_getElem? (i := 0) rfl))) f2 V1 (by rw [List.length_set]; exact hl9)
  refine loop N 0 _ _ _ _ (by omega) X0 e0 N0 (Keep.refl h0 [ch]) VB VC hl

theorem d25_0 : decode jdk_43_method_11_code 0 = .ok (.aload_n 0, 1) := by decide +kernel
theorem d25_1 : decode jdk_43_method_11_code 1 = .ok (.iload_n 1, 1) := by decide +kernel
theorem d25_2 : decode jdk_43_method_11_code 2 = .ok (.aload_n 3, 1) := by decide +kernel
theorem d25_3 : decode jdk_43_method_11_code 3 = .ok (.iload 4, 2) := by decide +kernel
theorem d25_5 : decode jdk_43_method_11_code 5 = .ok (.iload_n 2, 1) := by decide +kernel
theorem d25_6 : decode jdk_43_method_11_code 6 = .ok (.iload_n 1, 1) := by decide +kernel
theorem d25_7 : decode jdk_43_method_11_code 7 = .ok (.isub, 1) := by decide +kernel
theorem d25_8 : decode jdk_43_method_11_code 8 = .ok (.invokestatic 13, 3) := by decide +kernel
theorem own_pd14 : parseMethodDescriptor "([BI[CII)V" = some ⟨[(.array .byte), .int, (.array .char), .int, .int], none⟩ := by decide +kernel
theorem d25_11 : decode jdk_43_method_11_code 11 = .ok (.return_, 1) := by decide +kernel
def Q_lgetc (Z : State) (b : Addr) (kb : ClassId) (nn : Int32) (bs : List Value) (ch : Addr) (kc : ClassId) (cap : Int32) (vc : List Value) (off : Int32) (h0 : Heap) (n0 : Nat) (v : Option Value) (h : Heap) (L : List Loc) : Prop := v = none ∧ Fr n0 L ∧ Keep h0 h [ch] ∧ ∃ vc' : List Value, Arv Z h ch kc .char cap vc' (.int (0 : Int32)) ∧ cap.toNatClampNeg ≤ vc'.length
set_option maxRecDepth 65536 in
set_option maxHeartbeats 40000000 in
theorem rm_lgetc (l : Launch) (Z : State) (a0 : Array Value) (hw : ∀ d ∈ tables_1, d.before a0 Z = true) (ws : List Jvm.Cond) (b : Addr) (kb : ClassId) (nn : Int32) (bs : List Value) (ch : Addr) (kc : ClassId) (cap : Int32) (vc : List Value) (off : Int32) (h0 : Heap) (n0 : Nat) (Z0 : n0 ≤ h0.size) (VB : Arv Z h0 b kb .byte nn bs (.int (0 : Int32))) (VC : Arv Z h0 ch kc .char cap vc (.int (0 : Int32))) (hl : cap.toNatClampNeg ≤ vc.length) (ho : 0 ≤ off.toInt) (hz : 0 ≤ nn.toInt) (hcap : off.toInt + nn.toInt ≤ cap.toInt) (gc : n0 ≤ ch) (nbc : b ≠ ch) :
    MetFree l (⟨"java/lang/StringLatin1", "getChars", "([BII[CI)V"⟩ : MethodName) (head1 (Jvm.Cond.code (⟨"java/lang/StringLatin1", "getChars", "([BII[CI)V"⟩ : MethodName) jdk_43_method_11_code 5 none :: ws) ({ frames := 1, cells := 0, slots := 0, locals := 17 } : Room)) (fun aa_ U => aa_ = #[(.ref b), (.int (0 : Int32)), (.int nn), (.ref ch), (.int off)] ∧ Z.Warmed39 U.vm ∧ U.heap = h0) (fun _ _ _ _ _ => True) (fun _ U o_ U' => RetG U (Q_lgetc Z b kb nn bs ch kc cap vc off h0 n0) 0 0 U' o_) := by
  refine MetFree.of_bodySF (plainFor_of_name own_pn1) hisR ?_
  intro p e s m args below meth c_ s₁ Bd hml0 hP hK
  obtain ⟨rfl, hZ, hh⟩ := hP
  have hx := Bd.exec
  have hby := Bd.bytes
  have hml : c_.maxLocals = 5 := hml0
  have hown : s.vm.findClass "java/lang/StringLatin1" = some m.cls := findClass_of_methodNamed Bd.named
  have hnm := (name_of_methodNamed Bd.named Bd.method).1
  have X0 : Stand p l e ({ frames := 1, cells := 0, slots := 0, locals := 17 } : Room) s m #[(.ref b), (.int (0 : Int32)), (.int nn), (.ref ch), (.int off)] below meth c_ s₁ [] 0 0 := Stand.of_body Bd
  have e0 : s₁.heap = h0 := by rw [← hh, Bd.state]; rfl
  have N0 := Fr.nil n0
  have w14_ := hw _ (List.mem_of_getElem? (i := 14) rfl)
  have w124_ := hw _ (List.mem_of_getElem? (i := 124) rfl)
  have w125_ := hw _ (List.mem_of_getElem? (i := 125) rfl)
  have w126_ := hw _ (List.mem_of_getElem? (i := 126) rfl)
  show Go p e below (RetG s (Q_lgetc Z b kb nn bs ch kc cap vc off h0 n0) 0 0) (s₁.setTop (entryFrame m #[(.ref b), (.int (0 : Int32)), (.int nn), (.ref ch), (.int off)] 5))
  rw [show entryFrame m #[(.ref b), (.int (0 : Int32)), (.int nn), (.ref ch), (.int off)] 5 = mkF m 0 #[.val (.ref b), .val (.int (0 : Int32)), .val (.int nn), .val (.ref ch), .val (.int off)] [] from by first | (simp [entryFrame, mkF, argsToLocals, Value.category]; done) | rfl]
  refine g_aloadN X0 hx hby d25_0 rfl rfl ?_
  refine g_iloadN X0 hx hby d25_1 rfl ?_
  refine g_aloadN X0 hx hby d25_2 rfl rfl ?_
  refine g_iload X0 hx hby d25_3 rfl ?_
  refine g_iloadN X0 hx hby d25_5 rfl ?_
  refine g_iloadN X0 hx hby d25_6 rfl ?_
  refine g_isub X0 hx hby d25_7 ?_
  refine g_topI nn (by simp) ?_
  refine g_static X0 hx hby hZ hown (rm_inflate l Z a0 hw [] b kb nn bs ch kc cap vc off nn.toInt.toNat h0 n0 Z0 VB VC hl ho hz hcap gc nbc (Int.toNat_of_nonneg hz).symm) w124_ w125_ w14_ w126_ (by decide) e0 (by rw [hml]; rfl) [(.ref b), (.int (0 : Int32)), (.ref ch), (.int off), (.int nn)] (lenOf own_pd14 rfl) rfl rfl (Nat.le_of_ble_eq_true rfl) (Nat.le_of_ble_eq_true rfl) (Nat.le_of_ble_eq_true rfl) (Nat.le_of_ble_eq_true rfl) d25_8 (fun v1 T1 L1 X1 hQ1 => ?_)
  obtain ⟨rfl, N1q, K1, vc1, Vc1, hl1⟩ := hQ1
  have N1 := Fr.app N0 N1q
  refine g_ret X1 hx hby Bd.returns Bd.notSynchronized d25_11 rfl (by decide) (by decide) ?_
  show (Q_lgetc Z b kb nn bs ch kc cap vc off h0 n0) none _ _
  exact ⟨rfl, N1, ((Keep.refl h0 [ch]).trans K1 (allS (Or.inl (List.mem_of_getElem? (i := 0) rfl)) all0)), _, Vc1, hl1⟩

theorem d21_0 : decode jdk_41_method_12_code 0 = .ok (.iload_n 0, 1) := by decide +kernel
theorem d21_1 : decode jdk_41_method_12_code 1 = .ok (.ifCond .lt 13, 3) := by decide +kernel
theorem d21_4 : decode jdk_41_method_12_code 4 = .ok (.iload_n 0, 1) := by decide +kernel
theorem d21_5 : decode jdk_41_method_12_code 5 = .ok (.iload_n 1, 1) := by decide +kernel
theorem d21_6 : decode jdk_41_method_12_code 6 = .ok (.if_icmp .gt 8, 3) := by decide +kernel
theorem d21_9 : decode jdk_41_method_12_code 9 = .ok (.iload_n 1, 1) := by decide +kernel
theorem d21_10 : decode jdk_41_method_12_code 10 = .ok (.iload_n 2, 1) := by decide +kernel
theorem d21_11 : decode jdk_41_method_12_code 11 = .ok (.if_icmp .le 11, 3) := by decide +kernel
theorem d21_22 : decode jdk_41_method_12_code 22 = .ok (.iload_n 0, 1) := by decide +kernel
theorem d21_23 : decode jdk_41_method_12_code 23 = .ok (.ireturn, 1) := by decide +kernel
theorem own_pn6 : plainName "jdk/internal/util/Preconditions" = true := by first | (simp [plainName, overriddenIn]; done) | decide +kernel
def Q_cfti (Z : State) (nn : Int32) (fz : Value) (h0 : Heap) (n0 : Nat) (v : Option Value) (h : Heap) (L : List Loc) : Prop := v = some (.int (0 : Int32)) ∧ Fr n0 L ∧ h = h0
set_option maxRecDepth 65536 in
set_option maxHeartbeats 40000000 in
theorem rm_cfti (l : Launch) (Z : State) (a0 : Array Value) (hw : ∀ d ∈ tables_1, d.before a0 Z = true) (ws : List Jvm.Cond) (nn : Int32) (fz : Value) (h0 : Heap) (n0 : Nat) (Z0 : n0 ≤ h0.size) (hz : ¬ nn < 0) (rfz : Rf fz) :
    MetFree l (⟨"jdk/internal/util/Preconditions", "checkFromToIndex", "(IIILjava/util/function/BiFunction;)I"⟩ : MethodName) (head1 (Jvm.Cond.code (⟨"jdk/internal/util/Preconditions", "checkFromToIndex", "(IIILjava/util/function/BiFunction;)I"⟩ : MethodName) jdk_41_method_12_code 4 (some .int) :: ws) ({ frames := 0, cells := 0, slots := 0, locals := 0 } : Room)) (fun aa_ U => aa_ = #[(.int (0 : Int32)), (.int nn), (.int nn), fz] ∧ Z.Warmed39 U.vm ∧ U.heap = h0) (fun _ _ _ _ _ => True) (fun _ U o_ U' => RetG U (Q_cfti Z nn fz h0 n0) 0 0 U' o_) := by
  refine MetFree.of_bodySF (plainFor_of_name own_pn6) hisR ?_
  intro p e s m args below meth c_ s₁ Bd hml0 hP hK
  obtain ⟨rfl, hZ, hh⟩ := hP
  have hx := Bd.exec
  have hby := Bd.bytes
  have hml : c_.maxLocals = 4 := hml0
  have hown : s.vm.findClass "jdk/internal/util/Preconditions" = some m.cls := findClass_of_methodNamed Bd.named
  have hnm := (name_of_methodNamed Bd.named Bd.method).1
  have X0 : Stand p l e ({ frames := 0, cells := 0, slots := 0, locals := 0 } : Room) s m #[(.int (0 : Int32)), (.int nn), (.int nn), fz] below meth c_ s₁ [] 0 0 := Stand.of_body Bd
  have e0 : s₁.heap = h0 := by rw [← hh, Bd.state]; rfl
  have N0 := Fr.nil n0
  show Go p e below (RetG s (Q_cfti Z nn fz h0 n0) 0 0) (s₁.setTop (entryFrame m #[(.int (0 : Int32)), (.int nn), (.int nn), fz] 4))
  rw [show entryFrame m #[(.int (0 : Int32)), (.int nn), (.int nn), fz] 4 = mkF m 0 #[.val (.int (0 : Int32)), .val (.int nn), .val (.int nn), .val fz] [] from by rcases rfz with rfl | ⟨_, rfl⟩ <;> first | (simp [entryFrame, mkF, argsToLocals, Value.category]; done) | rfl]
  refine g_iloadN X0 hx hby d21_0 rfl ?_
  refine g_ifN X0 hx hby d21_1 (flt (by decide : ¬ ((0 : Int32) < (0 : Int32)))).1 ?_
  refine g_iloadN X0 hx hby d21_4 rfl ?_
  refine g_iloadN X0 hx hby d21_5 rfl ?_
  refine g_icN X0 hx hby d21_6 (flt (hz : ¬ (nn < (0 : Int32)))).2.2.1 ?_
  refine g_iloadN X0 hx hby d21_9 rfl ?_
  refine g_iloadN X0 hx hby d21_10 rfl ?_
  refine g_icY X0 hx hby 22 d21_11 (flt ((fun q => absurd q (by rw [Int32.lt_iff_toInt_lt]; omega)) : ¬ (nn < nn))).2.2.2 (by decide) (by decide) ?_
  refine g_iloadN X0 hx hby d21_22 rfl ?_
  refine g_iret X0 hx hby Bd.returns Bd.notSynchronized d21_23 e0 (by decide) (by decide) ?_
  show (Q_cfti Z nn fz h0 n0) (some (.int (0 : Int32))) _ _
  exact ⟨rfl, N0, rfl⟩

theorem d20_0 : decode jdk_42_method_158_code 0 = .ok (.iload_n 0, 1) := by decide +kernel
theorem d20_1 : decode jdk_42_method_158_code 1 = .ok (.iload_n 1, 1) := by decide +kernel
theorem d20_2 : decode jdk_42_method_158_code 2 = .ok (.iload_n 2, 1) := by decide +kernel
theorem d20_3 : decode jdk_42_method_158_code 3 = .ok (.getstatic 1053, 3) := by decide +kernel
theorem d20_6 : decode jdk_42_method_158_code 6 = .ok (.invokestatic 1062, 3) := by decide +kernel
theorem own_pd15 : parseMethodDescriptor "(IIILjava/util/function/BiFunction;)I" = some ⟨[.int, .int, .int, (.object "java/util/function/BiFunction")], some .int⟩ := by decide +kernel
theorem d20_9 : decode jdk_42_method_158_code 9 = .ok (.pop, 1) := by decide +kernel
theorem d20_10 : decode jdk_42_method_158_code 10 = .ok (.return_, 1) := by decide +kernel
def Q_cbbe (Z : State) (nn : Int32) (fz : Value) (h0 : Heap) (n0 : Nat) (v : Option Value) (h : Heap) (L : List Loc) : Prop := v = none ∧ Fr n0 L ∧ h = h0
set_option maxRecDepth 65536 in
set_option maxHeartbeats 40000000 in
theorem rm_cbbe (l : Launch) (Z : State) (a0 : Array Value) (hw : ∀ d ∈ tables_1, d.before a0 Z = true) (ws : List Jvm.Cond) (nn : Int32) (fz : Value) (h0 : Heap) (n0 : Nat) (Z0 : n0 ≤ h0.size) (hz : ¬ nn < 0) (rfz : Rf fz) (O4 : Sta Z Z.heap "jdk/internal/util/Preconditions" "SIOOBE_FORMATTER" "Ljava/util/function/BiFunction;" fz) (OLD : Old Z n0 h0) :
    MetFree l (⟨"java/lang/String", "checkBoundsBeginEnd", "(III)V"⟩ : MethodName) (head1 (Jvm.Cond.code (⟨"java/lang/String", "checkBoundsBeginEnd", "(III)V"⟩ : MethodName) jdk_42_method_158_code 3 none :: ws) ({ frames := 1, cells := 0, slots := 0, locals := 15 } : Room)) (fun aa_ U => aa_ = #[(.int (0 : Int32)), (.int nn), (.int nn)] ∧ Z.Warmed39 U.vm ∧ U.heap = h0) (fun _ _ _ _ _ => True) (fun _ U o_ U' => RetG U (Q_cbbe Z nn fz h0 n0) 0 0 U' o_) := by
  refine MetFree.of_bodySF (plainFor_of_name own_pn2) hisR ?_
  intro p e s m args below meth c_ s₁ Bd hml0 hP hK
  obtain ⟨rfl, hZ, hh⟩ := hP
  have hx := Bd.exec
  have hby := Bd.bytes
  have hml : c_.maxLocals = 3 := hml0
  have hown : s.vm.findClass "java/lang/String" = some m.cls := findClass_of_methodNamed Bd.named
  have hnm := (name_of_methodNamed Bd.named Bd.method).1
  have X0 : Stand p l e ({ frames := 1, cells := 0, slots := 0, locals := 15 } : Room) s m #[(.int (0 : Int32)), (.int nn), (.int nn)] below meth c_ s₁ [] 0 0 := Stand.of_body Bd
  have e0 : s₁.heap = h0 := by rw [← hh, Bd.state]; rfl
  have N0 := Fr.nil n0
  have w105_ := hw _ (List.mem_of_getElem? (i := 105) rfl)
  have w106_ := hw _ (List.mem_of_getElem? (i := 106) rfl)
  have w107_ := hw _ (List.mem_of_getElem? (i := 107) rfl)
  have w108_ := hw _ (List.mem_of_getElem? (i := 108) rfl)
  have w109_ := hw _ (List.mem_of_getElem? (i := 109) rfl)
  show Go p e below (RetG s (Q_cbbe Z nn fz h0 n0) 0 0) (s₁.setTop (entryFrame m #[(.int (0 : Int32)), (.int nn), (.int nn)] 3))
  rw [show entryFrame m #[(.int (0 : Int32)), (.int nn), (.int nn)] 3 = mkF m 0 #[.val (.int (0 : Int32)), .val (.int nn), .val (.int nn)] [] from by first | (simp [entryFrame, mkF, argsToLocals, Value.category]; done) | rfl]
  refine g_iloadN X0 hx hby d20_0 rfl ?_
  refine g_iloadN X0 hx hby d20_1 rfl ?_
  refine g_iloadN X0 hx hby d20_2 rfl ?_
  refine g_getS X0 hx hby hZ hown (host := "") (Or.inl w105_) Via.refl e0 (O4.ext OLD.2) d20_3 (fun T1 X1 e1 => ?_)
  refine g_static X1 hx hby hZ hown (rm_cfti l Z a0 hw [] nn fz h0 n0 Z0 hz rfz) w107_ w108_ w106_ w109_ (by decide) e1 (by rw [hml]; rfl) [(.int (0 : Int32)), (.int nn), (.int nn), fz] (lenOf own_pd15 rfl) rfl rfl (Nat.le_of_ble_eq_true rfl) (Nat.le_of_ble_eq_true rfl) (Nat.le_of_ble_eq_true rfl) (Nat.le_of_ble_eq_true rfl) d20_6 (fun v2 T2 L2 X2 hQ2 => ?_)
  obtain ⟨rfl, N2q, eh2⟩ := hQ2
  have N2 := Fr.app N0 N2q
  refine g_pop X2 hx hby d20_9 rfl ?_
  refine g_ret X2 hx hby Bd.returns Bd.notSynchronized d20_10 eh2 (by decide) (by decide) ?_
  show (Q_cbbe Z nn fz h0 n0) none _ _
  exact ⟨rfl, N2, rfl⟩

theorem d23_0 : decode jdk_41_method_13_code 0 = .ok (.iload_n 2, 1) := by decide +kernel
theorem d23_1 : decode jdk_41_method_13_code 1 = .ok (.iload_n 0, 1) := by decide +kernel
theorem d23_2 : decode jdk_41_method_13_code 2 = .ok (.ior, 1) := by decide +kernel
theorem d23_3 : decode jdk_41_method_13_code 3 = .ok (.iload_n 1, 1) := by decide +kernel
theorem d23_4 : decode jdk_41_method_13_code 4 = .ok (.ior, 1) := by decide +kernel
theorem d23_5 : decode jdk_41_method_13_code 5 = .ok (.ifCond .lt 10, 3) := by decide +kernel
theorem d23_8 : decode jdk_41_method_13_code 8 = .ok (.iload_n 1, 1) := by decide +kernel
theorem d23_9 : decode jdk_41_method_13_code 9 = .ok (.iload_n 2, 1) := by decide +kernel
theorem d23_10 : decode jdk_41_method_13_code 10 = .ok (.iload_n 0, 1) := by decide +kernel
theorem d23_11 : decode jdk_41_method_13_code 11 = .ok (.isub, 1) := by decide +kernel
theorem d23_12 : decode jdk_41_method_13_code 12 = .ok (.if_icmp .le 11, 3) := by decide +kernel
theorem d23_23 : decode jdk_41_method_13_code 23 = .ok (.iload_n 0, 1) := by decide +kernel
theorem d23_24 : decode jdk_41_method_13_code 24 = .ok (.ireturn, 1) := by decide +kernel
def Q_cfis (Z : State) (off : Int32) (nn : Int32) (cap : Int32) (fz : Value) (h0 : Heap) (n0 : Nat) (v : Option Value) (h : Heap) (L : List Loc) : Prop := v = some (.int off) ∧ Fr n0 L ∧ h = h0
set_option maxRecDepth 65536 in
set_option maxHeartbeats 40000000 in
theorem rm_cfis (l : Launch) (Z : State) (a0 : Array Value) (hw : ∀ d ∈ tables_1, d.before a0 Z = true) (ws : List Jvm.Cond) (off : Int32) (nn : Int32) (cap : Int32) (fz : Value) (h0 : Heap) (n0 : Nat) (Z0 : n0 ≤ h0.size) (ho : 0 ≤ off.toInt) (hz : 0 ≤ nn.toInt) (hcap : off.toInt + nn.toInt ≤ cap.toInt) (rfz : Rf fz) :
    MetFree l (⟨"jdk/internal/util/Preconditions", "checkFromIndexSize", "(IIILjava/util/function/BiFunction;)I"⟩ : MethodName) (head1 (Jvm.Cond.code (⟨"jdk/internal/util/Preconditions", "checkFromIndexSize", "(IIILjava/util/function/BiFunction;)I"⟩ : MethodName) jdk_41_method_13_code 4 (some .int) :: ws) ({ frames := 0, cells := 0, slots := 0, locals := 0 } : Room)) (fun aa_ U => aa_ = #[(.int off), (.int nn), (.int cap), fz] ∧ Z.Warmed39 U.vm ∧ U.heap = h0) (fun _ _ _ _ _ => True) (fun _ U o_ U' => RetG U (Q_cfis Z off nn cap fz h0 n0) 0 0 U' o_) := by
  refine MetFree.of_bodySF (plainFor_of_name own_pn6) hisR ?_
  intro p e s m args below meth c_ s₁ Bd hml0 hP hK
  obtain ⟨rfl, hZ, hh⟩ := hP
  have hx := Bd.exec
  have hby := Bd.bytes
  have hml : c_.maxLocals = 4 := hml0
  have hown : s.vm.findClass "jdk/internal/util/Preconditions" = some m.cls := findClass_of_methodNamed Bd.named
  have hnm := (name_of_methodNamed Bd.named Bd.method).1
  have X0 : Stand p l e ({ frames := 0, cells := 0, slots := 0, locals := 0 } : Room) s m #[(.int off), (.int nn), (.int cap), fz] below meth c_ s₁ [] 0 0 := Stand.of_body Bd
  have e0 : s₁.heap = h0 := by rw [← hh, Bd.state]; rfl
  have N0 := Fr.nil n0
  show Go p e below (RetG s (Q_cfis Z off nn cap fz h0 n0) 0 0) (s₁.setTop (entryFrame m #[(.int off), (.int nn), (.int cap), fz] 4))
  rw [show entryFrame m #[(.int off), (.int nn), (.int cap), fz] 4 = mkF m 0 #[.val (.int off), .val (.int nn), .val (.int cap), .val fz] [] from by rcases rfz with rfl | ⟨_, rfl⟩ <;> first | (simp [entryFrame, mkF, argsToLocals, Value.category]; done) | rfl]
  refine g_iloadN X0 hx hby d23_0 rfl ?_
  refine g_iloadN X0 hx hby d23_1 rfl ?_
  refine g_ior X0 hx hby d23_2 ?_
  refine g_iloadN X0 hx hby d23_3 rfl ?_
  refine g_ior X0 hx hby d23_4 ?_
  refine g_ifN X0 hx hby d23_5 (flt (own_or3 (by omega) ho hz : ¬ (((cap ||| off) ||| nn) < (0 : Int32)))).1 ?_
  refine g_iloadN X0 hx hby d23_8 rfl ?_
  refine g_iloadN X0 hx hby d23_9 rfl ?_
  refine g_iloadN X0 hx hby d23_10 rfl ?_
  refine g_isub X0 hx hby d23_11 ?_
  refine g_icY X0 hx hby 23 d23_12 (flt (own_fits ho hz hcap : ¬ ((cap - off) < nn))).2.2.2 (by decide) (by decide) ?_
  refine g_iloadN X0 hx hby d23_23 rfl ?_
  refine g_iret X0 hx hby Bd.returns Bd.notSynchronized d23_24 e0 (by decide) (by decide) ?_
  show (Q_cfis Z off nn cap fz h0 n0) (some (.int off)) _ _
  exact ⟨rfl, N0, rfl⟩

theorem d22_0 : decode jdk_42_method_157_code 0 = .ok (.iload_n 0, 1) := by decide +kernel
theorem d22_1 : decode jdk_42_method_157_code 1 = .ok (.iload_n 1, 1) := by decide +kernel
theorem d22_2 : decode jdk_42_method_157_code 2 = .ok (.iload_n 2, 1) := by decide +kernel
theorem d22_3 : decode jdk_42_method_157_code 3 = .ok (.getstatic 1053, 3) := by decide +kernel
theorem d22_6 : decode jdk_42_method_157_code 6 = .ok (.invokestatic 1065, 3) := by decide +kernel
theorem d22_9 : decode jdk_42_method_157_code 9 = .ok (.ireturn, 1) := by decide +kernel
def Q_cboc (Z : State) (off : Int32) (nn : Int32) (cap : Int32) (fz : Value) (h0 : Heap) (n0 : Nat) (v : Option Value) (h : Heap) (L : List Loc) : Prop := v = some (.int off) ∧ Fr n0 L ∧ h = h0
set_option maxRecDepth 65536 in
set_option maxHeartbeats 40000000 in
theorem rm_cboc (l : Launch) (Z : State) (a0 : Array Value) (hw : ∀ d ∈ tables_1, d.before a0 Z = true) (ws : List Jvm.Cond) (off : Int32) (nn : Int32) (cap : Int32) (fz : Value) (h0 : Heap) (n0 : Nat) (Z0 : n0 ≤ h0.size) (ho : 0 ≤ off.toInt) (hz : 0 ≤ nn.toInt) (hcap : off.toInt + nn.toInt ≤ cap.toInt) (rfz : Rf fz) (O4 : Sta Z Z.heap "jdk/internal/util/Preconditions" "SIOOBE_FORMATTER" "Ljava/util/function/BiFunction;" fz) (OLD : Old Z n0 h0) :
    MetFree l (⟨"java/lang/String", "checkBoundsOffCount", "(III)I"⟩ : MethodName) (head1 (Jvm.Cond.code (⟨"java/lang/String", "checkBoundsOffCount", "(III)I"⟩ : MethodName) jdk_42_method_157_code 3 (some .int) :: ws) ({ frames := 1, cells := 0, slots := 0, locals := 15 } : Room)) (fun aa_ U => aa_ = #[(.int off), (.int nn), (.int cap)] ∧ Z.Warmed39 U.vm ∧ U.heap = h0) (fun _ _ _ _ _ => True) (fun _ U o_ U' => RetG U (Q_cboc Z off nn cap fz h0 n0) 0 0 U' o_) := by
  refine MetFree.of_bodySF (plainFor_of_name own_pn2) hisR ?_
  intro p e s m args below meth c_ s₁ Bd hml0 hP hK
  obtain ⟨rfl, hZ, hh⟩ := hP
  have hx := Bd.exec
  have hby := Bd.bytes
  have hml : c_.maxLocals = 3 := hml0
  have hown : s.vm.findClass "java/lang/String" = some m.cls := findClass_of_methodNamed Bd.named
  have hnm := (name_of_methodNamed Bd.named Bd.method).1
  have X0 : Stand p l e ({ frames := 1, cells := 0, slots := 0, locals := 15 } : Room) s m #[(.int off), (.int nn), (.int cap)] below meth c_ s₁ [] 0 0 := Stand.of_body Bd
  have e0 : s₁.heap = h0 := by rw [← hh, Bd.state]; rfl
  have N0 := Fr.nil n0
  have w105_ := hw _ (List.mem_of_getElem? (i := 105) rfl)
  have w106_ := hw _ (List.mem_of_getElem? (i := 106) rfl)
  have w113_ := hw _ (List.mem_of_getElem? (i := 113) rfl)
  have w114_ := hw _ (List.mem_of_getElem? (i := 114) rfl)
  have w115_ := hw _ (List.mem_of_getElem? (i := 115) rfl)
  show Go p e below (RetG s (Q_cboc Z off nn cap fz h0 n0) 0 0) (s₁.setTop (entryFrame m #[(.int off), (.int nn), (.int cap)] 3))
  rw [show entryFrame m #[(.int off), (.int nn), (.int cap)] 3 = mkF m 0 #[.val (.int off), .val (.int nn), .val (.int cap)] [] from by first | (simp [entryFrame, mkF, argsToLocals, Value.category]; done) | rfl]
  refine g_iloadN X0 hx hby d22_0 rfl ?_
  refine g_iloadN X0 hx hby d22_1 rfl ?_
  refine g_iloadN X0 hx hby d22_2 rfl ?_
  refine g_getS X0 hx hby hZ hown (host := "") (Or.inl w105_) Via.refl e0 (O4.ext OLD.2) d22_3 (fun T1 X1 e1 => ?_)
  refine g_static X1 hx hby hZ hown (rm_cfis l Z a0 hw [] off nn cap fz h0 n0 Z0 ho hz hcap rfz) w113_ w114_ w106_ w115_ (by decide) e1 (by rw [hml]; rfl) [(.int off), (.int nn), (.int cap), fz] (lenOf own_pd15 rfl) rfl rfl (Nat.le_of_ble_eq_true rfl) (Nat.le_of_ble_eq_true rfl) (Nat.le_of_ble_eq_true rfl) (Nat.le_of_ble_eq_true rfl) d22_6 (fun v2 T2 L2 X2 hQ2 => ?_)
  obtain ⟨rfl, N2q, eh2⟩ := hQ2
  have N2 := Fr.app N0 N2q
  refine g_iret X2 hx hby Bd.returns Bd.notSynchronized d22_9 eh2 (by decide) (by decide) ?_
  show (Q_cboc Z off nn cap fz h0 n0) (some (.int off)) _ _
  exact ⟨rfl, N2, rfl⟩

theorem d24_0 : decode jdk_42_method_154_code 0 = .ok (.getstatic 38, 3) := by decide +kernel
theorem d24_3 : decode jdk_42_method_154_code 3 = .ok (.ifCond .eq 14, 3) := by decide +kernel
theorem d24_6 : decode jdk_42_method_154_code 6 = .ok (.aload_n 0, 1) := by decide +kernel
theorem d24_7 : decode jdk_42_method_154_code 7 = .ok (.getfield 15, 3) := by decide +kernel
theorem d24_10 : decode jdk_42_method_154_code 10 = .ok (.ifCond .ne 7, 3) := by decide +kernel
theorem d24_13 : decode jdk_42_method_154_code 13 = .ok (.iconst 1, 1) := by decide +kernel
theorem d24_14 : decode jdk_42_method_154_code 14 = .ok (.goto 4, 3) := by decide +kernel
theorem d24_18 : decode jdk_42_method_154_code 18 = .ok (.ireturn, 1) := by decide +kernel
def Q_islat (Z : State) (a : Addr) (cz : Int32) (h0 : Heap) (n0 : Nat) (v : Option Value) (h : Heap) (L : List Loc) : Prop := v = some (.int (1 : Int32)) ∧ Fr n0 L ∧ h = h0
set_option maxRecDepth 65536 in
set_option maxHeartbeats 40000000 in
theorem rm_islat (l : Launch) (Z : State) (a0 : Array Value) (hw : ∀ d ∈ tables_1, d.before a0 Z = true) (ws : List Jvm.Cond) (a : Addr) (cz : Int32) (h0 : Heap) (n0 : Nat) (Z0 : n0 ≤ h0.size) (O2 : Sta Z Z.heap "java/lang/String" "COMPACT_STRINGS" "Z" (.int cz)) (P5 : ¬ cz = (0 : Int32)) (OLD : Old Z n0 h0) (C : Fld Z h0 a "java/lang/String" "coder" "B" (.int (0 : Int32))) :
    MetFree l (⟨"java/lang/String", "isLatin1", "()Z"⟩ : MethodName) (head1 (Jvm.Cond.code (⟨"java/lang/String", "isLatin1", "()Z"⟩ : MethodName) jdk_42_method_154_code 1 (some .boolean) :: ws) ({ frames := 0, cells := 0, slots := 0, locals := 0 } : Room)) (fun aa_ U => aa_ = #[(.ref a)] ∧ Z.Warmed39 U.vm ∧ U.heap = h0) (fun _ _ _ _ _ => True) (fun _ U o_ U' => RetG U (Q_islat Z a cz h0 n0) 0 0 U' o_) := by
  refine MetFree.of_bodySF (plainFor_of_name own_pn2) hisR ?_
  intro p e s m args below meth c_ s₁ Bd hml0 hP hK
  obtain ⟨rfl, hZ, hh⟩ := hP
  have hx := Bd.exec
  have hby := Bd.bytes
  have hml : c_.maxLocals = 1 := hml0
  have hown : s.vm.findClass "java/lang/String" = some m.cls := findClass_of_methodNamed Bd.named
  have hnm := (name_of_methodNamed Bd.named Bd.method).1
  have X0 : Stand p l e ({ frames := 0, cells := 0, slots := 0, locals := 0 } : Room) s m #[(.ref a)] below meth c_ s₁ [] 0 0 := Stand.of_body Bd
  have e0 : s₁.heap = h0 := by rw [← hh, Bd.state]; rfl
  have N0 := Fr.nil n0
  have w11_ := hw _ (List.mem_of_getElem? (i := 11) rfl)
  have w28_ := hw _ (List.mem_of_getElem? (i := 28) rfl)
  show Go p e below (RetG s (Q_islat Z a cz h0 n0) 0 0) (s₁.setTop (entryFrame m #[(.ref a)] 1))
  rw [show entryFrame m #[(.ref a)] 1 = mkF m 0 #[.val (.ref a)] [] from by first | (simp [entryFrame, mkF, argsToLocals, Value.category]; done) | rfl]
  refine g_getS X0 hx hby hZ hown (host := "") (Or.inl w11_) Via.refl e0 (O2.ext OLD.2) d24_0 (fun T1 X1 e1 => ?_)
  refine g_ifN X1 hx hby d24_3 (feq (P5 : ¬ (cz = (0 : Int32)))).1 ?_
  refine g_aloadN X1 hx hby d24_6 rfl rfl ?_
  refine g_getF X1 hx hby hZ hown (host := "") (Or.inl w28_) Via.refl e1 C d24_7 (fun T2 X2 e2 => ?_)
  refine g_ifN X2 hx hby d24_10 (teq (by decide : (0 : Int32) = (0 : Int32))).2 ?_
  refine g_iconst X2 hx hby (1 : Int32) d24_13 rfl ?_
  refine g_goto X2 hx hby 18 d24_14 (by decide) (by decide) ?_
  refine g_nret X2 hx hby (t := .boolean) (by simp) Bd.returns Bd.notSynchronized d24_18 e2 (by decide) (by decide) ?_
  show (Q_islat Z a cz h0 n0) (some (.int (1 : Int32))) _ _
  exact ⟨rfl, N0, rfl⟩

theorem d19_0 : decode jdk_42_method_61_code 0 = .ok (.iload_n 1, 1) := by decide +kernel
theorem d19_1 : decode jdk_42_method_61_code 1 = .ok (.iload_n 2, 1) := by decide +kernel
theorem d19_2 : decode jdk_42_method_61_code 2 = .ok (.aload_n 0, 1) := by decide +kernel
theorem d19_3 : decode jdk_42_method_61_code 3 = .ok (.invokevirtual 505, 3) := by decide +kernel
theorem own_pd16 : parseMethodDescriptor "()I" = some ⟨[], some .int⟩ := by decide +kernel
theorem d19_6 : decode jdk_42_method_61_code 6 = .ok (.invokestatic 521, 3) := by decide +kernel
theorem own_pd17 : parseMethodDescriptor "(III)V" = some ⟨[.int, .int, .int], none⟩ := by decide +kernel
theorem d19_9 : decode jdk_42_method_61_code 9 = .ok (.iload 4, 2) := by decide +kernel
theorem d19_11 : decode jdk_42_method_61_code 11 = .ok (.iload_n 2, 1) := by decide +kernel
theorem d19_12 : decode jdk_42_method_61_code 12 = .ok (.iload_n 1, 1) := by decide +kernel
theorem d19_13 : decode jdk_42_method_61_code 13 = .ok (.isub, 1) := by decide +kernel
theorem d19_14 : decode jdk_42_method_61_code 14 = .ok (.aload_n 3, 1) := by decide +kernel
theorem d19_15 : decode jdk_42_method_61_code 15 = .ok (.arraylength, 1) := by decide +kernel
theorem d19_16 : decode jdk_42_method_61_code 16 = .ok (.invokestatic 34, 3) := by decide +kernel
theorem own_pd18 : parseMethodDescriptor "(III)I" = some ⟨[.int, .int, .int], some .int⟩ := by decide +kernel
theorem d19_19 : decode jdk_42_method_61_code 19 = .ok (.pop, 1) := by decide +kernel
theorem d19_20 : decode jdk_42_method_61_code 20 = .ok (.aload_n 0, 1) := by decide +kernel
theorem d19_21 : decode jdk_42_method_61_code 21 = .ok (.invokevirtual 492, 3) := by decide +kernel
theorem own_pd19 : parseMethodDescriptor "()Z" = some ⟨[], some .boolean⟩ := by decide +kernel
theorem d19_24 : decode jdk_42_method_61_code 24 = .ok (.ifCond .eq 18, 3) := by decide +kernel
theorem d19_27 : decode jdk_42_method_61_code 27 = .ok (.aload_n 0, 1) := by decide +kernel
theorem d19_28 : decode jdk_42_method_61_code 28 = .ok (.getfield 9, 3) := by decide +kernel
theorem d19_31 : decode jdk_42_method_61_code 31 = .ok (.iload_n 1, 1) := by decide +kernel
theorem d19_32 : decode jdk_42_method_61_code 32 = .ok (.iload_n 2, 1) := by decide +kernel
theorem d19_33 : decode jdk_42_method_61_code 33 = .ok (.aload_n 3, 1) := by decide +kernel
theorem d19_34 : decode jdk_42_method_61_code 34 = .ok (.iload 4, 2) := by decide +kernel
theorem d19_36 : decode jdk_42_method_61_code 36 = .ok (.invokestatic 525, 3) := by decide +kernel
theorem own_pd20 : parseMethodDescriptor "([BII[CI)V" = some ⟨[(.array .byte), .int, .int, (.array .char), .int], none⟩ := by decide +kernel
theorem d19_39 : decode jdk_42_method_61_code 39 = .ok (.goto 15, 3) := by decide +kernel
theorem d19_54 : decode jdk_42_method_61_code 54 = .ok (.return_, 1) := by decide +kernel
def Q_getc (Z : State) (a : Addr) (b : Addr) (kb : ClassId) (nn : Int32) (bs : List Value) (ch : Addr) (kc : ClassId) (cap : Int32) (vc : List Value) (off : Int32) (cz : Int32) (fz : Value) (h0 : Heap) (n0 : Nat) (v : Option Value) (h : Heap) (L : List Loc) : Prop := v = none ∧ Fr n0 L ∧ Keep h0 h [ch] ∧ ∃ vc' : List Value, Arv Z h ch kc .char cap vc' (.int (0 : Int32)) ∧ cap.toNatClampNeg ≤ vc'.length
set_option maxRecDepth 65536 in
set_option maxHeartbeats 40000000 in
theorem rm_getc (l : Launch) (Z : State) (a0 : Array Value) (hw : ∀ d ∈ tables_1, d.before a0 Z = true) (ws : List Jvm.Cond) (a : Addr) (b : Addr) (kb : ClassId) (nn : Int32) (bs : List Value) (ch : Addr) (kc : ClassId) (cap : Int32) (vc : List Value) (off : Int32) (cz : Int32) (fz : Value) (h0 : Heap) (n0 : Nat) (Z0 : n0 ≤ h0.size) (O2 : Sta Z Z.heap "java/lang/String" "COMPACT_STRINGS" "Z" (.int cz)) (P5 : ¬ cz = (0 : Int32)) (OLD : Old Z n0 h0) (rfz : Rf fz) (O4 : Sta Z Z.heap "jdk/internal/util/Preconditions" "SIOOBE_FORMATTER" "Ljava/util/function/BiFunction;" fz) (E : Exa Z h0 a "java/lang/String") (C : Fld Z h0 a "java/lang/String" "coder" "B" (.int (0 : Int32))) (VF : Fld Z h0 a "java/lang/String" "value" "[B" (.ref b)) (VB : Arv Z h0 b kb .byte nn bs (.int (0 : Int32))) (VC : Arv Z h0 ch kc .char cap vc (.int (0 : Int32))) (hl : cap.toNatClampNeg ≤ vc.length) (ho : 0 ≤ off.toInt) (hz : 0 ≤ nn.toInt) (hcap : off.toInt + nn.toInt ≤ cap.toInt) (gc : n0 ≤ ch) (nbc : b ≠ ch) :
    MetFree l (⟨"java/lang/String", "getChars", "(II[CI)V"⟩ : MethodName) (head1 (Jvm.Cond.code (⟨"java/lang/String", "getChars", "(II[CI)V"⟩ : MethodName) jdk_42_method_61_code 5 none :: ws) ({ frames := 2, cells := 0, slots := 0, locals := 33 } : Room)) (fun aa_ U => aa_ = #[(.ref a), (.int (0 : Int32)), (.int nn), (.ref ch), (.int off)] ∧ Z.Warmed39 U.vm ∧ U.heap = h0) (fun _ _ _ _ _ => True) (fun _ U o_ U' => RetG U (Q_getc Z a b kb nn bs ch kc cap vc off cz fz h0 n0) 0 0 U' o_) := by
  refine MetFree.of_bodySF (plainFor_of_name own_pn2) hisR ?_
  intro p e s m args below meth c_ s₁ Bd hml0 hP hK
  obtain ⟨rfl, hZ, hh⟩ := hP
  have hx := Bd.exec
  have hby := Bd.bytes
  have hml : c_.maxLocals = 5 := hml0
  have hown : s.vm.findClass "java/lang/String" = some m.cls := findClass_of_methodNamed Bd.named
  have hnm := (name_of_methodNamed Bd.named Bd.method).1
  have X0 : Stand p l e ({ frames := 2, cells := 0, slots := 0, locals := 33 } : Room) s m #[(.ref a), (.int (0 : Int32)), (.int nn), (.ref ch), (.int off)] below meth c_ s₁ [] 0 0 := Stand.of_body Bd
  have e0 : s₁.heap = h0 := by rw [← hh, Bd.state]; rfl
  have N0 := Fr.nil n0
  have w1_ := hw _ (List.mem_of_getElem? (i := 1) rfl)
  have w14_ := hw _ (List.mem_of_getElem? (i := 14) rfl)
  have w27_ := hw _ (List.mem_of_getElem? (i := 27) rfl)
  have w87_ := hw _ (List.mem_of_getElem? (i := 87) rfl)
  have w88_ := hw _ (List.mem_of_getElem? (i := 88) rfl)
  have w89_ := hw _ (List.mem_of_getElem? (i := 89) rfl)
  have w90_ := hw _ (List.mem_of_getElem? (i := 90) rfl)
  have w101_ := hw _ (List.mem_of_getElem? (i := 101) rfl)
  have w102_ := hw _ (List.mem_of_getElem? (i := 102) rfl)
  have w103_ := hw _ (List.mem_of_getElem? (i := 103) rfl)
  have w104_ := hw _ (List.mem_of_getElem? (i := 104) rfl)
  have w110_ := hw _ (List.mem_of_getElem? (i := 110) rfl)
  have w111_ := hw _ (List.mem_of_getElem? (i := 111) rfl)
  have w112_ := hw _ (List.mem_of_getElem? (i := 112) rfl)
  have w116_ := hw _ (List.mem_of_getElem? (i := 116) rfl)
  have w117_ := hw _ (List.mem_of_getElem? (i := 117) rfl)
  have w118_ := hw _ (List.mem_of_getElem? (i := 118) rfl)
  have w119_ := hw _ (List.mem_of_getElem? (i := 119) rfl)
  have w120_ := hw _ (List.mem_of_getElem? (i := 120) rfl)
  have w121_ := hw _ (List.mem_of_getElem? (i := 121) rfl)
  have w122_ := hw _ (List.mem_of_getElem? (i := 122) rfl)
  have w123_ := hw _ (List.mem_of_getElem? (i := 123) rfl)
  show Go p e below (RetG s (Q_getc Z a b kb nn bs ch kc cap vc off cz fz h0 n0) 0 0) (s₁.setTop (entryFrame m #[(.ref a), (.int (0 : Int32)), (.int nn), (.ref ch), (.int off)] 5))
  rw [show entryFrame m #[(.ref a), (.int (0 : Int32)), (.int nn), (.ref ch), (.int off)] 5 = mkF m 0 #[.val (.ref a), .val (.int (0 : Int32)), .val (.int nn), .val (.ref ch), .val (.int off)] [] from by first | (simp [entryFrame, mkF, argsToLocals, Value.category]; done) | rfl]
  refine g_iloadN X0 hx hby d19_0 rfl ?_
  refine g_iloadN X0 hx hby d19_1 rfl ?_
  refine g_aloadN X0 hx hby d19_2 rfl rfl ?_
  refine g_virtual X0 hx hby hZ hown (rm_lenN l Z a0 hw [] a b kb nn bs cz h0 n0 Z0 O2 P5 OLD E C VF VB) w101_ w87_ (notFace_of_selects (args := #[]) (mvT hZ w89_)) w89_ w88_ w1_ w90_ (by decide) e0 E (by rw [hml]; rfl) [] (lenOf own_pd16 rfl) rfl rfl (Nat.le_of_ble_eq_true rfl) (Nat.le_of_ble_eq_true rfl) (Nat.le_of_ble_eq_true rfl) (Nat.le_of_ble_eq_true rfl) d19_3 (fun v1 T1 L1 X1 hQ1 => ?_)
  obtain ⟨rfl, N1q, eh1⟩ := hQ1
  have N1 := Fr.app N0 N1q
  refine g_static X1 hx hby hZ hown (rm_cbbe l Z a0 hw [] nn fz h0 n0 Z0 (own_nn hz) rfz O4 OLD) w102_ w103_ w1_ w104_ (by decide) eh1 (by rw [hml]; rfl) [(.int (0 : Int32)), (.int nn), (.int nn)] (lenOf own_pd17 rfl) rfl rfl (Nat.le_of_ble_eq_true rfl) (Nat.le_of_ble_eq_true rfl) (Nat.le_of_ble_eq_true rfl) (Nat.le_of_ble_eq_true rfl) d19_6 (fun v2 T2 L2 X2 hQ2 => ?_)
  obtain ⟨rfl, N2q, eh2⟩ := hQ2
  have N2 := Fr.app N1 N2q
  refine g_iload X2 hx hby d19_9 rfl ?_
  refine g_iloadN X2 hx hby d19_11 rfl ?_
  refine g_iloadN X2 hx hby d19_12 rfl ?_
  refine g_isub X2 hx hby d19_13 ?_
  refine g_topI nn (by simp) ?_
  refine g_aloadN X2 hx hby d19_14 rfl rfl ?_
  refine g_arraylength X2 hx hby hZ eh2 VC d19_15 ?_
  refine g_static X2 hx hby hZ hown (rm_cboc l Z a0 hw [] off nn cap fz h0 n0 Z0 ho hz hcap rfz O4 OLD) w110_ w111_ w1_ w112_ (by decide) eh2 (by rw [hml]; rfl) [(.int off), (.int nn), (.int cap)] (lenOf own_pd18 rfl) rfl rfl (Nat.le_of_ble_eq_true rfl) (Nat.le_of_ble_eq_true rfl) (Nat.le_of_ble_eq_true rfl) (Nat.le_of_ble_eq_true rfl) d19_16 (fun v3 T3 L3 X3 hQ3 => ?_)
  obtain ⟨rfl, N3q, eh3⟩ := hQ3
  have N3 := Fr.app N2 N3q
  refine g_at 19 rfl rfl rfl ?_
  refine g_pop X3 hx hby d19_19 rfl ?_
  refine g_aloadN X3 hx hby d19_20 rfl rfl ?_
  refine g_virtual X3 hx hby hZ hown (rm_islat l Z a0 hw [] a cz h0 n0 Z0 O2 P5 OLD C) w116_ w117_ (notFace_of_selects (args := #[]) (mvT hZ w119_)) w119_ w118_ w1_ w120_ (by decide) eh3 E (by rw [hml]; rfl) [] (lenOf own_pd19 rfl) rfl rfl (Nat.le_of_ble_eq_true rfl) (Nat.le_of_ble_eq_true rfl) (Nat.le_of_ble_eq_true rfl) (Nat.le_of_ble_eq_true rfl) d19_21 (fun v4 T4 L4 X4 hQ4 => ?_)
  obtain ⟨rfl, N4q, eh4⟩ := hQ4
  have N4 := Fr.app N3 N4q
  refine g_ifN X4 hx hby d19_24 (feq (by decide : ¬ ((1 : Int32) = (0 : Int32)))).1 ?_
  refine g_aloadN X4 hx hby d19_27 rfl rfl ?_
  refine g_getF X4 hx hby hZ hown (host := "") (Or.inl w27_) Via.refl eh4 VF d19_28 (fun T5 X5 e5 => ?_)
  refine g_iloadN X5 hx hby d19_31 rfl ?_
  refine g_iloadN X5 hx hby d19_32 rfl ?_
  refine g_aloadN X5 hx hby d19_33 rfl rfl ?_
  refine g_iload X5 hx hby d19_34 rfl ?_
  refine g_static X5 hx hby hZ hown (rm_lgetc l Z a0 hw [] b kb nn bs ch kc cap vc off h0 n0 Z0 VB VC hl ho hz hcap gc nbc) w121_ w122_ w14_ w123_ (by decide) e5 (by rw [hml]; rfl) [(.ref b), (.int (0 : Int32)), (.int nn), (.ref ch), (.int off)] (lenOf own_pd20 rfl) rfl rfl (Nat.le_of_ble_eq_true rfl) (Nat.le_of_ble_eq_true rfl) (Nat.le_of_ble_eq_true rfl) (Nat.le_of_ble_eq_true rfl) d19_36 (fun v6 T6 L6 X6 hQ6 => ?_)
  obtain ⟨rfl, N6q, K6, vc6, Vc6, hl6⟩ := hQ6
  have N6 := Fr.app N4 N6q
  refine g_goto X6 hx hby 54 d19_39 (by decide) (by decide) ?_
  refine g_ret X6 hx hby Bd.returns Bd.notSynchronized d19_54 rfl (by decide) (by decide) ?_
  show (Q_getc Z a b kb nn bs ch kc cap vc off cz fz h0 n0) none _ _
  exact ⟨rfl, N6, ((Keep.refl h0 [ch]).trans K6 (allS (Or.inl (List.mem_of_getElem? (i := 0) rfl)) all0)), _, Vc6, hl6⟩

theorem d15_0 : decode prog_79_method_2_code 0 = .ok (.aload_n 0, 1) := by decide +kernel
theorem d15_1 : decode prog_79_method_2_code 1 = .ok (.aload_n 0, 1) := by decide +kernel
theorem d15_2 : decode prog_79_method_2_code 2 = .ok (.getfield 12, 3) := by decide +kernel
theorem d15_5 : decode prog_79_method_2_code 5 = .ok (.invokevirtual 16, 3) := by decide +kernel
theorem own_pd21 : parseMethodDescriptor "(I)I" = some ⟨[.int], some .int⟩ := by decide +kernel
theorem d15_8 : decode prog_79_method_2_code 8 = .ok (.istore_n 2, 1) := by decide +kernel
theorem d15_9 : decode prog_79_method_2_code 9 = .ok (.iload_n 2, 1) := by decide +kernel
theorem d15_10 : decode prog_79_method_2_code 10 = .ok (.aload_n 1, 1) := by decide +kernel
theorem d15_11 : decode prog_79_method_2_code 11 = .ok (.invokevirtual 20, 3) := by decide +kernel
theorem d15_14 : decode prog_79_method_2_code 14 = .ok (.iadd, 1) := by decide +kernel
theorem d15_15 : decode prog_79_method_2_code 15 = .ok (.istore_n 3, 1) := by decide +kernel
theorem d15_16 : decode prog_79_method_2_code 16 = .ok (.iload_n 3, 1) := by decide +kernel
theorem d15_17 : decode prog_79_method_2_code 17 = .ok (.aload_n 0, 1) := by decide +kernel
theorem d15_18 : decode prog_79_method_2_code 18 = .ok (.getfield 26, 3) := by decide +kernel
theorem d15_21 : decode prog_79_method_2_code 21 = .ok (.arraylength, 1) := by decide +kernel
theorem d15_22 : decode prog_79_method_2_code 22 = .ok (.if_icmp .le 25, 3) := by decide +kernel
theorem d15_25 : decode prog_79_method_2_code 25 = .ok (.aload_n 0, 1) := by decide +kernel
theorem d15_26 : decode prog_79_method_2_code 26 = .ok (.aload_n 0, 1) := by decide +kernel
theorem d15_27 : decode prog_79_method_2_code 27 = .ok (.getfield 26, 3) := by decide +kernel
theorem d15_30 : decode prog_79_method_2_code 30 = .ok (.iconst 2, 1) := by decide +kernel
theorem d15_31 : decode prog_79_method_2_code 31 = .ok (.aload_n 0, 1) := by decide +kernel
theorem d15_32 : decode prog_79_method_2_code 32 = .ok (.getfield 26, 3) := by decide +kernel
theorem d15_35 : decode prog_79_method_2_code 35 = .ok (.arraylength, 1) := by decide +kernel
theorem d15_36 : decode prog_79_method_2_code 36 = .ok (.imul, 1) := by decide +kernel
theorem d15_37 : decode prog_79_method_2_code 37 = .ok (.iload_n 3, 1) := by decide +kernel
theorem d15_38 : decode prog_79_method_2_code 38 = .ok (.invokestatic 30, 3) := by decide +kernel
theorem d15_41 : decode prog_79_method_2_code 41 = .ok (.invokestatic 36, 3) := by decide +kernel
theorem own_pd22 : parseMethodDescriptor "([CI)[C" = some ⟨[(.array .char), .int], some (.array .char)⟩ := by decide +kernel
theorem d15_44 : decode prog_79_method_2_code 44 = .ok (.putfield 26, 3) := by decide +kernel
theorem d15_47 : decode prog_79_method_2_code 47 = .ok (.aload_n 1, 1) := by decide +kernel
theorem d15_48 : decode prog_79_method_2_code 48 = .ok (.iconst 0, 1) := by decide +kernel
theorem d15_49 : decode prog_79_method_2_code 49 = .ok (.aload_n 1, 1) := by decide +kernel
theorem d15_50 : decode prog_79_method_2_code 50 = .ok (.invokevirtual 20, 3) := by decide +kernel
theorem d15_53 : decode prog_79_method_2_code 53 = .ok (.aload_n 0, 1) := by decide +kernel
theorem d15_54 : decode prog_79_method_2_code 54 = .ok (.getfield 26, 3) := by decide +kernel
theorem d15_57 : decode prog_79_method_2_code 57 = .ok (.iload_n 2, 1) := by decide +kernel
theorem d15_58 : decode prog_79_method_2_code 58 = .ok (.invokevirtual 42, 3) := by decide +kernel
theorem own_pd23 : parseMethodDescriptor "(II[CI)V" = some ⟨[.int, .int, (.array .char), .int], none⟩ := by decide +kernel
theorem d15_61 : decode prog_79_method_2_code 61 = .ok (.aload_n 0, 1) := by decide +kernel
theorem d15_62 : decode prog_79_method_2_code 62 = .ok (.getfield 12, 3) := by decide +kernel
theorem d15_65 : decode prog_79_method_2_code 65 = .ok (.aload_n 0, 1) := by decide +kernel
theorem d15_66 : decode prog_79_method_2_code 66 = .ok (.getfield 46, 3) := by decide +kernel
theorem d15_69 : decode prog_79_method_2_code 69 = .ok (.arraylength, 1) := by decide +kernel
theorem d15_70 : decode prog_79_method_2_code 70 = .ok (.if_icmp .ne 20, 3) := by decide +kernel
theorem d15_90 : decode prog_79_method_2_code 90 = .ok (.aload_n 0, 1) := by decide +kernel
theorem d15_91 : decode prog_79_method_2_code 91 = .ok (.getfield 46, 3) := by decide +kernel
theorem d15_94 : decode prog_79_method_2_code 94 = .ok (.aload_n 0, 1) := by decide +kernel
theorem d15_95 : decode prog_79_method_2_code 95 = .ok (.getfield 12, 3) := by decide +kernel
theorem d15_98 : decode prog_79_method_2_code 98 = .ok (.iload_n 3, 1) := by decide +kernel
theorem d15_99 : decode prog_79_method_2_code 99 = .ok (.iastore, 1) := by decide +kernel
theorem d15_100 : decode prog_79_method_2_code 100 = .ok (.aload_n 0, 1) := by decide +kernel
theorem d15_101 : decode prog_79_method_2_code 101 = .ok (.dup, 1) := by decide +kernel
theorem d15_102 : decode prog_79_method_2_code 102 = .ok (.getfield 12, 3) := by decide +kernel
theorem d15_105 : decode prog_79_method_2_code 105 = .ok (.dup_x1, 1) := by decide +kernel
theorem d15_106 : decode prog_79_method_2_code 106 = .ok (.iconst 1, 1) := by decide +kernel
theorem d15_107 : decode prog_79_method_2_code 107 = .ok (.iadd, 1) := by decide +kernel
theorem d15_108 : decode prog_79_method_2_code 108 = .ok (.putfield 12, 3) := by decide +kernel
theorem d15_111 : decode prog_79_method_2_code 111 = .ok (.ireturn, 1) := by decide +kernel
def Q_kadd_0 (Z : State) (ko : Addr) (ch : Addr) (en : Addr) (kc : ClassId) (ke : ClassId) (cap : Int32) (vc : List Value) (ve : List Value) (ex1 : Int32) (ex2 : Int32) (a : Addr) (b : Addr) (kb : ClassId) (nn : Int32) (bs : List Value) (cz : Int32) (fz : Value) (h0 : Heap) (n0 : Nat) (v : Option Value) (h : Heap) (L : List Loc) : Prop := v = some (.int (0 : Int32)) ∧ Fr n0 L ∧ Keep h0 h [ko, ch, en] ∧ ∃ (ch1 : Addr) (kc1 : ClassId) (vc1 ve1 : List Value), (ch1 = ch ∨ h0.size ≤ ch1) ∧ Exa Z h ko "com/example/invix/invix/sort/KeyBuffer" ∧ Fld Z h ko "com/example/invix/invix/sort/KeyBuffer" "characters" "[C" (.ref ch1) ∧ Fld Z h ko "com/example/invix/invix/sort/KeyBuffer" "ends" "[I" (.ref en) ∧ Fld Z h ko "com/example/invix/invix/sort/KeyBuffer" "count" "I" (.int (1 : Int32)) ∧ Arv Z h ch1 kc1 .char (own_grow cap ex2) vc1 (.int (0 : Int32)) ∧ (own_grow cap ex2).toNatClampNeg ≤ vc1.length ∧ Arv Z h en ke .int (128 : Int32) ve1 (.int (0 : Int32)) ∧ 128 ≤ ve1.length ∧ ve1.getD 0 (.int (0 : Int32)) = .int ex2
set_option maxRecDepth 65536 in
set_option maxHeartbeats 40000000 in
theorem rm_kadd_0 (l : Launch) (Z : State) (a0 : Array Value) (hw : ∀ d ∈ tables_1, d.before a0 Z = true) (ws : List Jvm.Cond) (ko : Addr) (ch : Addr) (en : Addr) (kc : ClassId) (ke : ClassId) (cap : Int32) (vc : List Value) (ve : List Value) (ex1 : Int32) (ex2 : Int32) (a : Addr) (b : Addr) (kb : ClassId) (nn : Int32) (bs : List Value) (cz : Int32) (fz : Value) (h0 : Heap) (n0 : Nat) (Z0 : n0 ≤ h0.size) (O2 : Sta Z Z.heap "java/lang/String" "COMPACT_STRINGS" "Z" (.int cz)) (P5 : ¬ cz = (0 : Int32)) (OLD : Old Z n0 h0) (rfz : Rf fz) (O4 : Sta Z Z.heap "jdk/internal/util/Preconditions" "SIOOBE_FORMATTER" "Ljava/util/function/BiFunction;" fz) (KE : Exa Z h0 ko "com/example/invix/invix/sort/KeyBuffer") (F1 : Fld Z h0 ko "com/example/invix/invix/sort/KeyBuffer" "characters" "[C" (.ref ch)) (F2 : Fld Z h0 ko "com/example/invix/invix/sort/KeyBuffer" "ends" "[I" (.ref en)) (F3 : Fld Z h0 ko "com/example/invix/invix/sort/KeyBuffer" "count" "I" (.int (0 : Int32))) (VCh : Arv Z h0 ch kc .char cap vc (.int (0 : Int32))) (hl : cap.toNatClampNeg ≤ vc.length) (VE : Arv Z h0 en ke .int (128 : Int32) ve (.int (0 : Int32))) (hve : 128 ≤ ve.length) (hv : ex1 = (0 : Int32)) (he2 : ex1 + nn = ex2) (gk : n0 ≤ ko) (gch : n0 ≤ ch) (gen : n0 ≤ en) (nce : ch ≠ en) (nbc : b ≠ ch) (p1 : 1024 ≤ cap.toInt) (p2 : cap.toInt ≤ 1024) (p3 : 0 ≤ ex1.toInt) (p4 : ex1.toInt ≤ 0) (p5 : 0 ≤ nn.toInt) (p6 : nn.toInt ≤ 2100) (E : Exa Z h0 a "java/lang/String") (C : Fld Z h0 a "java/lang/String" "coder" "B" (.int (0 : Int32))) (VF : Fld Z h0 a "java/lang/String" "value" "[B" (.ref b)) (VB : Arv Z h0 b kb .byte nn bs (.int (0 : Int32))) :
    MetFree l (⟨"com/example/invix/invix/sort/KeyBuffer", "add", "(Ljava/lang/String;)I"⟩ : MethodName) (head1 (Jvm.Cond.code (⟨"com/example/invix/invix/sort/KeyBuffer", "add", "(Ljava/lang/String;)I"⟩ : MethodName) prog_79_method_2_code 4 (some .int) :: ws) ({ frames := 3, cells := 1, slots := 2100, locals := 49 } : Room)) (fun aa_ U => aa_ = #[(.ref ko), (.ref a)] ∧ Z.Warmed39 U.vm ∧ U.heap = h0) (fun _ _ _ _ _ => True) (fun _ U o_ U' => RetG U (Q_kadd_0 Z ko ch en kc ke cap vc ve ex1 ex2 a b kb nn bs cz fz h0 n0) 1 2100 U' o_) := by
  refine MetFree.of_bodySF (plainFor_of_name own_pn4) hisR ?_
  intro p e s m args below meth c_ s₁ Bd hml0 hP hK
  obtain ⟨rfl, hZ, hh⟩ := hP
  have hx := Bd.exec
  have hby := Bd.bytes
  have hml : c_.maxLocals = 4 := hml0
  have hown : s.vm.findClass "com/example/invix/invix/sort/KeyBuffer" = some m.cls := findClass_of_methodNamed Bd.named
  have hnm := (name_of_methodNamed Bd.named Bd.method).1
  have X0 : Stand p l e ({ frames := 3, cells := 1, slots := 2100, locals := 49 } : Room) s m #[(.ref ko), (.ref a)] below meth c_ s₁ [] 0 0 := Stand.of_body Bd
  have e0 : s₁.heap = h0 := by rw [← hh, Bd.state]; rfl
  have N0 := Fr.nil n0
  have w1_ := hw _ (List.mem_of_getElem? (i := 1) rfl)
  have w48_ := hw _ (List.mem_of_getElem? (i := 48) rfl)
  have w49_ := hw _ (List.mem_of_getElem? (i := 49) rfl)
  have w59_ := hw _ (List.mem_of_getElem? (i := 59) rfl)
  have w60_ := hw _ (List.mem_of_getElem? (i := 60) rfl)
  have w62_ := hw _ (List.mem_of_getElem? (i := 62) rfl)
  have w63_ := hw _ (List.mem_of_getElem? (i := 63) rfl)
  have w64_ := hw _ (List.mem_of_getElem? (i := 64) rfl)
  have w65_ := hw _ (List.mem_of_getElem? (i := 65) rfl)
  have w82_ := hw _ (List.mem_of_getElem? (i := 82) rfl)
  have w83_ := hw _ (List.mem_of_getElem? (i := 83) rfl)
  have w84_ := hw _ (List.mem_of_getElem? (i := 84) rfl)
  have w85_ := hw _ (List.mem_of_getElem? (i := 85) rfl)
  have w86_ := hw _ (List.mem_of_getElem? (i := 86) rfl)
  have w87_ := hw _ (List.mem_of_getElem? (i := 87) rfl)
  have w88_ := hw _ (List.mem_of_getElem? (i := 88) rfl)
  have w89_ := hw _ (List.mem_of_getElem? (i := 89) rfl)
  have w90_ := hw _ (List.mem_of_getElem? (i := 90) rfl)
  have w96_ := hw _ (List.mem_of_getElem? (i := 96) rfl)
  have w97_ := hw _ (List.mem_of_getElem? (i := 97) rfl)
  have w98_ := hw _ (List.mem_of_getElem? (i := 98) rfl)
  have w99_ := hw _ (List.mem_of_getElem? (i := 99) rfl)
  have w100_ := hw _ (List.mem_of_getElem? (i := 100) rfl)
  have w127_ := hw _ (List.mem_of_getElem? (i := 127) rfl)
  have w128_ := hw _ (List.mem_of_getElem? (i := 128) rfl)
  have w129_ := hw _ (List.mem_of_getElem? (i := 129) rfl)
  have w130_ := hw _ (List.mem_of_getElem? (i := 130) rfl)
  have w131_ := hw _ (List.mem_of_getElem? (i := 131) rfl)
  have w132_ := hw _ (List.mem_of_getElem? (i := 132) rfl)
  have w133_ := hw _ (List.mem_of_getElem? (i := 133) rfl)
  have w134_ := hw _ (List.mem_of_getElem? (i := 134) rfl)
  have s1 := own_add p3 p5 (by omega) (by omega)
  rw [he2] at s1
  show Go p e below (RetG s (Q_kadd_0 Z ko ch en kc ke cap vc ve ex1 ex2 a b kb nn bs cz fz h0 n0) 1 2100) (s₁.setTop (entryFrame m #[(.ref ko), (.ref a)] 4))
  rw [show entryFrame m #[(.ref ko), (.ref a)] 4 = mkF m 0 #[.val (.ref ko), .val (.ref a), .unset, .unset] [] from by first | (simp [entryFrame, mkF, argsToLocals, Value.category]; done) | rfl]
  refine g_aloadN X0 hx hby d15_0 rfl rfl ?_
  refine g_aloadN X0 hx hby d15_1 rfl rfl ?_
  refine g_getF X0 hx hby hZ hown (host := "") (Or.inl w64_) Via.refl e0 F3 d15_2 (fun T1 X1 e1 => ?_)
  refine g_private X1 hx hby hZ hown (rm_start_0 l Z a0 hw [] ko h0 n0 Z0 ) w82_ w83_ w48_ w84_ w49_ w85_ (by decide) e1 KE (by rw [hml]; rfl) [(.int (0 : Int32))] (lenOf own_pd21 rfl) rfl rfl (Nat.le_of_ble_eq_true rfl) (Nat.le_of_ble_eq_true rfl) (Nat.le_of_ble_eq_true rfl) (Nat.le_of_ble_eq_true rfl) d15_5 (fun v2 T2 L2 X2 hQ2 => ?_)
  obtain ⟨rfl, N2q, eh2⟩ := hQ2
  have N2 := Fr.app N0 N2q
  refine g_topI (T := T2) ex1 hv.symm ?_
  refine g_istoreN X2 hx hby d15_8 (l' := #[.val (.ref ko), .val (.ref a), .val (.int ex1), .unset]) rfl ?_
  refine g_iloadN X2 hx hby d15_9 rfl ?_
  refine g_aloadN X2 hx hby d15_10 rfl rfl ?_
  refine g_virtual X2 hx hby hZ hown (rm_lenN l Z a0 hw [] a b kb nn bs cz h0 n0 Z0 O2 P5 OLD E C VF VB) w86_ w87_ (notFace_of_selects (args := #[]) (mvT hZ w89_)) w89_ w88_ w1_ w90_ (by decide) eh2 E (by rw [hml]; rfl) [] (lenOf own_pd16 rfl) rfl rfl (Nat.le_of_ble_eq_true rfl) (Nat.le_of_ble_eq_true rfl) (Nat.le_of_ble_eq_true rfl) (Nat.le_of_ble_eq_true rfl) d15_11 (fun v3 T3 L3 X3 hQ3 => ?_)
  obtain ⟨rfl, N3q, eh3⟩ := hQ3
  have N3 := Fr.app N2 N3q
  refine g_iadd X3 hx hby d15_14 ?_
  refine g_topI ex2 he2 ?_
  refine g_istoreN X3 hx hby d15_15 (l' := #[.val (.ref ko), .val (.ref a), .val (.int ex1), .val (.int ex2)]) rfl ?_
  refine g_iloadN X3 hx hby d15_16 rfl ?_
  refine g_aloadN X3 hx hby d15_17 rfl rfl ?_
  refine g_getF X3 hx hby hZ hown (host := "") (Or.inl w59_) Via.refl eh3 F1 d15_18 (fun T4 X4 e4 => ?_)
  refine g_arraylength X4 hx hby hZ e4 VCh d15_21 ?_
  by_cases hc22_5 : cap < ex2
  · skip
    refine g_icN X4 hx hby d15_22 (tlt hc22_5).2.2.2 ?_
    refine g_at 25 rfl rfl rfl ?_
    refine g_aloadN X4 hx hby d15_25 rfl rfl ?_
    refine g_aloadN X4 hx hby d15_26 rfl rfl ?_
    refine g_getF X4 hx hby hZ hown (host := "") (Or.inl w59_) Via.refl e4 F1 d15_27 (fun T6 X6 e6 => ?_)
    refine g_iconst X6 hx hby (2 : Int32) d15_30 rfl ?_
    refine g_aloadN X6 hx hby d15_31 rfl rfl ?_
    refine g_getF X6 hx hby hZ hown (host := "") (Or.inl w59_) Via.refl e6 F1 d15_32 (fun T7 X7 e7 => ?_)
    refine g_arraylength X7 hx hby hZ e7 VCh d15_35 ?_
    refine g_imul X7 hx hby d15_36 ?_
    refine g_iloadN X7 hx hby d15_37 rfl ?_
    refine g_static X7 hx hby hZ hown (rm_mmax l Z a0 hw [] ((2 : Int32) * cap) ex2 h0 n0 Z0 ) w127_ w128_ w129_ w130_ (by decide) e7 (by rw [hml]; rfl) [(.int ((2 : Int32) * cap)), (.int ex2)] (lenOf own_pd0 rfl) rfl rfl (Nat.le_of_ble_eq_true rfl) (Nat.le_of_ble_eq_true rfl) (Nat.le_of_ble_eq_true rfl) (Nat.le_of_ble_eq_true rfl) d15_38 (fun v8 T8 L8 X8 hQ8 => ?_)
    obtain ⟨rfl, N8q, eh8⟩ := hQ8
    have N8 := Fr.app N3 N8q
    have q1 := own_nl (B := 2100) (by omega) (by omega) hc22_5 (by omega) (by omega)
    refine g_static X8 hx hby hZ hown (rm_copyof_2100 l Z a0 hw [] ch kc cap vc (own_max ((2 : Int32) * cap) ex2) h0 n0 Z0 VCh (by omega) q1.1 q1.2.1) w131_ w132_ w133_ w134_ (by decide) eh8 (by rw [hml]; rfl) [(.ref ch), (.int (own_max ((2 : Int32) * cap) ex2))] (lenOf own_pd22 rfl) rfl rfl (Nat.le_of_ble_eq_true rfl) (Nat.le_of_ble_eq_true rfl) (Nat.le_of_ble_eq_true rfl) (Nat.le_of_ble_eq_true rfl) d15_41 (fun v9 T9 L9 X9 hQ9 => ?_)
    obtain ⟨N9q, K9, d9, kd9, vd9, rfl, ld9, Vd9, hl9⟩ := hQ9
    have N9 := Fr.app N8 N9q
    have f10 := (KE.keep K9)
    have f11 := (F1.keep K9 nin0)
    refine g_putF X9 hx hby hZ hown (host := "") (Or.inl w59_) Via.refl rfl f11 f10 (Or.inl w60_) w48_ (.array .char) (by decide) rfl rfl N9 gk d15_44 (fun T12 h12 X12 e12 W12 F12 N12 => ?_)
    refine g_aloadN X12 hx hby d15_47 rfl rfl ?_
    refine g_iconst X12 hx hby (0 : Int32) d15_48 rfl ?_
    refine g_aloadN X12 hx hby d15_49 rfl rfl ?_
    have f14 := ((OLD.keep K9 all0).wr W12 gk)
    have f15 := ((E.keep K9).wr W12)
    have ne16 : a ≠ ko := (Exa.ne E KE (by decide))
    have f17 := ((C.keep K9 nin0).other W12 (Or.inl ne16))
    have f18 := ((VF.keep K9 nin0).other W12 (Or.inl ne16))
    have ne19 : b ≠ ko := (Ne.symm (Exa.neArv KE VB w48_))
    have f20 := ((VB.keep K9 nin0).other W12 ne19)
    have z21 := (Nat.le_trans Z0 (Nat.le_trans K9.1 (Keep.of_wr W12).1))
    refine g_virtual X12 hx hby hZ hown (rm_lenN l Z a0 hw [] a b kb nn bs cz h12 n0 z21 O2 P5 f14 f15 f17 f18 f20) w86_ w87_ (notFace_of_selects (args := #[]) (mvT hZ w89_)) w89_ w88_ w1_ w90_ (by decide) e12 f15 (by rw [hml]; rfl) [] (lenOf own_pd16 rfl) rfl rfl (Nat.le_of_ble_eq_true rfl) (Nat.le_of_ble_eq_true rfl) (Nat.le_of_ble_eq_true rfl) (Nat.le_of_ble_eq_true rfl) d15_50 (fun v13 T13 L13 X13 hQ13 => ?_)
    obtain ⟨rfl, N13q, eh13⟩ := hQ13
    have N13 := Fr.app N12 N13q
    refine g_at 53 rfl rfl rfl ?_
    refine g_aloadN X13 hx hby d15_53 rfl rfl ?_
    refine g_getF X13 hx hby hZ hown (host := "") (Or.inl w59_) Via.refl eh13 F12 d15_54 (fun T22 X22 e22 => ?_)
    refine g_iloadN X22 hx hby d15_57 rfl ?_
    have ne24 : d9 ≠ ko := (Ne.symm (Nat.ne_of_lt (Nat.lt_of_lt_of_le KE.lt ld9)))
    have f25 := (Vd9.other W12 ne24)
    have g_d9 : n0 ≤ d9 := Nat.le_trans Z0 ld9
    have ne26 : b ≠ d9 := (Nat.ne_of_lt (Nat.lt_of_lt_of_le VB.lt ld9))
    refine g_virtual X22 hx hby hZ hown (rm_getc l Z a0 hw [] a b kb nn bs d9 kd9 (own_max ((2 : Int32) * cap) ex2) vd9 ex1 cz fz h12 n0 z21 O2 P5 f14 rfz O4 f15 f17 f18 f20 f25 hl9 p3 p5 (by omega) g_d9 ne26) w96_ w97_ (notFace_of_selects (args := #[]) (mvT hZ w99_)) w99_ w98_ w1_ w100_ (by decide) e22 f15 (by rw [hml]; rfl) [(.int (0 : Int32)), (.int nn), (.ref d9), (.int ex1)] (lenOf own_pd23 rfl) rfl rfl (Nat.le_of_ble_eq_true rfl) (Nat.le_of_ble_eq_true rfl) (Nat.le_of_ble_eq_true rfl) (Nat.le_of_ble_eq_true rfl) d15_58 (fun v23 T23 L23 X23 hQ23 => ?_)
    obtain ⟨rfl, N23q, K23, vc23, Vc23, hl23⟩ := hQ23
    have N23 := Fr.app N13 N23q
    refine g_aloadN X23 hx hby d15_61 rfl rfl ?_
    have f27 := (((F3.keep K9 nin0).other W12 (Or.inr (slot_ne (Or.inl w65_) (Or.inl w60_) (by decide) (t := .int) (t' := (.array .char)) (by decide) (by decide)))).keep K23 (ninS (Ne.symm ne24) nin0))
    refine g_getF X23 hx hby hZ hown (host := "") (Or.inl w64_) Via.refl rfl f27 d15_62 (fun T28 X28 e28 => ?_)
    refine g_aloadN X28 hx hby d15_65 rfl rfl ?_
    have f29 := (((F2.keep K9 nin0).other W12 (Or.inr (slot_ne (Or.inl w63_) (Or.inl w60_) (by decide) (t := (.array .int)) (t' := (.array .char)) (by decide) (by decide)))).keep K23 (ninS (Ne.symm ne24) nin0))
    refine g_getF X28 hx hby hZ hown (host := "") (Or.inl w62_) Via.refl e28 f29 d15_66 (fun T30 X30 e30 => ?_)
    have ne31 : en ≠ ko := (Ne.symm (Exa.neArv KE VE w48_))
    have ne32 : en ≠ d9 := (Nat.ne_of_lt (Nat.lt_of_lt_of_le VE.lt ld9))
    have f33 := (((VE.keep K9 nin0).other W12 ne31).keep K23 (ninS ne32 nin0))
    refine g_arraylength X30 hx hby hZ e30 f33 d15_69 ?_
    refine g_icY X30 hx hby 90 d15_70 (feq (by decide : ¬ ((0 : Int32) = (128 : Int32)))).2 (by decide) (by decide) ?_
    refine g_aloadN X30 hx hby d15_90 rfl rfl ?_
    refine g_getF X30 hx hby hZ hown (host := "") (Or.inl w62_) Via.refl e30 f29 d15_91 (fun T34 X34 e34 => ?_)
    refine g_aloadN X34 hx hby d15_94 rfl rfl ?_
    refine g_getF X34 hx hby hZ hown (host := "") (Or.inl w64_) Via.refl e34 f27 d15_95 (fun T35 X35 e35 => ?_)
    refine g_iloadN X35 hx hby d15_98 rfl ?_
    refine g_iastore X35 hx hby hZ e35 f33 0 (ve.set 0 (.int ex2)) rfl ⟨by decide, by decide⟩ rfl (Nat.lt_of_lt_of_le (by decide) hve) N23 gen d15_99 (fun T36 h36 X36 e36 W36 V36 N36 => ?_)
    refine g_aloadN X36 hx hby d15_100 rfl rfl ?_
    refine g_dup X36 hx hby d15_101 rfl ?_
    have f37 := (f27.other W36 (Or.inl (Ne.symm ne31)))
    refine g_getF X36 hx hby hZ hown (host := "") (Or.inl w64_) Via.refl e36 f37 d15_102 (fun T38 X38 e38 => ?_)
    refine g_dup_x1 X38 hx hby d15_105 rfl rfl ?_
    refine g_iconst X38 hx hby (1 : Int32) d15_106 rfl ?_
    refine g_iadd X38 hx hby d15_107 ?_
    refine g_topI (1 : Int32) (by decide) ?_
    have f39 := (((f10.wr W12).keep K23).wr W36)
    refine g_putF X38 hx hby hZ hown (host := "") (Or.inl w64_) Via.refl e38 f37 f39 (Or.inl w65_) w48_ .int (by decide) rfl rfl N36 gk d15_108 (fun T40 h40 X40 e40 W40 F40 N40 => ?_)
    have f41 := (f39.wr W40)
    have f42 := (((F12.keep K23 (ninS (Ne.symm ne24) nin0)).other W36 (Or.inl (Ne.symm ne31))).other W40 (Or.inr (slot_ne (Or.inl w60_) (Or.inl w65_) (by decide) (t := (.array .char)) (t' := .int) (by decide) (by decide))))
    have f43 := ((f29.other W36 (Or.inl (Ne.symm ne31))).other W40 (Or.inr (slot_ne (Or.inl w63_) (Or.inl w65_) (by decide) (t := (.array .int)) (t' := .int) (by decide) (by decide))))
    have f44 := ((Vc23.other W36 (Ne.symm ne32)).other W40 ne24)
    have f45 := (V36.other W40 ne31)
    refine g_iret X40 hx hby Bd.returns Bd.notSynchronized d15_111 e40 (by decide) (by decide) ?_
    show (Q_kadd_0 Z ko ch en kc ke cap vc ve ex1 ex2 a b kb nn bs cz fz h0 n0) (some (.int (0 : Int32))) _ _
    exact ⟨rfl, N40, ((((((Keep.refl h0 [ko, ch, en]).trans K9 all0).wr W12 (Or.inl (List.mem_of_getElem? (i := 0) rfl))).trans K23 (allS (Or.inr (Nat.le_trans (Nat.le_refl _) ld9)) all0)).wr W36 (Or.inl (List.mem_of_getElem? (i := 2) rfl))).wr W40 (Or.inl (List.mem_of_getElem? (i := 0) rfl))), d9, kd9, _, _, Or.inr (Nat.le_trans (Nat.le_refl _) ld9), f41, f42, f43, F40, (by rw [own_grow, if_pos hc22_5]; exact f44), (by rw [own_grow, if_pos hc22_5]; exact hl23), f45, (by rw [List.length_set]; exact hve), own_setD (Nat.lt_of_lt_of_le (by decide) hve)⟩
  · skip
    refine g_icY X4 hx hby 47 d15_22 (flt hc22_5).2.2.2 (by decide) (by decide) ?_
    refine g_aloadN X4 hx hby d15_47 rfl rfl ?_
    refine g_iconst X4 hx hby (0 : Int32) d15_48 rfl ?_
    refine g_aloadN X4 hx hby d15_49 rfl rfl ?_
    refine g_virtual X4 hx hby hZ hown (rm_lenN l Z a0 hw [] a b kb nn bs cz h0 n0 Z0 O2 P5 OLD E C VF VB) w86_ w87_ (notFace_of_selects (args := #[]) (mvT hZ w89_)) w89_ w88_ w1_ w90_ (by decide) e4 E (by rw [hml]; rfl) [] (lenOf own_pd16 rfl) rfl rfl (Nat.le_of_ble_eq_true rfl) (Nat.le_of_ble_eq_true rfl) (Nat.le_of_ble_eq_true rfl) (Nat.le_of_ble_eq_true rfl) d15_50 (fun v46 T46 L46 X46 hQ46 => ?_)
    obtain ⟨rfl, N46q, eh46⟩ := hQ46
    have N46 := Fr.app N3 N46q
    refine g_aloadN X46 hx hby d15_53 rfl rfl ?_
    refine g_getF X46 hx hby hZ hown (host := "") (Or.inl w59_) Via.refl eh46 F1 d15_54 (fun T47 X47 e47 => ?_)
    refine g_iloadN X47 hx hby d15_57 rfl ?_
    refine g_virtual X47 hx hby hZ hown (rm_getc l Z a0 hw [] a b kb nn bs ch kc cap vc ex1 cz fz h0 n0 Z0 O2 P5 OLD rfz O4 E C VF VB VCh hl p3 p5 (by have q := hc22_5; rw [Int32.lt_iff_toInt_lt] at q; omega) gch nbc) w96_ w97_ (notFace_of_selects (args := #[]) (mvT hZ w99_)) w99_ w98_ w1_ w100_ (by decide) e47 E (by rw [hml]; rfl) [(.int (0 : Int32)), (.int nn), (.ref ch), (.int ex1)] (lenOf own_pd23 rfl) rfl rfl (Nat.le_of_ble_eq_true rfl) (Nat.le_of_ble_eq_true rfl) (Nat.le_of_ble_eq_true rfl) (Nat.le_of_ble_eq_true rfl) d15_58 (fun v48 T48 L48 X48 hQ48 => ?_)
    obtain ⟨rfl, N48q, K48, vc48, Vc48, hl48⟩ := hQ48
    have N48 := Fr.app N46 N48q
    refine g_aloadN X48 hx hby d15_61 rfl rfl ?_
    have ne49 : ko ≠ ch := (Exa.neArv (KE.keep K48) Vc48 w48_)
    have f50 := (F3.keep K48 (ninS ne49 nin0))
    refine g_getF X48 hx hby hZ hown (host := "") (Or.inl w64_) Via.refl rfl f50 d15_62 (fun T51 X51 e51 => ?_)
    refine g_aloadN X51 hx hby d15_65 rfl rfl ?_
    have f52 := (F2.keep K48 (ninS ne49 nin0))
    refine g_getF X51 hx hby hZ hown (host := "") (Or.inl w62_) Via.refl e51 f52 d15_66 (fun T53 X53 e53 => ?_)
    have f54 := (VE.keep K48 (ninS (Ne.symm nce) nin0))
    refine g_arraylength X53 hx hby hZ e53 f54 d15_69 ?_
    refine g_icY X53 hx hby 90 d15_70 (feq (by decide : ¬ ((0 : Int32) = (128 : Int32)))).2 (by decide) (by decide) ?_
    refine g_aloadN X53 hx hby d15_90 rfl rfl ?_
    refine g_getF X53 hx hby hZ hown (host := "") (Or.inl w62_) Via.refl e53 f52 d15_91 (fun T55 X55 e55 => ?_)
    refine g_aloadN X55 hx hby d15_94 rfl rfl ?_
    refine g_getF X55 hx hby hZ hown (host := "") (Or.inl w64_) Via.refl e55 f50 d15_95 (fun T56 X56 e56 => ?_)
    refine g_iloadN X56 hx hby d15_98 rfl ?_
    refine g_iastore X56 hx hby hZ e56 f54 0 (ve.set 0 (.int ex2)) rfl ⟨by decide, by decide⟩ rfl (Nat.lt_of_lt_of_le (by decide) hve) N48 gen d15_99 (fun T57 h57 X57 e57 W57 V57 N57 => ?_)
    refine g_aloadN X57 hx hby d15_100 rfl rfl ?_
    refine g_dup X57 hx hby d15_101 rfl ?_
    have ne58 : ko ≠ en := (Exa.neArv ((KE.keep K48).wr W57) V57 w48_)
    have f59 := (f50.other W57 (Or.inl ne58))
    refine g_getF X57 hx hby hZ hown (host := "") (Or.inl w64_) Via.refl e57 f59 d15_102 (fun T60 X60 e60 => ?_)
    refine g_dup_x1 X60 hx hby d15_105 rfl rfl ?_
    refine g_iconst X60 hx hby (1 : Int32) d15_106 rfl ?_
    refine g_iadd X60 hx hby d15_107 ?_
    refine g_topI (1 : Int32) (by decide) ?_
    have f61 := ((KE.keep K48).wr W57)
    refine g_putF X60 hx hby hZ hown (host := "") (Or.inl w64_) Via.refl e60 f59 f61 (Or.inl w65_) w48_ .int (by decide) rfl rfl N57 gk d15_108 (fun T62 h62 X62 e62 W62 F62 N62 => ?_)
    have f63 := (f61.wr W62)
    have f64 := (((F1.keep K48 (ninS ne49 nin0)).other W57 (Or.inl ne58)).other W62 (Or.inr (slot_ne (Or.inl w60_) (Or.inl w65_) (by decide) (t := (.array .char)) (t' := .int) (by decide) (by decide))))
    have f65 := ((f52.other W57 (Or.inl ne58)).other W62 (Or.inr (slot_ne (Or.inl w63_) (Or.inl w65_) (by decide) (t := (.array .int)) (t' := .int) (by decide) (by decide))))
    have f66 := ((Vc48.other W57 nce).other W62 (Ne.symm ne49))
    have f67 := (V57.other W62 (Ne.symm ne58))
    refine g_iret X62 hx hby Bd.returns Bd.notSynchronized d15_111 e62 (by decide) (by decide) ?_
    show (Q_kadd_0 Z ko ch en kc ke cap vc ve ex1 ex2 a b kb nn bs cz fz h0 n0) (some (.int (0 : Int32))) _ _
    exact ⟨rfl, N62, ((((Keep.refl h0 [ko, ch, en]).trans K48 (allS (Or.inl (List.mem_of_getElem? (i := 1) rfl)) all0)).wr W57 (Or.inl (List.mem_of_getElem? (i := 2) rfl))).wr W62 (Or.inl (List.mem_of_getElem? (i := 0) rfl))), ch, kc, _, _, Or.inl rfl, f63, f64, f65, F62, (by rw [own_grow, if_neg hc22_5]; exact f66), (by rw [own_grow, if_neg hc22_5]; exact hl48), f67, (by rw [List.length_set]; exact hve), own_setD (Nat.lt_of_lt_of_le (by decide) hve)⟩

theorem own_pd24 : parseMethodDescriptor "(Ljava/lang/String;)I" = some ⟨[(.object "java/lang/String")], some .int⟩ := by decide +kernel
theorem d16_8 : decode prog_79_method_12_code 8 = .ok (.aload_n 0, 1) := by decide +kernel
theorem d16_9 : decode prog_79_method_12_code 9 = .ok (.getfield 46, 3) := by decide +kernel
theorem d16_12 : decode prog_79_method_12_code 12 = .ok (.iload_n 1, 1) := by decide +kernel
theorem d16_13 : decode prog_79_method_12_code 13 = .ok (.iconst 1, 1) := by decide +kernel
theorem d16_14 : decode prog_79_method_12_code 14 = .ok (.isub, 1) := by decide +kernel
theorem d16_15 : decode prog_79_method_12_code 15 = .ok (.iaload, 1) := by decide +kernel
def Q_start_1 (Z : State) (ko : Addr) (en : Addr) (ke : ClassId) (ve : List Value) (ex1 : Int32) (h0 : Heap) (n0 : Nat) (v : Option Value) (h : Heap) (L : List Loc) : Prop := v = some (.int ex1) ∧ Fr n0 L ∧ h = h0
set_option maxRecDepth 65536 in
set_option maxHeartbeats 40000000 in
theorem rm_start_1 (l : Launch) (Z : State) (a0 : Array Value) (hw : ∀ d ∈ tables_1, d.before a0 Z = true) (ws : List Jvm.Cond) (ko : Addr) (en : Addr) (ke : ClassId) (ve : List Value) (ex1 : Int32) (h0 : Heap) (n0 : Nat) (Z0 : n0 ≤ h0.size) (F2 : Fld Z h0 ko "com/example/invix/invix/sort/KeyBuffer" "ends" "[I" (.ref en)) (VE : Arv Z h0 en ke .int (128 : Int32) ve (.int (0 : Int32))) (hv : ve.getD 0 (.int (0 : Int32)) = .int ex1) :
    MetFree l (⟨"com/example/invix/invix/sort/KeyBuffer", "start", "(I)I"⟩ : MethodName) (head1 (Jvm.Cond.code (⟨"com/example/invix/invix/sort/KeyBuffer", "start", "(I)I"⟩ : MethodName) prog_79_method_12_code 2 (some .int) :: ws) ({ frames := 0, cells := 0, slots := 0, locals := 0 } : Room)) (fun aa_ U => aa_ = #[(.ref ko), (.int (1 : Int32))] ∧ Z.Warmed39 U.vm ∧ U.heap = h0) (fun _ _ _ _ _ => True) (fun _ U o_ U' => RetG U (Q_start_1 Z ko en ke ve ex1 h0 n0) 0 0 U' o_) := by
  refine MetFree.of_bodySF (plainFor_of_name own_pn4) hisR ?_
  intro p e s m args below meth c_ s₁ Bd hml0 hP hK
  obtain ⟨rfl, hZ, hh⟩ := hP
  have hx := Bd.exec
  have hby := Bd.bytes
  have hml : c_.maxLocals = 2 := hml0
  have hown : s.vm.findClass "com/example/invix/invix/sort/KeyBuffer" = some m.cls := findClass_of_methodNamed Bd.named
  have hnm := (name_of_methodNamed Bd.named Bd.method).1
  have X0 : Stand p l e ({ frames := 0, cells := 0, slots := 0, locals := 0 } : Room) s m #[(.ref ko), (.int (1 : Int32))] below meth c_ s₁ [] 0 0 := Stand.of_body Bd
  have e0 : s₁.heap = h0 := by rw [← hh, Bd.state]; rfl
  have N0 := Fr.nil n0
  have w62_ := hw _ (List.mem_of_getElem? (i := 62) rfl)
  show Go p e below (RetG s (Q_start_1 Z ko en ke ve ex1 h0 n0) 0 0) (s₁.setTop (entryFrame m #[(.ref ko), (.int (1 : Int32))] 2))
  rw [show entryFrame m #[(.ref ko), (.int (1 : Int32))] 2 = mkF m 0 #[.val (.ref ko), .val (.int (1 : Int32))] [] from by first | (simp [entryFrame, mkF, argsToLocals, Value.category]; done) | rfl]
  refine g_iloadN X0 hx hby d16_0 rfl ?_
  refine g_ifY X0 hx hby 8 d16_1 (feq (by decide : ¬ ((1 : Int32) = (0 : Int32)))).2 (by decide) (by decide) ?_
  refine g_aloadN X0 hx hby d16_8 rfl rfl ?_
  refine g_getF X0 hx hby hZ hown (host := "") (Or.inl w62_) Via.refl e0 F2 d16_9 (fun T1 X1 e1 => ?_)
  refine g_iloadN X1 hx hby d16_12 rfl ?_
  refine g_iconst X1 hx hby (1 : Int32) d16_13 rfl ?_
  refine g_isub X1 hx hby d16_14 ?_
  refine g_topI (0 : Int32) (by decide) ?_
  refine g_iaload X1 hx hby hZ e1 VE (.int ex1) ⟨by decide, by decide⟩ (by exact hv) d16_15 ?_
  refine g_iret X1 hx hby Bd.returns Bd.notSynchronized d16_16 e1 (by decide) (by decide) ?_
  show (Q_start_1 Z ko en ke ve ex1 h0 n0) (some (.int ex1)) _ _
  exact ⟨rfl, N0, rfl⟩

def Q_copyof_4200 (Z : State) (ch : Addr) (kc : ClassId) (cap : Int32) (vc : List Value) (nl : Int32) (h0 : Heap) (n0 : Nat) (v : Option Value) (h : Heap) (L : List Loc) : Prop := Fr n0 L ∧ Keep h0 h [] ∧ ∃ (d : Addr) (kd : ClassId) (vd : List Value), v = some (.ref d) ∧ h0.size ≤ d ∧ Arv Z h d kd .char nl vd (.int (0 : Int32)) ∧ nl.toNatClampNeg ≤ vd.length
set_option maxRecDepth 65536 in
set_option maxHeartbeats 40000000 in
theorem rm_copyof_4200 (l : Launch) (Z : State) (a0 : Array Value) (hw : ∀ d ∈ tables_1, d.before a0 Z = true) (ws : List Jvm.Cond) (ch : Addr) (kc : ClassId) (cap : Int32) (vc : List Value) (nl : Int32) (h0 : Heap) (n0 : Nat) (Z0 : n0 ≤ h0.size) (VC : Arv Z h0 ch kc .char cap vc (.int (0 : Int32))) (hp1 : 0 ≤ cap.toInt) (hp2 : cap.toInt < nl.toInt) (hp3 : nl.toInt ≤ 4200) :
    MetFree l (⟨"java/util/Arrays", "copyOf", "([CI)[C"⟩ : MethodName) (head1 (Jvm.Cond.code (⟨"java/util/Arrays", "copyOf", "([CI)[C"⟩ : MethodName) jdk_65_method_125_code 3 (some (.array .char)) :: ws) ({ frames := 1, cells := 1, slots := 4200, locals := 18 } : Room)) (fun aa_ U => aa_ = #[(.ref ch), (.int nl)] ∧ Z.Warmed39 U.vm ∧ U.heap = h0) (fun _ _ _ _ _ => True) (fun _ U o_ U' => RetG U (Q_copyof_4200 Z ch kc cap vc nl h0 n0) 1 4200 U' o_) := by
  refine MetFree.of_bodySF (plainFor_of_name own_pn5) hisR ?_
  intro p e s m args below meth c_ s₁ Bd hml0 hP hK
  obtain ⟨rfl, hZ, hh⟩ := hP
  have hx := Bd.exec
  have hby := Bd.bytes
  have hml : c_.maxLocals = 3 := hml0
  have hown : s.vm.findClass "java/util/Arrays" = some m.cls := findClass_of_methodNamed Bd.named
  have hnm := (name_of_methodNamed Bd.named Bd.method).1
  have X0 : Stand p l e ({ frames := 1, cells := 1, slots := 4200, locals := 18 } : Room) s m #[(.ref ch), (.int nl)] below meth c_ s₁ [] 0 0 := Stand.of_body Bd
  have e0 : s₁.heap = h0 := by rw [← hh, Bd.state]; rfl
  have N0 := Fr.nil n0
  have w30_ := hw _ (List.mem_of_getElem? (i := 30) rfl)
  have w129_ := hw _ (List.mem_of_getElem? (i := 129) rfl)
  have w135_ := hw _ (List.mem_of_getElem? (i := 135) rfl)
  have w136_ := hw _ (List.mem_of_getElem? (i := 136) rfl)
  have w137_ := hw _ (List.mem_of_getElem? (i := 137) rfl)
  have w138_ := hw _ (List.mem_of_getElem? (i := 138) rfl)
  have w139_ := hw _ (List.mem_of_getElem? (i := 139) rfl)
  have w140_ := hw _ (List.mem_of_getElem? (i := 140) rfl)
  have w141_ := hw _ (List.mem_of_getElem? (i := 141) rfl)
  have b1 := own_tc hp1
  have b2 := own_tc (Int.le_trans hp1 (Int.le_of_lt hp2))
  have nl0 : ¬ nl < 0 := own_nn (by omega)
  show Go p e below (RetG s (Q_copyof_4200 Z ch kc cap vc nl h0 n0) 1 4200) (s₁.setTop (entryFrame m #[(.ref ch), (.int nl)] 3))
  rw [show entryFrame m #[(.ref ch), (.int nl)] 3 = mkF m 0 #[.val (.ref ch), .val (.int nl), .unset] [] from by first | (simp [entryFrame, mkF, argsToLocals, Value.category]; done) | rfl]
  refine g_iloadN X0 hx hby d28_0 rfl ?_
  refine g_aloadN X0 hx hby d28_1 rfl rfl ?_
  refine g_arraylength X0 hx hby hZ e0 VC d28_2 ?_
  refine g_icY X0 hx hby 14 d28_3 (feq ((fun q => by rw [q] at hp2; omega) : ¬ (nl = cap))).2 (by decide) (by decide) ?_
  refine g_iloadN X0 hx hby d28_14 rfl ?_
  refine g_newarray X0 hx hby hZ .char .char (.int (0 : Int32)) (List.replicate 4200 (.int (0 : Int32))) rfl rfl w30_ e0 nl0 4200 rfl (by omega) (by decide) (by decide) (by decide) d28_15 (fun T1 h1 k1 b1 g1 X1 e1 E1 V1 => ?_)
  refine g_astoreN X1 hx hby d28_17 rfl (l' := #[.val (.ref ch), .val (.int nl), .val (.ref b1)]) rfl ?_
  refine g_aloadN X1 hx hby d28_18 rfl rfl ?_
  refine g_iconst X1 hx hby (0 : Int32) d28_19 rfl ?_
  refine g_aloadN X1 hx hby d28_20 rfl rfl ?_
  refine g_iconst X1 hx hby (0 : Int32) d28_21 rfl ?_
  refine g_aloadN X1 hx hby d28_22 rfl rfl ?_
  have f2 := (VC.ext E1)
  refine g_arraylength X1 hx hby hZ e1 f2 d28_23 ?_
  refine g_iloadN X1 hx hby d28_24 rfl ?_
  have z4 := (Nat.le_trans Z0 E1.1)
  refine g_static X1 hx hby hZ hown (rm_mmin l Z a0 hw [] cap nl h1 n0 z4 (own_le (by omega))) w135_ w136_ w129_ w137_ (by decide) e1 (by rw [hml]; rfl) [(.int cap), (.int nl)] (lenOf own_pd0 rfl) rfl rfl (Nat.le_of_ble_eq_true rfl) (Nat.le_of_ble_eq_true rfl) (Nat.le_of_ble_eq_true rfl) (Nat.le_of_ble_eq_true rfl) d28_25 (fun v3 T3 L3 X3 hQ3 => ?_)
  obtain ⟨rfl, N3q, eh3⟩ := hQ3
  have N3 := Fr.app N0 N3q
  have g_b1 : n0 ≤ b1 := Nat.le_trans Z0 (Nat.le_of_eq g1)
  refine g_arraycopy X3 hx hby hZ hown w138_ w141_ w139_ w140_ eh3 f2 V1 (Or.inl ⟨rfl, rfl⟩) (by decide) (by decide) (own_nn hp1) (by show 0 + _ ≤ _; omega) (by show 0 + _ ≤ _; omega) rfl (by rw [List.length_replicate]; show 0 + _ ≤ _; omega) N3 g_b1 (by rw [hml]; rfl) d28_28 (Nat.le_of_ble_eq_true rfl) (Nat.le_of_ble_eq_true rfl) (fun T5 h5 L5 X5 e5 N5 K5 V5 => ?_)
  refine g_aloadN X5 hx hby d28_31 rfl rfl ?_
  refine g_aret X5 hx hby (t := (.array .char)) rfl rfl rfl Bd.returns Bd.notSynchronized d28_32 e5 (by decide) (by decide) ?_
  show (Q_copyof_4200 Z ch kc cap vc nl h0 n0) (some (.ref b1)) _ _
  exact ⟨N5, (((Keep.refl h0 []).ext E1).trans K5 (allS (Or.inr (Nat.le_trans (Nat.le_refl _) (Nat.le_of_eq g1))) all0)), b1, k1, _, rfl, (Nat.le_trans (Nat.le_refl _) (Nat.le_of_eq g1)), V5, by simp only [List.length_append, List.length_take, List.length_drop, List.length_map, List.length_range, List.length_replicate]; omega⟩

def Q_kadd_1 (Z : State) (ko : Addr) (ch : Addr) (en : Addr) (kc : ClassId) (ke : ClassId) (cap : Int32) (vc : List Value) (ve : List Value) (ex1 : Int32) (ex2 : Int32) (a : Addr) (b : Addr) (kb : ClassId) (nn : Int32) (bs : List Value) (cz : Int32) (fz : Value) (h0 : Heap) (n0 : Nat) (v : Option Value) (h : Heap) (L : List Loc) : Prop := v = some (.int (1 : Int32)) ∧ Fr n0 L ∧ Keep h0 h [ko, ch, en] ∧ ∃ (ch1 : Addr) (kc1 : ClassId) (vc1 ve1 : List Value), (ch1 = ch ∨ h0.size ≤ ch1) ∧ Exa Z h ko "com/example/invix/invix/sort/KeyBuffer" ∧ Fld Z h ko "com/example/invix/invix/sort/KeyBuffer" "characters" "[C" (.ref ch1) ∧ Fld Z h ko "com/example/invix/invix/sort/KeyBuffer" "ends" "[I" (.ref en) ∧ Fld Z h ko "com/example/invix/invix/sort/KeyBuffer" "count" "I" (.int (2 : Int32)) ∧ Arv Z h ch1 kc1 .char (own_grow cap ex2) vc1 (.int (0 : Int32)) ∧ (own_grow cap ex2).toNatClampNeg ≤ vc1.length ∧ Arv Z h en ke .int (128 : Int32) ve1 (.int (0 : Int32)) ∧ 128 ≤ ve1.length ∧ ve1.getD 1 (.int (0 : Int32)) = .int ex2
set_option maxRecDepth 65536 in
set_option maxHeartbeats 40000000 in
theorem rm_kadd_1 (l : Launch) (Z : State) (a0 : Array Value) (hw : ∀ d ∈ tables_1, d.before a0 Z = true) (ws : List Jvm.Cond) (ko : Addr) (ch : Addr) (en : Addr) (kc : ClassId) (ke : ClassId) (cap : Int32) (vc : List Value) (ve : List Value) (ex1 : Int32) (ex2 : Int32) (a : Addr) (b : Addr) (kb : ClassId) (nn : Int32) (bs : List Value) (cz : Int32) (fz : Value) (h0 : Heap) (n0 : Nat) (Z0 : n0 ≤ h0.size) (O2 : Sta Z Z.heap "java/lang/String" "COMPACT_STRINGS" "Z" (.int cz)) (P5 : ¬ cz = (0 : Int32)) (OLD : Old Z n0 h0) (rfz : Rf fz) (O4 : Sta Z Z.heap "jdk/internal/util/Preconditions" "SIOOBE_FORMATTER" "Ljava/util/function/BiFunction;" fz) (KE : Exa Z h0 ko "com/example/invix/invix/sort/KeyBuffer") (F1 : Fld Z h0 ko "com/example/invix/invix/sort/KeyBuffer" "characters" "[C" (.ref ch)) (F2 : Fld Z h0 ko "com/example/invix/invix/sort/KeyBuffer" "ends" "[I" (.ref en)) (F3 : Fld Z h0 ko "com/example/invix/invix/sort/KeyBuffer" "count" "I" (.int (1 : Int32))) (VCh : Arv Z h0 ch kc .char cap vc (.int (0 : Int32))) (hl : cap.toNatClampNeg ≤ vc.length) (VE : Arv Z h0 en ke .int (128 : Int32) ve (.int (0 : Int32))) (hve : 128 ≤ ve.length) (hv : ve.getD 0 (.int (0 : Int32)) = .int ex1) (he2 : ex1 + nn = ex2) (gk : n0 ≤ ko) (gch : n0 ≤ ch) (gen : n0 ≤ en) (nce : ch ≠ en) (nbc : b ≠ ch) (p1 : 1024 ≤ cap.toInt) (p2 : cap.toInt ≤ 2100) (p3 : 0 ≤ ex1.toInt) (p4 : ex1.toInt ≤ 2100) (p5 : 0 ≤ nn.toInt) (p6 : nn.toInt ≤ 2100) (E : Exa Z h0 a "java/lang/String") (C : Fld Z h0 a "java/lang/String" "coder" "B" (.int (0 : Int32))) (VF : Fld Z h0 a "java/lang/String" "value" "[B" (.ref b)) (VB : Arv Z h0 b kb .byte nn bs (.int (0 : Int32))) :
    MetFree l (⟨"com/example/invix/invix/sort/KeyBuffer", "add", "(Ljava/lang/String;)I"⟩ : MethodName) (head1 (Jvm.Cond.code (⟨"com/example/invix/invix/sort/KeyBuffer", "add", "(Ljava/lang/String;)I"⟩ : MethodName) prog_79_method_2_code 4 (some .int) :: ws) ({ frames := 3, cells := 1, slots := 4200, locals := 49 } : Room)) (fun aa_ U => aa_ = #[(.ref ko), (.ref a)] ∧ Z.Warmed39 U.vm ∧ U.heap = h0) (fun _ _ _ _ _ => True) (fun _ U o_ U' => RetG U (Q_kadd_1 Z ko ch en kc ke cap vc ve ex1 ex2 a b kb nn bs cz fz h0 n0) 1 4200 U' o_) := by
  refine MetFree.of_bodySF (plainFor_of_name own_pn4) hisR ?_
  intro p e s m args below meth c_ s₁ Bd hml0 hP hK
  obtain ⟨rfl, hZ, hh⟩ := hP
  have hx := Bd.exec
  have hby := Bd.bytes
  have hml : c_.maxLocals = 4 := hml0
  have hown : s.vm.findClass "com/example/invix/invix/sort/KeyBuffer" = some m.cls := findClass_of_methodNamed Bd.named
  have hnm := (name_of_methodNamed Bd.named Bd.method).1
  have X0 : Stand p l e ({ frames := 3, cells := 1, slots := 4200, locals := 49 } : Room) s m #[(.ref ko), (.ref a)] below meth c_ s₁ [] 0 0 := Stand.of_body Bd
  have e0 : s₁.heap = h0 := by rw [← hh, Bd.state]; rfl
  have N0 := Fr.nil n0
  have w1_ := hw _ (List.mem_of_getElem? (i := 1) rfl)
  have w48_ := hw _ (List.mem_of_getElem? (i := 48) rfl)
  have w49_ := hw _ (List.mem_of_getElem? (i := 49) rfl)
  have w59_ := hw _ (List.mem_of_getElem? (i := 59) rfl)
  have w60_ := hw _ (List.mem_of_getElem? (i := 60) rfl)
  have w62_ := hw _ (List.mem_of_getElem? (i := 62) rfl)
  have w63_ := hw _ (List.mem_of_getElem? (i := 63) rfl)
  have w64_ := hw _ (List.mem_of_getElem? (i := 64) rfl)
  have w65_ := hw _ (List.mem_of_getElem? (i := 65) rfl)
  have w82_ := hw _ (List.mem_of_getElem? (i := 82) rfl)
  have w83_ := hw _ (List.mem_of_getElem? (i := 83) rfl)
  have w84_ := hw _ (List.mem_of_getElem? (i := 84) rfl)
  have w85_ := hw _ (List.mem_of_getElem? (i := 85) rfl)
  have w86_ := hw _ (List.mem_of_getElem? (i := 86) rfl)
  have w87_ := hw _ (List.mem_of_getElem? (i := 87) rfl)
  have w88_ := hw _ (List.mem_of_getElem? (i := 88) rfl)
  have w89_ := hw _ (List.mem_of_getElem? (i := 89) rfl)
  have w90_ := hw _ (List.mem_of_getElem? (i := 90) rfl)
  have w96_ := hw _ (List.mem_of_getElem? (i := 96) rfl)
  have w97_ := hw _ (List.mem_of_getElem? (i := 97) rfl)
  have w98_ := hw _ (List.mem_of_getElem? (i := 98) rfl)
  have w99_ := hw _ (List.mem_of_getElem? (i := 99) rfl)
  have w100_ := hw _ (List.mem_of_getElem? (i := 100) rfl)
  have w127_ := hw _ (List.mem_of_getElem? (i := 127) rfl)
  have w128_ := hw _ (List.mem_of_getElem? (i := 128) rfl)
  have w129_ := hw _ (List.mem_of_getElem? (i := 129) rfl)
  have w130_ := hw _ (List.mem_of_getElem? (i := 130) rfl)
  have w131_ := hw _ (List.mem_of_getElem? (i := 131) rfl)
  have w132_ := hw _ (List.mem_of_getElem? (i := 132) rfl)
  have w133_ := hw _ (List.mem_of_getElem? (i := 133) rfl)
  have w134_ := hw _ (List.mem_of_getElem? (i := 134) rfl)
  have s1 := own_add p3 p5 (by omega) (by omega)
  rw [he2] at s1
  show Go p e below (RetG s (Q_kadd_1 Z ko ch en kc ke cap vc ve ex1 ex2 a b kb nn bs cz fz h0 n0) 1 4200) (s₁.setTop (entryFrame m #[(.ref ko), (.ref a)] 4))
  rw [show entryFrame m #[(.ref ko), (.ref a)] 4 = mkF m 0 #[.val (.ref ko), .val (.ref a), .unset, .unset] [] from by first | (simp [entryFrame, mkF, argsToLocals, Value.category]; done) | rfl]
  refine g_aloadN X0 hx hby d15_0 rfl rfl ?_
  refine g_aloadN X0 hx hby d15_1 rfl rfl ?_
  refine g_getF X0 hx hby hZ hown (host := "") (Or.inl w64_) Via.refl e0 F3 d15_2 (fun T1 X1 e1 => ?_)
  refine g_private X1 hx hby hZ hown (rm_start_1 l Z a0 hw [] ko en ke ve ex1 h0 n0 Z0 F2 VE hv) w82_ w83_ w48_ w84_ w49_ w85_ (by decide) e1 KE (by rw [hml]; rfl) [(.int (1 : Int32))] (lenOf own_pd21 rfl) rfl rfl (Nat.le_of_ble_eq_true rfl) (Nat.le_of_ble_eq_true rfl) (Nat.le_of_ble_eq_true rfl) (Nat.le_of_ble_eq_true rfl) d15_5 (fun v2 T2 L2 X2 hQ2 => ?_)
  obtain ⟨rfl, N2q, eh2⟩ := hQ2
  have N2 := Fr.app N0 N2q
  refine g_istoreN X2 hx hby d15_8 (l' := #[.val (.ref ko), .val (.ref a), .val (.int ex1), .unset]) rfl ?_
  refine g_iloadN X2 hx hby d15_9 rfl ?_
  refine g_aloadN X2 hx hby d15_10 rfl rfl ?_
  refine g_virtual X2 hx hby hZ hown (rm_lenN l Z a0 hw [] a b kb nn bs cz h0 n0 Z0 O2 P5 OLD E C VF VB) w86_ w87_ (notFace_of_selects (args := #[]) (mvT hZ w89_)) w89_ w88_ w1_ w90_ (by decide) eh2 E (by rw [hml]; rfl) [] (lenOf own_pd16 rfl) rfl rfl (Nat.le_of_ble_eq_true rfl) (Nat.le_of_ble_eq_true rfl) (Nat.le_of_ble_eq_true rfl) (Nat.le_of_ble_eq_true rfl) d15_11 (fun v3 T3 L3 X3 hQ3 => ?_)
  obtain ⟨rfl, N3q, eh3⟩ := hQ3
  have N3 := Fr.app N2 N3q
  refine g_iadd X3 hx hby d15_14 ?_
  refine g_topI ex2 he2 ?_
  refine g_istoreN X3 hx hby d15_15 (l' := #[.val (.ref ko), .val (.ref a), .val (.int ex1), .val (.int ex2)]) rfl ?_
  refine g_iloadN X3 hx hby d15_16 rfl ?_
  refine g_aloadN X3 hx hby d15_17 rfl rfl ?_
  refine g_getF X3 hx hby hZ hown (host := "") (Or.inl w59_) Via.refl eh3 F1 d15_18 (fun T4 X4 e4 => ?_)
  refine g_arraylength X4 hx hby hZ e4 VCh d15_21 ?_
  by_cases hc22_5 : cap < ex2
  · skip
    refine g_icN X4 hx hby d15_22 (tlt hc22_5).2.2.2 ?_
    refine g_at 25 rfl rfl rfl ?_
    refine g_aloadN X4 hx hby d15_25 rfl rfl ?_
    refine g_aloadN X4 hx hby d15_26 rfl rfl ?_
    refine g_getF X4 hx hby hZ hown (host := "") (Or.inl w59_) Via.refl e4 F1 d15_27 (fun T6 X6 e6 => ?_)
    refine g_iconst X6 hx hby (2 : Int32) d15_30 rfl ?_
    refine g_aloadN X6 hx hby d15_31 rfl rfl ?_
    refine g_getF X6 hx hby hZ hown (host := "") (Or.inl w59_) Via.refl e6 F1 d15_32 (fun T7 X7 e7 => ?_)
    refine g_arraylength X7 hx hby hZ e7 VCh d15_35 ?_
    refine g_imul X7 hx hby d15_36 ?_
    refine g_iloadN X7 hx hby d15_37 rfl ?_
    refine g_static X7 hx hby hZ hown (rm_mmax l Z a0 hw [] ((2 : Int32) * cap) ex2 h0 n0 Z0 ) w127_ w128_ w129_ w130_ (by decide) e7 (by rw [hml]; rfl) [(.int ((2 : Int32) * cap)), (.int ex2)] (lenOf own_pd0 rfl) rfl rfl (Nat.le_of_ble_eq_true rfl) (Nat.le_of_ble_eq_true rfl) (Nat.le_of_ble_eq_true rfl) (Nat.le_of_ble_eq_true rfl) d15_38 (fun v8 T8 L8 X8 hQ8 => ?_)
    obtain ⟨rfl, N8q, eh8⟩ := hQ8
    have N8 := Fr.app N3 N8q
    have q1 := own_nl (B := 4200) (by omega) (by omega) hc22_5 (by omega) (by omega)
    refine g_static X8 hx hby hZ hown (rm_copyof_4200 l Z a0 hw [] ch kc cap vc (own_max ((2 : Int32) * cap) ex2) h0 n0 Z0 VCh (by omega) q1.1 q1.2.1) w131_ w132_ w133_ w134_ (by decide) eh8 (by rw [hml]; rfl) [(.ref ch), (.int (own_max ((2 : Int32) * cap) ex2))] (lenOf own_pd22 rfl) rfl rfl (Nat.le_of_ble_eq_true rfl) (Nat.le_of_ble_eq_true rfl) (Nat.le_of_ble_eq_true rfl) (Nat.le_of_ble_eq_true rfl) d15_41 (fun v9 T9 L9 X9 hQ9 => ?_)
    obtain ⟨N9q, K9, d9, kd9, vd9, rfl, ld9, Vd9, hl9⟩ := hQ9
    have N9 := Fr.app N8 N9q
    have f10 := (KE.keep K9)
    have f11 := (F1.keep K9 nin0)
    refine g_putF X9 hx hby hZ hown (host := "") (Or.inl w59_) Via.refl rfl f11 f10 (Or.inl w60_) w48_ (.array .char) (by decide) rfl rfl N9 gk d15_44 (fun T12 h12 X12 e12 W12 F12 N12 => ?_)
    refine g_aloadN X12 hx hby d15_47 rfl rfl ?_
    refine g_iconst X12 hx hby (0 : Int32) d15_48 rfl ?_
    refine g_aloadN X12 hx hby d15_49 rfl rfl ?_
    have f14 := ((OLD.keep K9 all0).wr W12 gk)
    have f15 := ((E.keep K9).wr W12)
    have ne16 : a ≠ ko := (Exa.ne E KE (by decide))
    have f17 := ((C.keep K9 nin0).other W12 (Or.inl ne16))
    have f18 := ((VF.keep K9 nin0).other W12 (Or.inl ne16))
    have ne19 : b ≠ ko := (Ne.symm (Exa.neArv KE VB w48_))
    have f20 := ((VB.keep K9 nin0).other W12 ne19)
    have z21 := (Nat.le_trans Z0 (Nat.le_trans K9.1 (Keep.of_wr W12).1))
    refine g_virtual X12 hx hby hZ hown (rm_lenN l Z a0 hw [] a b kb nn bs cz h12 n0 z21 O2 P5 f14 f15 f17 f18 f20) w86_ w87_ (notFace_of_selects (args := #[]) (mvT hZ w89_)) w89_ w88_ w1_ w90_ (by decide) e12 f15 (by rw [hml]; rfl) [] (lenOf own_pd16 rfl) rfl rfl (Nat.le_of_ble_eq_true rfl) (Nat.le_of_ble_eq_true rfl) (Nat.le_of_ble_eq_true rfl) (Nat.le_of_ble_eq_true rfl) d15_50 (fun v13 T13 L13 X13 hQ13 => ?_)
    obtain ⟨rfl, N13q, eh13⟩ := hQ13
    have N13 := Fr.app N12 N13q
    refine g_at 53 rfl rfl rfl ?_
    refine g_aloadN X13 hx hby d15_53 rfl rfl ?_
    refine g_getF X13 hx hby hZ hown (host := "") (Or.inl w59_) Via.refl eh13 F12 d15_54 (fun T22 X22 e22 => ?_)
    refine g_iloadN X22 hx hby d15_57 rfl ?_
    have ne24 : d9 ≠ ko := (Ne.symm (Nat.ne_of_lt (Nat.lt_of_lt_of_le KE.lt ld9)))
    have f25 := (Vd9.other W12 ne24)
    have g_d9 : n0 ≤ d9 := Nat.le_trans Z0 ld9
    have ne26 : b ≠ d9 := (Nat.ne_of_lt (Nat.lt_of_lt_of_le VB.lt ld9))
    refine g_virtual X22 hx hby hZ hown (rm_getc l Z a0 hw [] a b kb nn bs d9 kd9 (own_max ((2 : Int32) * cap) ex2) vd9 ex1 cz fz h12 n0 z21 O2 P5 f14 rfz O4 f15 f17 f18 f20 f25 hl9 p3 p5 (by omega) g_d9 ne26) w96_ w97_ (notFace_of_selects (args := #[]) (mvT hZ w99_)) w99_ w98_ w1_ w100_ (by decide) e22 f15 (by rw [hml]; rfl) [(.int (0 : Int32)), (.int nn), (.ref d9), (.int ex1)] (lenOf own_pd23 rfl) rfl rfl (Nat.le_of_ble_eq_true rfl) (Nat.le_of_ble_eq_true rfl) (Nat.le_of_ble_eq_true rfl) (Nat.le_of_ble_eq_true rfl) d15_58 (fun v23 T23 L23 X23 hQ23 => ?_)
    obtain ⟨rfl, N23q, K23, vc23, Vc23, hl23⟩ := hQ23
    have N23 := Fr.app N13 N23q
    refine g_aloadN X23 hx hby d15_61 rfl rfl ?_
    have f27 := (((F3.keep K9 nin0).other W12 (Or.inr (slot_ne (Or.inl w65_) (Or.inl w60_) (by decide) (t := .int) (t' := (.array .char)) (by decide) (by decide)))).keep K23 (ninS (Ne.symm ne24) nin0))
    refine g_getF X23 hx hby hZ hown (host := "") (Or.inl w64_) Via.refl rfl f27 d15_62 (fun T28 X28 e28 => ?_)
    refine g_aloadN X28 hx hby d15_65 rfl rfl ?_
    have f29 := (((F2.keep K9 nin0).other W12 (Or.inr (slot_ne (Or.inl w63_) (Or.inl w60_) (by decide) (t := (.array .int)) (t' := (.array .char)) (by decide) (by decide)))).keep K23 (ninS (Ne.symm ne24) nin0))
    refine g_getF X28 hx hby hZ hown (host := "") (Or.inl w62_) Via.refl e28 f29 d15_66 (fun T30 X30 e30 => ?_)
    have ne31 : en ≠ ko := (Ne.symm (Exa.neArv KE VE w48_))
    have ne32 : en ≠ d9 := (Nat.ne_of_lt (Nat.lt_of_lt_of_le VE.lt ld9))
    have f33 := (((VE.keep K9 nin0).other W12 ne31).keep K23 (ninS ne32 nin0))
    refine g_arraylength X30 hx hby hZ e30 f33 d15_69 ?_
    refine g_icY X30 hx hby 90 d15_70 (feq (by decide : ¬ ((1 : Int32) = (128 : Int32)))).2 (by decide) (by decide) ?_
    refine g_aloadN X30 hx hby d15_90 rfl rfl ?_
    refine g_getF X30 hx hby hZ hown (host := "") (Or.inl w62_) Via.refl e30 f29 d15_91 (fun T34 X34 e34 => ?_)
    refine g_aloadN X34 hx hby d15_94 rfl rfl ?_
    refine g_getF X34 hx hby hZ hown (host := "") (Or.inl w64_) Via.refl e34 f27 d15_95 (fun T35 X35 e35 => ?_)
    refine g_iloadN X35 hx hby d15_98 rfl ?_
    refine g_iastore X35 hx hby hZ e35 f33 1 (ve.set 1 (.int ex2)) rfl ⟨by decide, by decide⟩ rfl (Nat.lt_of_lt_of_le (by decide) hve) N23 gen d15_99 (fun T36 h36 X36 e36 W36 V36 N36 => ?_)
    refine g_aloadN X36 hx hby d15_100 rfl rfl ?_
    refine g_dup X36 hx hby d15_101 rfl ?_
    have f37 := (f27.other W36 (Or.inl (Ne.symm ne31)))
    refine g_getF X36 hx hby hZ hown (host := "") (Or.inl w64_) Via.refl e36 f37 d15_102 (fun T38 X38 e38 => ?_)
    refine g_dup_x1 X38 hx hby d15_105 rfl rfl ?_
    refine g_iconst X38 hx hby (1 : Int32) d15_106 rfl ?_
    refine g_iadd X38 hx hby d15_107 ?_
    refine g_topI (2 : Int32) (by decide) ?_
    have f39 := (((f10.wr W12).keep K23).wr W36)
    refine g_putF X38 hx hby hZ hown (host := "") (Or.inl w64_) Via.refl e38 f37 f39 (Or.inl w65_) w48_ .int (by decide) rfl rfl N36 gk d15_108 (fun T40 h40 X40 e40 W40 F40 N40 => ?_)
    have f41 := (f39.wr W40)
    have f42 := (((F12.keep K23 (ninS (Ne.symm ne24) nin0)).other W36 (Or.inl (Ne.symm ne31))).other W40 (Or.inr (slot_ne (Or.inl w60_) (Or.inl w65_) (by decide) (t := (.array .char)) (t' := .int) (by decide) (by decide))))
    have f43 := ((f29.other W36 (Or.inl (Ne.symm ne31))).other W40 (Or.inr (slot_ne (Or.inl w63_) (Or.inl w65_) (by decide) (t := (.array .int)) (t' := .int) (by decide) (by decide))))
    have f44 := ((Vc23.other W36 (Ne.symm ne32)).other W40 ne24)
    have f45 := (V36.other W40 ne31)
    refine g_iret X40 hx hby Bd.returns Bd.notSynchronized d15_111 e40 (by decide) (by decide) ?_
    show (Q_kadd_1 Z ko ch en kc ke cap vc ve ex1 ex2 a b kb nn bs cz fz h0 n0) (some (.int (1 : Int32))) _ _
    exact ⟨rfl, N40, ((((((Keep.refl h0 [ko, ch, en]).trans K9 all0).wr W12 (Or.inl (List.mem_of_getElem? (i := 0) rfl))).trans K23 (allS (Or.inr (Nat.le_trans (Nat.le_refl _) ld9)) all0)).wr W36 (Or.inl (List.mem_of_getElem? (i := 2) rfl))).wr W40 (Or.inl (List.mem_of_getElem? (i := 0) rfl))), d9, kd9, _, _, Or.inr (Nat.le_trans (Nat.le_refl _) ld9), f41, f42, f43, F40, (by rw [own_grow, if_pos hc22_5]; exact f44), (by rw [own_grow, if_pos hc22_5]; exact hl23), f45, (by rw [List.length_set]; exact hve), own_setD (Nat.lt_of_lt_of_le (by decide) hve)⟩
  · skip
    refine g_icY X4 hx hby 47 d15_22 (flt hc22_5).2.2.2 (by decide) (by decide) ?_
    refine g_aloadN X4 hx hby d15_47 rfl rfl ?_
    refine g_iconst X4 hx hby (0 : Int32) d15_48 rfl ?_
    refine g_aloadN X4 hx hby d15_49 rfl rfl ?_
    refine g_virtual X4 hx hby hZ hown (rm_lenN l Z a0 hw [] a b kb nn bs cz h0 n0 Z0 O2 P5 OLD E C VF VB) w86_ w87_ (notFace_of_selects (args := #[]) (mvT hZ w89_)) w89_ w88_ w1_ w90_ (by decide) e4 E (by rw [hml]; rfl) [] (lenOf own_pd16 rfl) rfl rfl (Nat.le_of_ble_eq_true rfl) (Nat.le_of_ble_eq_true rfl) (Nat.le_of_ble_eq_true rfl) (Nat.le_of_ble_eq_true rfl) d15_50 (fun v46 T46 L46 X46 hQ46 => ?_)
    obtain ⟨rfl, N46q, eh46⟩ := hQ46
    have N46 := Fr.app N3 N46q
    refine g_aloadN X46 hx hby d15_53 rfl rfl ?_
    refine g_getF X46 hx hby hZ hown (host := "") (Or.inl w59_) Via.refl eh46 F1 d15_54 (fun T47 X47 e47 => ?_)
    refine g_iloadN X47 hx hby d15_57 rfl ?_
    refine g_virtual X47 hx hby hZ hown (rm_getc l Z a0 hw [] a b kb nn bs ch kc cap vc ex1 cz fz h0 n0 Z0 O2 P5 OLD rfz O4 E C VF VB VCh hl p3 p5 (by have q := hc22_5; rw [Int32.lt_iff_toInt_lt] at q; omega) gch nbc) w96_ w97_ (notFace_of_selects (args := #[]) (mvT hZ w99_)) w99_ w98_ w1_ w100_ (by decide) e47 E (by rw [hml]; rfl) [(.int (0 : Int32)), (.int nn), (.ref ch), (.int ex1)] (lenOf own_pd23 rfl) rfl rfl (Nat.le_of_ble_eq_true rfl) (Nat.le_of_ble_eq_true rfl) (Nat.le_of_ble_eq_true rfl) (Nat.le_of_ble_eq_true rfl) d15_58 (fun v48 T48 L48 X48 hQ48 => ?_)
    obtain ⟨rfl, N48q, K48, vc48, Vc48, hl48⟩ := hQ48
    have N48 := Fr.app N46 N48q
    refine g_aloadN X48 hx hby d15_61 rfl rfl ?_
    have ne49 : ko ≠ ch := (Exa.neArv (KE.keep K48) Vc48 w48_)
    have f50 := (F3.keep K48 (ninS ne49 nin0))
    refine g_getF X48 hx hby hZ hown (host := "") (Or.inl w64_) Via.refl rfl f50 d15_62 (fun T51 X51 e51 => ?_)
    refine g_aloadN X51 hx hby d15_65 rfl rfl ?_
    have f52 := (F2.keep K48 (ninS ne49 nin0))
    refine g_getF X51 hx hby hZ hown (host := "") (Or.inl w62_) Via.refl e51 f52 d15_66 (fun T53 X53 e53 => ?_)
    have f54 := (VE.keep K48 (ninS (Ne.symm nce) nin0))
    refine g_arraylength X53 hx hby hZ e53 f54 d15_69 ?_
    refine g_icY X53 hx hby 90 d15_70 (feq (by decide : ¬ ((1 : Int32) = (128 : Int32)))).2 (by decide) (by decide) ?_
    refine g_aloadN X53 hx hby d15_90 rfl rfl ?_
    refine g_getF X53 hx hby hZ hown (host := "") (Or.inl w62_) Via.refl e53 f52 d15_91 (fun T55 X55 e55 => ?_)
    refine g_aloadN X55 hx hby d15_94 rfl rfl ?_
    refine g_getF X55 hx hby hZ hown (host := "") (Or.inl w64_) Via.refl e55 f50 d15_95 (fun T56 X56 e56 => ?_)
    refine g_iloadN X56 hx hby d15_98 rfl ?_
    refine g_iastore X56 hx hby hZ e56 f54 1 (ve.set 1 (.int ex2)) rfl ⟨by decide, by decide⟩ rfl (Nat.lt_of_lt_of_le (by decide) hve) N48 gen d15_99 (fun T57 h57 X57 e57 W57 V57 N57 => ?_)
    refine g_aloadN X57 hx hby d15_100 rfl rfl ?_
    refine g_dup X57 hx hby d15_101 rfl ?_
    have ne58 : ko ≠ en := (Exa.neArv ((KE.keep K48).wr W57) V57 w48_)
    have f59 := (f50.other W57 (Or.inl ne58))
    refine g_getF X57 hx hby hZ hown (host := "") (Or.inl w64_) Via.refl e57 f59 d15_102 (fun T60 X60 e60 => ?_)
    refine g_dup_x1 X60 hx hby d15_105 rfl rfl ?_
    refine g_iconst X60 hx hby (1 : Int32) d15_106 rfl ?_
    refine g_iadd X60 hx hby d15_107 ?_
    refine g_topI (2 : Int32) (by decide) ?_
    have f61 := ((KE.keep K48).wr W57)
    refine g_putF X60 hx hby hZ hown (host := "") (Or.inl w64_) Via.refl e60 f59 f61 (Or.inl w65_) w48_ .int (by decide) rfl rfl N57 gk d15_108 (fun T62 h62 X62 e62 W62 F62 N62 => ?_)
    have f63 := (f61.wr W62)
    have f64 := (((F1.keep K48 (ninS ne49 nin0)).other W57 (Or.inl ne58)).other W62 (Or.inr (slot_ne (Or.inl w60_) (Or.inl w65_) (by decide) (t := (.array .char)) (t' := .int) (by decide) (by decide))))
    have f65 := ((f52.other W57 (Or.inl ne58)).other W62 (Or.inr (slot_ne (Or.inl w63_) (Or.inl w65_) (by decide) (t := (.array .int)) (t' := .int) (by decide) (by decide))))
    have f66 := ((Vc48.other W57 nce).other W62 (Ne.symm ne49))
    have f67 := (V57.other W62 (Ne.symm ne58))
    refine g_iret X62 hx hby Bd.returns Bd.notSynchronized d15_111 e62 (by decide) (by decide) ?_
    show (Q_kadd_1 Z ko ch en kc ke cap vc ve ex1 ex2 a b kb nn bs cz fz h0 n0) (some (.int (1 : Int32))) _ _
    exact ⟨rfl, N62, ((((Keep.refl h0 [ko, ch, en]).trans K48 (allS (Or.inl (List.mem_of_getElem? (i := 1) rfl)) all0)).wr W57 (Or.inl (List.mem_of_getElem? (i := 2) rfl))).wr W62 (Or.inl (List.mem_of_getElem? (i := 0) rfl))), ch, kc, _, _, Or.inl rfl, f63, f64, f65, F62, (by rw [own_grow, if_neg hc22_5]; exact f66), (by rw [own_grow, if_neg hc22_5]; exact hl48), f67, (by rw [List.length_set]; exact hve), own_setD (Nat.lt_of_lt_of_le (by decide) hve)⟩

def Q_start_2 (Z : State) (ko : Addr) (en : Addr) (ke : ClassId) (ve : List Value) (ex1 : Int32) (h0 : Heap) (n0 : Nat) (v : Option Value) (h : Heap) (L : List Loc) : Prop := v = some (.int ex1) ∧ Fr n0 L ∧ h = h0
set_option maxRecDepth 65536 in
set_option maxHeartbeats 40000000 in
theorem rm_start_2 (l : Launch) (Z : State) (a0 : Array Value) (hw : ∀ d ∈ tables_1, d.before a0 Z = true) (ws : List Jvm.Cond) (ko : Addr) (en : Addr) (ke : ClassId) (ve : List Value) (ex1 : Int32) (h0 : Heap) (n0 : Nat) (Z0 : n0 ≤ h0.size) (F2 : Fld Z h0 ko "com/example/invix/invix/sort/KeyBuffer" "ends" "[I" (.ref en)) (VE : Arv Z h0 en ke .int (128 : Int32) ve (.int (0 : Int32))) (hv : ve.getD 1 (.int (0 : Int32)) = .int ex1) :
    MetFree l (⟨"com/example/invix/invix/sort/KeyBuffer", "start", "(I)I"⟩ : MethodName) (head1 (Jvm.Cond.code (⟨"com/example/invix/invix/sort/KeyBuffer", "start", "(I)I"⟩ : MethodName) prog_79_method_12_code 2 (some .int) :: ws) ({ frames := 0, cells := 0, slots := 0, locals := 0 } : Room)) (fun aa_ U => aa_ = #[(.ref ko), (.int (2 : Int32))] ∧ Z.Warmed39 U.vm ∧ U.heap = h0) (fun _ _ _ _ _ => True) (fun _ U o_ U' => RetG U (Q_start_2 Z ko en ke ve ex1 h0 n0) 0 0 U' o_) := by
  refine MetFree.of_bodySF (plainFor_of_name own_pn4) hisR ?_
  intro p e s m args below meth c_ s₁ Bd hml0 hP hK
  obtain ⟨rfl, hZ, hh⟩ := hP
  have hx := Bd.exec
  have hby := Bd.bytes
  have hml : c_.maxLocals = 2 := hml0
  have hown : s.vm.findClass "com/example/invix/invix/sort/KeyBuffer" = some m.cls := findClass_of_methodNamed Bd.named
  have hnm := (name_of_methodNamed Bd.named Bd.method).1
  have X0 : Stand p l e ({ frames := 0, cells := 0, slots := 0, locals := 0 } : Room) s m #[(.ref ko), (.int (2 : Int32))] below meth c_ s₁ [] 0 0 := Stand.of_body Bd
  have e0 : s₁.heap = h0 := by rw [← hh, Bd.state]; rfl
  have N0 := Fr.nil n0
  have w62_ := hw _ (List.mem_of_getElem? (i := 62) rfl)
  show Go p e below (RetG s (Q_start_2 Z ko en ke ve ex1 h0 n0) 0 0) (s₁.setTop (entryFrame m #[(.ref ko), (.int (2 : Int32))] 2))
  rw [show entryFrame m #[(.ref ko), (.int (2 : Int32))] 2 = mkF m 0 #[.val (.ref ko), .val (.int (2 : Int32))] [] from by first | (simp [entryFrame, mkF, argsToLocals, Value.category]; done) | rfl]
  refine g_iloadN X0 hx hby d16_0 rfl ?_
  refine g_ifY X0 hx hby 8 d16_1 (feq (by decide : ¬ ((2 : Int32) = (0 : Int32)))).2 (by decide) (by decide) ?_
  refine g_aloadN X0 hx hby d16_8 rfl rfl ?_
  refine g_getF X0 hx hby hZ hown (host := "") (Or.inl w62_) Via.refl e0 F2 d16_9 (fun T1 X1 e1 => ?_)
  refine g_iloadN X1 hx hby d16_12 rfl ?_
  refine g_iconst X1 hx hby (1 : Int32) d16_13 rfl ?_
  refine g_isub X1 hx hby d16_14 ?_
  refine g_topI (1 : Int32) (by decide) ?_
  refine g_iaload X1 hx hby hZ e1 VE (.int ex1) ⟨by decide, by decide⟩ (by exact hv) d16_15 ?_
  refine g_iret X1 hx hby Bd.returns Bd.notSynchronized d16_16 e1 (by decide) (by decide) ?_
  show (Q_start_2 Z ko en ke ve ex1 h0 n0) (some (.int ex1)) _ _
  exact ⟨rfl, N0, rfl⟩

def Q_copyof_8400 (Z : State) (ch : Addr) (kc : ClassId) (cap : Int32) (vc : List Value) (nl : Int32) (h0 : Heap) (n0 : Nat) (v : Option Value) (h : Heap) (L : List Loc) : Prop := Fr n0 L ∧ Keep h0 h [] ∧ ∃ (d : Addr) (kd : ClassId) (vd : List Value), v = some (.ref d) ∧ h0.size ≤ d ∧ Arv Z h d kd .char nl vd (.int (0 : Int32)) ∧ nl.toNatClampNeg ≤ vd.length
set_option maxRecDepth 65536 in
set_option maxHeartbeats 40000000 in
theorem rm_copyof_8400 (l : Launch) (Z : State) (a0 : Array Value) (hw : ∀ d ∈ tables_1, d.before a0 Z = true) (ws : List Jvm.Cond) (ch : Addr) (kc : ClassId) (cap : Int32) (vc : List Value) (nl : Int32) (h0 : Heap) (n0 : Nat) (Z0 : n0 ≤ h0.size) (VC : Arv Z h0 ch kc .char cap vc (.int (0 : Int32))) (hp1 : 0 ≤ cap.toInt) (hp2 : cap.toInt < nl.toInt) (hp3 : nl.toInt ≤ 8400) :
    MetFree l (⟨"java/util/Arrays", "copyOf", "([CI)[C"⟩ : MethodName) (head1 (Jvm.Cond.code (⟨"java/util/Arrays", "copyOf", "([CI)[C"⟩ : MethodName) jdk_65_method_125_code 3 (some (.array .char)) :: ws) ({ frames := 1, cells := 1, slots := 8400, locals := 18 } : Room)) (fun aa_ U => aa_ = #[(.ref ch), (.int nl)] ∧ Z.Warmed39 U.vm ∧ U.heap = h0) (fun _ _ _ _ _ => True) (fun _ U o_ U' => RetG U (Q_copyof_8400 Z ch kc cap vc nl h0 n0) 1 8400 U' o_) := by
  refine MetFree.of_bodySF (plainFor_of_name own_pn5) hisR ?_
  intro p e s m args below meth c_ s₁ Bd hml0 hP hK
  obtain ⟨rfl, hZ, hh⟩ := hP
  have hx := Bd.exec
  have hby := Bd.bytes
  have hml : c_.maxLocals = 3 := hml0
  have hown : s.vm.findClass "java/util/Arrays" = some m.cls := findClass_of_methodNamed Bd.named
  have hnm := (name_of_methodNamed Bd.named Bd.method).1
  have X0 : Stand p l e ({ frames := 1, cells := 1, slots := 8400, locals := 18 } : Room) s m #[(.ref ch), (.int nl)] below meth c_ s₁ [] 0 0 := Stand.of_body Bd
  have e0 : s₁.heap = h0 := by rw [← hh, Bd.state]; rfl
  have N0 := Fr.nil n0
  have w30_ := hw _ (List.mem_of_getElem? (i := 30) rfl)
  have w129_ := hw _ (List.mem_of_getElem? (i := 129) rfl)
  have w135_ := hw _ (List.mem_of_getElem? (i := 135) rfl)
  have w136_ := hw _ (List.mem_of_getElem? (i := 136) rfl)
  have w137_ := hw _ (List.mem_of_getElem? (i := 137) rfl)
  have w138_ := hw _ (List.mem_of_getElem? (i := 138) rfl)
  have w139_ := hw _ (List.mem_of_getElem? (i := 139) rfl)
  have w140_ := hw _ (List.mem_of_getElem? (i := 140) rfl)
  have w141_ := hw _ (List.mem_of_getElem? (i := 141) rfl)
  have b1 := own_tc hp1
  have b2 := own_tc (Int.le_trans hp1 (Int.le_of_lt hp2))
  have nl0 : ¬ nl < 0 := own_nn (by omega)
  show Go p e below (RetG s (Q_copyof_8400 Z ch kc cap vc nl h0 n0) 1 8400) (s₁.setTop (entryFrame m #[(.ref ch), (.int nl)] 3))
  rw [show entryFrame m #[(.ref ch), (.int nl)] 3 = mkF m 0 #[.val (.ref ch), .val (.int nl), .unset] [] from by first | (simp [entryFrame, mkF, argsToLocals, Value.category]; done) | rfl]
  refine g_iloadN X0 hx hby d28_0 rfl ?_
  refine g_aloadN X0 hx hby d28_1 rfl rfl ?_
  refine g_arraylength X0 hx hby hZ e0 VC d28_2 ?_
  refine g_icY X0 hx hby 14 d28_3 (feq ((fun q => by rw [q] at hp2; omega) : ¬ (nl = cap))).2 (by decide) (by decide) ?_
  refine g_iloadN X0 hx hby d28_14 rfl ?_
  refine g_newarray X0 hx hby hZ .char .char (.int (0 : Int32)) (List.replicate 8400 (.int (0 : Int32))) rfl rfl w30_ e0 nl0 8400 rfl (by omega) (by decide) (by decide) (by decide) d28_15 (fun T1 h1 k1 b1 g1 X1 e1 E1 V1 => ?_)
  refine g_astoreN X1 hx hby d28_17 rfl (l' := #[.val (.ref ch), .val (.int nl), .val (.ref b1)]) rfl ?_
  refine g_aloadN X1 hx hby d28_18 rfl rfl ?_
  refine g_iconst X1 hx hby (0 : Int32) d28_19 rfl ?_
  refine g_aloadN X1 hx hby d28_20 rfl rfl ?_
  refine g_iconst X1 hx hby (0 : Int32) d28_21 rfl ?_
  refine g_aloadN X1 hx hby d28_22 rfl rfl ?_
  have f2 := (VC.ext E1)
  refine g_arraylength X1 hx hby hZ e1 f2 d28_23 ?_
  refine g_iloadN X1 hx hby d28_24 rfl ?_
  have z4 := (Nat.le_trans Z0 E1.1)
  refine g_static X1 hx hby hZ hown (rm_mmin l Z a0 hw [] cap nl h1 n0 z4 (own_le (by omega))) w135_ w136_ w129_ w137_ (by decide) e1 (by rw [hml]; rfl) [(.int cap), (.int nl)] (lenOf own_pd0 rfl) rfl rfl (Nat.le_of_ble_eq_true rfl) (Nat.le_of_ble_eq_true rfl) (Nat.le_of_ble_eq_true rfl) (Nat.le_of_ble_eq_true rfl) d28_25 (fun v3 T3 L3 X3 hQ3 => ?_)
  obtain ⟨rfl, N3q, eh3⟩ := hQ3
  have N3 := Fr.app N0 N3q
  have g_b1 : n0 ≤ b1 := Nat.le_trans Z0 (Nat.le_of_eq g1)
  refine g_arraycopy X3 hx hby hZ hown w138_ w141_ w139_ w140_ eh3 f2 V1 (Or.inl ⟨rfl, rfl⟩) (by decide) (by decide) (own_nn hp1) (by show 0 + _ ≤ _; omega) (by show 0 + _ ≤ _; omega) rfl (by rw [List.length_replicate]; show 0 + _ ≤ _; omega) N3 g_b1 (by rw [hml]; rfl) d28_28 (Nat.le_of_ble_eq_true rfl) (Nat.le_of_ble_eq_true rfl) (fun T5 h5 L5 X5 e5 N5 K5 V5 => ?_)
  refine g_aloadN X5 hx hby d28_31 rfl rfl ?_
  refine g_aret X5 hx hby (t := (.array .char)) rfl rfl rfl Bd.returns Bd.notSynchronized d28_32 e5 (by decide) (by decide) ?_
  show (Q_copyof_8400 Z ch kc cap vc nl h0 n0) (some (.ref b1)) _ _
  exact ⟨N5, (((Keep.refl h0 []).ext E1).trans K5 (allS (Or.inr (Nat.le_trans (Nat.le_refl _) (Nat.le_of_eq g1))) all0)), b1, k1, _, rfl, (Nat.le_trans (Nat.le_refl _) (Nat.le_of_eq g1)), V5, by simp only [List.length_append, List.length_take, List.length_drop, List.length_map, List.length_range, List.length_replicate]; omega⟩

def Q_kadd_2 (Z : State) (ko : Addr) (ch : Addr) (en : Addr) (kc : ClassId) (ke : ClassId) (cap : Int32) (vc : List Value) (ve : List Value) (ex1 : Int32) (ex2 : Int32) (a : Addr) (b : Addr) (kb : ClassId) (nn : Int32) (bs : List Value) (cz : Int32) (fz : Value) (h0 : Heap) (n0 : Nat) (v : Option Value) (h : Heap) (L : List Loc) : Prop := v = some (.int (2 : Int32)) ∧ Fr n0 L ∧ Keep h0 h [ko, ch, en] ∧ ∃ (ch1 : Addr) (kc1 : ClassId) (vc1 ve1 : List Value), (ch1 = ch ∨ h0.size ≤ ch1) ∧ Exa Z h ko "com/example/invix/invix/sort/KeyBuffer" ∧ Fld Z h ko "com/example/invix/invix/sort/KeyBuffer" "characters" "[C" (.ref ch1) ∧ Fld Z h ko "com/example/invix/invix/sort/KeyBuffer" "ends" "[I" (.ref en) ∧ Fld Z h ko "com/example/invix/invix/sort/KeyBuffer" "count" "I" (.int (3 : Int32)) ∧ Arv Z h ch1 kc1 .char (own_grow cap ex2) vc1 (.int (0 : Int32)) ∧ (own_grow cap ex2).toNatClampNeg ≤ vc1.length ∧ Arv Z h en ke .int (128 : Int32) ve1 (.int (0 : Int32)) ∧ 128 ≤ ve1.length ∧ ve1.getD 2 (.int (0 : Int32)) = .int ex2
set_option maxRecDepth 65536 in
set_option maxHeartbeats 40000000 in
theorem rm_kadd_2 (l : Launch) (Z : State) (a0 : Array Value) (hw : ∀ d ∈ tables_1, d.before a0 Z = true) (ws : List Jvm.Cond) (ko : Addr) (ch : Addr) (en : Addr) (kc : ClassId) (ke : ClassId) (cap : Int32) (vc : List Value) (ve : List Value) (ex1 : Int32) (ex2 : Int32) (a : Addr) (b : Addr) (kb : ClassId) (nn : Int32) (bs : List Value) (cz : Int32) (fz : Value) (h0 : Heap) (n0 : Nat) (Z0 : n0 ≤ h0.size) (O2 : Sta Z Z.heap "java/lang/String" "COMPACT_STRINGS" "Z" (.int cz)) (P5 : ¬ cz = (0 : Int32)) (OLD : Old Z n0 h0) (rfz : Rf fz) (O4 : Sta Z Z.heap "jdk/internal/util/Preconditions" "SIOOBE_FORMATTER" "Ljava/util/function/BiFunction;" fz) (KE : Exa Z h0 ko "com/example/invix/invix/sort/KeyBuffer") (F1 : Fld Z h0 ko "com/example/invix/invix/sort/KeyBuffer" "characters" "[C" (.ref ch)) (F2 : Fld Z h0 ko "com/example/invix/invix/sort/KeyBuffer" "ends" "[I" (.ref en)) (F3 : Fld Z h0 ko "com/example/invix/invix/sort/KeyBuffer" "count" "I" (.int (2 : Int32))) (VCh : Arv Z h0 ch kc .char cap vc (.int (0 : Int32))) (hl : cap.toNatClampNeg ≤ vc.length) (VE : Arv Z h0 en ke .int (128 : Int32) ve (.int (0 : Int32))) (hve : 128 ≤ ve.length) (hv : ve.getD 1 (.int (0 : Int32)) = .int ex1) (he2 : ex1 + nn = ex2) (gk : n0 ≤ ko) (gch : n0 ≤ ch) (gen : n0 ≤ en) (nce : ch ≠ en) (nbc : b ≠ ch) (p1 : 1024 ≤ cap.toInt) (p2 : cap.toInt ≤ 4200) (p3 : 0 ≤ ex1.toInt) (p4 : ex1.toInt ≤ 4200) (p5 : 0 ≤ nn.toInt) (p6 : nn.toInt ≤ 2100) (E : Exa Z h0 a "java/lang/String") (C : Fld Z h0 a "java/lang/String" "coder" "B" (.int (0 : Int32))) (VF : Fld Z h0 a "java/lang/String" "value" "[B" (.ref b)) (VB : Arv Z h0 b kb .byte nn bs (.int (0 : Int32))) :
    MetFree l (⟨"com/example/invix/invix/sort/KeyBuffer", "add", "(Ljava/lang/String;)I"⟩ : MethodName) (head1 (Jvm.Cond.code (⟨"com/example/invix/invix/sort/KeyBuffer", "add", "(Ljava/lang/String;)I"⟩ : MethodName) prog_79_method_2_code 4 (some .int) :: ws) ({ frames := 3, cells := 1, slots := 8400, locals := 49 } : Room)) (fun aa_ U => aa_ = #[(.ref ko), (.ref a)] ∧ Z.Warmed39 U.vm ∧ U.heap = h0) (fun _ _ _ _ _ => True) (fun _ U o_ U' => RetG U (Q_kadd_2 Z ko ch en kc ke cap vc ve ex1 ex2 a b kb nn bs cz fz h0 n0) 1 8400 U' o_) := by
  refine MetFree.of_bodySF (plainFor_of_name own_pn4) hisR ?_
  intro p e s m args below meth c_ s₁ Bd hml0 hP hK
  obtain ⟨rfl, hZ, hh⟩ := hP
  have hx := Bd.exec
  have hby := Bd.bytes
  have hml : c_.maxLocals = 4 := hml0
  have hown : s.vm.findClass "com/example/invix/invix/sort/KeyBuffer" = some m.cls := findClass_of_methodNamed Bd.named
  have hnm := (name_of_methodNamed Bd.named Bd.method).1
  have X0 : Stand p l e ({ frames := 3, cells := 1, slots := 8400, locals := 49 } : Room) s m #[(.ref ko), (.ref a)] below meth c_ s₁ [] 0 0 := Stand.of_body Bd
  have e0 : s₁.heap = h0 := by rw [← hh, Bd.state]; rfl
  have N0 := Fr.nil n0
  have w1_ := hw _ (List.mem_of_getElem? (i := 1) rfl)
  have w48_ := hw _ (List.mem_of_getElem? (i := 48) rfl)
  have w49_ := hw _ (List.mem_of_getElem? (i := 49) rfl)
  have w59_ := hw _ (List.mem_of_getElem? (i := 59) rfl)
  have w60_ := hw _ (List.mem_of_getElem? (i := 60) rfl)
  have w62_ := hw _ (List.mem_of_getElem? (i := 62) rfl)
  have w63_ := hw _ (List.mem_of_getElem? (i := 63) rfl)
  have w64_ := hw _ (List.mem_of_getElem? (i := 64) rfl)
  have w65_ := hw _ (List.mem_of_getElem? (i := 65) rfl)
  have w82_ := hw _ (List.mem_of_getElem? (i := 82) rfl)
  have w83_ := hw _ (List.mem_of_getElem? (i := 83) rfl)
  have w84_ := hw _ (List.mem_of_getElem? (i := 84) rfl)
  have w85_ := hw _ (List.mem_of_getElem? (i := 85) rfl)
  have w86_ := hw _ (List.mem_of_getElem? (i := 86) rfl)
  have w87_ := hw _ (List.mem_of_getElem? (i := 87) rfl)
  have w88_ := hw _ (List.mem_of_getElem? (i := 88) rfl)
  have w89_ := hw _ (List.mem_of_getElem? (i := 89) rfl)
  have w90_ := hw _ (List.mem_of_getElem? (i := 90) rfl)
  have w96_ := hw _ (List.mem_of_getElem? (i := 96) rfl)
  have w97_ := hw _ (List.mem_of_getElem? (i := 97) rfl)
  have w98_ := hw _ (List.mem_of_getElem? (i := 98) rfl)
  have w99_ := hw _ (List.mem_of_getElem? (i := 99) rfl)
  have w100_ := hw _ (List.mem_of_getElem? (i := 100) rfl)
  have w127_ := hw _ (List.mem_of_getElem? (i := 127) rfl)
  have w128_ := hw _ (List.mem_of_getElem? (i := 128) rfl)
  have w129_ := hw _ (List.mem_of_getElem? (i := 129) rfl)
  have w130_ := hw _ (List.mem_of_getElem? (i := 130) rfl)
  have w131_ := hw _ (List.mem_of_getElem? (i := 131) rfl)
  have w132_ := hw _ (List.mem_of_getElem? (i := 132) rfl)
  have w133_ := hw _ (List.mem_of_getElem? (i := 133) rfl)
  have w134_ := hw _ (List.mem_of_getElem? (i := 134) rfl)
  have s1 := own_add p3 p5 (by omega) (by omega)
  rw [he2] at s1
  show Go p e below (RetG s (Q_kadd_2 Z ko ch en kc ke cap vc ve ex1 ex2 a b kb nn bs cz fz h0 n0) 1 8400) (s₁.setTop (entryFrame m #[(.ref ko), (.ref a)] 4))
  rw [show entryFrame m #[(.ref ko), (.ref a)] 4 = mkF m 0 #[.val (.ref ko), .val (.ref a), .unset, .unset] [] from by first | (simp [entryFrame, mkF, argsToLocals, Value.category]; done) | rfl]
  refine g_aloadN X0 hx hby d15_0 rfl rfl ?_
  refine g_aloadN X0 hx hby d15_1 rfl rfl ?_
  refine g_getF X0 hx hby hZ hown (host := "") (Or.inl w64_) Via.refl e0 F3 d15_2 (fun T1 X1 e1 => ?_)
  refine g_private X1 hx hby hZ hown (rm_start_2 l Z a0 hw [] ko en ke ve ex1 h0 n0 Z0 F2 VE hv) w82_ w83_ w48_ w84_ w49_ w85_ (by decide) e1 KE (by rw [hml]; rfl) [(.int (2 : Int32))] (lenOf own_pd21 rfl) rfl rfl (Nat.le_of_ble_eq_true rfl) (Nat.le_of_ble_eq_true rfl) (Nat.le_of_ble_eq_true rfl) (Nat.le_of_ble_eq_true rfl) d15_5 (fun v2 T2 L2 X2 hQ2 => ?_)
  obtain ⟨rfl, N2q, eh2⟩ := hQ2
  have N2 := Fr.app N0 N2q
  refine g_istoreN X2 hx hby d15_8 (l' := #[.val (.ref ko), .val (.ref a), .val (.int ex1), .unset]) rfl ?_
  refine g_iloadN X2 hx hby d15_9 rfl ?_
  refine g_aloadN X2 hx hby d15_10 rfl rfl ?_
  refine g_virtual X2 hx hby hZ hown (rm_lenN l Z a0 hw [] a b kb nn bs cz h0 n0 Z0 O2 P5 OLD E C VF VB) w86_ w87_ (notFace_of_selects (args := #[]) (mvT hZ w89_)) w89_ w88_ w1_ w90_ (by decide) eh2 E (by rw [hml]; rfl) [] (lenOf own_pd16 rfl) rfl rfl (Nat.le_of_ble_eq_true rfl) (Nat.le_of_ble_eq_true rfl) (Nat.le_of_ble_eq_true rfl) (Nat.le_of_ble_eq_true rfl) d15_11 (fun v3 T3 L3 X3 hQ3 => ?_)
  obtain ⟨rfl, N3q, eh3⟩ := hQ3
  have N3 := Fr.app N2 N3q
  refine g_iadd X3 hx hby d15_14 ?_
  refine g_topI ex2 he2 ?_
  refine g_istoreN X3 hx hby d15_15 (l' := #[.val (.ref ko), .val (.ref a), .val (.int ex1), .val (.int ex2)]) rfl ?_
  refine g_iloadN X3 hx hby d15_16 rfl ?_
  refine g_aloadN X3 hx hby d15_17 rfl rfl ?_
  refine g_getF X3 hx hby hZ hown (host := "") (Or.inl w59_) Via.refl eh3 F1 d15_18 (fun T4 X4 e4 => ?_)
  refine g_arraylength X4 hx hby hZ e4 VCh d15_21 ?_
  by_cases hc22_5 : cap < ex2
  · skip
    refine g_icN X4 hx hby d15_22 (tlt hc22_5).2.2.2 ?_
    refine g_at 25 rfl rfl rfl ?_
    refine g_aloadN X4 hx hby d15_25 rfl rfl ?_
    refine g_aloadN X4 hx hby d15_26 rfl rfl ?_
    refine g_getF X4 hx hby hZ hown (host := "") (Or.inl w59_) Via.refl e4 F1 d15_27 (fun T6 X6 e6 => ?_)
    refine g_iconst X6 hx hby (2 : Int32) d15_30 rfl ?_
    refine g_aloadN X6 hx hby d15_31 rfl rfl ?_
    refine g_getF X6 hx hby hZ hown (host := "") (Or.inl w59_) Via.refl e6 F1 d15_32 (fun T7 X7 e7 => ?_)
    refine g_arraylength X7 hx hby hZ e7 VCh d15_35 ?_
    refine g_imul X7 hx hby d15_36 ?_
    refine g_iloadN X7 hx hby d15_37 rfl ?_
    refine g_static X7 hx hby hZ hown (rm_mmax l Z a0 hw [] ((2 : Int32) * cap) ex2 h0 n0 Z0 ) w127_ w128_ w129_ w130_ (by decide) e7 (by rw [hml]; rfl) [(.int ((2 : Int32) * cap)), (.int ex2)] (lenOf own_pd0 rfl) rfl rfl (Nat.le_of_ble_eq_true rfl) (Nat.le_of_ble_eq_true rfl) (Nat.le_of_ble_eq_true rfl) (Nat.le_of_ble_eq_true rfl) d15_38 (fun v8 T8 L8 X8 hQ8 => ?_)
    obtain ⟨rfl, N8q, eh8⟩ := hQ8
    have N8 := Fr.app N3 N8q
    have q1 := own_nl (B := 8400) (by omega) (by omega) hc22_5 (by omega) (by omega)
    refine g_static X8 hx hby hZ hown (rm_copyof_8400 l Z a0 hw [] ch kc cap vc (own_max ((2 : Int32) * cap) ex2) h0 n0 Z0 VCh (by omega) q1.1 q1.2.1) w131_ w132_ w133_ w134_ (by decide) eh8 (by rw [hml]; rfl) [(.ref ch), (.int (own_max ((2 : Int32) * cap) ex2))] (lenOf own_pd22 rfl) rfl rfl (Nat.le_of_ble_eq_true rfl) (Nat.le_of_ble_eq_true rfl) (Nat.le_of_ble_eq_true rfl) (Nat.le_of_ble_eq_true rfl) d15_41 (fun v9 T9 L9 X9 hQ9 => ?_)
    obtain ⟨N9q, K9, d9, kd9, vd9, rfl, ld9, Vd9, hl9⟩ := hQ9
    have N9 := Fr.app N8 N9q
    have f10 := (KE.keep K9)
    have f11 := (F1.keep K9 nin0)
    refine g_putF X9 hx hby hZ hown (host := "") (Or.inl w59_) Via.refl rfl f11 f10 (Or.inl w60_) w48_ (.array .char) (by decide) rfl rfl N9 gk d15_44 (fun T12 h12 X12 e12 W12 F12 N12 => ?_)
    refine g_aloadN X12 hx hby d15_47 rfl rfl ?_
    refine g_iconst X12 hx hby (0 : Int32) d15_48 rfl ?_
    refine g_aloadN X12 hx hby d15_49 rfl rfl ?_
    have f14 := ((OLD.keep K9 all0).wr W12 gk)
    have f15 := ((E.keep K9).wr W12)
    have ne16 : a ≠ ko := (Exa.ne E KE (by decide))
    have f17 := ((C.keep K9 nin0).other W12 (Or.inl ne16))
    have f18 := ((VF.keep K9 nin0).other W12 (Or.inl ne16))
    have ne19 : b ≠ ko := (Ne.symm (Exa.neArv KE VB w48_))
    have f20 := ((VB.keep K9 nin0).other W12 ne19)
    have z21 := (Nat.le_trans Z0 (Nat.le_trans K9.1 (Keep.of_wr W12).1))
    refine g_virtual X12 hx hby hZ hown (rm_lenN l Z a0 hw [] a b kb nn bs cz h12 n0 z21 O2 P5 f14 f15 f17 f18 f20) w86_ w87_ (notFace_of_selects (args := #[]) (mvT hZ w89_)) w89_ w88_ w1_ w90_ (by decide) e12 f15 (by rw [hml]; rfl) [] (lenOf own_pd16 rfl) rfl rfl (Nat.le_of_ble_eq_true rfl) (Nat.le_of_ble_eq_true rfl) (Nat.le_of_ble_eq_true rfl) (Nat.le_of_ble_eq_true rfl) d15_50 (fun v13 T13 L13 X13 hQ13 => ?_)
    obtain ⟨rfl, N13q, eh13⟩ := hQ13
    have N13 := Fr.app N12 N13q
    refine g_at 53 rfl rfl rfl ?_
    refine g_aloadN X13 hx hby d15_53 rfl rfl ?_
    refine g_getF X13 hx hby hZ hown (host := "") (Or.inl w59_) Via.refl eh13 F12 d15_54 (fun T22 X22 e22 => ?_)
    refine g_iloadN X22 hx hby d15_57 rfl ?_
    have ne24 : d9 ≠ ko := (Ne.symm (Nat.ne_of_lt (Nat.lt_of_lt_of_le KE.lt ld9)))
    have f25 := (Vd9.other W12 ne24)
    have g_d9 : n0 ≤ d9 := Nat.le_trans Z0 ld9
    have ne26 : b ≠ d9 := (Nat.ne_of_lt (Nat.lt_of_lt_of_le VB.lt ld9))
    refine g_virtual X22 hx hby hZ hown (rm_getc l Z a0 hw [] a b kb nn bs d9 kd9 (own_max ((2 : Int32) * cap) ex2) vd9 ex1 cz fz h12 n0 z21 O2 P5 f14 rfz O4 f15 f17 f18 f20 f25 hl9 p3 p5 (by omega) g_d9 ne26) w96_ w97_ (notFace_of_selects (args := #[]) (mvT hZ w99_)) w99_ w98_ w1_ w100_ (by decide) e22 f15 (by rw [hml]; rfl) [(.int (0 : Int32)), (.int nn), (.ref d9), (.int ex1)] (lenOf own_pd23 rfl) rfl rfl (Nat.le_of_ble_eq_true rfl) (Nat.le_of_ble_eq_true rfl) (Nat.le_of_ble_eq_true rfl) (Nat.le_of_ble_eq_true rfl) d15_58 (fun v23 T23 L23 X23 hQ23 => ?_)
    obtain ⟨rfl, N23q, K23, vc23, Vc23, hl23⟩ := hQ23
    have N23 := Fr.app N13 N23q
    refine g_aloadN X23 hx hby d15_61 rfl rfl ?_
    have f27 := (((F3.keep K9 nin0).other W12 (Or.inr (slot_ne (Or.inl w65_) (Or.inl w60_) (by decide) (t := .int) (t' := (.array .char)) (by decide) (by decide)))).keep K23 (ninS (Ne.symm ne24) nin0))
    refine g_getF X23 hx hby hZ hown (host := "") (Or.inl w64_) Via.refl rfl f27 d15_62 (fun T28 X28 e28 => ?_)
    refine g_aloadN X28 hx hby d15_65 rfl rfl ?_
    have f29 := (((F2.keep K9 nin0).other W12 (Or.inr (slot_ne (Or.inl w63_) (Or.inl w60_) (by decide) (t := (.array .int)) (t' := (.array .char)) (by decide) (by decide)))).keep K23 (ninS (Ne.symm ne24) nin0))
    refine g_getF X28 hx hby hZ hown (host := "") (Or.inl w62_) Via.refl e28 f29 d15_66 (fun T30 X30 e30 => ?_)
    have ne31 : en ≠ ko := (Ne.symm (Exa.neArv KE VE w48_))
    have ne32 : en ≠ d9 := (Nat.ne_of_lt (Nat.lt_of_lt_of_le VE.lt ld9))
    have f33 := (((VE.keep K9 nin0).other W12 ne31).keep K23 (ninS ne32 nin0))
    refine g_arraylength X30 hx hby hZ e30 f33 d15_69 ?_
    refine g_icY X30 hx hby 90 d15_70 (feq (by decide : ¬ ((2 : Int32) = (128 : Int32)))).2 (by decide) (by decide) ?_
    refine g_aloadN X30 hx hby d15_90 rfl rfl ?_
    refine g_getF X30 hx hby hZ hown (host := "") (Or.inl w62_) Via.refl e30 f29 d15_91 (fun T34 X34 e34 => ?_)
    refine g_aloadN X34 hx hby d15_94 rfl rfl ?_
    refine g_getF X34 hx hby hZ hown (host := "") (Or.inl w64_) Via.refl e34 f27 d15_95 (fun T35 X35 e35 => ?_)
    refine g_iloadN X35 hx hby d15_98 rfl ?_
    refine g_iastore X35 hx hby hZ e35 f33 2 (ve.set 2 (.int ex2)) rfl ⟨by decide, by decide⟩ rfl (Nat.lt_of_lt_of_le (by decide) hve) N23 gen d15_99 (fun T36 h36 X36 e36 W36 V36 N36 => ?_)
    refine g_aloadN X36 hx hby d15_100 rfl rfl ?_
    refine g_dup X36 hx hby d15_101 rfl ?_
    have f37 := (f27.other W36 (Or.inl (Ne.symm ne31)))
    refine g_getF X36 hx hby hZ hown (host := "") (Or.inl w64_) Via.refl e36 f37 d15_102 (fun T38 X38 e38 => ?_)
    refine g_dup_x1 X38 hx hby d15_105 rfl rfl ?_
    refine g_iconst X38 hx hby (1 : Int32) d15_106 rfl ?_
    refine g_iadd X38 hx hby d15_107 ?_
    refine g_topI (3 : Int32) (by decide) ?_
    have f39 := (((f10.wr W12).keep K23).wr W36)
    refine g_putF X38 hx hby hZ hown (host := "") (Or.inl w64_) Via.refl e38 f37 f39 (Or.inl w65_) w48_ .int (by decide) rfl rfl N36 gk d15_108 (fun T40 h40 X40 e40 W40 F40 N40 => ?_)
    have f41 := (f39.wr W40)
    have f42 := (((F12.keep K23 (ninS (Ne.symm ne24) nin0)).other W36 (Or.inl (Ne.symm ne31))).other W40 (Or.inr (slot_ne (Or.inl w60_) (Or.inl w65_) (by decide) (t := (.array .char)) (t' := .int) (by decide) (by decide))))
    have f43 := ((f29.other W36 (Or.inl (Ne.symm ne31))).other W40 (Or.inr (slot_ne (Or.inl w63_) (Or.inl w65_) (by decide) (t := (.array .int)) (t' := .int) (by decide) (by decide))))
    have f44 := ((Vc23.other W36 (Ne.symm ne32)).other W40 ne24)
    have f45 := (V36.other W40 ne31)
    refine g_iret X40 hx hby Bd.returns Bd.notSynchronized d15_111 e40 (by decide) (by decide) ?_
    show (Q_kadd_2 Z ko ch en kc ke cap vc ve ex1 ex2 a b kb nn bs cz fz h0 n0) (some (.int (2 : Int32))) _ _
    exact ⟨rfl, N40, ((((((Keep.refl h0 [ko, ch, en]).trans K9 all0).wr W12 (Or.inl (List.mem_of_getElem? (i := 0) rfl))).trans K23 (allS (Or.inr (Nat.le_trans (Nat.le_refl _) ld9)) all0)).wr W36 (Or.inl (List.mem_of_getElem? (i := 2) rfl))).wr W40 (Or.inl (List.mem_of_getElem? (i := 0) rfl))), d9, kd9, _, _, Or.inr (Nat.le_trans (Nat.le_refl _) ld9), f41, f42, f43, F40, (by rw [own_grow, if_pos hc22_5]; exact f44), (by rw [own_grow, if_pos hc22_5]; exact hl23), f45, (by rw [List.length_set]; exact hve), own_setD (Nat.lt_of_lt_of_le (by decide) hve)⟩
  · skip
    refine g_icY X4 hx hby 47 d15_22 (flt hc22_5).2.2.2 (by decide) (by decide) ?_
    refine g_aloadN X4 hx hby d15_47 rfl rfl ?_
    refine g_iconst X4 hx hby (0 : Int32) d15_48 rfl ?_
    refine g_aloadN X4 hx hby d15_49 rfl rfl ?_
    refine g_virtual X4 hx hby hZ hown (rm_lenN l Z a0 hw [] a b kb nn bs cz h0 n0 Z0 O2 P5 OLD E C VF VB) w86_ w87_ (notFace_of_selects (args := #[]) (mvT hZ w89_)) w89_ w88_ w1_ w90_ (by decide) e4 E (by rw [hml]; rfl) [] (lenOf own_pd16 rfl) rfl rfl (Nat.le_of_ble_eq_true rfl) (Nat.le_of_ble_eq_true rfl) (Nat.le_of_ble_eq_true rfl) (Nat.le_of_ble_eq_true rfl) d15_50 (fun v46 T46 L46 X46 hQ46 => ?_)
    obtain ⟨rfl, N46q, eh46⟩ := hQ46
    have N46 := Fr.app N3 N46q
    refine g_aloadN X46 hx hby d15_53 rfl rfl ?_
    refine g_getF X46 hx hby hZ hown (host := "") (Or.inl w59_) Via.refl eh46 F1 d15_54 (fun T47 X47 e47 => ?_)
    refine g_iloadN X47 hx hby d15_57 rfl ?_
    refine g_virtual X47 hx hby hZ hown (rm_getc l Z a0 hw [] a b kb nn bs ch kc cap vc ex1 cz fz h0 n0 Z0 O2 P5 OLD rfz O4 E C VF VB VCh hl p3 p5 (by have q := hc22_5; rw [Int32.lt_iff_toInt_lt] at q; omega) gch nbc) w96_ w97_ (notFace_of_selects (args := #[]) (mvT hZ w99_)) w99_ w98_ w1_ w100_ (by decide) e47 E (by rw [hml]; rfl) [(.int (0 : Int32)), (.int nn), (.ref ch), (.int ex1)] (lenOf own_pd23 rfl) rfl rfl (Nat.le_of_ble_eq_true rfl) (Nat.le_of_ble_eq_true rfl) (Nat.le_of_ble_eq_true rfl) (Nat.le_of_ble_eq_true rfl) d15_58 (fun v48 T48 L48 X48 hQ48 => ?_)
    obtain ⟨rfl, N48q, K48, vc48, Vc48, hl48⟩ := hQ48
    have N48 := Fr.app N46 N48q
    refine g_aloadN X48 hx hby d15_61 rfl rfl ?_
    have ne49 : ko ≠ ch := (Exa.neArv (KE.keep K48) Vc48 w48_)
    have f50 := (F3.keep K48 (ninS ne49 nin0))
    refine g_getF X48 hx hby hZ hown (host := "") (Or.inl w64_) Via.refl rfl f50 d15_62 (fun T51 X51 e51 => ?_)
    refine g_aloadN X51 hx hby d15_65 rfl rfl ?_
    have f52 := (F2.keep K48 (ninS ne49 nin0))
    refine g_getF X51 hx hby hZ hown (host := "") (Or.inl w62_) Via.refl e51 f52 d15_66 (fun T53 X53 e53 => ?_)
    have f54 := (VE.keep K48 (ninS (Ne.symm nce) nin0))
    refine g_arraylength X53 hx hby hZ e53 f54 d15_69 ?_
    refine g_icY X53 hx hby 90 d15_70 (feq (by decide : ¬ ((2 : Int32) = (128 : Int32)))).2 (by decide) (by decide) ?_
    refine g_aloadN X53 hx hby d15_90 rfl rfl ?_
    refine g_getF X53 hx hby hZ hown (host := "") (Or.inl w62_) Via.refl e53 f52 d15_91 (fun T55 X55 e55 => ?_)
    refine g_aloadN X55 hx hby d15_94 rfl rfl ?_
    refine g_getF X55 hx hby hZ hown (host := "") (Or.inl w64_) Via.refl e55 f50 d15_95 (fun T56 X56 e56 => ?_)
    refine g_iloadN X56 hx hby d15_98 rfl ?_
    refine g_iastore X56 hx hby hZ e56 f54 2 (ve.set 2 (.int ex2)) rfl ⟨by decide, by decide⟩ rfl (Nat.lt_of_lt_of_le (by decide) hve) N48 gen d15_99 (fun T57 h57 X57 e57 W57 V57 N57 => ?_)
    refine g_aloadN X57 hx hby d15_100 rfl rfl ?_
    refine g_dup X57 hx hby d15_101 rfl ?_
    have ne58 : ko ≠ en := (Exa.neArv ((KE.keep K48).wr W57) V57 w48_)
    have f59 := (f50.other W57 (Or.inl ne58))
    refine g_getF X57 hx hby hZ hown (host := "") (Or.inl w64_) Via.refl e57 f59 d15_102 (fun T60 X60 e60 => ?_)
    refine g_dup_x1 X60 hx hby d15_105 rfl rfl ?_
    refine g_iconst X60 hx hby (1 : Int32) d15_106 rfl ?_
    refine g_iadd X60 hx hby d15_107 ?_
    refine g_topI (3 : Int32) (by decide) ?_
    have f61 := ((KE.keep K48).wr W57)
    refine g_putF X60 hx hby hZ hown (host := "") (Or.inl w64_) Via.refl e60 f59 f61 (Or.inl w65_) w48_ .int (by decide) rfl rfl N57 gk d15_108 (fun T62 h62 X62 e62 W62 F62 N62 => ?_)
    have f63 := (f61.wr W62)
    have f64 := (((F1.keep K48 (ninS ne49 nin0)).other W57 (Or.inl ne58)).other W62 (Or.inr (slot_ne (Or.inl w60_) (Or.inl w65_) (by decide) (t := (.array .char)) (t' := .int) (by decide) (by decide))))
    have f65 := ((f52.other W57 (Or.inl ne58)).other W62 (Or.inr (slot_ne (Or.inl w63_) (Or.inl w65_) (by decide) (t := (.array .int)) (t' := .int) (by decide) (by decide))))
    have f66 := ((Vc48.other W57 nce).other W62 (Ne.symm ne49))
    have f67 := (V57.other W62 (Ne.symm ne58))
    refine g_iret X62 hx hby Bd.returns Bd.notSynchronized d15_111 e62 (by decide) (by decide) ?_
    show (Q_kadd_2 Z ko ch en kc ke cap vc ve ex1 ex2 a b kb nn bs cz fz h0 n0) (some (.int (2 : Int32))) _ _
    exact ⟨rfl, N62, ((((Keep.refl h0 [ko, ch, en]).trans K48 (allS (Or.inl (List.mem_of_getElem? (i := 1) rfl)) all0)).wr W57 (Or.inl (List.mem_of_getElem? (i := 2) rfl))).wr W62 (Or.inl (List.mem_of_getElem? (i := 0) rfl))), ch, kc, _, _, Or.inl rfl, f63, f64, f65, F62, (by rw [own_grow, if_neg hc22_5]; exact f66), (by rw [own_grow, if_neg hc22_5]; exact hl48), f67, (by rw [List.length_set]; exact hve), own_setD (Nat.lt_of_lt_of_le (by decide) hve)⟩

def Q_law (Z : State) (pa : Int32) (pb : Int32) (pc0 : Int32) (pd : Int32) (fz : Value) (cz : Int32) (h0 : Heap) (n0 : Nat) (v : Option Value) (h : Heap) (L : List Loc) : Prop := v = some (.int 1) ∧ Fr n0 L
set_option maxRecDepth 65536 in
set_option maxHeartbeats 40000000 in
theorem rm_law (l : Launch) (Z : State) (a0 : Array Value) (hw : ∀ d ∈ tables_1, d.before a0 Z = true) (ws : List Jvm.Cond) (pa : Int32) (pb : Int32) (pc0 : Int32) (pd : Int32) (fz : Value) (cz : Int32) (h0 : Heap) (n0 : Nat) (Z0 : n0 ≤ h0.size) (O2 : Sta Z Z.heap "java/lang/String" "COMPACT_STRINGS" "Z" (.int cz)) (P5 : ¬ cz = (0 : Int32)) (OLD : Old Z n0 h0) (rfz : Rf fz) (O4 : Sta Z Z.heap "jdk/internal/util/Preconditions" "SIOOBE_FORMATTER" "Ljava/util/function/BiFunction;" fz) (hheld : Jvm.Lit.constHeld Z "com/example/invix/invix/sort/KeyBufferMemoryPinLaw" 7) (hcw : Jvm.Lit.compactW.before a0 Z = true) :
    MetFree l Jvm.Pilot.@@N@@.x (head1 (Jvm.Cond.code Jvm.Pilot.@@N@@.x Jvm.Pilot.@@N@@.code Jvm.Pilot.@@N@@.maxLocals Jvm.Pilot.@@N@@.ret :: ws) room_1) (fun aa_ U => aa_ = #[(.int pa), (.int pb), (.int pc0), (.int pd)] ∧ (Z.Warmed39 U.vm ∧ U.vm.interned = Z.vm.interned) ∧ U.heap = h0) (fun _ _ _ _ _ => True) (fun _ U o_ U' => RetW U (Q_law Z pa pb pc0 pd fz cz h0 n0) 48 47680 U' o_) := by
  refine MetFree.of_bodySF (plainFor_of_name own_pn0) hisR ?_
  intro p e s m args below meth c_ s₁ Bd hml0 hP hK
  obtain ⟨rfl, ⟨hZ, hI0⟩, hh⟩ := hP
  have hx := Bd.exec
  have hby := Bd.bytes
  have hml : c_.maxLocals = 28 := hml0
  have hS0 : s.Since s.vm 0 := (State.WarmedH.refl s).since 0
  have hown : s.vm.findClass "com/example/invix/invix/sort/KeyBufferMemoryPinLaw" = some m.cls := findClass_of_methodNamed Bd.named
  have hnm := (name_of_methodNamed Bd.named Bd.method).1
  have X0 : Stand p l e room_1 (s.setVm s.vm) m #[(.int pa), (.int pb), (.int pc0), (.int pd)] below meth c_ s₁ [] 0 0 := Stand.of_body Bd
  have e0 : s₁.heap = h0 := by rw [← hh, Bd.state]; rfl
  have N0 := Fr.nil n0
  have w0_ := hw _ (List.mem_of_getElem? (i := 0) rfl)
  have w1_ := hw _ (List.mem_of_getElem? (i := 1) rfl)
  have w2_ := hw _ (List.mem_of_getElem? (i := 2) rfl)
  have w4_ := hw _ (List.mem_of_getElem? (i := 4) rfl)
  have w5_ := hw _ (List.mem_of_getElem? (i := 5) rfl)
  have w8_ := hw _ (List.mem_of_getElem? (i := 8) rfl)
  have w9_ := hw _ (List.mem_of_getElem? (i := 9) rfl)
  have w10_ := hw _ (List.mem_of_getElem? (i := 10) rfl)
  have w29_ := hw _ (List.mem_of_getElem? (i := 29) rfl)
  have w30_ := hw _ (List.mem_of_getElem? (i := 30) rfl)
  have w31_ := hw _ (List.mem_of_getElem? (i := 31) rfl)
  have w32_ := hw _ (List.mem_of_getElem? (i := 32) rfl)
  have w33_ := hw _ (List.mem_of_getElem? (i := 33) rfl)
  have w47_ := hw _ (List.mem_of_getElem? (i := 47) rfl)
  have w48_ := hw _ (List.mem_of_getElem? (i := 48) rfl)
  have w49_ := hw _ (List.mem_of_getElem? (i := 49) rfl)
  have w50_ := hw _ (List.mem_of_getElem? (i := 50) rfl)
  have w51_ := hw _ (List.mem_of_getElem? (i := 51) rfl)
  have w52_ := hw _ (List.mem_of_getElem? (i := 52) rfl)
  have w55_ := hw _ (List.mem_of_getElem? (i := 55) rfl)
  have w56_ := hw _ (List.mem_of_getElem? (i := 56) rfl)
  have w57_ := hw _ (List.mem_of_getElem? (i := 57) rfl)
  have w58_ := hw _ (List.mem_of_getElem? (i := 58) rfl)
  have w60_ := hw _ (List.mem_of_getElem? (i := 60) rfl)
  have w63_ := hw _ (List.mem_of_getElem? (i := 63) rfl)
  have w65_ := hw _ (List.mem_of_getElem? (i := 65) rfl)
  have w66_ := hw _ (List.mem_of_getElem? (i := 66) rfl)
  have w67_ := hw _ (List.mem_of_getElem? (i := 67) rfl)
  have w68_ := hw _ (List.mem_of_getElem? (i := 68) rfl)
  have w69_ := hw _ (List.mem_of_getElem? (i := 69) rfl)
  have w70_ := hw _ (List.mem_of_getElem? (i := 70) rfl)
  have w73_ := hw _ (List.mem_of_getElem? (i := 73) rfl)
  have w74_ := hw _ (List.mem_of_getElem? (i := 74) rfl)
  have w75_ := hw _ (List.mem_of_getElem? (i := 75) rfl)
  have w76_ := hw _ (List.mem_of_getElem? (i := 76) rfl)
  have w77_ := hw _ (List.mem_of_getElem? (i := 77) rfl)
  have w78_ := hw _ (List.mem_of_getElem? (i := 78) rfl)
  have w79_ := hw _ (List.mem_of_getElem? (i := 79) rfl)
  have w80_ := hw _ (List.mem_of_getElem? (i := 80) rfl)
  have w81_ := hw _ (List.mem_of_getElem? (i := 81) rfl)
  have w142_ := hw _ (List.mem_of_getElem? (i := 142) rfl)
  have w143_ := hw _ (List.mem_of_getElem? (i := 143) rfl)
  have w144_ := hw _ (List.mem_of_getElem? (i := 144) rfl)
  have w145_ := hw _ (List.mem_of_getElem? (i := 145) rfl)
  have w146_ := hw _ (List.mem_of_getElem? (i := 146) rfl)
  have w147_ := hw _ (List.mem_of_getElem? (i := 147) rfl)
  have w148_ := hw _ (List.mem_of_getElem? (i := 148) rfl)
  have w150_ := hw _ (List.mem_of_getElem? (i := 150) rfl)
  have w151_ := hw _ (List.mem_of_getElem? (i := 151) rfl)
  have w152_ := hw _ (List.mem_of_getElem? (i := 152) rfl)
  have hkeep : ∀ (b : Addr) (cl : Cell), Z.heap[b]? = some cl → s.heap[b]? = some cl := fun b cl q => by rw [hh]; exact OLD.2.2 b cl q
  have wS : ∀ d ∈ Bundle.stringAtoms, d.before a0 Z = true := fun d hd => hw d ((by decide +kernel : ∀ d ∈ Bundle.stringAtoms, d ∈ tables_1) d hd)
  show Go p e below (RetW s (Q_law Z pa pb pc0 pd fz cz h0 n0) 48 47680) (s₁.setTop (entryFrame m #[(.int pa), (.int pb), (.int pc0), (.int pd)] maxLocals))
  rw [show entryFrame m #[(.int pa), (.int pb), (.int pc0), (.int pd)] maxLocals = mkF m 0 #[.val (.int pa), .val (.int pb), .val (.int pc0), .val (.int pd), .unset, .unset, .unset, .unset, .unset, .unset, .unset, .unset, .unset, .unset, .unset, .unset, .unset, .unset, .unset, .unset, .unset, .unset, .unset, .unset, .unset, .unset, .unset, .unset] [] from by first | (simp [entryFrame, mkF, argsToLocals, Value.category, maxLocals]; done) | rfl]
  refine g_ldcSV X0 hx hby hZ hown w0_ wS e0 hS0 (Nat.zero_le _) (Fr.nil _) hkeep hI0 hheld hcw [] (0 : Int32) ⟨by decide, by decide⟩ (by decide) rfl 0 (by decide) (by decide) (by decide) (by decide) at_0 (fun a1 T1 h1 kk1 t1 kt1 X1 e1 E1 hS1 hk1 hZ1 ho1 Es1 Cs1 Vs1 Bs1 Li1 => ?_)
  refine g_astore X1 hx hby at_2 rfl (l' := #[.val (.int pa), .val (.int pb), .val (.int pc0), .val (.int pd), .val (.ref a1), .unset, .unset, .unset, .unset, .unset, .unset, .unset, .unset, .unset, .unset, .unset, .unset, .unset, .unset, .unset, .unset, .unset, .unset, .unset, .unset, .unset, .unset, .unset]) rfl ?_
  refine g_iloadN X1 hx hby at_4 rfl ?_
  refine g_sipush X1 hx hby (255 : Int32) at_5 rfl ?_
  refine g_iand X1 hx hby at_8 ?_
  refine g_i2c X1 hx hby at_9 ?_
  have f3 := (OLD.ext E1)
  have z4 := (Nat.le_trans Z0 E1.1)
  refine g_static X1 hx hby hZ1 ho1 (rm_valueof l Z a0 hw [] ((pd &&& (255 : Int32)).toUInt32.toUInt16.toUInt32.toInt32) cz h1 n0 z4 O2 P5 f3 (own_c255 _)) w8_ w9_ w1_ w10_ (by decide) e1 (by rw [hml]; rfl) [(.int ((pd &&& (255 : Int32)).toUInt32.toUInt16.toUInt32.toInt32))] (lenOf own_pd4 rfl) rfl rfl (Nat.le_of_ble_eq_true rfl) (Nat.le_of_ble_eq_true rfl) (Nat.le_of_ble_eq_true rfl) (Nat.le_of_ble_eq_true rfl) at_10 (fun v2 T2 L2 X2 hQ2 => ?_)
  obtain ⟨N2q, K2, s2, t2, kb2, rfl, ls2, lo2, Es2, Cs2, Vs2, Bs2⟩ := hQ2
  have N2 := Fr.app N0 N2q
  refine g_astore X2 hx hby at_13 rfl (l' := #[.val (.int pa), .val (.int pb), .val (.int pc0), .val (.int pd), .val (.ref a1), .val (.ref s2), .unset, .unset, .unset, .unset, .unset, .unset, .unset, .unset, .unset, .unset, .unset, .unset, .unset, .unset, .unset, .unset, .unset, .unset, .unset, .unset, .unset, .unset]) rfl ?_
  refine g_new X2 hx hby hZ1 ho1 w29_ w2_ w1_ rfl (by decide) (by decide) at_15 (fun T5 h5 b5 g5 X5 e5 E5 A5 D5 => ?_)
  have F_value_b5 : Fld Z h5 b5 "java/lang/String" "value" "[B" .null := D5 (Or.inr w4_) (ty := (.array .byte)) (by decide)
  have F_coder_b5 : Fld Z h5 b5 "java/lang/String" "coder" "B" (.int (0 : Int32)) := D5 (Or.inr w5_) (ty := .byte) (by decide)
  refine g_dup X5 hx hby at_18 rfl ?_
  refine g_sipush X5 hx hby (1024 : Int32) at_19 rfl ?_
  refine g_newarray X5 hx hby hZ1 .char .char (.int (0 : Int32)) (List.replicate 1024 (.int (0 : Int32))) rfl rfl w30_ e5 (by decide) 1024 rfl (by decide) (by decide) (by decide) (by decide) at_22 (fun T6 h6 k6 b6 g6 X6 e6 E6 V6 => ?_)
  have f8 := (((f3.keep K2 all0).ext E5).ext E6)
  have f9 := (A5.ext E6)
  have f10 := (F_coder_b5.ext E6)
  have f11 := (F_value_b5.ext E6)
  have g_b5 : n0 ≤ b5 := Nat.le_trans (Nat.le_trans z4 K2.1) (Nat.le_of_eq g5)
  have z12 := (Nat.le_trans z4 (Nat.le_trans (Nat.le_trans K2.1 E5.1) E6.1))
  refine g_special X6 hx hby hZ1 ho1 (rm_iniN1_1024 l Z a0 hw [] b5 b6 k6 (List.replicate 1024 (.int (0 : Int32))) cz h6 n0 z12 O2 P5 f8 f9 f10 f11 g_b5 V6 (fun i hi => own_repD hi)) rfl rfl w31_ w32_ w1_ w33_ (by decide) e6 (by rw [hml]; rfl) [(.ref b6)] (lenOf own_pd9 rfl) rfl rfl (Nat.le_of_ble_eq_true rfl) (Nat.le_of_ble_eq_true rfl) (Nat.le_of_ble_eq_true rfl) (Nat.le_of_ble_eq_true rfl) at_24 (fun v7 T7 L7 X7 hQ7 => ?_)
  obtain ⟨rfl, N7q, K7, t7, kb7, bs7, lo7, Es7, Cs7, Vs7, Bs7⟩ := hQ7
  have N7 := Fr.app N2 N7q
  refine g_astore X7 hx hby at_27 rfl (l' := #[.val (.int pa), .val (.int pb), .val (.int pc0), .val (.int pd), .val (.ref a1), .val (.ref s2), .val (.ref b5), .unset, .unset, .unset, .unset, .unset, .unset, .unset, .unset, .unset, .unset, .unset, .unset, .unset, .unset, .unset, .unset, .unset, .unset, .unset, .unset, .unset]) rfl ?_
  refine g_new X7 hx hby hZ1 ho1 w29_ w2_ w1_ rfl (by decide) (by decide) at_29 (fun T13 h13 b13 g13 X13 e13 E13 A13 D13 => ?_)
  have F_value_b13 : Fld Z h13 b13 "java/lang/String" "value" "[B" .null := D13 (Or.inr w4_) (ty := (.array .byte)) (by decide)
  have F_coder_b13 : Fld Z h13 b13 "java/lang/String" "coder" "B" (.int (0 : Int32)) := D13 (Or.inr w5_) (ty := .byte) (by decide)
  refine g_at 32 rfl rfl rfl ?_
  refine g_dup X13 hx hby at_32 rfl ?_
  refine g_sipush X13 hx hby (2100 : Int32) at_33 rfl ?_
  refine g_newarray X13 hx hby hZ1 .char .char (.int (0 : Int32)) (List.replicate 2100 (.int (0 : Int32))) rfl rfl w30_ e13 (by decide) 2100 rfl (by decide) (by decide) (by decide) (by decide) at_36 (fun T14 h14 k14 b14 g14 X14 e14 E14 V14 => ?_)
  have f16 := (((f8.keep K7 (allS g_b5 all0)).ext E13).ext E14)
  have f17 := (A13.ext E14)
  have f18 := (F_coder_b13.ext E14)
  have f19 := (F_value_b13.ext E14)
  have g_b13 : n0 ≤ b13 := Nat.le_trans (Nat.le_trans z12 K7.1) (Nat.le_of_eq g13)
  have z20 := (Nat.le_trans z12 (Nat.le_trans (Nat.le_trans K7.1 E13.1) E14.1))
  refine g_special X14 hx hby hZ1 ho1 (rm_iniN1_2100 l Z a0 hw [] b13 b14 k14 (List.replicate 2100 (.int (0 : Int32))) cz h14 n0 z20 O2 P5 f16 f17 f18 f19 g_b13 V14 (fun i hi => own_repD hi)) rfl rfl w31_ w32_ w1_ w33_ (by decide) e14 (by rw [hml]; rfl) [(.ref b14)] (lenOf own_pd9 rfl) rfl rfl (Nat.le_of_ble_eq_true rfl) (Nat.le_of_ble_eq_true rfl) (Nat.le_of_ble_eq_true rfl) (Nat.le_of_ble_eq_true rfl) at_38 (fun v15 T15 L15 X15 hQ15 => ?_)
  obtain ⟨rfl, N15q, K15, t15, kb15, bs15, lo15, Es15, Cs15, Vs15, Bs15⟩ := hQ15
  have N15 := Fr.app N7 N15q
  refine g_astore X15 hx hby at_41 rfl (l' := #[.val (.int pa), .val (.int pb), .val (.int pc0), .val (.int pd), .val (.ref a1), .val (.ref s2), .val (.ref b5), .val (.ref b13), .unset, .unset, .unset, .unset, .unset, .unset, .unset, .unset, .unset, .unset, .unset, .unset, .unset, .unset, .unset, .unset, .unset, .unset, .unset, .unset]) rfl ?_
  refine g_iloadN X15 hx hby at_43 rfl ?_
  refine g_iconst X15 hx hby (3 : Int32) at_44 rfl ?_
  refine g_iand X15 hx hby at_45 ?_
  refine g_istore X15 hx hby at_46 (l' := #[.val (.int pa), .val (.int pb), .val (.int pc0), .val (.int pd), .val (.ref a1), .val (.ref s2), .val (.ref b5), .val (.ref b13), .val (.int (pa &&& (3 : Int32))), .unset, .unset, .unset, .unset, .unset, .unset, .unset, .unset, .unset, .unset, .unset, .unset, .unset, .unset, .unset, .unset, .unset, .unset, .unset]) rfl ?_
  refine g_iloadN X15 hx hby at_48 rfl ?_
  refine g_iconst X15 hx hby (3 : Int32) at_49 rfl ?_
  refine g_iand X15 hx hby at_50 ?_
  refine g_istore X15 hx hby at_51 (l' := #[.val (.int pa), .val (.int pb), .val (.int pc0), .val (.int pd), .val (.ref a1), .val (.ref s2), .val (.ref b5), .val (.ref b13), .val (.int (pa &&& (3 : Int32))), .val (.int (pb &&& (3 : Int32))), .unset, .unset, .unset, .unset, .unset, .unset, .unset, .unset, .unset, .unset, .unset, .unset, .unset, .unset, .unset, .unset, .unset, .unset]) rfl ?_
  refine g_iloadN X15 hx hby at_53 rfl ?_
  refine g_iconst X15 hx hby (3 : Int32) at_54 rfl ?_
  refine g_iand X15 hx hby at_55 ?_
  refine g_istore X15 hx hby at_56 (l' := #[.val (.int pa), .val (.int pb), .val (.int pc0), .val (.int pd), .val (.ref a1), .val (.ref s2), .val (.ref b5), .val (.ref b13), .val (.int (pa &&& (3 : Int32))), .val (.int (pb &&& (3 : Int32))), .val (.int (pc0 &&& (3 : Int32))), .unset, .unset, .unset, .unset, .unset, .unset, .unset, .unset, .unset, .unset, .unset, .unset, .unset, .unset, .unset, .unset, .unset]) rfl ?_
  obtain ⟨sa, e_sa⟩ : ∃ z, z = (pa &&& (3 : Int32)) := ⟨_, rfl⟩
  rw [← e_sa]
  clear e_sa
  obtain ⟨sb, e_sb⟩ : ∃ z, z = (pb &&& (3 : Int32)) := ⟨_, rfl⟩
  rw [← e_sb]
  clear e_sb
  obtain ⟨sc, e_sc⟩ : ∃ z, z = (pc0 &&& (3 : Int32)) := ⟨_, rfl⟩
  rw [← e_sc]
  clear e_sc
  refine g_new X15 hx hby hZ1 ho1 w47_ w48_ w49_ rfl (by decide) (by decide) at_58 (fun T21 h21 b21 g21 X21 e21 E21 A21 D21 => ?_)
  have F_characters_b21 : Fld Z h21 b21 "com/example/invix/invix/sort/KeyBuffer" "characters" "[C" .null := D21 (Or.inl w60_) (ty := (.array .char)) (by decide)
  have F_ends_b21 : Fld Z h21 b21 "com/example/invix/invix/sort/KeyBuffer" "ends" "[I" .null := D21 (Or.inl w63_) (ty := (.array .int)) (by decide)
  have F_count_b21 : Fld Z h21 b21 "com/example/invix/invix/sort/KeyBuffer" "count" "I" (.int (0 : Int32)) := D21 (Or.inl w65_) (ty := .int) (by decide)
  refine g_dup X21 hx hby at_61 rfl ?_
  have g_b21 : n0 ≤ b21 := Nat.le_trans (Nat.le_trans z20 K15.1) (Nat.le_of_eq g21)
  have z23 := (Nat.le_trans z20 (Nat.le_trans K15.1 E21.1))
  refine g_special X21 hx hby hZ1 ho1 (rm_kini l Z a0 hw [] b21 h21 n0 z23 A21 F_characters_b21 F_ends_b21 F_count_b21 g_b21) rfl rfl w50_ w51_ w49_ w52_ (by decide) e21 (by rw [hml]; rfl) [] (lenOf own_pd10 rfl) rfl rfl (Nat.le_of_ble_eq_true rfl) (Nat.le_of_ble_eq_true rfl) (Nat.le_of_ble_eq_true rfl) (Nat.le_of_ble_eq_true rfl) at_62 (fun v22 T22 L22 X22 hQ22 => ?_)
  obtain ⟨rfl, N22q, K22, ch22, en22, kc22, ke22, lc22, le22, nce22, kE22, kC22, kN22, kK22, VC22, VE22⟩ := hQ22
  have N22 := Fr.app N15 N22q
  refine g_at 65 rfl rfl rfl ?_
  refine g_astore X22 hx hby at_65 rfl (l' := #[.val (.int pa), .val (.int pb), .val (.int pc0), .val (.int pd), .val (.ref a1), .val (.ref s2), .val (.ref b5), .val (.ref b13), .val (.int sa), .val (.int sb), .val (.int sc), .val (.ref b21), .unset, .unset, .unset, .unset, .unset, .unset, .unset, .unset, .unset, .unset, .unset, .unset, .unset, .unset, .unset, .unset]) rfl ?_
  refine g_aload X22 hx hby at_67 rfl rfl ?_
  have z25 := (Nat.le_trans z23 K22.1)
  have f26 := (A21.keep K22)
  refine g_virtual X22 hx hby hZ1 ho1 (rm_memory l Z a0 hw [] b21 ch22 en22 kc22 ke22 (1024 : Int32) (List.replicate 1024 (.int (0 : Int32))) (List.replicate 128 (.int (0 : Int32))) T22.heap n0 z25 kC22 kN22 VC22 VE22) w66_ w67_ (notFace_of_selects (args := #[]) (mvT hZ1 w69_)) w69_ w68_ w49_ w70_ (by decide) rfl f26 (by rw [hml]; rfl) [] (lenOf own_pd11 rfl) rfl rfl (Nat.le_of_ble_eq_true rfl) (Nat.le_of_ble_eq_true rfl) (Nat.le_of_ble_eq_true rfl) (Nat.le_of_ble_eq_true rfl) at_69 (fun v24 T24 L24 X24 hQ24 => ?_)
  obtain ⟨rfl, N24q, eh24⟩ := hQ24
  have N24 := Fr.app N22 N24q
  refine g_topJ (T := T24) (2560 : Int64) (by decide) ?_
  refine g_lstore X24 hx hby at_72 (l' := #[.val (.int pa), .val (.int pb), .val (.int pc0), .val (.int pd), .val (.ref a1), .val (.ref s2), .val (.ref b5), .val (.ref b13), .val (.int sa), .val (.int sb), .val (.int sc), .val (.ref b21), .val (.long (2560 : Int64)), .second, .unset, .unset, .unset, .unset, .unset, .unset, .unset, .unset, .unset, .unset, .unset, .unset, .unset, .unset]) rfl ?_
  refine g_aload X24 hx hby at_74 rfl rfl ?_
  refine g_iload X24 hx hby at_76 rfl ?_
  refine g_aload X24 hx hby at_78 rfl rfl ?_
  refine g_aload X24 hx hby at_80 rfl rfl ?_
  refine g_aload X24 hx hby at_82 rfl rfl ?_
  refine g_aload X24 hx hby at_84 rfl rfl ?_
  refine g_static X24 hx hby hZ1 ho1 (rm_pick l Z a0 hw [] sa a1 s2 b5 b13 T22.heap n0 z25 ) w73_ w74_ w75_ w76_ (by decide) eh24 (by rw [hml]; rfl) [(.int sa), (.ref a1), (.ref s2), (.ref b5), (.ref b13)] (lenOf own_pd12 rfl) rfl rfl (Nat.le_of_ble_eq_true rfl) (Nat.le_of_ble_eq_true rfl) (Nat.le_of_ble_eq_true rfl) (Nat.le_of_ble_eq_true rfl) at_86 (fun v27 T27 L27 X27 hQ27 => ?_)
  obtain ⟨rfl, N27q, eh27⟩ := hQ27
  have N27 := Fr.app N24 N27q
  have f29 := (((((((((Es1.keep K2).ext E5).ext E6).keep K7).ext E13).ext E14).keep K15).ext E21).keep K22)
  have ne30 : a1 ≠ b5 := (Nat.ne_of_lt (Nat.lt_of_lt_of_le Es1.lt (Nat.le_trans K2.1 (Nat.le_of_eq g5))))
  have ne31 : a1 ≠ b13 := (Nat.ne_of_lt (Nat.lt_of_lt_of_le Es1.lt (Nat.le_trans (Nat.le_trans (Nat.le_trans (Nat.le_trans K2.1 E5.1) E6.1) K7.1) (Nat.le_of_eq g13))))
  have ne32 : a1 ≠ b21 := (Nat.ne_of_lt (Nat.lt_of_lt_of_le Es1.lt (Nat.le_trans (Nat.le_trans (Nat.le_trans (Nat.le_trans (Nat.le_trans (Nat.le_trans (Nat.le_trans K2.1 E5.1) E6.1) K7.1) E13.1) E14.1) K15.1) (Nat.le_of_eq g21))))
  have f33 := (((((((((Cs1.keep K2 nin0).ext E5).ext E6).keep K7 (ninS ne30 nin0)).ext E13).ext E14).keep K15 (ninS ne31 nin0)).ext E21).keep K22 (ninS ne32 nin0))
  have f34 := (((((((((Vs1.keep K2 nin0).ext E5).ext E6).keep K7 (ninS ne30 nin0)).ext E13).ext E14).keep K15 (ninS ne31 nin0)).ext E21).keep K22 (ninS ne32 nin0))
  have ne35 : t1 ≠ b5 := (Nat.ne_of_lt (Nat.lt_of_lt_of_le Bs1.lt (Nat.le_trans K2.1 (Nat.le_of_eq g5))))
  have ne36 : t1 ≠ b13 := (Nat.ne_of_lt (Nat.lt_of_lt_of_le Bs1.lt (Nat.le_trans (Nat.le_trans (Nat.le_trans (Nat.le_trans K2.1 E5.1) E6.1) K7.1) (Nat.le_of_eq g13))))
  have ne37 : t1 ≠ b21 := (Nat.ne_of_lt (Nat.lt_of_lt_of_le Bs1.lt (Nat.le_trans (Nat.le_trans (Nat.le_trans (Nat.le_trans (Nat.le_trans (Nat.le_trans (Nat.le_trans K2.1 E5.1) E6.1) K7.1) E13.1) E14.1) K15.1) (Nat.le_of_eq g21))))
  have f38 := (((((((((Bs1.keep K2 nin0).ext E5).ext E6).keep K7 (ninS ne35 nin0)).ext E13).ext E14).keep K15 (ninS ne36 nin0)).ext E21).keep K22 (ninS ne37 nin0))
  have f39 := ((((((((Es2.ext E5).ext E6).keep K7).ext E13).ext E14).keep K15).ext E21).keep K22)
  have ne40 : s2 ≠ b5 := (Nat.ne_of_lt (Nat.lt_of_lt_of_le Es2.lt (Nat.le_of_eq g5)))
  have ne41 : s2 ≠ b13 := (Nat.ne_of_lt (Nat.lt_of_lt_of_le Es2.lt (Nat.le_trans (Nat.le_trans (Nat.le_trans E5.1 E6.1) K7.1) (Nat.le_of_eq g13))))
  have ne42 : s2 ≠ b21 := (Nat.ne_of_lt (Nat.lt_of_lt_of_le Es2.lt (Nat.le_trans (Nat.le_trans (Nat.le_trans (Nat.le_trans (Nat.le_trans (Nat.le_trans E5.1 E6.1) K7.1) E13.1) E14.1) K15.1) (Nat.le_of_eq g21))))
  have f43 := ((((((((Cs2.ext E5).ext E6).keep K7 (ninS ne40 nin0)).ext E13).ext E14).keep K15 (ninS ne41 nin0)).ext E21).keep K22 (ninS ne42 nin0))
  have f44 := ((((((((Vs2.ext E5).ext E6).keep K7 (ninS ne40 nin0)).ext E13).ext E14).keep K15 (ninS ne41 nin0)).ext E21).keep K22 (ninS ne42 nin0))
  have ne45 : t2 ≠ b5 := (Nat.ne_of_lt (Nat.lt_of_lt_of_le Bs2.lt (Nat.le_of_eq g5)))
  have ne46 : t2 ≠ b13 := (Nat.ne_of_lt (Nat.lt_of_lt_of_le Bs2.lt (Nat.le_trans (Nat.le_trans (Nat.le_trans E5.1 E6.1) K7.1) (Nat.le_of_eq g13))))
  have ne47 : t2 ≠ b21 := (Nat.ne_of_lt (Nat.lt_of_lt_of_le Bs2.lt (Nat.le_trans (Nat.le_trans (Nat.le_trans (Nat.le_trans (Nat.le_trans (Nat.le_trans E5.1 E6.1) K7.1) E13.1) E14.1) K15.1) (Nat.le_of_eq g21))))
  have f48 := ((((((((Bs2.ext E5).ext E6).keep K7 (ninS ne45 nin0)).ext E13).ext E14).keep K15 (ninS ne46 nin0)).ext E21).keep K22 (ninS ne47 nin0))
  have f49 := ((((((f9.keep K7).ext E13).ext E14).keep K15).ext E21).keep K22)
  have ne50 : b5 ≠ b13 := (Nat.ne_of_lt (Nat.lt_of_lt_of_le A5.lt (Nat.le_trans (Nat.le_trans E6.1 K7.1) (Nat.le_of_eq g13))))
  have ne51 : b5 ≠ b21 := (Nat.ne_of_lt (Nat.lt_of_lt_of_le A5.lt (Nat.le_trans (Nat.le_trans (Nat.le_trans (Nat.le_trans (Nat.le_trans E6.1 K7.1) E13.1) E14.1) K15.1) (Nat.le_of_eq g21))))
  have f52 := (((((Cs7.ext E13).ext E14).keep K15 (ninS ne50 nin0)).ext E21).keep K22 (ninS ne51 nin0))
  have f53 := (((((Vs7.ext E13).ext E14).keep K15 (ninS ne50 nin0)).ext E21).keep K22 (ninS ne51 nin0))
  have ne54 : t7 ≠ b13 := (Nat.ne_of_lt (Nat.lt_of_lt_of_le Bs7.lt (Nat.le_of_eq g13)))
  have ne55 : t7 ≠ b21 := (Nat.ne_of_lt (Nat.lt_of_lt_of_le Bs7.lt (Nat.le_trans (Nat.le_trans (Nat.le_trans E13.1 E14.1) K15.1) (Nat.le_of_eq g21))))
  have f56 := (((((Bs7.ext E13).ext E14).keep K15 (ninS ne54 nin0)).ext E21).keep K22 (ninS ne55 nin0))
  have f57 := (((f17.keep K15).ext E21).keep K22)
  have ne58 : b13 ≠ b21 := (Nat.ne_of_lt (Nat.lt_of_lt_of_le A13.lt (Nat.le_trans (Nat.le_trans E14.1 K15.1) (Nat.le_of_eq g21))))
  have f59 := ((Cs15.ext E21).keep K22 (ninS ne58 nin0))
  have f60 := ((Vs15.ext E21).keep K22 (ninS ne58 nin0))
  have ne61 : t15 ≠ b21 := (Nat.ne_of_lt (Nat.lt_of_lt_of_le Bs15.lt (Nat.le_of_eq g21)))
  have f62 := ((Bs15.ext E21).keep K22 (ninS ne61 nin0))
  have PS28 := own_pickS sa ⟨f29, f33, f34, f38⟩ ⟨f39, f43, f44, f48⟩ ⟨f49, f52, f53, f56⟩ ⟨f57, f59, f60, f62⟩
  have lb28 := own_lfb sa
  have eb28 : ((own_lf sa)).toInt ≤ 2100 ∧ 0 ≤ ((own_lf sa)).toInt := ⟨lb28.2, lb28.1⟩
  have ne63 : t1 ≠ ch22 := (Nat.ne_of_lt (Nat.lt_of_lt_of_le Bs1.lt (Nat.le_trans (Nat.le_trans (Nat.le_trans (Nat.le_trans (Nat.le_trans (Nat.le_trans (Nat.le_trans (Nat.le_trans K2.1 E5.1) E6.1) K7.1) E13.1) E14.1) K15.1) E21.1) lc22)))
  have ne64 : t2 ≠ ch22 := (Nat.ne_of_lt (Nat.lt_of_lt_of_le Bs2.lt (Nat.le_trans (Nat.le_trans (Nat.le_trans (Nat.le_trans (Nat.le_trans (Nat.le_trans (Nat.le_trans E5.1 E6.1) K7.1) E13.1) E14.1) K15.1) E21.1) lc22)))
  have ne65 : t7 ≠ ch22 := (Nat.ne_of_lt (Nat.lt_of_lt_of_le Bs7.lt (Nat.le_trans (Nat.le_trans (Nat.le_trans (Nat.le_trans E13.1 E14.1) K15.1) E21.1) lc22)))
  have ne66 : t15 ≠ ch22 := (Nat.ne_of_lt (Nat.lt_of_lt_of_le Bs15.lt (Nat.le_trans E21.1 lc22)))
  have g_ch22 : n0 ≤ ch22 := Nat.le_trans z23 lc22
  have g_en22 : n0 ≤ en22 := Nat.le_trans z23 le22
  have f67 := (((f16.keep K15 (allS g_b13 all0)).ext E21).keep K22 (allS g_b21 all0))
  refine g_virtual X27 hx hby hZ1 ho1 (rm_kadd_0 l Z a0 hw [] b21 ch22 en22 kc22 ke22 (1024 : Int32) (List.replicate 1024 (.int (0 : Int32))) (List.replicate 128 (.int (0 : Int32))) (0 : Int32) (own_lf sa) (own_pick sa a1 s2 b5 b13) (own_pick sa t1 t2 t7 t15) (own_pick sa kt1 kb2 kb7 kb15) (own_lf sa) (own_pick sa [] [(.int (nar .byte (((pd &&& (255 : Int32)).toUInt32.toUInt16.toUInt32.toInt32).toInt8.toInt32)))] bs7 bs15) cz fz T22.heap n0 z25 O2 P5 f67 rfz O4 f26 kC22 kN22 kK22 VC22 (by rw [List.length_replicate]; exact Nat.le_of_ble_eq_true rfl) VE22 (by rw [List.length_replicate]; exact Nat.le_refl _) rfl (by simp) g_b21 g_ch22 g_en22 nce22 (own_pickP (P := fun z : Addr => z ≠ ch22) sa ne63 ne64 ne65 ne66) (by decide) (by decide) (by decide) (by decide) lb28.1 lb28.2 PS28.1 PS28.2.1 PS28.2.2.1 PS28.2.2.2) w77_ w78_ (notFace_of_selects (args := #[]) (mvT hZ1 w80_)) w80_ w79_ w49_ w81_ (by decide) eh27 f26 (by rw [hml]; rfl) [(.ref (own_pick sa a1 s2 b5 b13))] (lenOf own_pd24 rfl) rfl rfl (Nat.le_of_ble_eq_true rfl) (Nat.le_of_ble_eq_true rfl) (Nat.le_of_ble_eq_true rfl) (Nat.le_of_ble_eq_true rfl) at_89 (fun v28 T28 L28 X28 hQ28 => ?_)
  obtain ⟨rfl, N28q, K28, ch28, kc28, vc28, ve28, hch28, kE28, kC28, kN28, kK28, VC28, hl28, VE28, hve28, hv28⟩ := hQ28
  have N28 := Fr.app N27 N28q
  have nt28_t1 : t1 ≠ ch28 := own_nech ne63 f38.lt hch28
  have nt28_t2 : t2 ≠ ch28 := own_nech ne64 f48.lt hch28
  have nt28_t7 : t7 ≠ ch28 := own_nech ne65 f56.lt hch28
  have nt28_t15 : t15 ≠ ch28 := own_nech ne66 f62.lt hch28
  have nn28 : en22 ≠ ch28 := own_nech (Ne.symm nce22) VE22.lt hch28
  have lo28 := own_loch g_ch22 z25 hch28
  have cb28 := own_growb (cap := (1024 : Int32)) (e := (own_lf sa)) (B := 2100) (by decide) (by decide) (by decide) (by omega)
  refine g_at 92 rfl rfl rfl ?_
  refine g_pop X28 hx hby at_92 rfl ?_
  refine g_aload X28 hx hby at_93 rfl rfl ?_
  have z69 := (Nat.le_trans z25 K28.1)
  have f70 := (f26.keep K28)
  refine g_virtual X28 hx hby hZ1 ho1 (rm_memory l Z a0 hw [] b21 ch28 en22 kc28 ke22 (own_grow (1024 : Int32) (own_lf sa)) vc28 ve28 T28.heap n0 z69 kC28 kN28 VC28 VE28) w66_ w67_ (notFace_of_selects (args := #[]) (mvT hZ1 w69_)) w69_ w68_ w49_ w70_ (by decide) rfl f70 (by rw [hml]; rfl) [] (lenOf own_pd11 rfl) rfl rfl (Nat.le_of_ble_eq_true rfl) (Nat.le_of_ble_eq_true rfl) (Nat.le_of_ble_eq_true rfl) (Nat.le_of_ble_eq_true rfl) at_95 (fun v68 T68 L68 X68 hQ68 => ?_)
  obtain ⟨rfl, N68q, eh68⟩ := hQ68
  have N68 := Fr.app N28 N68q
  refine g_lstore X68 hx hby at_98 (l' := #[.val (.int pa), .val (.int pb), .val (.int pc0), .val (.int pd), .val (.ref a1), .val (.ref s2), .val (.ref b5), .val (.ref b13), .val (.int sa), .val (.int sb), .val (.int sc), .val (.ref b21), .val (.long (2560 : Int64)), .second, .val (.long (((2 : Int64) * ((own_grow (1024 : Int32) (own_lf sa)).toInt64)) + (512 : Int64))), .second, .unset, .unset, .unset, .unset, .unset, .unset, .unset, .unset, .unset, .unset, .unset, .unset]) rfl ?_
  refine g_aload X68 hx hby at_100 rfl rfl ?_
  refine g_iload X68 hx hby at_102 rfl ?_
  refine g_aload X68 hx hby at_104 rfl rfl ?_
  refine g_aload X68 hx hby at_106 rfl rfl ?_
  refine g_aload X68 hx hby at_108 rfl rfl ?_
  refine g_aload X68 hx hby at_110 rfl rfl ?_
  refine g_static X68 hx hby hZ1 ho1 (rm_pick l Z a0 hw [] sb a1 s2 b5 b13 T28.heap n0 z69 ) w73_ w74_ w75_ w76_ (by decide) eh68 (by rw [hml]; rfl) [(.int sb), (.ref a1), (.ref s2), (.ref b5), (.ref b13)] (lenOf own_pd12 rfl) rfl rfl (Nat.le_of_ble_eq_true rfl) (Nat.le_of_ble_eq_true rfl) (Nat.le_of_ble_eq_true rfl) (Nat.le_of_ble_eq_true rfl) at_112 (fun v71 T71 L71 X71 hQ71 => ?_)
  obtain ⟨rfl, N71q, eh71⟩ := hQ71
  have N71 := Fr.app N68 N71q
  have f73 := (f29.keep K28)
  have ne74 : a1 ≠ en22 := (Nat.ne_of_lt (Nat.lt_of_lt_of_le Es1.lt (Nat.le_trans (Nat.le_trans (Nat.le_trans (Nat.le_trans (Nat.le_trans (Nat.le_trans (Nat.le_trans (Nat.le_trans K2.1 E5.1) E6.1) K7.1) E13.1) E14.1) K15.1) E21.1) le22)))
  have ne75 : a1 ≠ ch22 := (Nat.ne_of_lt (Nat.lt_of_lt_of_le Es1.lt (Nat.le_trans (Nat.le_trans (Nat.le_trans (Nat.le_trans (Nat.le_trans (Nat.le_trans (Nat.le_trans (Nat.le_trans K2.1 E5.1) E6.1) K7.1) E13.1) E14.1) K15.1) E21.1) lc22)))
  have f76 := (f33.keep K28 (ninS ne32 (ninS ne75 (ninS ne74 nin0))))
  have f77 := (f34.keep K28 (ninS ne32 (ninS ne75 (ninS ne74 nin0))))
  have ne78 : t1 ≠ en22 := (Nat.ne_of_lt (Nat.lt_of_lt_of_le Bs1.lt (Nat.le_trans (Nat.le_trans (Nat.le_trans (Nat.le_trans (Nat.le_trans (Nat.le_trans (Nat.le_trans (Nat.le_trans K2.1 E5.1) E6.1) K7.1) E13.1) E14.1) K15.1) E21.1) le22)))
  have f79 := (f38.keep K28 (ninS ne37 (ninS ne63 (ninS ne78 nin0))))
  have f80 := (f39.keep K28)
  have ne81 : s2 ≠ en22 := (Nat.ne_of_lt (Nat.lt_of_lt_of_le Es2.lt (Nat.le_trans (Nat.le_trans (Nat.le_trans (Nat.le_trans (Nat.le_trans (Nat.le_trans (Nat.le_trans E5.1 E6.1) K7.1) E13.1) E14.1) K15.1) E21.1) le22)))
  have ne82 : s2 ≠ ch22 := (Nat.ne_of_lt (Nat.lt_of_lt_of_le Es2.lt (Nat.le_trans (Nat.le_trans (Nat.le_trans (Nat.le_trans (Nat.le_trans (Nat.le_trans (Nat.le_trans E5.1 E6.1) K7.1) E13.1) E14.1) K15.1) E21.1) lc22)))
  have f83 := (f43.keep K28 (ninS ne42 (ninS ne82 (ninS ne81 nin0))))
  have f84 := (f44.keep K28 (ninS ne42 (ninS ne82 (ninS ne81 nin0))))
  have ne85 : t2 ≠ en22 := (Nat.ne_of_lt (Nat.lt_of_lt_of_le Bs2.lt (Nat.le_trans (Nat.le_trans (Nat.le_trans (Nat.le_trans (Nat.le_trans (Nat.le_trans (Nat.le_trans E5.1 E6.1) K7.1) E13.1) E14.1) K15.1) E21.1) le22)))
  have f86 := (f48.keep K28 (ninS ne47 (ninS ne64 (ninS ne85 nin0))))
  have f87 := (f49.keep K28)
  have ne88 : b5 ≠ en22 := (Nat.ne_of_lt (Nat.lt_of_lt_of_le A5.lt (Nat.le_trans (Nat.le_trans (Nat.le_trans (Nat.le_trans (Nat.le_trans (Nat.le_trans E6.1 K7.1) E13.1) E14.1) K15.1) E21.1) le22)))
  have ne89 : b5 ≠ ch22 := (Nat.ne_of_lt (Nat.lt_of_lt_of_le A5.lt (Nat.le_trans (Nat.le_trans (Nat.le_trans (Nat.le_trans (Nat.le_trans (Nat.le_trans E6.1 K7.1) E13.1) E14.1) K15.1) E21.1) lc22)))
  have f90 := (f52.keep K28 (ninS ne51 (ninS ne89 (ninS ne88 nin0))))
  have f91 := (f53.keep K28 (ninS ne51 (ninS ne89 (ninS ne88 nin0))))
  have ne92 : t7 ≠ en22 := (Nat.ne_of_lt (Nat.lt_of_lt_of_le Bs7.lt (Nat.le_trans (Nat.le_trans (Nat.le_trans (Nat.le_trans E13.1 E14.1) K15.1) E21.1) le22)))
  have f93 := (f56.keep K28 (ninS ne55 (ninS ne65 (ninS ne92 nin0))))
  have f94 := (f57.keep K28)
  have ne95 : b13 ≠ en22 := (Nat.ne_of_lt (Nat.lt_of_lt_of_le A13.lt (Nat.le_trans (Nat.le_trans (Nat.le_trans E14.1 K15.1) E21.1) le22)))
  have ne96 : b13 ≠ ch22 := (Nat.ne_of_lt (Nat.lt_of_lt_of_le A13.lt (Nat.le_trans (Nat.le_trans (Nat.le_trans E14.1 K15.1) E21.1) lc22)))
  have f97 := (f59.keep K28 (ninS ne58 (ninS ne96 (ninS ne95 nin0))))
  have f98 := (f60.keep K28 (ninS ne58 (ninS ne96 (ninS ne95 nin0))))
  have ne99 : t15 ≠ en22 := (Nat.ne_of_lt (Nat.lt_of_lt_of_le Bs15.lt (Nat.le_trans E21.1 le22)))
  have f100 := (f62.keep K28 (ninS ne61 (ninS ne66 (ninS ne99 nin0))))
  have PS72 := own_pickS sb ⟨f73, f76, f77, f79⟩ ⟨f80, f83, f84, f86⟩ ⟨f87, f90, f91, f93⟩ ⟨f94, f97, f98, f100⟩
  have lb72 := own_lfb sb
  have eb72 : (((own_lf sa) + (own_lf sb))).toInt ≤ 4200 ∧ 0 ≤ (((own_lf sa) + (own_lf sb))).toInt := by have q := own_add (e := (own_lf sa)) (n := own_lf sb) (by omega) (by omega) (by omega) (by omega); omega
  have f101 := (f67.keep K28 (allS g_b21 (allS g_ch22 (allS g_en22 all0))))
  refine g_virtual X71 hx hby hZ1 ho1 (rm_kadd_1 l Z a0 hw [] b21 ch28 en22 kc28 ke22 (own_grow (1024 : Int32) (own_lf sa)) vc28 ve28 (own_lf sa) ((own_lf sa) + (own_lf sb)) (own_pick sb a1 s2 b5 b13) (own_pick sb t1 t2 t7 t15) (own_pick sb kt1 kb2 kb7 kb15) (own_lf sb) (own_pick sb [] [(.int (nar .byte (((pd &&& (255 : Int32)).toUInt32.toUInt16.toUInt32.toInt32).toInt8.toInt32)))] bs7 bs15) cz fz T28.heap n0 z69 O2 P5 f101 rfz O4 f70 kC28 kN28 kK28 VC28 hl28 VE28 hve28 hv28 rfl g_b21 lo28 g_en22 (Ne.symm nn28) (own_pickP (P := fun z : Addr => z ≠ ch28) sb nt28_t1 nt28_t2 nt28_t7 nt28_t15) (by omega) (by omega) (by omega) (by omega) lb72.1 lb72.2 PS72.1 PS72.2.1 PS72.2.2.1 PS72.2.2.2) w77_ w78_ (notFace_of_selects (args := #[]) (mvT hZ1 w80_)) w80_ w79_ w49_ w81_ (by decide) eh71 f70 (by rw [hml]; rfl) [(.ref (own_pick sb a1 s2 b5 b13))] (lenOf own_pd24 rfl) rfl rfl (Nat.le_of_ble_eq_true rfl) (Nat.le_of_ble_eq_true rfl) (Nat.le_of_ble_eq_true rfl) (Nat.le_of_ble_eq_true rfl) at_115 (fun v72 T72 L72 X72 hQ72 => ?_)
  obtain ⟨rfl, N72q, K72, ch72, kc72, vc72, ve72, hch72, kE72, kC72, kN72, kK72, VC72, hl72, VE72, hve72, hv72⟩ := hQ72
  have N72 := Fr.app N71 N72q
  have nt72_t1 : t1 ≠ ch72 := own_nech nt28_t1 f79.lt hch72
  have nt72_t2 : t2 ≠ ch72 := own_nech nt28_t2 f86.lt hch72
  have nt72_t7 : t7 ≠ ch72 := own_nech nt28_t7 f93.lt hch72
  have nt72_t15 : t15 ≠ ch72 := own_nech nt28_t15 f100.lt hch72
  have nn72 : en22 ≠ ch72 := own_nech nn28 VE28.lt hch72
  have lo72 := own_loch lo28 z69 hch72
  have cb72 := own_growb (cap := (own_grow (1024 : Int32) (own_lf sa))) (e := ((own_lf sa) + (own_lf sb))) (B := 4200) (by omega) (by omega) (by omega) (by omega)
  refine g_at 118 rfl rfl rfl ?_
  refine g_pop X72 hx hby at_118 rfl ?_
  refine g_aload X72 hx hby at_119 rfl rfl ?_
  have z103 := (Nat.le_trans z69 K72.1)
  have f104 := (f70.keep K72)
  refine g_virtual X72 hx hby hZ1 ho1 (rm_memory l Z a0 hw [] b21 ch72 en22 kc72 ke22 (own_grow (own_grow (1024 : Int32) (own_lf sa)) ((own_lf sa) + (own_lf sb))) vc72 ve72 T72.heap n0 z103 kC72 kN72 VC72 VE72) w66_ w67_ (notFace_of_selects (args := #[]) (mvT hZ1 w69_)) w69_ w68_ w49_ w70_ (by decide) rfl f104 (by rw [hml]; rfl) [] (lenOf own_pd11 rfl) rfl rfl (Nat.le_of_ble_eq_true rfl) (Nat.le_of_ble_eq_true rfl) (Nat.le_of_ble_eq_true rfl) (Nat.le_of_ble_eq_true rfl) at_121 (fun v102 T102 L102 X102 hQ102 => ?_)
  obtain ⟨rfl, N102q, eh102⟩ := hQ102
  have N102 := Fr.app N72 N102q
  refine g_lstore X102 hx hby at_124 (l' := #[.val (.int pa), .val (.int pb), .val (.int pc0), .val (.int pd), .val (.ref a1), .val (.ref s2), .val (.ref b5), .val (.ref b13), .val (.int sa), .val (.int sb), .val (.int sc), .val (.ref b21), .val (.long (2560 : Int64)), .second, .val (.long (((2 : Int64) * ((own_grow (1024 : Int32) (own_lf sa)).toInt64)) + (512 : Int64))), .second, .val (.long (((2 : Int64) * ((own_grow (own_grow (1024 : Int32) (own_lf sa)) ((own_lf sa) + (own_lf sb))).toInt64)) + (512 : Int64))), .second, .unset, .unset, .unset, .unset, .unset, .unset, .unset, .unset, .unset, .unset]) rfl ?_
  refine g_aload X102 hx hby at_126 rfl rfl ?_
  refine g_iload X102 hx hby at_128 rfl ?_
  refine g_aload X102 hx hby at_130 rfl rfl ?_
  refine g_aload X102 hx hby at_132 rfl rfl ?_
  refine g_aload X102 hx hby at_134 rfl rfl ?_
  refine g_aload X102 hx hby at_136 rfl rfl ?_
  refine g_static X102 hx hby hZ1 ho1 (rm_pick l Z a0 hw [] sc a1 s2 b5 b13 T72.heap n0 z103 ) w73_ w74_ w75_ w76_ (by decide) eh102 (by rw [hml]; rfl) [(.int sc), (.ref a1), (.ref s2), (.ref b5), (.ref b13)] (lenOf own_pd12 rfl) rfl rfl (Nat.le_of_ble_eq_true rfl) (Nat.le_of_ble_eq_true rfl) (Nat.le_of_ble_eq_true rfl) (Nat.le_of_ble_eq_true rfl) at_138 (fun v105 T105 L105 X105 hQ105 => ?_)
  obtain ⟨rfl, N105q, eh105⟩ := hQ105
  have N105 := Fr.app N102 N105q
  have f107 := (f73.keep K72)
  have ne108 : a1 ≠ ch28 := (Exa.neArv f73 VC28 w2_)
  have f109 := (f76.keep K72 (ninS ne32 (ninS ne108 (ninS ne74 nin0))))
  have f110 := (f77.keep K72 (ninS ne32 (ninS ne108 (ninS ne74 nin0))))
  have f111 := (f79.keep K72 (ninS ne37 (ninS nt28_t1 (ninS ne78 nin0))))
  have f112 := (f80.keep K72)
  have ne113 : s2 ≠ ch28 := (Exa.neArv f80 VC28 w2_)
  have f114 := (f83.keep K72 (ninS ne42 (ninS ne113 (ninS ne81 nin0))))
  have f115 := (f84.keep K72 (ninS ne42 (ninS ne113 (ninS ne81 nin0))))
  have f116 := (f86.keep K72 (ninS ne47 (ninS nt28_t2 (ninS ne85 nin0))))
  have f117 := (f87.keep K72)
  have ne118 : b5 ≠ ch28 := (Exa.neArv f87 VC28 w2_)
  have f119 := (f90.keep K72 (ninS ne51 (ninS ne118 (ninS ne88 nin0))))
  have f120 := (f91.keep K72 (ninS ne51 (ninS ne118 (ninS ne88 nin0))))
  have f121 := (f93.keep K72 (ninS ne55 (ninS nt28_t7 (ninS ne92 nin0))))
  have f122 := (f94.keep K72)
  have ne123 : b13 ≠ ch28 := (Exa.neArv f94 VC28 w2_)
  have f124 := (f97.keep K72 (ninS ne58 (ninS ne123 (ninS ne95 nin0))))
  have f125 := (f98.keep K72 (ninS ne58 (ninS ne123 (ninS ne95 nin0))))
  have f126 := (f100.keep K72 (ninS ne61 (ninS nt28_t15 (ninS ne99 nin0))))
  have PS106 := own_pickS sc ⟨f107, f109, f110, f111⟩ ⟨f112, f114, f115, f116⟩ ⟨f117, f119, f120, f121⟩ ⟨f122, f124, f125, f126⟩
  have lb106 := own_lfb sc
  have eb106 : ((((own_lf sa) + (own_lf sb)) + (own_lf sc))).toInt ≤ 6300 ∧ 0 ≤ ((((own_lf sa) + (own_lf sb)) + (own_lf sc))).toInt := by have q := own_add (e := ((own_lf sa) + (own_lf sb))) (n := own_lf sc) (by omega) (by omega) (by omega) (by omega); omega
  have f127 := (f101.keep K72 (allS g_b21 (allS lo28 (allS g_en22 all0))))
  refine g_virtual X105 hx hby hZ1 ho1 (rm_kadd_2 l Z a0 hw [] b21 ch72 en22 kc72 ke22 (own_grow (own_grow (1024 : Int32) (own_lf sa)) ((own_lf sa) + (own_lf sb))) vc72 ve72 ((own_lf sa) + (own_lf sb)) (((own_lf sa) + (own_lf sb)) + (own_lf sc)) (own_pick sc a1 s2 b5 b13) (own_pick sc t1 t2 t7 t15) (own_pick sc kt1 kb2 kb7 kb15) (own_lf sc) (own_pick sc [] [(.int (nar .byte (((pd &&& (255 : Int32)).toUInt32.toUInt16.toUInt32.toInt32).toInt8.toInt32)))] bs7 bs15) cz fz T72.heap n0 z103 O2 P5 f127 rfz O4 f104 kC72 kN72 kK72 VC72 hl72 VE72 hve72 hv72 rfl g_b21 lo72 g_en22 (Ne.symm nn72) (own_pickP (P := fun z : Addr => z ≠ ch72) sc nt72_t1 nt72_t2 nt72_t7 nt72_t15) (by omega) (by omega) (by omega) (by omega) lb106.1 lb106.2 PS106.1 PS106.2.1 PS106.2.2.1 PS106.2.2.2) w77_ w78_ (notFace_of_selects (args := #[]) (mvT hZ1 w80_)) w80_ w79_ w49_ w81_ (by decide) eh105 f104 (by rw [hml]; rfl) [(.ref (own_pick sc a1 s2 b5 b13))] (lenOf own_pd24 rfl) rfl rfl (Nat.le_of_ble_eq_true rfl) (Nat.le_of_ble_eq_true rfl) (Nat.le_of_ble_eq_true rfl) (Nat.le_of_ble_eq_true rfl) at_141 (fun v106 T106 L106 X106 hQ106 => ?_)
  obtain ⟨rfl, N106q, K106, ch106, kc106, vc106, ve106, hch106, kE106, kC106, kN106, kK106, VC106, hl106, VE106, hve106, hv106⟩ := hQ106
  have N106 := Fr.app N105 N106q
  have nt106_t1 : t1 ≠ ch106 := own_nech nt72_t1 f111.lt hch106
  have nt106_t2 : t2 ≠ ch106 := own_nech nt72_t2 f116.lt hch106
  have nt106_t7 : t7 ≠ ch106 := own_nech nt72_t7 f121.lt hch106
  have nt106_t15 : t15 ≠ ch106 := own_nech nt72_t15 f126.lt hch106
  have nn106 : en22 ≠ ch106 := own_nech nn72 VE72.lt hch106
  have lo106 := own_loch lo72 z103 hch106
  have cb106 := own_growb (cap := (own_grow (own_grow (1024 : Int32) (own_lf sa)) ((own_lf sa) + (own_lf sb)))) (e := (((own_lf sa) + (own_lf sb)) + (own_lf sc))) (B := 8400) (by omega) (by omega) (by omega) (by omega)
  refine g_at 144 rfl rfl rfl ?_
  refine g_pop X106 hx hby at_144 rfl ?_
  refine g_aload X106 hx hby at_145 rfl rfl ?_
  have z129 := (Nat.le_trans z103 K106.1)
  have f130 := (f104.keep K106)
  refine g_virtual X106 hx hby hZ1 ho1 (rm_memory l Z a0 hw [] b21 ch106 en22 kc106 ke22 (own_grow (own_grow (own_grow (1024 : Int32) (own_lf sa)) ((own_lf sa) + (own_lf sb))) (((own_lf sa) + (own_lf sb)) + (own_lf sc))) vc106 ve106 T106.heap n0 z129 kC106 kN106 VC106 VE106) w66_ w67_ (notFace_of_selects (args := #[]) (mvT hZ1 w69_)) w69_ w68_ w49_ w70_ (by decide) rfl f130 (by rw [hml]; rfl) [] (lenOf own_pd11 rfl) rfl rfl (Nat.le_of_ble_eq_true rfl) (Nat.le_of_ble_eq_true rfl) (Nat.le_of_ble_eq_true rfl) (Nat.le_of_ble_eq_true rfl) at_147 (fun v128 T128 L128 X128 hQ128 => ?_)
  obtain ⟨rfl, N128q, eh128⟩ := hQ128
  have N128 := Fr.app N106 N128q
  refine g_lstore X128 hx hby at_150 (l' := #[.val (.int pa), .val (.int pb), .val (.int pc0), .val (.int pd), .val (.ref a1), .val (.ref s2), .val (.ref b5), .val (.ref b13), .val (.int sa), .val (.int sb), .val (.int sc), .val (.ref b21), .val (.long (2560 : Int64)), .second, .val (.long (((2 : Int64) * ((own_grow (1024 : Int32) (own_lf sa)).toInt64)) + (512 : Int64))), .second, .val (.long (((2 : Int64) * ((own_grow (own_grow (1024 : Int32) (own_lf sa)) ((own_lf sa) + (own_lf sb))).toInt64)) + (512 : Int64))), .second, .val (.long (((2 : Int64) * ((own_grow (own_grow (own_grow (1024 : Int32) (own_lf sa)) ((own_lf sa) + (own_lf sb))) (((own_lf sa) + (own_lf sb)) + (own_lf sc))).toInt64)) + (512 : Int64))), .second, .unset, .unset, .unset, .unset, .unset, .unset, .unset, .unset]) rfl ?_
  refine g_aload X128 hx hby at_152 rfl rfl ?_
  refine g_virtual X128 hx hby hZ1 ho1 (rm_clear l Z a0 hw [] b21 (.ref ch106) (.ref en22) (3 : Int32) T106.heap n0 z129 f130 kC106 kN106 kK106 g_b21) w142_ w55_ (notFace_of_selects (args := #[]) (mvT hZ1 w57_)) w57_ w56_ w49_ w58_ (by decide) eh128 f130 (by rw [hml]; rfl) [] (lenOf own_pd10 rfl) rfl rfl (Nat.le_of_ble_eq_true rfl) (Nat.le_of_ble_eq_true rfl) (Nat.le_of_ble_eq_true rfl) (Nat.le_of_ble_eq_true rfl) at_154 (fun v131 T131 L131 X131 hQ131 => ?_)
  obtain ⟨rfl, N131q, K131, ch131, en131, kc131, ke131, lc131, le131, nce131, kE131, kC131, kN131, kK131, VC131, VE131⟩ := hQ131
  have N131 := Fr.app N128 N131q
  refine g_aload X131 hx hby at_157 rfl rfl ?_
  have z133 := (Nat.le_trans z129 K131.1)
  have f134 := (f130.keep K131)
  refine g_virtual X131 hx hby hZ1 ho1 (rm_memory l Z a0 hw [] b21 ch131 en131 kc131 ke131 (1024 : Int32) (List.replicate 1024 (.int (0 : Int32))) (List.replicate 128 (.int (0 : Int32))) T131.heap n0 z133 kC131 kN131 VC131 VE131) w66_ w67_ (notFace_of_selects (args := #[]) (mvT hZ1 w69_)) w69_ w68_ w49_ w70_ (by decide) rfl f134 (by rw [hml]; rfl) [] (lenOf own_pd11 rfl) rfl rfl (Nat.le_of_ble_eq_true rfl) (Nat.le_of_ble_eq_true rfl) (Nat.le_of_ble_eq_true rfl) (Nat.le_of_ble_eq_true rfl) at_159 (fun v132 T132 L132 X132 hQ132 => ?_)
  obtain ⟨rfl, N132q, eh132⟩ := hQ132
  have N132 := Fr.app N131 N132q
  refine g_topJ (T := T132) (2560 : Int64) (by decide) ?_
  refine g_lstore X132 hx hby at_162 (l' := #[.val (.int pa), .val (.int pb), .val (.int pc0), .val (.int pd), .val (.ref a1), .val (.ref s2), .val (.ref b5), .val (.ref b13), .val (.int sa), .val (.int sb), .val (.int sc), .val (.ref b21), .val (.long (2560 : Int64)), .second, .val (.long (((2 : Int64) * ((own_grow (1024 : Int32) (own_lf sa)).toInt64)) + (512 : Int64))), .second, .val (.long (((2 : Int64) * ((own_grow (own_grow (1024 : Int32) (own_lf sa)) ((own_lf sa) + (own_lf sb))).toInt64)) + (512 : Int64))), .second, .val (.long (((2 : Int64) * ((own_grow (own_grow (own_grow (1024 : Int32) (own_lf sa)) ((own_lf sa) + (own_lf sb))) (((own_lf sa) + (own_lf sb)) + (own_lf sc))).toInt64)) + (512 : Int64))), .second, .val (.long (2560 : Int64)), .second, .unset, .unset, .unset, .unset, .unset, .unset]) rfl ?_
  refine g_iload X132 hx hby at_164 rfl ?_
  refine g_static X132 hx hby hZ1 ho1 (rm_lenf l Z a0 hw [] sa T131.heap n0 z133 ) w143_ w144_ w75_ w145_ (by decide) eh132 (by rw [hml]; rfl) [(.int sa)] (lenOf own_pd21 rfl) rfl rfl (Nat.le_of_ble_eq_true rfl) (Nat.le_of_ble_eq_true rfl) (Nat.le_of_ble_eq_true rfl) (Nat.le_of_ble_eq_true rfl) at_166 (fun v135 T135 L135 X135 hQ135 => ?_)
  obtain ⟨rfl, N135q, eh135⟩ := hQ135
  have N135 := Fr.app N132 N135q
  refine g_at 169 rfl rfl rfl ?_
  refine g_istore X135 hx hby at_169 (l' := #[.val (.int pa), .val (.int pb), .val (.int pc0), .val (.int pd), .val (.ref a1), .val (.ref s2), .val (.ref b5), .val (.ref b13), .val (.int sa), .val (.int sb), .val (.int sc), .val (.ref b21), .val (.long (2560 : Int64)), .second, .val (.long (((2 : Int64) * ((own_grow (1024 : Int32) (own_lf sa)).toInt64)) + (512 : Int64))), .second, .val (.long (((2 : Int64) * ((own_grow (own_grow (1024 : Int32) (own_lf sa)) ((own_lf sa) + (own_lf sb))).toInt64)) + (512 : Int64))), .second, .val (.long (((2 : Int64) * ((own_grow (own_grow (own_grow (1024 : Int32) (own_lf sa)) ((own_lf sa) + (own_lf sb))) (((own_lf sa) + (own_lf sb)) + (own_lf sc))).toInt64)) + (512 : Int64))), .second, .val (.long (2560 : Int64)), .second, .val (.int (own_lf sa)), .unset, .unset, .unset, .unset, .unset]) rfl ?_
  refine g_sipush X135 hx hby (1024 : Int32) at_171 rfl ?_
  refine g_iload X135 hx hby at_174 rfl ?_
  refine g_static X135 hx hby hZ1 ho1 (rm_growf l Z a0 hw [] (1024 : Int32) (own_lf sa) T131.heap n0 z133 ) w146_ w147_ w75_ w148_ (by decide) eh135 (by rw [hml]; rfl) [(.int (1024 : Int32)), (.int (own_lf sa))] (lenOf own_pd0 rfl) rfl rfl (Nat.le_of_ble_eq_true rfl) (Nat.le_of_ble_eq_true rfl) (Nat.le_of_ble_eq_true rfl) (Nat.le_of_ble_eq_true rfl) at_176 (fun v136 T136 L136 X136 hQ136 => ?_)
  obtain ⟨rfl, N136q, eh136⟩ := hQ136
  have N136 := Fr.app N135 N136q
  refine g_istore X136 hx hby at_179 (l' := #[.val (.int pa), .val (.int pb), .val (.int pc0), .val (.int pd), .val (.ref a1), .val (.ref s2), .val (.ref b5), .val (.ref b13), .val (.int sa), .val (.int sb), .val (.int sc), .val (.ref b21), .val (.long (2560 : Int64)), .second, .val (.long (((2 : Int64) * ((own_grow (1024 : Int32) (own_lf sa)).toInt64)) + (512 : Int64))), .second, .val (.long (((2 : Int64) * ((own_grow (own_grow (1024 : Int32) (own_lf sa)) ((own_lf sa) + (own_lf sb))).toInt64)) + (512 : Int64))), .second, .val (.long (((2 : Int64) * ((own_grow (own_grow (own_grow (1024 : Int32) (own_lf sa)) ((own_lf sa) + (own_lf sb))) (((own_lf sa) + (own_lf sb)) + (own_lf sc))).toInt64)) + (512 : Int64))), .second, .val (.long (2560 : Int64)), .second, .val (.int (own_lf sa)), .val (.int (own_grow (1024 : Int32) (own_lf sa))), .unset, .unset, .unset, .unset]) rfl ?_
  refine g_iload X136 hx hby at_181 rfl ?_
  refine g_iload X136 hx hby at_183 rfl ?_
  refine g_static X136 hx hby hZ1 ho1 (rm_lenf l Z a0 hw [] sb T131.heap n0 z133 ) w143_ w144_ w75_ w145_ (by decide) eh136 (by rw [hml]; rfl) [(.int sb)] (lenOf own_pd21 rfl) rfl rfl (Nat.le_of_ble_eq_true rfl) (Nat.le_of_ble_eq_true rfl) (Nat.le_of_ble_eq_true rfl) (Nat.le_of_ble_eq_true rfl) at_185 (fun v137 T137 L137 X137 hQ137 => ?_)
  obtain ⟨rfl, N137q, eh137⟩ := hQ137
  have N137 := Fr.app N136 N137q
  refine g_iadd X137 hx hby at_188 ?_
  refine g_istore X137 hx hby at_189 (l' := #[.val (.int pa), .val (.int pb), .val (.int pc0), .val (.int pd), .val (.ref a1), .val (.ref s2), .val (.ref b5), .val (.ref b13), .val (.int sa), .val (.int sb), .val (.int sc), .val (.ref b21), .val (.long (2560 : Int64)), .second, .val (.long (((2 : Int64) * ((own_grow (1024 : Int32) (own_lf sa)).toInt64)) + (512 : Int64))), .second, .val (.long (((2 : Int64) * ((own_grow (own_grow (1024 : Int32) (own_lf sa)) ((own_lf sa) + (own_lf sb))).toInt64)) + (512 : Int64))), .second, .val (.long (((2 : Int64) * ((own_grow (own_grow (own_grow (1024 : Int32) (own_lf sa)) ((own_lf sa) + (own_lf sb))) (((own_lf sa) + (own_lf sb)) + (own_lf sc))).toInt64)) + (512 : Int64))), .second, .val (.long (2560 : Int64)), .second, .val (.int (own_lf sa)), .val (.int (own_grow (1024 : Int32) (own_lf sa))), .val (.int ((own_lf sa) + (own_lf sb))), .unset, .unset, .unset]) rfl ?_
  refine g_iload X137 hx hby at_191 rfl ?_
  refine g_iload X137 hx hby at_193 rfl ?_
  refine g_static X137 hx hby hZ1 ho1 (rm_growf l Z a0 hw [] (own_grow (1024 : Int32) (own_lf sa)) ((own_lf sa) + (own_lf sb)) T131.heap n0 z133 ) w146_ w147_ w75_ w148_ (by decide) eh137 (by rw [hml]; rfl) [(.int (own_grow (1024 : Int32) (own_lf sa))), (.int ((own_lf sa) + (own_lf sb)))] (lenOf own_pd0 rfl) rfl rfl (Nat.le_of_ble_eq_true rfl) (Nat.le_of_ble_eq_true rfl) (Nat.le_of_ble_eq_true rfl) (Nat.le_of_ble_eq_true rfl) at_195 (fun v138 T138 L138 X138 hQ138 => ?_)
  obtain ⟨rfl, N138q, eh138⟩ := hQ138
  have N138 := Fr.app N137 N138q
  refine g_at 198 rfl rfl rfl ?_
  refine g_istore X138 hx hby at_198 (l' := #[.val (.int pa), .val (.int pb), .val (.int pc0), .val (.int pd), .val (.ref a1), .val (.ref s2), .val (.ref b5), .val (.ref b13), .val (.int sa), .val (.int sb), .val (.int sc), .val (.ref b21), .val (.long (2560 : Int64)), .second, .val (.long (((2 : Int64) * ((own_grow (1024 : Int32) (own_lf sa)).toInt64)) + (512 : Int64))), .second, .val (.long (((2 : Int64) * ((own_grow (own_grow (1024 : Int32) (own_lf sa)) ((own_lf sa) + (own_lf sb))).toInt64)) + (512 : Int64))), .second, .val (.long (((2 : Int64) * ((own_grow (own_grow (own_grow (1024 : Int32) (own_lf sa)) ((own_lf sa) + (own_lf sb))) (((own_lf sa) + (own_lf sb)) + (own_lf sc))).toInt64)) + (512 : Int64))), .second, .val (.long (2560 : Int64)), .second, .val (.int (own_lf sa)), .val (.int (own_grow (1024 : Int32) (own_lf sa))), .val (.int ((own_lf sa) + (own_lf sb))), .val (.int (own_grow (own_grow (1024 : Int32) (own_lf sa)) ((own_lf sa) + (own_lf sb)))), .unset, .unset]) rfl ?_
  refine g_iload X138 hx hby at_200 rfl ?_
  refine g_iload X138 hx hby at_202 rfl ?_
  refine g_static X138 hx hby hZ1 ho1 (rm_lenf l Z a0 hw [] sc T131.heap n0 z133 ) w143_ w144_ w75_ w145_ (by decide) eh138 (by rw [hml]; rfl) [(.int sc)] (lenOf own_pd21 rfl) rfl rfl (Nat.le_of_ble_eq_true rfl) (Nat.le_of_ble_eq_true rfl) (Nat.le_of_ble_eq_true rfl) (Nat.le_of_ble_eq_true rfl) at_204 (fun v139 T139 L139 X139 hQ139 => ?_)
  obtain ⟨rfl, N139q, eh139⟩ := hQ139
  have N139 := Fr.app N138 N139q
  refine g_iadd X139 hx hby at_207 ?_
  refine g_istore X139 hx hby at_208 (l' := #[.val (.int pa), .val (.int pb), .val (.int pc0), .val (.int pd), .val (.ref a1), .val (.ref s2), .val (.ref b5), .val (.ref b13), .val (.int sa), .val (.int sb), .val (.int sc), .val (.ref b21), .val (.long (2560 : Int64)), .second, .val (.long (((2 : Int64) * ((own_grow (1024 : Int32) (own_lf sa)).toInt64)) + (512 : Int64))), .second, .val (.long (((2 : Int64) * ((own_grow (own_grow (1024 : Int32) (own_lf sa)) ((own_lf sa) + (own_lf sb))).toInt64)) + (512 : Int64))), .second, .val (.long (((2 : Int64) * ((own_grow (own_grow (own_grow (1024 : Int32) (own_lf sa)) ((own_lf sa) + (own_lf sb))) (((own_lf sa) + (own_lf sb)) + (own_lf sc))).toInt64)) + (512 : Int64))), .second, .val (.long (2560 : Int64)), .second, .val (.int (own_lf sa)), .val (.int (own_grow (1024 : Int32) (own_lf sa))), .val (.int ((own_lf sa) + (own_lf sb))), .val (.int (own_grow (own_grow (1024 : Int32) (own_lf sa)) ((own_lf sa) + (own_lf sb)))), .val (.int (((own_lf sa) + (own_lf sb)) + (own_lf sc))), .unset]) rfl ?_
  refine g_iload X139 hx hby at_210 rfl ?_
  refine g_iload X139 hx hby at_212 rfl ?_
  refine g_static X139 hx hby hZ1 ho1 (rm_growf l Z a0 hw [] (own_grow (own_grow (1024 : Int32) (own_lf sa)) ((own_lf sa) + (own_lf sb))) (((own_lf sa) + (own_lf sb)) + (own_lf sc)) T131.heap n0 z133 ) w146_ w147_ w75_ w148_ (by decide) eh139 (by rw [hml]; rfl) [(.int (own_grow (own_grow (1024 : Int32) (own_lf sa)) ((own_lf sa) + (own_lf sb)))), (.int (((own_lf sa) + (own_lf sb)) + (own_lf sc)))] (lenOf own_pd0 rfl) rfl rfl (Nat.le_of_ble_eq_true rfl) (Nat.le_of_ble_eq_true rfl) (Nat.le_of_ble_eq_true rfl) (Nat.le_of_ble_eq_true rfl) at_214 (fun v140 T140 L140 X140 hQ140 => ?_)
  obtain ⟨rfl, N140q, eh140⟩ := hQ140
  have N140 := Fr.app N139 N140q
  refine g_istore X140 hx hby at_217 (l' := #[.val (.int pa), .val (.int pb), .val (.int pc0), .val (.int pd), .val (.ref a1), .val (.ref s2), .val (.ref b5), .val (.ref b13), .val (.int sa), .val (.int sb), .val (.int sc), .val (.ref b21), .val (.long (2560 : Int64)), .second, .val (.long (((2 : Int64) * ((own_grow (1024 : Int32) (own_lf sa)).toInt64)) + (512 : Int64))), .second, .val (.long (((2 : Int64) * ((own_grow (own_grow (1024 : Int32) (own_lf sa)) ((own_lf sa) + (own_lf sb))).toInt64)) + (512 : Int64))), .second, .val (.long (((2 : Int64) * ((own_grow (own_grow (own_grow (1024 : Int32) (own_lf sa)) ((own_lf sa) + (own_lf sb))) (((own_lf sa) + (own_lf sb)) + (own_lf sc))).toInt64)) + (512 : Int64))), .second, .val (.long (2560 : Int64)), .second, .val (.int (own_lf sa)), .val (.int (own_grow (1024 : Int32) (own_lf sa))), .val (.int ((own_lf sa) + (own_lf sb))), .val (.int (own_grow (own_grow (1024 : Int32) (own_lf sa)) ((own_lf sa) + (own_lf sb)))), .val (.int (((own_lf sa) + (own_lf sb)) + (own_lf sc))), .val (.int (own_grow (own_grow (own_grow (1024 : Int32) (own_lf sa)) ((own_lf sa) + (own_lf sb))) (((own_lf sa) + (own_lf sb)) + (own_lf sc))))]) rfl ?_
  refine g_lload X140 hx hby at_219 rfl ?_
  refine g_ldc2J X140 hx hby hZ1 ho1 w150_ at_221 ?_
  refine g_lcmp X140 hx hby at_224 ?_
  refine g_ifN X140 hx hby at_225 (teq ((lw_eq (2560 : Int64) (2560 : Int64)).mpr (by decide : (2560 : Int64) = (2560 : Int64)))).2 ?_
  refine g_lload X140 hx hby at_228 rfl ?_
  refine g_ldc2J X140 hx hby hZ1 ho1 w151_ at_230 ?_
  refine g_at 233 rfl rfl rfl ?_
  refine g_iload X140 hx hby at_233 rfl ?_
  refine g_i2l X140 hx hby at_235 ?_
  refine g_lmul X140 hx hby at_236 ?_
  refine g_ldc2J X140 hx hby hZ1 ho1 w152_ at_237 ?_
  refine g_ladd X140 hx hby at_240 ?_
  refine g_lcmp X140 hx hby at_241 ?_
  refine g_ifN X140 hx hby at_242 (teq ((lw_eq (((2 : Int64) * ((own_grow (1024 : Int32) (own_lf sa)).toInt64)) + (512 : Int64)) (((2 : Int64) * ((own_grow (1024 : Int32) (own_lf sa)).toInt64)) + (512 : Int64))).mpr (rfl : (((2 : Int64) * ((own_grow (1024 : Int32) (own_lf sa)).toInt64)) + (512 : Int64)) = (((2 : Int64) * ((own_grow (1024 : Int32) (own_lf sa)).toInt64)) + (512 : Int64))))).2 ?_
  refine g_lload X140 hx hby at_245 rfl ?_
  refine g_ldc2J X140 hx hby hZ1 ho1 w151_ at_247 ?_
  refine g_iload X140 hx hby at_250 rfl ?_
  refine g_i2l X140 hx hby at_252 ?_
  refine g_lmul X140 hx hby at_253 ?_
  refine g_ldc2J X140 hx hby hZ1 ho1 w152_ at_254 ?_
  refine g_ladd X140 hx hby at_257 ?_
  refine g_lcmp X140 hx hby at_258 ?_
  refine g_ifN X140 hx hby at_259 (teq ((lw_eq (((2 : Int64) * ((own_grow (own_grow (1024 : Int32) (own_lf sa)) ((own_lf sa) + (own_lf sb))).toInt64)) + (512 : Int64)) (((2 : Int64) * ((own_grow (own_grow (1024 : Int32) (own_lf sa)) ((own_lf sa) + (own_lf sb))).toInt64)) + (512 : Int64))).mpr (rfl : (((2 : Int64) * ((own_grow (own_grow (1024 : Int32) (own_lf sa)) ((own_lf sa) + (own_lf sb))).toInt64)) + (512 : Int64)) = (((2 : Int64) * ((own_grow (own_grow (1024 : Int32) (own_lf sa)) ((own_lf sa) + (own_lf sb))).toInt64)) + (512 : Int64))))).2 ?_
  refine g_lload X140 hx hby at_262 rfl ?_
  refine g_ldc2J X140 hx hby hZ1 ho1 w151_ at_264 ?_
  refine g_iload X140 hx hby at_267 rfl ?_
  refine g_i2l X140 hx hby at_269 ?_
  refine g_lmul X140 hx hby at_270 ?_
  refine g_ldc2J X140 hx hby hZ1 ho1 w152_ at_271 ?_
  refine g_ladd X140 hx hby at_274 ?_
  refine g_lcmp X140 hx hby at_275 ?_
  refine g_ifN X140 hx hby at_276 (teq ((lw_eq (((2 : Int64) * ((own_grow (own_grow (own_grow (1024 : Int32) (own_lf sa)) ((own_lf sa) + (own_lf sb))) (((own_lf sa) + (own_lf sb)) + (own_lf sc))).toInt64)) + (512 : Int64)) (((2 : Int64) * ((own_grow (own_grow (own_grow (1024 : Int32) (own_lf sa)) ((own_lf sa) + (own_lf sb))) (((own_lf sa) + (own_lf sb)) + (own_lf sc))).toInt64)) + (512 : Int64))).mpr (rfl : (((2 : Int64) * ((own_grow (own_grow (own_grow (1024 : Int32) (own_lf sa)) ((own_lf sa) + (own_lf sb))) (((own_lf sa) + (own_lf sb)) + (own_lf sc))).toInt64)) + (512 : Int64)) = (((2 : Int64) * ((own_grow (own_grow (own_grow (1024 : Int32) (own_lf sa)) ((own_lf sa) + (own_lf sb))) (((own_lf sa) + (own_lf sb)) + (own_lf sc))).toInt64)) + (512 : Int64))))).2 ?_
  refine g_lload X140 hx hby at_279 rfl ?_
  refine g_at 281 rfl rfl rfl ?_
  refine g_ldc2J X140 hx hby hZ1 ho1 w150_ at_281 ?_
  refine g_lcmp X140 hx hby at_284 ?_
  refine g_ifN X140 hx hby at_285 (teq ((lw_eq (2560 : Int64) (2560 : Int64)).mpr (by decide : (2560 : Int64) = (2560 : Int64)))).2 ?_
  refine g_iconst X140 hx hby (1 : Int32) at_288 rfl ?_
  refine g_goto X140 hx hby 293 at_289 (by decide) (by decide) ?_
  refine g_nretW X140 hx hby (t := .boolean) (by simp) Bd.returns Bd.notSynchronized hS1 at_293 eh140 (Nat.le_trans hk1 (Nat.le_trans (Nat.le_trans (Nat.le_trans (Nat.le_trans (Nat.le_trans (Nat.le_trans (Nat.le_trans (Nat.le_trans (Nat.le_trans (Nat.le_trans (Nat.le_trans (Nat.le_trans K2.1 E5.1) E6.1) K7.1) E13.1) E14.1) K15.1) E21.1) K22.1) K28.1) K72.1) K106.1) K131.1)) (by decide) (by decide) ?_
  show (Q_law Z pa pb pc0 pd fz cz h0 n0) (some (.int (1 : Int32))) _ _
  exact ⟨rfl, N140⟩

set_option maxRecDepth 65536 in
set_option maxHeartbeats 40000000 in
theorem comes_1 {Post : Tables → Env → Array Value → State → Outcome → State → Prop} (hpost : ∀ tb e args s v u, (limb_1_1.after args s (.returned v) u = true ∧ limb_1_2.after args s (.returned v) u = true ∧ True) → ReturnedEndW s (.returned v) u (Jvm.fieldLocs frame_1_writes args s ++ Jvm.arrayLocs frame_1_arrays args s ++ Jvm.staticLocs frame_1_statics s) 48 47680 → Post tb e args s (.returned v) u) :
    ArmFor flags0 classFile x code maxLocals ret World_1 tables_1 room_1 Calls_1 rest_1 Pre_1 Post := by
  intro l hfl _ _ p e ha hc hk s m args below hf hA hF happ hP
  obtain ⟨hcalls, hrest, hpre⟩ := hP
  obtain ⟨-, -, -, hnamed, -, -, -, hat⟩ := (Spec.applies_iff hf).mp happ
  obtain ⟨hg, hn⟩ := and_e (Cond.before_iff.mp (show (Jvm.Cond.and given_1 narrow_1).before args s = true from hpre))
  obtain ⟨hcount, hg1⟩ := and_e hg
  obtain ⟨ga0, hg2⟩ := and_e hg1
  obtain ⟨ga1, hg3⟩ := and_e hg2
  obtain ⟨ga2, hg4⟩ := and_e hg3
  have ga3 := hg4
  obtain ⟨w0, w1, w2, w3, rfl⟩ : ∃ w0 w1 w2 w3 : Value, args = #[w0, w1, w2, w3] := by
    have hs : args.size = 4 := by simpa [Cond.value, given_1] using hcount
    obtain ⟨L⟩ := args
    match L, hs with
    | [w0, w1, w2, w3], _ => exact ⟨w0, w1, w2, w3, rfl⟩
  have hw := fun d (hd : d ∈ tables_1) => atoms_spec (ws := Jvm.Cond.code x code maxLocals ret :: tables_1) hat d (List.mem_cons_of_mem _ hd)
  have hfit : Fit s := fun {y c} hc i hi => by
    obtain ⟨ha, rfl⟩ := Array.getElem?_eq_some_iff.mp hc
    have q := List.all_eq_true.mp ((Array.all_eq_true_iff_forall_mem.mp hF) _ (Array.getElem_mem ha)) i (List.mem_range.mpr hi)
    simpa [Array.getElem?_eq_getElem hi] using q
  obtain ⟨hsets, hown0⟩ := atoms_of _ (rest_1_c_eq ▸ (show rest_1_c.before _ s = true from hrest))
  have hr0 := Cond.before_iff.mp hown0
  obtain ⟨i0, ei0⟩ := is_v ga0
  obtain rfl : w0 = (.int i0) := Option.some.inj ei0
  obtain ⟨i1, ei1⟩ := is_v ga1
  obtain rfl : w1 = (.int i1) := Option.some.inj ei1
  obtain ⟨i2, ei2⟩ := is_v ga2
  obtain rfl : w2 = (.int i2) := Option.some.inj ei2
  obtain ⟨i3, ei3⟩ := is_v ga3
  obtain rfl : w3 = (.int i3) := Option.some.inj ei3
  obtain ⟨cz, ecz⟩ := is_v (Cond.before_iff.mp (hsets _ (List.mem_of_getElem? (i := 1) rfl)))
  have O2 := Sta.start ecz (Or.inl (hsets _ (List.mem_of_getElem? (i := 0) rfl)))
  have P5 : ¬ cz = (0 : Int32) := gotF (Cond.eq_ints ecz (Term.int_eval 0)) (not_v (Cond.before_iff.mp (hsets _ (List.mem_of_getElem? (i := 2) rfl))))
  obtain ⟨fz, efz, rfz0⟩ := isR_v (Cond.before_iff.mp (hsets _ (List.mem_of_getElem? (i := 8) rfl)))
  have rfz := Rf.of rfz0
  have O4 := Sta.start efz (Or.inl (hsets _ (List.mem_of_getElem? (i := 7) rfl)))
  have hheld : Jvm.Lit.constHeld s "com/example/invix/invix/sort/KeyBufferMemoryPinLaw" 7 := hcalls.1 ("com/example/invix/invix/sort/KeyBufferMemoryPinLaw", 7) (by simp [consts_1])
  have hcw : Jvm.Lit.compactW.before #[Value.int i0, Value.int i1, Value.int i2, Value.int i3] s = true := hsets _ (List.mem_of_getElem? (i := 2) rfl)
  obtain ⟨n, o, h1, h2, h3, _, L, rfl, ⟨rfl, N⟩, hq⟩ := rm_law l s _ hw tables_1 i0 i1 i2 i3 fz cz s.heap s.heap.size (Nat.le_refl _) O2 P5 (Old.start s) rfz O4 hheld hcw p e ha hc hk s m _ below hf ((Spec.applies_iff_loose hf).mp happ).1 ⟨rfl, ⟨State.Warmed39.refl s, rfl⟩, rfl⟩ trivial
  refine ⟨n, _, h1, h2, h3, hpost _ _ _ _ _ _ ⟨Cond.after_iff.mpr rfl, Cond.after_iff.mpr (eq_i res_at (Term.int_eval (1)) rfl), trivial⟩ (own_widen hq N (by decide) (by decide))⟩
theorem main_1_1 : Claimed_1_1 := comes_1 fun _ _ _ _ _ _ h hF => ⟨h.1, hF⟩
theorem main_1_2 : Claimed_1_2 := comes_1 fun _ _ _ _ _ _ h hF => ⟨h.2.1, hF⟩

end Jvm.Pilot.@@N@@
namespace Jvm.Pilot.@@N@@
open Jvm Jvm.ClassFile Sem Op Lib Jvm.Free Jvm.Stand Jvm.Pilot.@@N@@.Jvm.D
/-! MADE BY PROGRAM (witnessworld.py) out of the Statement's table words and the real class files: 23 classes; the members and pool entries that the words name. The judged class is class 1, her method 1. -/
namespace start1
open Jvm.ClassFile
def u (s : String) : CpInfo := .utf8 (stringToUtf16 s)
/-- a pool by its gaps: so many unusable entries, then the entry; so many at the end -/
def gap : Nat → List CpInfo → List CpInfo
  | 0, r => r
  | n + 1, r => .unusable :: gap n r
def poolList (es : List (Nat × CpInfo)) (last : Nat) : List CpInfo := es.foldr (fun e r => gap e.1 (e.2 :: r)) (gap last [])
def pool (es : List (Nat × CpInfo)) (last : Nat) : Array CpInfo := ⟨poolList es last⟩
def fileOf (pool : Array CpInfo) (this : Nat) (attrs : Array Attribute := #[]) (ms : Array MethodInfo := #[]) (fl : Nat := 33) (sup : Nat := 0) (ifs : Array Nat := #[]) (fds : Array FieldInfo := #[]) : ClassFile where
  minorVersion := 0
  majorVersion := 65
  constantPool := pool
  accessFlags := fl
  thisClass := this
  superClass := sup
  interfaces := ifs
  fields := fds
  methods := ms
  attributes := attrs
def plain (name : String) (sup : Option ClassId) : Class where
  name := name
  kind := .ordinary
  loader := none
  accessFlags := 33
  super := sup
  interfaces := #[]
  cf := none
  fields := #[]
  methods := #[]
  instanceTypes := #[]
  staticTypes := #[]
  resolved := #[]
  callSites := []
  init := .initialized
  statics := none
  mirror := none

def pool0 : Array CpInfo := pool [(5, u "<init>"), (0, u "()V"), (1, .class_ 10), (1, u "java/lang/Object")] 113

def k0c0 : Code := { maxStack := 0, maxLocals := 1, code := object_method_1_code, exceptionTable := #[], attributes := #[] }
def k0m0 : Method := { name := "<init>", desc := "()V", sig := { parameters := [], returnType := none }, accessFlags := 1, code := some k0c0 }
/-- java/lang/Object -/
def k0 : Class := { plain "java/lang/Object" none with
  accessFlags := 33
  interfaces := #[]
  cf := some (fileOf pool0 8 #[] #[{ accessFlags := 1, nameIndex := 5, descriptorIndex := 6, attributes := #[] }] 33 0 #[] #[])
  fields := #[]
  methods := #[k0m0]
  instanceTypes := #[]
  staticTypes := #[]
  resolved := Array.replicate 124 none
  statics := none }

def pool1 : Array CpInfo := pool [(2, .class_ 4), (0, .nameAndType 5 6), (0, u "java/lang/Object"), (0, u "<init>"), (0, u "()V"), (0, .string 8), (0, u ""), (0, .methodref 10 11), (0, .class_ 12), (0, .nameAndType 13 14), (0, u "java/lang/String"), (0, u "valueOf"), (0, u "(C)Ljava/lang/String;"), (0, .methodref 10 16), (0, .nameAndType 5 17), (0, u "([C)V"), (0, .class_ 19), (0, u "com/example/invix/invix/sort/KeyBuffer"), (0, .methodref 18 3), (0, .methodref 18 22), (0, .nameAndType 23 24), (0, u "memory"), (0, u "()J"), (0, .methodref 26 27), (0, .class_ 28), (0, .nameAndType 29 30), (0, u "com/example/invix/invix/sort/KeyBufferMemoryPinLaw"), (0, u "pick"), (0, u "(ILjava/lang/String;Ljava/lang/String;Ljava/lang/String;Ljava/lang/String;)Ljava/lang/String;"), (0, .methodref 18 32), (0, .nameAndType 33 34), (0, u "add"), (0, u "(Ljava/lang/String;)I"), (0, .methodref 18 36), (0, .nameAndType 37 6), (0, u "clear"), (0, .methodref 26 39), (0, .nameAndType 40 41), (0, u "length"), (0, u "(I)I"), (0, .methodref 26 43), (0, .nameAndType 44 45), (0, u "grow"), (0, u "(II)I"), (0, .long 2560), (1, .long 2), (1, .long 512), (1, .methodref 53 54), (0, .class_ 55), (0, .nameAndType 56 45), (0, u "java/lang/Math"), (0, u "max"), (2, u "law"), (0, u "(IIII)Z")] 3

def k1m0 : Method := { name := "<init>", desc := "()V", sig := { parameters := [], returnType := none }, accessFlags := 2, code := none }
def k1c1 : Code := { maxStack := 6, maxLocals := 28, code := code, exceptionTable := #[], attributes := #[] }
def k1m1 : Method := { name := "law", desc := "(IIII)Z", sig := { parameters := [.int, .int, .int, .int], returnType := some .boolean }, accessFlags := 9, code := some k1c1 }
def k1c2 : Code := { maxStack := 2, maxLocals := 5, code := method_3_code, exceptionTable := #[], attributes := #[] }
def k1m2 : Method := { name := "pick", desc := "(ILjava/lang/String;Ljava/lang/String;Ljava/lang/String;Ljava/lang/String;)Ljava/lang/String;", sig := { parameters := [.int, (.object "java/lang/String"), (.object "java/lang/String"), (.object "java/lang/String"), (.object "java/lang/String")], returnType := some (.object "java/lang/String") }, accessFlags := 10, code := some k1c2 }
def k1c3 : Code := { maxStack := 2, maxLocals := 1, code := method_4_code, exceptionTable := #[], attributes := #[] }
def k1m3 : Method := { name := "length", desc := "(I)I", sig := { parameters := [.int], returnType := some .int }, accessFlags := 10, code := some k1c3 }
def k1c4 : Code := { maxStack := 2, maxLocals := 2, code := method_5_code, exceptionTable := #[], attributes := #[] }
def k1m4 : Method := { name := "grow", desc := "(II)I", sig := { parameters := [.int, .int], returnType := some .int }, accessFlags := 10, code := some k1c4 }
/-- com/example/invix/invix/sort/KeyBufferMemoryPinLaw -/
def k1 : Class := { plain "com/example/invix/invix/sort/KeyBufferMemoryPinLaw" (some 0) with
  accessFlags := 49
  interfaces := #[]
  cf := some (fileOf pool1 26 #[] #[{ accessFlags := 2, nameIndex := 5, descriptorIndex := 6, attributes := #[] }, { accessFlags := 9, nameIndex := 59, descriptorIndex := 60, attributes := #[] }, { accessFlags := 10, nameIndex := 29, descriptorIndex := 30, attributes := #[] }, { accessFlags := 10, nameIndex := 40, descriptorIndex := 41, attributes := #[] }, { accessFlags := 10, nameIndex := 44, descriptorIndex := 45, attributes := #[] }] 49 2 #[] #[])
  fields := #[]
  methods := #[k1m0, k1m1, k1m2, k1m3, k1m4]
  instanceTypes := #[]
  staticTypes := #[]
  resolved := Array.replicate 64 none
  statics := none }

def pool2 : Array CpInfo := pool [(1, .class_ 2), (0, u "java/io/Serializable"), (0, .class_ 4), (0, u "java/lang/Object")] 2

/-- java/io/Serializable -/
def k2 : Class := { plain "java/io/Serializable" (some 0) with
  accessFlags := 1537
  interfaces := #[]
  cf := some (fileOf pool2 1 #[] #[] 1537 3 #[] #[])
  fields := #[]
  methods := #[]
  instanceTypes := #[]
  staticTypes := #[]
  resolved := Array.replicate 7 none
  statics := none }

def pool3 : Array CpInfo := pool [(1, .class_ 2), (0, u "java/lang/Comparable"), (0, .class_ 4), (0, u "java/lang/Object")] 7

/-- java/lang/Comparable -/
def k3 : Class := { plain "java/lang/Comparable" (some 0) with
  accessFlags := 1537
  interfaces := #[]
  cf := some (fileOf pool3 1 #[] #[] 1537 3 #[] #[])
  fields := #[]
  methods := #[]
  instanceTypes := #[]
  staticTypes := #[]
  resolved := Array.replicate 12 none
  statics := none }

def pool4 : Array CpInfo := pool [(2, .class_ 4), (1, u "java/lang/CharSequence"), (42, .class_ 48), (0, u "java/lang/CharSequence$1CodePointIterator"), (10, .class_ 60), (0, u "java/lang/CharSequence$1CharIterator"), (5, .class_ 67), (0, u "java/lang/Object")] 63

/-- java/lang/CharSequence -/
def k4 : Class := { plain "java/lang/CharSequence" (some 0) with
  accessFlags := 1537
  interfaces := #[]
  cf := some (fileOf pool4 2 #[.nestMembers #[47, 59]] #[] 1537 66 #[] #[])
  fields := #[]
  methods := #[]
  instanceTypes := #[]
  staticTypes := #[]
  resolved := Array.replicate 131 none
  statics := none }

def pool5 : Array CpInfo := pool [(1, .class_ 2), (0, u "java/lang/constant/Constable"), (0, .class_ 4), (0, u "java/lang/Object")] 6

/-- java/lang/constant/Constable -/
def k5 : Class := { plain "java/lang/constant/Constable" (some 0) with
  accessFlags := 1537
  interfaces := #[]
  cf := some (fileOf pool5 1 #[] #[] 1537 3 #[] #[])
  fields := #[]
  methods := #[]
  instanceTypes := #[]
  staticTypes := #[]
  resolved := Array.replicate 11 none
  statics := none }

def pool6 : Array CpInfo := pool [(1, .class_ 2), (0, u "java/lang/constant/ConstantDesc"), (0, .class_ 4), (0, u "java/lang/Object")] 32

/-- java/lang/constant/ConstantDesc -/
def k6 : Class := { plain "java/lang/constant/ConstantDesc" (some 0) with
  accessFlags := 1537
  interfaces := #[]
  cf := some (fileOf pool6 1 #[] #[] 1537 3 #[] #[])
  fields := #[]
  methods := #[]
  instanceTypes := #[]
  staticTypes := #[]
  resolved := Array.replicate 37 none
  statics := none }

def pool7 : Array CpInfo := pool [(1, .methodref 2 3), (0, .class_ 4), (0, .nameAndType 5 6), (0, u "java/lang/Object"), (0, u "<init>"), (0, u "()V"), (2, .fieldref 10 11), (0, .class_ 12), (0, .nameAndType 13 14), (0, u "java/lang/String"), (0, u "value"), (0, u "[B"), (0, .fieldref 10 16), (0, .nameAndType 17 18), (0, u "coder"), (0, u "B"), (2, u "hash"), (0, u "I"), (2, u "hashIsZero"), (0, u "Z"), (0, .methodref 10 28), (0, .nameAndType 5 29), (0, u "([CIILjava/lang/Void;)V"), (4, .methodref 10 35), (0, .nameAndType 36 37), (0, u "checkBoundsOffCount"), (0, u "(III)I"), (0, .fieldref 10 39), (0, .nameAndType 40 26), (0, u "COMPACT_STRINGS"), (1, .class_ 44), (1, u "java/lang/StringUTF16"), (0, u "compress"), (1, .methodref 42 48), (0, .nameAndType 49 50), (0, u "coderFromArrayLen"), (0, u "([BI)B"), (2, u "toBytes"), (53, .class_ 109), (1, u "java/lang/StringLatin1"), (32, u "()Z"), (34, .methodref 42 178), (0, .nameAndType 45 179), (0, u "([CII)[B"), (29, .methodref 10 210), (0, .nameAndType 5 211), (0, u "([BB)V"), (122, u "()I"), (0, .methodref 10 336), (0, .nameAndType 17 337), (0, u "()B"), (31, u "(C)Z"), (122, .methodref 10 493), (0, .nameAndType 494 142), (0, u "isLatin1"), (10, .methodref 10 506), (0, .nameAndType 507 334), (0, u "length"), (5, u "checkFromToIndex"), (7, .methodref 10 522), (0, .nameAndType 523 524), (0, u "checkBoundsBeginEnd"), (0, u "(III)V"), (0, .methodref 107 526), (0, .nameAndType 527 528), (0, u "getChars"), (0, u "([BII[CI)V"), (46, .class_ 576), (0, u "java/lang/CharSequence"), (22, u "CASE_INSENSITIVE_ORDER"), (0, u "Ljava/util/Comparator;"), (181, u "valueOf"), (0, u "(C)Ljava/lang/String;"), (226, u "([C)V"), (4, .methodref 107 1016), (0, .nameAndType 1017 369), (0, u "canEncode"), (0, .methodref 107 1019), (0, .nameAndType 53 1020), (0, u "(C)[B"), (32, .fieldref 1054 1055), (0, .class_ 1056), (0, .nameAndType 1057 1058), (0, u "jdk/internal/util/Preconditions"), (0, u "SIOOBE_FORMATTER"), (0, u "Ljava/util/function/BiFunction;"), (3, .methodref 1054 1063), (0, .nameAndType 513 1064), (0, u "(IIILjava/util/function/BiFunction;)I"), (0, .methodref 1054 1066), (0, .nameAndType 1067 1064), (0, u "checkFromIndexSize"), (33, u "serialPersistentFields"), (0, u "[Ljava/io/ObjectStreamField;"), (0, .class_ 1104), (0, u "java/lang/String$CaseInsensitiveComparator"), (1, .class_ 1107), (0, u "java/io/Serializable"), (0, .class_ 1109), (0, u "java/lang/Comparable"), (0, .class_ 1111), (0, u "java/lang/constant/Constable"), (0, .class_ 1113), (0, u "java/lang/constant/ConstantDesc"), (2, u "serialVersionUID"), (0, u "J"), (3, u "REPL"), (0, u "C"), (2, u "LATIN1"), (1, u "UTF16"), (112, u "(II[CI)V")] 210

def k7m0 : Method := { name := "<init>", desc := "()V", sig := { parameters := [], returnType := none }, accessFlags := 1, code := none }
def k7c1 : Code := { maxStack := 5, maxLocals := 2, code := jdk_42_method_3_code, exceptionTable := #[], attributes := #[] }
def k7m1 : Method := { name := "<init>", desc := "([C)V", sig := { parameters := [(.array .char)], returnType := none }, accessFlags := 1, code := some k7c1 }
def k7c2 : Code := { maxStack := 2, maxLocals := 1, code := jdk_42_method_54_code, exceptionTable := #[], attributes := #[] }
def k7m2 : Method := { name := "length", desc := "()I", sig := { parameters := [], returnType := some .int }, accessFlags := 1, code := some k7c2 }
def k7c3 : Code := { maxStack := 5, maxLocals := 5, code := jdk_42_method_61_code, exceptionTable := #[], attributes := #[] }
def k7m3 : Method := { name := "getChars", desc := "(II[CI)V", sig := { parameters := [.int, .int, (.array .char), .int], returnType := none }, accessFlags := 1, code := some k7c3 }
def k7c4 : Code := { maxStack := 4, maxLocals := 1, code := jdk_42_method_139_code, exceptionTable := #[], attributes := #[] }
def k7m4 : Method := { name := "valueOf", desc := "(C)Ljava/lang/String;", sig := { parameters := [.char], returnType := some (.object "java/lang/String") }, accessFlags := 9, code := some k7c4 }
def k7c5 : Code := { maxStack := 4, maxLocals := 6, code := jdk_42_method_149_code, exceptionTable := #[], attributes := #[] }
def k7m5 : Method := { name := "<init>", desc := "([CIILjava/lang/Void;)V", sig := { parameters := [(.array .char), .int, .int, (.object "java/lang/Void")], returnType := none }, accessFlags := 2, code := some k7c5 }
def k7c6 : Code := { maxStack := 2, maxLocals := 3, code := jdk_42_method_151_code, exceptionTable := #[], attributes := #[] }
def k7m6 : Method := { name := "<init>", desc := "([BB)V", sig := { parameters := [(.array .byte), .byte], returnType := none }, accessFlags := 0, code := some k7c6 }
def k7c7 : Code := { maxStack := 1, maxLocals := 1, code := jdk_42_method_152_code, exceptionTable := #[], attributes := #[] }
def k7m7 : Method := { name := "coder", desc := "()B", sig := { parameters := [], returnType := some .byte }, accessFlags := 0, code := some k7c7 }
def k7c8 : Code := { maxStack := 1, maxLocals := 1, code := jdk_42_method_154_code, exceptionTable := #[], attributes := #[] }
def k7m8 : Method := { name := "isLatin1", desc := "()Z", sig := { parameters := [], returnType := some .boolean }, accessFlags := 0, code := some k7c8 }
def k7c9 : Code := { maxStack := 4, maxLocals := 3, code := jdk_42_method_157_code, exceptionTable := #[], attributes := #[] }
def k7m9 : Method := { name := "checkBoundsOffCount", desc := "(III)I", sig := { parameters := [.int, .int, .int], returnType := some .int }, accessFlags := 8, code := some k7c9 }
def k7c10 : Code := { maxStack := 4, maxLocals := 3, code := jdk_42_method_158_code, exceptionTable := #[], attributes := #[] }
def k7m10 : Method := { name := "checkBoundsBeginEnd", desc := "(III)V", sig := { parameters := [.int, .int, .int], returnType := none }, accessFlags := 8, code := some k7c10 }
/-- java/lang/String -/
def k7 : Class := { plain "java/lang/String" (some 0) with
  accessFlags := 49
  interfaces := #[2, 3, 4, 5, 6]
  cf := some (fileOf pool7 10 #[.nestMembers #[1103]] #[{ accessFlags := 1, nameIndex := 5, descriptorIndex := 6, attributes := #[] }, { accessFlags := 1, nameIndex := 5, descriptorIndex := 1010, attributes := #[] }, { accessFlags := 1, nameIndex := 507, descriptorIndex := 334, attributes := #[] }, { accessFlags := 1, nameIndex := 527, descriptorIndex := 1240, attributes := #[] }, { accessFlags := 9, nameIndex := 782, descriptorIndex := 783, attributes := #[] }, { accessFlags := 2, nameIndex := 5, descriptorIndex := 29, attributes := #[] }, { accessFlags := 0, nameIndex := 5, descriptorIndex := 211, attributes := #[] }, { accessFlags := 0, nameIndex := 17, descriptorIndex := 337, attributes := #[] }, { accessFlags := 0, nameIndex := 494, descriptorIndex := 142, attributes := #[] }, { accessFlags := 8, nameIndex := 36, descriptorIndex := 37, attributes := #[] }, { accessFlags := 8, nameIndex := 523, descriptorIndex := 524, attributes := #[] }] 49 2 #[1106, 1108, 575, 1110, 1112] #[{ accessFlags := 18, nameIndex := 13, descriptorIndex := 14, attributes := #[] }, { accessFlags := 18, nameIndex := 17, descriptorIndex := 18, attributes := #[] }, { accessFlags := 2, nameIndex := 21, descriptorIndex := 22, attributes := #[] }, { accessFlags := 2, nameIndex := 25, descriptorIndex := 26, attributes := #[] }, { accessFlags := 26, nameIndex := 1116, descriptorIndex := 1117, attributes := #[] }, { accessFlags := 24, nameIndex := 40, descriptorIndex := 26, attributes := #[] }, { accessFlags := 26, nameIndex := 1101, descriptorIndex := 1102, attributes := #[] }, { accessFlags := 26, nameIndex := 1121, descriptorIndex := 1122, attributes := #[] }, { accessFlags := 25, nameIndex := 599, descriptorIndex := 600, attributes := #[] }, { accessFlags := 24, nameIndex := 1125, descriptorIndex := 18, attributes := #[] }, { accessFlags := 24, nameIndex := 1127, descriptorIndex := 18, attributes := #[] }])
  fields := #[{ name := "value", type := (.array .byte), accessFlags := 18, slot := 0, constantValue := 0 }, { name := "coder", type := .byte, accessFlags := 18, slot := 1, constantValue := 0 }, { name := "hash", type := .int, accessFlags := 2, slot := 2, constantValue := 0 }, { name := "hashIsZero", type := .boolean, accessFlags := 2, slot := 3, constantValue := 0 }, { name := "serialVersionUID", type := .long, accessFlags := 26, slot := 0, constantValue := 0 }, { name := "COMPACT_STRINGS", type := .boolean, accessFlags := 24, slot := 1, constantValue := 0 }, { name := "serialPersistentFields", type := (.array (.object "java/io/ObjectStreamField")), accessFlags := 26, slot := 2, constantValue := 0 }, { name := "REPL", type := .char, accessFlags := 26, slot := 3, constantValue := 0 }, { name := "CASE_INSENSITIVE_ORDER", type := (.object "java/util/Comparator"), accessFlags := 25, slot := 4, constantValue := 0 }, { name := "LATIN1", type := .byte, accessFlags := 24, slot := 5, constantValue := 0 }, { name := "UTF16", type := .byte, accessFlags := 24, slot := 6, constantValue := 0 }]
  methods := #[k7m0, k7m1, k7m2, k7m3, k7m4, k7m5, k7m6, k7m7, k7m8, k7m9, k7m10]
  instanceTypes := #[(.array .byte), .byte, .int, .boolean]
  staticTypes := #[.long, .boolean, (.array (.object "java/io/ObjectStreamField")), .char, (.object "java/util/Comparator"), .byte, .byte]
  resolved := Array.replicate 1451 none
  statics := some 0 }

def pool8 : Array CpInfo := pool [(4, .class_ 6), (1, u "java/lang/Object"), (0, u "<init>"), (0, u "()V"), (4, .methodref 14 15), (0, .class_ 16), (0, .nameAndType 17 18), (0, u "java/lang/StringLatin1"), (0, u "inflate"), (0, u "([BI[CII)V"), (71, u "canEncode"), (14, u "(C)Z"), (15, u "$assertionsDisabled"), (0, u "Z"), (98, .class_ 223), (1, u "java/lang/StringLatin1$LinesSpliterator"), (50, u "getChars"), (0, u "([BII[CI)V"), (104, u "toBytes"), (1, u "(C)[B"), (7, .class_ 391), (0, u "java/lang/StringLatin1$CharsSpliterator")] 3

def k8m0 : Method := { name := "<init>", desc := "()V", sig := { parameters := [], returnType := none }, accessFlags := 0, code := none }
def k8c1 : Code := { maxStack := 2, maxLocals := 1, code := jdk_43_method_3_code, exceptionTable := #[], attributes := #[] }
def k8m1 : Method := { name := "canEncode", desc := "(C)Z", sig := { parameters := [.char], returnType := some .boolean }, accessFlags := 9, code := some k8c1 }
def k8c2 : Code := { maxStack := 6, maxLocals := 5, code := jdk_43_method_11_code, exceptionTable := #[], attributes := #[] }
def k8m2 : Method := { name := "getChars", desc := "([BII[CI)V", sig := { parameters := [(.array .byte), .int, .int, (.array .char), .int], returnType := none }, accessFlags := 9, code := some k8c2 }
def k8c3 : Code := { maxStack := 4, maxLocals := 1, code := jdk_43_method_46_code, exceptionTable := #[], attributes := #[] }
def k8m3 : Method := { name := "toBytes", desc := "(C)[B", sig := { parameters := [.char], returnType := some (.array .byte) }, accessFlags := 9, code := some k8c3 }
def k8c4 : Code := { maxStack := 4, maxLocals := 6, code := jdk_43_method_49_code, exceptionTable := #[], attributes := #[] }
def k8m4 : Method := { name := "inflate", desc := "([BI[CII)V", sig := { parameters := [(.array .byte), .int, (.array .char), .int, .int], returnType := none }, accessFlags := 9, code := some k8c4 }
/-- java/lang/StringLatin1 -/
def k8 : Class := { plain "java/lang/StringLatin1" (some 0) with
  accessFlags := 48
  interfaces := #[]
  cf := some (fileOf pool8 14 #[.nestMembers #[390, 221]] #[{ accessFlags := 0, nameIndex := 7, descriptorIndex := 8, attributes := #[] }, { accessFlags := 9, nameIndex := 90, descriptorIndex := 105, attributes := #[] }, { accessFlags := 9, nameIndex := 274, descriptorIndex := 275, attributes := #[] }, { accessFlags := 9, nameIndex := 380, descriptorIndex := 382, attributes := #[] }, { accessFlags := 9, nameIndex := 17, descriptorIndex := 18, attributes := #[] }] 48 4 #[] #[{ accessFlags := 4120, nameIndex := 121, descriptorIndex := 122, attributes := #[] }])
  fields := #[{ name := "$assertionsDisabled", type := .boolean, accessFlags := 4120, slot := 0, constantValue := 0 }]
  methods := #[k8m0, k8m1, k8m2, k8m3, k8m4]
  instanceTypes := #[]
  staticTypes := #[.boolean]
  resolved := Array.replicate 395 none
  statics := none }

def pool9 : Array CpInfo := pool [(6, .class_ 8), (1, u "java/lang/Object"), (0, u "<init>"), (0, u "()V"), (1, .class_ 14), (1, u "java/lang/StringUTF16"), (31, u "$assertionsDisabled"), (0, u "Z"), (13, u "HI_BYTE_SHIFT"), (0, u "I"), (2, u "LO_BYTE_SHIFT"), (49, .methodref 12 116), (0, .nameAndType 117 118), (0, u "compress"), (0, u "([CI[BII)I"), (3, u "([CII)[B"), (138, u "coderFromArrayLen"), (0, u "([BI)B"), (106, .class_ 371), (1, u "java/lang/StringUTF16$LinesSpliterator"), (58, u "MAX_LENGTH"), (196, .class_ 628), (0, u "java/lang/StringUTF16$CodePointsSpliterator"), (0, .class_ 630), (0, u "java/lang/StringUTF16$CharsSpliterator")] 4

def k9m0 : Method := { name := "<init>", desc := "()V", sig := { parameters := [], returnType := none }, accessFlags := 0, code := none }
def k9c1 : Code := { maxStack := 2, maxLocals := 2, code := jdk_52_method_15_code, exceptionTable := #[], attributes := #[] }
def k9m1 : Method := { name := "coderFromArrayLen", desc := "([BI)B", sig := { parameters := [(.array .byte), .int], returnType := some .byte }, accessFlags := 8, code := some k9c1 }
def k9c2 : Code := { maxStack := 5, maxLocals := 6, code := jdk_52_method_16_code, exceptionTable := #[], attributes := #[] }
def k9m2 : Method := { name := "compress", desc := "([CII)[B", sig := { parameters := [(.array .char), .int, .int], returnType := some (.array .byte) }, accessFlags := 9, code := some k9c2 }
def k9c3 : Code := { maxStack := 3, maxLocals := 7, code := jdk_52_method_21_code, exceptionTable := #[], attributes := #[] }
def k9m3 : Method := { name := "compress", desc := "([CI[BII)I", sig := { parameters := [(.array .char), .int, (.array .byte), .int, .int], returnType := some .int }, accessFlags := 9, code := some k9c3 }
/-- java/lang/StringUTF16 -/
def k9 : Class := { plain "java/lang/StringUTF16" (some 0) with
  accessFlags := 48
  interfaces := #[]
  cf := some (fileOf pool9 12 #[.nestMembers #[627, 629, 369]] #[{ accessFlags := 0, nameIndex := 9, descriptorIndex := 10, attributes := #[] }, { accessFlags := 8, nameIndex := 261, descriptorIndex := 262, attributes := #[] }, { accessFlags := 9, nameIndex := 117, descriptorIndex := 122, attributes := #[] }, { accessFlags := 9, nameIndex := 117, descriptorIndex := 118, attributes := #[] }] 48 6 #[] #[{ accessFlags := 26, nameIndex := 61, descriptorIndex := 62, attributes := #[] }, { accessFlags := 26, nameIndex := 65, descriptorIndex := 62, attributes := #[] }, { accessFlags := 24, nameIndex := 430, descriptorIndex := 62, attributes := #[] }, { accessFlags := 4120, nameIndex := 46, descriptorIndex := 47, attributes := #[] }])
  fields := #[{ name := "HI_BYTE_SHIFT", type := .int, accessFlags := 26, slot := 0, constantValue := 0 }, { name := "LO_BYTE_SHIFT", type := .int, accessFlags := 26, slot := 1, constantValue := 0 }, { name := "MAX_LENGTH", type := .int, accessFlags := 24, slot := 2, constantValue := 0 }, { name := "$assertionsDisabled", type := .boolean, accessFlags := 4120, slot := 3, constantValue := 0 }]
  methods := #[k9m0, k9m1, k9m2, k9m3]
  instanceTypes := #[]
  staticTypes := #[.int, .int, .int, .boolean]
  resolved := Array.replicate 635 none
  statics := none }

def pool10 : Array CpInfo := pool [(1, .methodref 2 3), (0, .class_ 4), (0, .nameAndType 5 6), (0, u "java/lang/Object"), (0, u "<init>"), (0, u "()V"), (0, .methodref 8 9), (0, .class_ 10), (0, .nameAndType 11 6), (0, u "com/example/invix/invix/sort/KeyBuffer"), (0, u "clear"), (0, .fieldref 8 13), (0, .nameAndType 14 15), (0, u "count"), (0, u "I"), (0, .methodref 8 17), (0, .nameAndType 18 19), (0, u "start"), (0, u "(I)I"), (0, .methodref 21 22), (0, .class_ 23), (0, .nameAndType 24 25), (0, u "java/lang/String"), (0, u "length"), (0, u "()I"), (0, .fieldref 8 27), (0, .nameAndType 28 29), (0, u "characters"), (0, u "[C"), (0, .methodref 31 32), (0, .class_ 33), (0, .nameAndType 34 35), (0, u "java/lang/Math"), (0, u "max"), (0, u "(II)I"), (0, .methodref 37 38), (0, .class_ 39), (0, .nameAndType 40 41), (0, u "java/util/Arrays"), (0, u "copyOf"), (0, u "([CI)[C"), (0, .methodref 21 43), (0, .nameAndType 44 45), (0, u "getChars"), (0, u "(II[CI)V"), (0, .fieldref 8 47), (0, .nameAndType 48 49), (0, u "ends"), (0, u "[I"), (12, .long 2), (3, .long 4), (5, .class_ 73), (0, u "com/example/invix/invix/sort/KeyBuffer$1"), (26, u "add"), (0, u "(Ljava/lang/String;)I"), (7, u "memory"), (0, u "()J")] 33

def k10c0 : Code := { maxStack := 1, maxLocals := 1, code := prog_79_method_1_code, exceptionTable := #[], attributes := #[] }
def k10m0 : Method := { name := "<init>", desc := "()V", sig := { parameters := [], returnType := none }, accessFlags := 1, code := some k10c0 }
def k10c1 : Code := { maxStack := 5, maxLocals := 4, code := prog_79_method_2_code, exceptionTable := #[], attributes := #[] }
def k10m1 : Method := { name := "add", desc := "(Ljava/lang/String;)I", sig := { parameters := [(.object "java/lang/String")], returnType := some .int }, accessFlags := 1, code := some k10c1 }
def k10c2 : Code := { maxStack := 6, maxLocals := 1, code := prog_79_method_7_code, exceptionTable := #[], attributes := #[] }
def k10m2 : Method := { name := "memory", desc := "()J", sig := { parameters := [], returnType := some .long }, accessFlags := 1, code := some k10c2 }
def k10c3 : Code := { maxStack := 2, maxLocals := 1, code := prog_79_method_10_code, exceptionTable := #[], attributes := #[] }
def k10m3 : Method := { name := "clear", desc := "()V", sig := { parameters := [], returnType := none }, accessFlags := 1, code := some k10c3 }
def k10c4 : Code := { maxStack := 3, maxLocals := 2, code := prog_79_method_12_code, exceptionTable := #[], attributes := #[] }
def k10m4 : Method := { name := "start", desc := "(I)I", sig := { parameters := [.int], returnType := some .int }, accessFlags := 2, code := some k10c4 }
/-- com/example/invix/invix/sort/KeyBuffer -/
def k10 : Class := { plain "com/example/invix/invix/sort/KeyBuffer" (some 0) with
  accessFlags := 49
  interfaces := #[]
  cf := some (fileOf pool10 8 #[.nestMembers #[72]] #[{ accessFlags := 1, nameIndex := 5, descriptorIndex := 6, attributes := #[] }, { accessFlags := 1, nameIndex := 100, descriptorIndex := 101, attributes := #[] }, { accessFlags := 1, nameIndex := 109, descriptorIndex := 110, attributes := #[] }, { accessFlags := 1, nameIndex := 11, descriptorIndex := 6, attributes := #[] }, { accessFlags := 2, nameIndex := 18, descriptorIndex := 19, attributes := #[] }] 49 2 #[] #[{ accessFlags := 2, nameIndex := 28, descriptorIndex := 29, attributes := #[] }, { accessFlags := 2, nameIndex := 48, descriptorIndex := 49, attributes := #[] }, { accessFlags := 2, nameIndex := 14, descriptorIndex := 15, attributes := #[] }])
  fields := #[{ name := "characters", type := (.array .char), accessFlags := 2, slot := 0, constantValue := 0 }, { name := "ends", type := (.array .int), accessFlags := 2, slot := 1, constantValue := 0 }, { name := "count", type := .int, accessFlags := 2, slot := 2, constantValue := 0 }]
  methods := #[k10m0, k10m1, k10m2, k10m3, k10m4]
  instanceTypes := #[(.array .char), (.array .int), .int]
  staticTypes := #[]
  resolved := Array.replicate 144 none
  statics := none }

def pool11 : Array CpInfo := pool [(2, .class_ 4), (1, u "java/lang/Object"), (0, u "<init>"), (0, u "()V"), (17, .class_ 26), (1, u "jdk/internal/util/Preconditions"), (20, u "checkFromToIndex"), (1, u "checkFromIndexSize"), (5, .class_ 56), (0, u "jdk/internal/util/Preconditions$4"), (57, .class_ 115), (0, u "jdk/internal/util/Preconditions$1"), (7, u "SIOOBE_FORMATTER"), (0, u "Ljava/util/function/BiFunction;"), (0, .class_ 126), (0, u "jdk/internal/util/Preconditions$2"), (3, u "AIOOBE_FORMATTER"), (0, .class_ 132), (0, u "jdk/internal/util/Preconditions$3"), (3, u "IOOBE_FORMATTER"), (46, u "(IIILjava/util/function/BiFunction;)I")] 10

def k11m0 : Method := { name := "<init>", desc := "()V", sig := { parameters := [], returnType := none }, accessFlags := 1, code := none }
def k11c1 : Code := { maxStack := 4, maxLocals := 4, code := jdk_41_method_12_code, exceptionTable := #[], attributes := #[] }
def k11m1 : Method := { name := "checkFromToIndex", desc := "(IIILjava/util/function/BiFunction;)I", sig := { parameters := [.int, .int, .int, (.object "java/util/function/BiFunction")], returnType := some .int }, accessFlags := 9, code := some k11c1 }
def k11c2 : Code := { maxStack := 4, maxLocals := 4, code := jdk_41_method_13_code, exceptionTable := #[], attributes := #[] }
def k11m2 : Method := { name := "checkFromIndexSize", desc := "(IIILjava/util/function/BiFunction;)I", sig := { parameters := [.int, .int, .int, (.object "java/util/function/BiFunction")], returnType := some .int }, accessFlags := 9, code := some k11c2 }
/-- jdk/internal/util/Preconditions -/
def k11 : Class := { plain "jdk/internal/util/Preconditions" (some 0) with
  accessFlags := 33
  interfaces := #[]
  cf := some (fileOf pool11 24 #[.nestMembers #[55, 131, 125, 114]] #[{ accessFlags := 1, nameIndex := 5, descriptorIndex := 6, attributes := #[] }, { accessFlags := 9, nameIndex := 47, descriptorIndex := 183, attributes := #[] }, { accessFlags := 9, nameIndex := 49, descriptorIndex := 183, attributes := #[] }] 33 2 #[] #[{ accessFlags := 25, nameIndex := 123, descriptorIndex := 124, attributes := #[] }, { accessFlags := 25, nameIndex := 130, descriptorIndex := 124, attributes := #[] }, { accessFlags := 25, nameIndex := 136, descriptorIndex := 124, attributes := #[] }])
  fields := #[{ name := "SIOOBE_FORMATTER", type := (.object "java/util/function/BiFunction"), accessFlags := 25, slot := 0, constantValue := 0 }, { name := "AIOOBE_FORMATTER", type := (.object "java/util/function/BiFunction"), accessFlags := 25, slot := 1, constantValue := 0 }, { name := "IOOBE_FORMATTER", type := (.object "java/util/function/BiFunction"), accessFlags := 25, slot := 2, constantValue := 0 }]
  methods := #[k11m0, k11m1, k11m2]
  instanceTypes := #[]
  staticTypes := #[(.object "java/util/function/BiFunction"), (.object "java/util/function/BiFunction"), (.object "java/util/function/BiFunction")]
  resolved := Array.replicate 194 none
  statics := some 1 }

def pool12 : Array CpInfo := pool [(1, .class_ 2), (0, u "java/lang/Math"), (1, .class_ 6), (1, u "java/lang/Object"), (0, u "<init>"), (0, u "()V"), (89, .class_ 100), (1, u "java/lang/Math$RandomNumberGeneratorHolder"), (71, u "negativeZeroFloatBits"), (0, u "J"), (2, u "negativeZeroDoubleBits"), (21, u "max"), (2, u "min"), (43, u "$assertionsDisabled"), (0, u "Z"), (88, u "(II)I"), (2, u "twoToTheDoubleScaleDown"), (0, u "D"), (4, u "twoToTheDoubleScaleUp"), (9, u "E"), (3, u "PI"), (2, u "TAU"), (2, u "DEGREES_TO_RADIANS"), (0, u "RADIANS_TO_DEGREES")] 94

def k12m0 : Method := { name := "<init>", desc := "()V", sig := { parameters := [], returnType := none }, accessFlags := 2, code := none }
def k12c1 : Code := { maxStack := 2, maxLocals := 2, code := jdk_29_method_65_code, exceptionTable := #[], attributes := #[] }
def k12m1 : Method := { name := "max", desc := "(II)I", sig := { parameters := [.int, .int], returnType := some .int }, accessFlags := 9, code := some k12c1 }
def k12c2 : Code := { maxStack := 2, maxLocals := 2, code := jdk_29_method_69_code, exceptionTable := #[], attributes := #[] }
def k12m2 : Method := { name := "min", desc := "(II)I", sig := { parameters := [.int, .int], returnType := some .int }, accessFlags := 9, code := some k12c2 }
/-- java/lang/Math -/
def k12 : Class := { plain "java/lang/Math" (some 0) with
  accessFlags := 49
  interfaces := #[]
  cf := some (fileOf pool12 1 #[.nestMembers #[98]] #[{ accessFlags := 2, nameIndex := 7, descriptorIndex := 8, attributes := #[] }, { accessFlags := 9, nameIndex := 198, descriptorIndex := 335, attributes := #[] }, { accessFlags := 9, nameIndex := 201, descriptorIndex := 335, attributes := #[] }] 49 4 #[] #[{ accessFlags := 25, nameIndex := 354, descriptorIndex := 339, attributes := #[] }, { accessFlags := 25, nameIndex := 358, descriptorIndex := 339, attributes := #[] }, { accessFlags := 25, nameIndex := 361, descriptorIndex := 339, attributes := #[] }, { accessFlags := 26, nameIndex := 364, descriptorIndex := 339, attributes := #[] }, { accessFlags := 26, nameIndex := 365, descriptorIndex := 339, attributes := #[] }, { accessFlags := 26, nameIndex := 172, descriptorIndex := 173, attributes := #[] }, { accessFlags := 26, nameIndex := 176, descriptorIndex := 173, attributes := #[] }, { accessFlags := 8, nameIndex := 344, descriptorIndex := 339, attributes := #[] }, { accessFlags := 8, nameIndex := 338, descriptorIndex := 339, attributes := #[] }, { accessFlags := 4120, nameIndex := 245, descriptorIndex := 246, attributes := #[] }])
  fields := #[{ name := "E", type := .double, accessFlags := 25, slot := 0, constantValue := 0 }, { name := "PI", type := .double, accessFlags := 25, slot := 1, constantValue := 0 }, { name := "TAU", type := .double, accessFlags := 25, slot := 2, constantValue := 0 }, { name := "DEGREES_TO_RADIANS", type := .double, accessFlags := 26, slot := 3, constantValue := 0 }, { name := "RADIANS_TO_DEGREES", type := .double, accessFlags := 26, slot := 4, constantValue := 0 }, { name := "negativeZeroFloatBits", type := .long, accessFlags := 26, slot := 5, constantValue := 0 }, { name := "negativeZeroDoubleBits", type := .long, accessFlags := 26, slot := 6, constantValue := 0 }, { name := "twoToTheDoubleScaleUp", type := .double, accessFlags := 8, slot := 7, constantValue := 0 }, { name := "twoToTheDoubleScaleDown", type := .double, accessFlags := 8, slot := 8, constantValue := 0 }, { name := "$assertionsDisabled", type := .boolean, accessFlags := 4120, slot := 9, constantValue := 0 }]
  methods := #[k12m0, k12m1, k12m2]
  instanceTypes := #[]
  staticTypes := #[.double, .double, .double, .double, .double, .long, .long, .double, .double, .boolean]
  resolved := Array.replicate 460 none
  statics := none }

def pool13 : Array CpInfo := pool [(2, .class_ 4), (1, u "java/lang/Object"), (0, u "<init>"), (0, u "()V"), (7, .class_ 16), (1, u "java/util/Arrays"), (57, .class_ 76), (1, u "java/util/Arrays$NaturalOrder"), (36, .class_ 115), (1, u "java/util/Arrays$LegacyMergeSort"), (1, u "Z"), (32, .methodref 151 152), (0, .class_ 153), (0, .nameAndType 154 155), (0, u "java/lang/System"), (0, u "arraycopy"), (0, u "(Ljava/lang/Object;ILjava/lang/Object;II)V"), (146, u "copyOf"), (1, .methodref 305 306), (0, .class_ 307), (0, .nameAndType 308 309), (0, u "java/lang/Math"), (0, u "min"), (0, u "(II)I"), (65, .class_ 376), (0, u "java/util/Arrays$ArrayList"), (68, u "$assertionsDisabled"), (269, u "MIN_ARRAY_SORT_GRAN"), (0, u "I"), (2, u "INSERTIONSORT_THRESHOLD"), (153, u "([CI)[C"), (101, .class_ 976), (0, u "java/util/Arrays$ArrayItr")] 52

def k13m0 : Method := { name := "<init>", desc := "()V", sig := { parameters := [], returnType := none }, accessFlags := 2, code := none }
def k13c1 : Code := { maxStack := 6, maxLocals := 3, code := jdk_65_method_125_code, exceptionTable := #[], attributes := #[] }
def k13m1 : Method := { name := "copyOf", desc := "([CI)[C", sig := { parameters := [(.array .char), .int], returnType := some (.array .char) }, accessFlags := 9, code := some k13c1 }
/-- java/util/Arrays -/
def k13 : Class := { plain "java/util/Arrays" (some 0) with
  accessFlags := 49
  interfaces := #[]
  cf := some (fileOf pool13 14 #[.nestMembers #[975, 375, 113, 74]] #[{ accessFlags := 2, nameIndex := 5, descriptorIndex := 6, attributes := #[] }, { accessFlags := 9, nameIndex := 302, descriptorIndex := 873, attributes := #[] }] 49 2 #[] #[{ accessFlags := 26, nameIndex := 715, descriptorIndex := 716, attributes := #[] }, { accessFlags := 26, nameIndex := 719, descriptorIndex := 716, attributes := #[] }, { accessFlags := 4120, nameIndex := 445, descriptorIndex := 117, attributes := #[] }])
  fields := #[{ name := "MIN_ARRAY_SORT_GRAN", type := .int, accessFlags := 26, slot := 0, constantValue := 0 }, { name := "INSERTIONSORT_THRESHOLD", type := .int, accessFlags := 26, slot := 1, constantValue := 0 }, { name := "$assertionsDisabled", type := .boolean, accessFlags := 4120, slot := 2, constantValue := 0 }]
  methods := #[k13m0, k13m1]
  instanceTypes := #[]
  staticTypes := #[.int, .int, .boolean]
  resolved := Array.replicate 1029 none
  statics := none }

def pool14 : Array CpInfo := pool [(2, .class_ 4), (1, u "java/lang/Object"), (0, u "<init>"), (0, u "()V"), (1, .class_ 10), (1, u "java/lang/System"), (0, u "allowSecurityManager"), (0, u "I"), (16, u "cons"), (0, u "Ljava/io/Console;"), (77, .class_ 110), (1, u "java/lang/System$CallersHolder"), (43, u "initialErrStream"), (0, u "Ljava/io/PrintStream;"), (19, u "security"), (0, u "Ljava/lang/SecurityManager;"), (31, .class_ 209), (0, u "java/lang/System$1"), (7, u "props"), (0, u "Ljava/util/Properties;"), (2, u "lineSeparator"), (0, u "Ljava/lang/String;"), (96, .class_ 321), (1, u "java/lang/System$LoggerFinder"), (5, .class_ 328), (0, u "java/lang/System$Logger"), (67, u "err"), (2, u "out"), (91, u "notSupportedJnuEncoding"), (15, u "in"), (17, u "initialIn"), (0, u "Ljava/io/InputStream;"), (35, u "bootLayer"), (0, u "Ljava/lang/ModuleLayer;"), (99, .class_ 664), (0, u "java/lang/System$2"), (9, u "NEVER"), (2, u "MAYBE"), (49, u "arraycopy"), (0, u "(Ljava/lang/Object;ILjava/lang/Object;II)V"), (72, .class_ 802), (0, u "java/lang/System$Logger$Level")] 31

def k14m0 : Method := { name := "<init>", desc := "()V", sig := { parameters := [], returnType := none }, accessFlags := 2, code := none }
def k14m1 : Method := { name := "arraycopy", desc := "(Ljava/lang/Object;ILjava/lang/Object;II)V", sig := { parameters := [(.object "java/lang/Object"), .int, (.object "java/lang/Object"), .int, .int], returnType := none }, accessFlags := 265, code := none }
/-- java/lang/System -/
def k14 : Class := { plain "java/lang/System" (some 0) with
  accessFlags := 49
  interfaces := #[]
  cf := some (fileOf pool14 8 #[.nestMembers #[319, 327, 801, 108, 663, 208]] #[{ accessFlags := 2, nameIndex := 5, descriptorIndex := 6, attributes := #[] }, { accessFlags := 265, nameIndex := 727, descriptorIndex := 728, attributes := #[] }] 49 2 #[] #[{ accessFlags := 25, nameIndex := 507, descriptorIndex := 526, attributes := #[] }, { accessFlags := 25, nameIndex := 399, descriptorIndex := 155, attributes := #[] }, { accessFlags := 25, nameIndex := 396, descriptorIndex := 155, attributes := #[] }, { accessFlags := 10, nameIndex := 525, descriptorIndex := 526, attributes := #[] }, { accessFlags := 26, nameIndex := 674, descriptorIndex := 12, attributes := #[] }, { accessFlags := 26, nameIndex := 677, descriptorIndex := 12, attributes := #[] }, { accessFlags := 10, nameIndex := 11, descriptorIndex := 12, attributes := #[] }, { accessFlags := 74, nameIndex := 175, descriptorIndex := 176, attributes := #[] }, { accessFlags := 10, nameIndex := 491, descriptorIndex := 222, attributes := #[] }, { accessFlags := 74, nameIndex := 29, descriptorIndex := 30, attributes := #[] }, { accessFlags := 74, nameIndex := 154, descriptorIndex := 155, attributes := #[] }, { accessFlags := 10, nameIndex := 217, descriptorIndex := 218, attributes := #[] }, { accessFlags := 10, nameIndex := 221, descriptorIndex := 222, attributes := #[] }, { accessFlags := 8, nameIndex := 562, descriptorIndex := 563, attributes := #[] }])
  fields := #[{ name := "in", type := (.object "java/io/InputStream"), accessFlags := 25, slot := 0, constantValue := 0 }, { name := "out", type := (.object "java/io/PrintStream"), accessFlags := 25, slot := 1, constantValue := 0 }, { name := "err", type := (.object "java/io/PrintStream"), accessFlags := 25, slot := 2, constantValue := 0 }, { name := "initialIn", type := (.object "java/io/InputStream"), accessFlags := 10, slot := 3, constantValue := 0 }, { name := "NEVER", type := .int, accessFlags := 26, slot := 4, constantValue := 0 }, { name := "MAYBE", type := .int, accessFlags := 26, slot := 5, constantValue := 0 }, { name := "allowSecurityManager", type := .int, accessFlags := 10, slot := 6, constantValue := 0 }, { name := "security", type := (.object "java/lang/SecurityManager"), accessFlags := 74, slot := 7, constantValue := 0 }, { name := "notSupportedJnuEncoding", type := (.object "java/lang/String"), accessFlags := 10, slot := 8, constantValue := 0 }, { name := "cons", type := (.object "java/io/Console"), accessFlags := 74, slot := 9, constantValue := 0 }, { name := "initialErrStream", type := (.object "java/io/PrintStream"), accessFlags := 74, slot := 10, constantValue := 0 }, { name := "props", type := (.object "java/util/Properties"), accessFlags := 10, slot := 11, constantValue := 0 }, { name := "lineSeparator", type := (.object "java/lang/String"), accessFlags := 10, slot := 12, constantValue := 0 }, { name := "bootLayer", type := (.object "java/lang/ModuleLayer"), accessFlags := 8, slot := 13, constantValue := 0 }]
  methods := #[k14m0, k14m1]
  instanceTypes := #[]
  staticTypes := #[(.object "java/io/InputStream"), (.object "java/io/PrintStream"), (.object "java/io/PrintStream"), (.object "java/io/InputStream"), .int, .int, .int, (.object "java/lang/SecurityManager"), (.object "java/lang/String"), (.object "java/io/Console"), (.object "java/io/PrintStream"), (.object "java/util/Properties"), (.object "java/lang/String"), (.object "java/lang/ModuleLayer")]
  resolved := Array.replicate 834 none
  statics := none }

def pool15 : Array CpInfo := pool [(9, u "<init>"), (6, .class_ 18), (1, u "java/lang/Object"), (0, u "()V"), (1, .class_ 23), (1, u "jdk/internal/util/ArraysSupport"), (0, u "LOG2_ARRAY_LONG_INDEX_SCALE"), (0, u "I"), (2, u "U"), (0, u "Ljdk/internal/misc/Unsafe;"), (8, u "BIG_ENDIAN"), (0, u "Z"), (8, u "LOG2_BYTE_BIT_SIZE"), (4, u "LOG2_ARRAY_INT_INDEX_SCALE"), (54, u "JLA"), (0, u "Ljdk/internal/access/JavaLangAccess;"), (11, u "LOG2_ARRAY_BOOLEAN_INDEX_SCALE"), (9, u "LOG2_ARRAY_BYTE_INDEX_SCALE"), (5, u "LOG2_ARRAY_CHAR_INDEX_SCALE"), (5, u "LOG2_ARRAY_SHORT_INDEX_SCALE"), (18, u "LOG2_ARRAY_FLOAT_INDEX_SCALE"), (24, u "LOG2_ARRAY_DOUBLE_INDEX_SCALE"), (89, u "T_BOOLEAN"), (2, u "T_CHAR"), (1, u "T_FLOAT"), (1, u "T_DOUBLE"), (1, u "T_BYTE"), (1, u "T_SHORT"), (1, u "T_INT"), (1, u "T_LONG"), (1, u "SOFT_MAX_ARRAY_LENGTH")] 83

def k15m0 : Method := { name := "<init>", desc := "()V", sig := { parameters := [], returnType := none }, accessFlags := 2, code := none }
/-- jdk/internal/util/ArraysSupport -/
def k15 : Class := { plain "jdk/internal/util/ArraysSupport" (some 0) with
  accessFlags := 33
  interfaces := #[]
  cf := some (fileOf pool15 21 #[] #[{ accessFlags := 2, nameIndex := 9, descriptorIndex := 19, attributes := #[] }] 33 16 #[] #[{ accessFlags := 24, nameIndex := 28, descriptorIndex := 29, attributes := #[] }, { accessFlags := 26, nameIndex := 38, descriptorIndex := 39, attributes := #[] }, { accessFlags := 25, nameIndex := 121, descriptorIndex := 25, attributes := #[] }, { accessFlags := 25, nameIndex := 131, descriptorIndex := 25, attributes := #[] }, { accessFlags := 25, nameIndex := 137, descriptorIndex := 25, attributes := #[] }, { accessFlags := 25, nameIndex := 143, descriptorIndex := 25, attributes := #[] }, { accessFlags := 25, nameIndex := 53, descriptorIndex := 25, attributes := #[] }, { accessFlags := 25, nameIndex := 24, descriptorIndex := 25, attributes := #[] }, { accessFlags := 25, nameIndex := 162, descriptorIndex := 25, attributes := #[] }, { accessFlags := 25, nameIndex := 187, descriptorIndex := 25, attributes := #[] }, { accessFlags := 26, nameIndex := 48, descriptorIndex := 25, attributes := #[] }, { accessFlags := 25, nameIndex := 277, descriptorIndex := 25, attributes := #[] }, { accessFlags := 25, nameIndex := 280, descriptorIndex := 25, attributes := #[] }, { accessFlags := 25, nameIndex := 282, descriptorIndex := 25, attributes := #[] }, { accessFlags := 25, nameIndex := 284, descriptorIndex := 25, attributes := #[] }, { accessFlags := 25, nameIndex := 286, descriptorIndex := 25, attributes := #[] }, { accessFlags := 25, nameIndex := 288, descriptorIndex := 25, attributes := #[] }, { accessFlags := 25, nameIndex := 290, descriptorIndex := 25, attributes := #[] }, { accessFlags := 25, nameIndex := 292, descriptorIndex := 25, attributes := #[] }, { accessFlags := 26, nameIndex := 108, descriptorIndex := 109, attributes := #[] }, { accessFlags := 25, nameIndex := 294, descriptorIndex := 25, attributes := #[] }])
  fields := #[{ name := "U", type := (.object "jdk/internal/misc/Unsafe"), accessFlags := 24, slot := 0, constantValue := 0 }, { name := "BIG_ENDIAN", type := .boolean, accessFlags := 26, slot := 1, constantValue := 0 }, { name := "LOG2_ARRAY_BOOLEAN_INDEX_SCALE", type := .int, accessFlags := 25, slot := 2, constantValue := 0 }, { name := "LOG2_ARRAY_BYTE_INDEX_SCALE", type := .int, accessFlags := 25, slot := 3, constantValue := 0 }, { name := "LOG2_ARRAY_CHAR_INDEX_SCALE", type := .int, accessFlags := 25, slot := 4, constantValue := 0 }, { name := "LOG2_ARRAY_SHORT_INDEX_SCALE", type := .int, accessFlags := 25, slot := 5, constantValue := 0 }, { name := "LOG2_ARRAY_INT_INDEX_SCALE", type := .int, accessFlags := 25, slot := 6, constantValue := 0 }, { name := "LOG2_ARRAY_LONG_INDEX_SCALE", type := .int, accessFlags := 25, slot := 7, constantValue := 0 }, { name := "LOG2_ARRAY_FLOAT_INDEX_SCALE", type := .int, accessFlags := 25, slot := 8, constantValue := 0 }, { name := "LOG2_ARRAY_DOUBLE_INDEX_SCALE", type := .int, accessFlags := 25, slot := 9, constantValue := 0 }, { name := "LOG2_BYTE_BIT_SIZE", type := .int, accessFlags := 26, slot := 10, constantValue := 0 }, { name := "T_BOOLEAN", type := .int, accessFlags := 25, slot := 11, constantValue := 0 }, { name := "T_CHAR", type := .int, accessFlags := 25, slot := 12, constantValue := 0 }, { name := "T_FLOAT", type := .int, accessFlags := 25, slot := 13, constantValue := 0 }, { name := "T_DOUBLE", type := .int, accessFlags := 25, slot := 14, constantValue := 0 }, { name := "T_BYTE", type := .int, accessFlags := 25, slot := 15, constantValue := 0 }, { name := "T_SHORT", type := .int, accessFlags := 25, slot := 16, constantValue := 0 }, { name := "T_INT", type := .int, accessFlags := 25, slot := 17, constantValue := 0 }, { name := "T_LONG", type := .int, accessFlags := 25, slot := 18, constantValue := 0 }, { name := "JLA", type := (.object "jdk/internal/access/JavaLangAccess"), accessFlags := 26, slot := 19, constantValue := 0 }, { name := "SOFT_MAX_ARRAY_LENGTH", type := .int, accessFlags := 25, slot := 20, constantValue := 0 }]
  methods := #[k15m0]
  instanceTypes := #[]
  staticTypes := #[(.object "jdk/internal/misc/Unsafe"), .boolean, .int, .int, .int, .int, .int, .int, .int, .int, .int, .int, .int, .int, .int, .int, .int, .int, .int, (.object "jdk/internal/access/JavaLangAccess"), .int]
  resolved := Array.replicate 378 none
  statics := none }

def pool16 : Array CpInfo := pool [(1, u "java/lang/Cloneable"), (0, .class_ 1), (0, u "java/lang/Object"), (0, .class_ 3)] 3

/-- java/lang/Cloneable -/
def k16 : Class := { plain "java/lang/Cloneable" (some 0) with
  accessFlags := 1537
  interfaces := #[]
  cf := some (fileOf pool16 2 #[] #[] 1537 4 #[] #[])
  fields := #[]
  methods := #[]
  instanceTypes := #[]
  staticTypes := #[]
  resolved := Array.replicate 8 none
  statics := none }

/-- the primitive byte -/
def k17 : Class := { plain "byte" none with kind := .primitive 'B', accessFlags := 0x411 }
/-- [B -/
def k18 : Class := { plain "[B" (some 0) with kind := .array 17 .byte, interfaces := #[16, 2], accessFlags := 1041 }

/-- the primitive char -/
def k19 : Class := { plain "char" none with kind := .primitive 'C', accessFlags := 0x411 }
/-- [C -/
def k20 : Class := { plain "[C" (some 0) with kind := .array 19 .char, interfaces := #[16, 2], accessFlags := 1041 }

/-- the primitive int -/
def k21 : Class := { plain "int" none with kind := .primitive 'I', accessFlags := 0x411 }
/-- [I -/
def k22 : Class := { plain "[I" (some 0) with kind := .array 21 .int, interfaces := #[16, 2], accessFlags := 1041 }

def heap : Heap := #[{ cls := 7, slots := #[.long 0, .int 1, .null, .int 0, .null, .int 0, .int 0], vm := .statics 7 },
  { cls := 11, slots := #[.null, .null, .null], vm := .statics 11 }]
def classes : Array Class := #[k0, k1, k2, k3, k4, k5, k6, k7, k8, k9, k10, k11, k12, k13, k14, k15, k16, k17, k18, k19, k20, k21, k22]
def interned : List (Array UInt16 × Addr) := []
def slotsUsed : Nat := 10
def theMethod : MethodId := ⟨1, 1⟩
def args0 : Array Value := #[.int 5, .int 1, .int 3, .int 4]
def aboutOver (below : List Frame) : State where
  vm := { classes := classes, interned := interned.toArray }
  heap := heap
  slotsUsed := slotsUsed
  threads := #[{ frames := .invoking theMethod args0 :: below }]
def below0 : List Frame := [.native { method := ⟨0, 0⟩, args := #[] }]
def about1 : State := aboutOver below0
def p0 : Program := .bare "" "" ""
def e0 : Env := launch0.env 0 0 0
theorem w_frames : about1.frames = Frame.invoking theMethod args0 :: below0 := rfl
set_option maxRecDepth 65536 in
theorem w_args : argsFit about1.vm theMethod args0 = true := by decide +kernel
set_option maxRecDepth 65536 in
theorem w_heap : heapFits about1 = true := by decide +kernel
set_option maxRecDepth 65536 in
theorem w_runnable : about1.curStatus? = some .runnable := by decide +kernel
set_option maxRecDepth 65536 in
theorem w_alone : about1.alone = true := by decide +kernel
set_option maxRecDepth 65536 in
theorem w_named : about1.methodNamed? x = some theMethod := by decide +kernel
set_option maxRecDepth 65536 in
theorem w_hears : about1.hears theMethod below0 = true := by decide +kernel
set_option maxRecDepth 65536 in
theorem w_ripe : about1.ripe theMethod args0 below0 = true := by decide +kernel
theorem w_running : about1.status = .running := rfl
set_option maxRecDepth 65536 in
theorem w_room : about1.hasRoom e0.platform room_1 = true :=
  launch0.hasRoom_least _ room_1 (by decide +kernel) (by decide +kernel) (by decide +kernel) (by decide +kernel) (by decide +kernel) (by decide +kernel)
theorem allAtoms_all (ts : List Jvm.Cond) (a : Array Jvm.Value) (st : Jvm.State) : (allAtoms ts).before a st = ts.all (fun c => c.before a st) := by
  induction ts with
  | nil => rfl
  | cons c t ih =>
    show (Jvm.Cond.and c (allAtoms t)).before a st = _
    rw [Jvm.Cond.before_and, ih, List.all_cons]
def words1 : List Jvm.Cond := Jvm.Cond.code x code maxLocals ret :: tables_1
/-- a 'code' word, met by the world's own term for the bytes: nothing is compared byte by byte -/
theorem code_word {y : MethodName} {bytes : ByteArray} {mx : Nat} {rt : Option FieldType} {a : Array Value} {s : State} {m : MethodId} {meth : Method} {c : Code} (h1 : s.methodNamed? y = some m) (h2 : s.vm.method? m = some meth) (h3 : meth.code = some c) (h4 : c.code = bytes)
    (h5 : (c.maxLocals == mx && c.exceptionTable.isEmpty && decide (c.maxStack ≤ mostOperands) && decide (meth.sig.returnType = rt) && !meth.locks && decide (parseMethodDescriptor y.desc = some meth.sig)) = true) : (Jvm.Cond.code y bytes mx rt).before a s = true := by
  simp only [Bool.and_eq_true, beq_iff_eq, Bool.not_eq_true', decide_eq_true_eq] at h5
  obtain ⟨⟨⟨⟨⟨g1, g2⟩, g3⟩, g4⟩, g5⟩, g6⟩ := h5
  simp [Cond.before, Cond.holds, Cond.value, h1, h2, h3, h4, g1, g2, g3, g4, g5, g6]
def isCode : Jvm.Cond → Bool
  | .code _ _ _ _ => true
  | _ => false
theorem all_split {L : List Jvm.Cond} {P : Jvm.Cond → Bool} (h1 : L.all (fun c => isCode c || P c) = true) (h2 : ∀ c ∈ L.filter isCode, P c = true) : L.all P = true := by
  refine List.all_eq_true.mpr fun c hc => ?_
  have h := List.all_eq_true.mp h1 c hc
  rcases Bool.eq_false_or_eq_true (isCode c) with hi | hi
  · exact h2 c (List.mem_filter.mpr ⟨hc, hi⟩)
  · simpa [hi] using h
set_option maxRecDepth 65536 in
theorem w_c0 : (Jvm.Cond.code x code maxLocals ret).before args0 about1 = true := code_word (m := ⟨1, 1⟩) (meth := k1m1) (c := k1c1) (by decide +kernel) rfl rfl rfl (by decide +kernel)
set_option maxRecDepth 65536 in
theorem w_c1 : (Jvm.Cond.code ({ cls := "java/lang/String", name := "valueOf", desc := "(C)Ljava/lang/String;" } : Jvm.MethodName) jdk_42_method_139_code (1 : Nat) (Option.some (Jvm.ClassFile.FieldType.object "java/lang/String"))).before args0 about1 = true := code_word (m := ⟨7, 4⟩) (meth := k7m4) (c := k7c4) (by decide +kernel) rfl rfl rfl (by decide +kernel)
set_option maxRecDepth 65536 in
theorem w_c2 : (Jvm.Cond.code ({ cls := "java/lang/StringLatin1", name := "canEncode", desc := "(C)Z" } : Jvm.MethodName) jdk_43_method_3_code (1 : Nat) (Option.some Jvm.ClassFile.FieldType.boolean)).before args0 about1 = true := code_word (m := ⟨8, 1⟩) (meth := k8m1) (c := k8c1) (by decide +kernel) rfl rfl rfl (by decide +kernel)
set_option maxRecDepth 65536 in
theorem w_c3 : (Jvm.Cond.code ({ cls := "java/lang/StringLatin1", name := "toBytes", desc := "(C)[B" } : Jvm.MethodName) jdk_43_method_46_code (1 : Nat) (Option.some (Jvm.ClassFile.FieldType.array Jvm.ClassFile.FieldType.byte))).before args0 about1 = true := code_word (m := ⟨8, 3⟩) (meth := k8m3) (c := k8c3) (by decide +kernel) rfl rfl rfl (by decide +kernel)
set_option maxRecDepth 65536 in
theorem w_c4 : (Jvm.Cond.code ({ cls := "java/lang/String", name := "<init>", desc := "([BB)V" } : Jvm.MethodName) jdk_42_method_151_code (3 : Nat) (Option.none : Option Jvm.ClassFile.FieldType)).before args0 about1 = true := code_word (m := ⟨7, 6⟩) (meth := k7m6) (c := k7c6) (by decide +kernel) rfl rfl rfl (by decide +kernel)
set_option maxRecDepth 65536 in
theorem w_c5 : (Jvm.Cond.code ({ cls := "java/lang/Object", name := "<init>", desc := "()V" } : Jvm.MethodName) object_method_1_code (1 : Nat) (Option.none : Option Jvm.ClassFile.FieldType)).before args0 about1 = true := code_word (m := ⟨0, 0⟩) (meth := k0m0) (c := k0c0) (by decide +kernel) rfl rfl rfl (by decide +kernel)
set_option maxRecDepth 65536 in
theorem w_c6 : (Jvm.Cond.code ({ cls := "java/lang/String", name := "<init>", desc := "([C)V" } : Jvm.MethodName) jdk_42_method_3_code (2 : Nat) (Option.none : Option Jvm.ClassFile.FieldType)).before args0 about1 = true := code_word (m := ⟨7, 1⟩) (meth := k7m1) (c := k7c1) (by decide +kernel) rfl rfl rfl (by decide +kernel)
set_option maxRecDepth 65536 in
theorem w_c7 : (Jvm.Cond.code ({ cls := "java/lang/String", name := "<init>", desc := "([CIILjava/lang/Void;)V" } : Jvm.MethodName) jdk_42_method_149_code (6 : Nat) (Option.none : Option Jvm.ClassFile.FieldType)).before args0 about1 = true := code_word (m := ⟨7, 5⟩) (meth := k7m5) (c := k7c5) (by decide +kernel) rfl rfl rfl (by decide +kernel)
set_option maxRecDepth 65536 in
theorem w_c8 : (Jvm.Cond.code ({ cls := "java/lang/StringUTF16", name := "compress", desc := "([CII)[B" } : Jvm.MethodName) jdk_52_method_16_code (6 : Nat) (Option.some (Jvm.ClassFile.FieldType.array Jvm.ClassFile.FieldType.byte))).before args0 about1 = true := code_word (m := ⟨9, 2⟩) (meth := k9m2) (c := k9c2) (by decide +kernel) rfl rfl rfl (by decide +kernel)
set_option maxRecDepth 65536 in
theorem w_c9 : (Jvm.Cond.code ({ cls := "java/lang/StringUTF16", name := "compress", desc := "([CI[BII)I" } : Jvm.MethodName) jdk_52_method_21_code (7 : Nat) (Option.some Jvm.ClassFile.FieldType.int)).before args0 about1 = true := code_word (m := ⟨9, 3⟩) (meth := k9m3) (c := k9c3) (by decide +kernel) rfl rfl rfl (by decide +kernel)
set_option maxRecDepth 65536 in
theorem w_c10 : (Jvm.Cond.code ({ cls := "java/lang/StringUTF16", name := "coderFromArrayLen", desc := "([BI)B" } : Jvm.MethodName) jdk_52_method_15_code (2 : Nat) (Option.some Jvm.ClassFile.FieldType.byte)).before args0 about1 = true := code_word (m := ⟨9, 1⟩) (meth := k9m1) (c := k9c1) (by decide +kernel) rfl rfl rfl (by decide +kernel)
set_option maxRecDepth 65536 in
theorem w_c11 : (Jvm.Cond.code ({ cls := "com/example/invix/invix/sort/KeyBuffer", name := "<init>", desc := "()V" } : Jvm.MethodName) prog_79_method_1_code (1 : Nat) (Option.none : Option Jvm.ClassFile.FieldType)).before args0 about1 = true := code_word (m := ⟨10, 0⟩) (meth := k10m0) (c := k10c0) (by decide +kernel) rfl rfl rfl (by decide +kernel)
set_option maxRecDepth 65536 in
theorem w_c12 : (Jvm.Cond.code ({ cls := "com/example/invix/invix/sort/KeyBuffer", name := "clear", desc := "()V" } : Jvm.MethodName) prog_79_method_10_code (1 : Nat) (Option.none : Option Jvm.ClassFile.FieldType)).before args0 about1 = true := code_word (m := ⟨10, 3⟩) (meth := k10m3) (c := k10c3) (by decide +kernel) rfl rfl rfl (by decide +kernel)
set_option maxRecDepth 65536 in
theorem w_c13 : (Jvm.Cond.code ({ cls := "com/example/invix/invix/sort/KeyBuffer", name := "memory", desc := "()J" } : Jvm.MethodName) prog_79_method_7_code (1 : Nat) (Option.some Jvm.ClassFile.FieldType.long)).before args0 about1 = true := code_word (m := ⟨10, 2⟩) (meth := k10m2) (c := k10c2) (by decide +kernel) rfl rfl rfl (by decide +kernel)
set_option maxRecDepth 65536 in
theorem w_c14 : (Jvm.Cond.code ({ cls := "com/example/invix/invix/sort/KeyBufferMemoryPinLaw", name := "pick", desc := "(ILjava/lang/String;Ljava/lang/String;Ljava/lang/String;Ljava/lang/String;)Ljava/lang/String;" } : Jvm.MethodName) method_3_code (5 : Nat) (Option.some (Jvm.ClassFile.FieldType.object "java/lang/String"))).before args0 about1 = true := code_word (m := ⟨1, 2⟩) (meth := k1m2) (c := k1c2) (by decide +kernel) rfl rfl rfl (by decide +kernel)
set_option maxRecDepth 65536 in
theorem w_c15 : (Jvm.Cond.code ({ cls := "com/example/invix/invix/sort/KeyBuffer", name := "add", desc := "(Ljava/lang/String;)I" } : Jvm.MethodName) prog_79_method_2_code (4 : Nat) (Option.some Jvm.ClassFile.FieldType.int)).before args0 about1 = true := code_word (m := ⟨10, 1⟩) (meth := k10m1) (c := k10c1) (by decide +kernel) rfl rfl rfl (by decide +kernel)
set_option maxRecDepth 65536 in
theorem w_c16 : (Jvm.Cond.code ({ cls := "com/example/invix/invix/sort/KeyBuffer", name := "start", desc := "(I)I" } : Jvm.MethodName) prog_79_method_12_code (2 : Nat) (Option.some Jvm.ClassFile.FieldType.int)).before args0 about1 = true := code_word (m := ⟨10, 4⟩) (meth := k10m4) (c := k10c4) (by decide +kernel) rfl rfl rfl (by decide +kernel)
set_option maxRecDepth 65536 in
theorem w_c17 : (Jvm.Cond.code ({ cls := "java/lang/String", name := "length", desc := "()I" } : Jvm.MethodName) jdk_42_method_54_code (1 : Nat) (Option.some Jvm.ClassFile.FieldType.int)).before args0 about1 = true := code_word (m := ⟨7, 2⟩) (meth := k7m2) (c := k7c2) (by decide +kernel) rfl rfl rfl (by decide +kernel)
set_option maxRecDepth 65536 in
theorem w_c18 : (Jvm.Cond.code ({ cls := "java/lang/String", name := "coder", desc := "()B" } : Jvm.MethodName) jdk_42_method_152_code (1 : Nat) (Option.some Jvm.ClassFile.FieldType.byte)).before args0 about1 = true := code_word (m := ⟨7, 7⟩) (meth := k7m7) (c := k7c7) (by decide +kernel) rfl rfl rfl (by decide +kernel)
set_option maxRecDepth 65536 in
theorem w_c19 : (Jvm.Cond.code ({ cls := "java/lang/String", name := "getChars", desc := "(II[CI)V" } : Jvm.MethodName) jdk_42_method_61_code (5 : Nat) (Option.none : Option Jvm.ClassFile.FieldType)).before args0 about1 = true := code_word (m := ⟨7, 3⟩) (meth := k7m3) (c := k7c3) (by decide +kernel) rfl rfl rfl (by decide +kernel)
set_option maxRecDepth 65536 in
theorem w_c20 : (Jvm.Cond.code ({ cls := "java/lang/String", name := "checkBoundsBeginEnd", desc := "(III)V" } : Jvm.MethodName) jdk_42_method_158_code (3 : Nat) (Option.none : Option Jvm.ClassFile.FieldType)).before args0 about1 = true := code_word (m := ⟨7, 10⟩) (meth := k7m10) (c := k7c10) (by decide +kernel) rfl rfl rfl (by decide +kernel)
set_option maxRecDepth 65536 in
theorem w_c21 : (Jvm.Cond.code ({ cls := "jdk/internal/util/Preconditions", name := "checkFromToIndex", desc := "(IIILjava/util/function/BiFunction;)I" } : Jvm.MethodName) jdk_41_method_12_code (4 : Nat) (Option.some Jvm.ClassFile.FieldType.int)).before args0 about1 = true := code_word (m := ⟨11, 1⟩) (meth := k11m1) (c := k11c1) (by decide +kernel) rfl rfl rfl (by decide +kernel)
set_option maxRecDepth 65536 in
theorem w_c22 : (Jvm.Cond.code ({ cls := "java/lang/String", name := "checkBoundsOffCount", desc := "(III)I" } : Jvm.MethodName) jdk_42_method_157_code (3 : Nat) (Option.some Jvm.ClassFile.FieldType.int)).before args0 about1 = true := code_word (m := ⟨7, 9⟩) (meth := k7m9) (c := k7c9) (by decide +kernel) rfl rfl rfl (by decide +kernel)
set_option maxRecDepth 65536 in
theorem w_c23 : (Jvm.Cond.code ({ cls := "jdk/internal/util/Preconditions", name := "checkFromIndexSize", desc := "(IIILjava/util/function/BiFunction;)I" } : Jvm.MethodName) jdk_41_method_13_code (4 : Nat) (Option.some Jvm.ClassFile.FieldType.int)).before args0 about1 = true := code_word (m := ⟨11, 2⟩) (meth := k11m2) (c := k11c2) (by decide +kernel) rfl rfl rfl (by decide +kernel)
set_option maxRecDepth 65536 in
theorem w_c24 : (Jvm.Cond.code ({ cls := "java/lang/String", name := "isLatin1", desc := "()Z" } : Jvm.MethodName) jdk_42_method_154_code (1 : Nat) (Option.some Jvm.ClassFile.FieldType.boolean)).before args0 about1 = true := code_word (m := ⟨7, 8⟩) (meth := k7m8) (c := k7c8) (by decide +kernel) rfl rfl rfl (by decide +kernel)
set_option maxRecDepth 65536 in
theorem w_c25 : (Jvm.Cond.code ({ cls := "java/lang/StringLatin1", name := "getChars", desc := "([BII[CI)V" } : Jvm.MethodName) jdk_43_method_11_code (5 : Nat) (Option.none : Option Jvm.ClassFile.FieldType)).before args0 about1 = true := code_word (m := ⟨8, 2⟩) (meth := k8m2) (c := k8c2) (by decide +kernel) rfl rfl rfl (by decide +kernel)
set_option maxRecDepth 65536 in
theorem w_c26 : (Jvm.Cond.code ({ cls := "java/lang/StringLatin1", name := "inflate", desc := "([BI[CII)V" } : Jvm.MethodName) jdk_43_method_49_code (6 : Nat) (Option.none : Option Jvm.ClassFile.FieldType)).before args0 about1 = true := code_word (m := ⟨8, 4⟩) (meth := k8m4) (c := k8c4) (by decide +kernel) rfl rfl rfl (by decide +kernel)
set_option maxRecDepth 65536 in
theorem w_c27 : (Jvm.Cond.code ({ cls := "java/lang/Math", name := "max", desc := "(II)I" } : Jvm.MethodName) jdk_29_method_65_code (2 : Nat) (Option.some Jvm.ClassFile.FieldType.int)).before args0 about1 = true := code_word (m := ⟨12, 1⟩) (meth := k12m1) (c := k12c1) (by decide +kernel) rfl rfl rfl (by decide +kernel)
set_option maxRecDepth 65536 in
theorem w_c28 : (Jvm.Cond.code ({ cls := "java/util/Arrays", name := "copyOf", desc := "([CI)[C" } : Jvm.MethodName) jdk_65_method_125_code (3 : Nat) (Option.some (Jvm.ClassFile.FieldType.array Jvm.ClassFile.FieldType.char))).before args0 about1 = true := code_word (m := ⟨13, 1⟩) (meth := k13m1) (c := k13c1) (by decide +kernel) rfl rfl rfl (by decide +kernel)
set_option maxRecDepth 65536 in
theorem w_c29 : (Jvm.Cond.code ({ cls := "java/lang/Math", name := "min", desc := "(II)I" } : Jvm.MethodName) jdk_29_method_69_code (2 : Nat) (Option.some Jvm.ClassFile.FieldType.int)).before args0 about1 = true := code_word (m := ⟨12, 2⟩) (meth := k12m2) (c := k12c2) (by decide +kernel) rfl rfl rfl (by decide +kernel)
set_option maxRecDepth 65536 in
theorem w_c30 : (Jvm.Cond.code ({ cls := "com/example/invix/invix/sort/KeyBufferMemoryPinLaw", name := "length", desc := "(I)I" } : Jvm.MethodName) method_4_code (1 : Nat) (Option.some Jvm.ClassFile.FieldType.int)).before args0 about1 = true := code_word (m := ⟨1, 3⟩) (meth := k1m3) (c := k1c3) (by decide +kernel) rfl rfl rfl (by decide +kernel)
set_option maxRecDepth 65536 in
theorem w_c31 : (Jvm.Cond.code ({ cls := "com/example/invix/invix/sort/KeyBufferMemoryPinLaw", name := "grow", desc := "(II)I" } : Jvm.MethodName) method_5_code (2 : Nat) (Option.some Jvm.ClassFile.FieldType.int)).before args0 about1 = true := code_word (m := ⟨1, 4⟩) (meth := k1m4) (c := k1c4) (by decide +kernel) rfl rfl rfl (by decide +kernel)
def codes1 : List Jvm.Cond := [Jvm.Cond.code x code maxLocals ret, Jvm.Cond.code ({ cls := "java/lang/String", name := "valueOf", desc := "(C)Ljava/lang/String;" } : Jvm.MethodName) jdk_42_method_139_code (1 : Nat) (Option.some (Jvm.ClassFile.FieldType.object "java/lang/String")), Jvm.Cond.code ({ cls := "java/lang/StringLatin1", name := "canEncode", desc := "(C)Z" } : Jvm.MethodName) jdk_43_method_3_code (1 : Nat) (Option.some Jvm.ClassFile.FieldType.boolean), Jvm.Cond.code ({ cls := "java/lang/StringLatin1", name := "toBytes", desc := "(C)[B" } : Jvm.MethodName) jdk_43_method_46_code (1 : Nat) (Option.some (Jvm.ClassFile.FieldType.array Jvm.ClassFile.FieldType.byte)), Jvm.Cond.code ({ cls := "java/lang/String", name := "<init>", desc := "([BB)V" } : Jvm.MethodName) jdk_42_method_151_code (3 : Nat) (Option.none : Option Jvm.ClassFile.FieldType), Jvm.Cond.code ({ cls := "java/lang/Object", name := "<init>", desc := "()V" } : Jvm.MethodName) object_method_1_code (1 : Nat) (Option.none : Option Jvm.ClassFile.FieldType), Jvm.Cond.code ({ cls := "java/lang/String", name := "<init>", desc := "([C)V" } : Jvm.MethodName) jdk_42_method_3_code (2 : Nat) (Option.none : Option Jvm.ClassFile.FieldType), Jvm.Cond.code ({ cls := "java/lang/String", name := "<init>", desc := "([CIILjava/lang/Void;)V" } : Jvm.MethodName) jdk_42_method_149_code (6 : Nat) (Option.none : Option Jvm.ClassFile.FieldType), Jvm.Cond.code ({ cls := "java/lang/StringUTF16", name := "compress", desc := "([CII)[B" } : Jvm.MethodName) jdk_52_method_16_code (6 : Nat) (Option.some (Jvm.ClassFile.FieldType.array Jvm.ClassFile.FieldType.byte)), Jvm.Cond.code ({ cls := "java/lang/StringUTF16", name := "compress", desc := "([CI[BII)I" } : Jvm.MethodName) jdk_52_method_21_code (7 : Nat) (Option.some Jvm.ClassFile.FieldType.int), Jvm.Cond.code ({ cls := "java/lang/StringUTF16", name := "coderFromArrayLen", desc := "([BI)B" } : Jvm.MethodName) jdk_52_method_15_code (2 : Nat) (Option.some Jvm.ClassFile.FieldType.byte), Jvm.Cond.code ({ cls := "com/example/invix/invix/sort/KeyBuffer", name := "<init>", desc := "()V" } : Jvm.MethodName) prog_79_method_1_code (1 : Nat) (Option.none : Option Jvm.ClassFile.FieldType), Jvm.Cond.code ({ cls := "com/example/invix/invix/sort/KeyBuffer", name := "clear", desc := "()V" } : Jvm.MethodName) prog_79_method_10_code (1 : Nat) (Option.none : Option Jvm.ClassFile.FieldType), Jvm.Cond.code ({ cls := "com/example/invix/invix/sort/KeyBuffer", name := "memory", desc := "()J" } : Jvm.MethodName) prog_79_method_7_code (1 : Nat) (Option.some Jvm.ClassFile.FieldType.long), Jvm.Cond.code ({ cls := "com/example/invix/invix/sort/KeyBufferMemoryPinLaw", name := "pick", desc := "(ILjava/lang/String;Ljava/lang/String;Ljava/lang/String;Ljava/lang/String;)Ljava/lang/String;" } : Jvm.MethodName) method_3_code (5 : Nat) (Option.some (Jvm.ClassFile.FieldType.object "java/lang/String")), Jvm.Cond.code ({ cls := "com/example/invix/invix/sort/KeyBuffer", name := "add", desc := "(Ljava/lang/String;)I" } : Jvm.MethodName) prog_79_method_2_code (4 : Nat) (Option.some Jvm.ClassFile.FieldType.int), Jvm.Cond.code ({ cls := "com/example/invix/invix/sort/KeyBuffer", name := "start", desc := "(I)I" } : Jvm.MethodName) prog_79_method_12_code (2 : Nat) (Option.some Jvm.ClassFile.FieldType.int), Jvm.Cond.code ({ cls := "java/lang/String", name := "length", desc := "()I" } : Jvm.MethodName) jdk_42_method_54_code (1 : Nat) (Option.some Jvm.ClassFile.FieldType.int), Jvm.Cond.code ({ cls := "java/lang/String", name := "coder", desc := "()B" } : Jvm.MethodName) jdk_42_method_152_code (1 : Nat) (Option.some Jvm.ClassFile.FieldType.byte), Jvm.Cond.code ({ cls := "java/lang/String", name := "getChars", desc := "(II[CI)V" } : Jvm.MethodName) jdk_42_method_61_code (5 : Nat) (Option.none : Option Jvm.ClassFile.FieldType), Jvm.Cond.code ({ cls := "java/lang/String", name := "checkBoundsBeginEnd", desc := "(III)V" } : Jvm.MethodName) jdk_42_method_158_code (3 : Nat) (Option.none : Option Jvm.ClassFile.FieldType), Jvm.Cond.code ({ cls := "jdk/internal/util/Preconditions", name := "checkFromToIndex", desc := "(IIILjava/util/function/BiFunction;)I" } : Jvm.MethodName) jdk_41_method_12_code (4 : Nat) (Option.some Jvm.ClassFile.FieldType.int), Jvm.Cond.code ({ cls := "java/lang/String", name := "checkBoundsOffCount", desc := "(III)I" } : Jvm.MethodName) jdk_42_method_157_code (3 : Nat) (Option.some Jvm.ClassFile.FieldType.int), Jvm.Cond.code ({ cls := "jdk/internal/util/Preconditions", name := "checkFromIndexSize", desc := "(IIILjava/util/function/BiFunction;)I" } : Jvm.MethodName) jdk_41_method_13_code (4 : Nat) (Option.some Jvm.ClassFile.FieldType.int), Jvm.Cond.code ({ cls := "java/lang/String", name := "isLatin1", desc := "()Z" } : Jvm.MethodName) jdk_42_method_154_code (1 : Nat) (Option.some Jvm.ClassFile.FieldType.boolean), Jvm.Cond.code ({ cls := "java/lang/StringLatin1", name := "getChars", desc := "([BII[CI)V" } : Jvm.MethodName) jdk_43_method_11_code (5 : Nat) (Option.none : Option Jvm.ClassFile.FieldType), Jvm.Cond.code ({ cls := "java/lang/StringLatin1", name := "inflate", desc := "([BI[CII)V" } : Jvm.MethodName) jdk_43_method_49_code (6 : Nat) (Option.none : Option Jvm.ClassFile.FieldType), Jvm.Cond.code ({ cls := "java/lang/Math", name := "max", desc := "(II)I" } : Jvm.MethodName) jdk_29_method_65_code (2 : Nat) (Option.some Jvm.ClassFile.FieldType.int), Jvm.Cond.code ({ cls := "java/util/Arrays", name := "copyOf", desc := "([CI)[C" } : Jvm.MethodName) jdk_65_method_125_code (3 : Nat) (Option.some (Jvm.ClassFile.FieldType.array Jvm.ClassFile.FieldType.char)), Jvm.Cond.code ({ cls := "java/lang/Math", name := "min", desc := "(II)I" } : Jvm.MethodName) jdk_29_method_69_code (2 : Nat) (Option.some Jvm.ClassFile.FieldType.int), Jvm.Cond.code ({ cls := "com/example/invix/invix/sort/KeyBufferMemoryPinLaw", name := "length", desc := "(I)I" } : Jvm.MethodName) method_4_code (1 : Nat) (Option.some Jvm.ClassFile.FieldType.int), Jvm.Cond.code ({ cls := "com/example/invix/invix/sort/KeyBufferMemoryPinLaw", name := "grow", desc := "(II)I" } : Jvm.MethodName) method_5_code (2 : Nat) (Option.some Jvm.ClassFile.FieldType.int)]
set_option maxRecDepth 65536 in
theorem codes_eq : words1.filter isCode = codes1 := rfl
theorem w_codes : ∀ c ∈ words1.filter isCode, c.before args0 about1 = true := by
  rw [codes_eq]
  intro c hc
  simp only [codes1, List.mem_cons, List.not_mem_nil, or_false] at hc
  rcases hc with rfl | rfl | rfl | rfl | rfl | rfl | rfl | rfl | rfl | rfl | rfl | rfl | rfl | rfl | rfl | rfl | rfl | rfl | rfl | rfl | rfl | rfl | rfl | rfl | rfl | rfl | rfl | rfl | rfl | rfl | rfl | rfl
  · exact w_c0
  · exact w_c1
  · exact w_c2
  · exact w_c3
  · exact w_c4
  · exact w_c5
  · exact w_c6
  · exact w_c7
  · exact w_c8
  · exact w_c9
  · exact w_c10
  · exact w_c11
  · exact w_c12
  · exact w_c13
  · exact w_c14
  · exact w_c15
  · exact w_c16
  · exact w_c17
  · exact w_c18
  · exact w_c19
  · exact w_c20
  · exact w_c21
  · exact w_c22
  · exact w_c23
  · exact w_c24
  · exact w_c25
  · exact w_c26
  · exact w_c27
  · exact w_c28
  · exact w_c29
  · exact w_c30
  · exact w_c31
set_option maxRecDepth 65536 in
theorem w_t1 : (words1.take 24).all (fun c => isCode c || c.before args0 about1) = true := by decide +kernel
set_option maxRecDepth 65536 in
theorem w_t2 : ((words1.drop 24).take 24).all (fun c => isCode c || c.before args0 about1) = true := by decide +kernel
set_option maxRecDepth 65536 in
theorem w_t3 : (((words1.drop 24).drop 24).take 24).all (fun c => isCode c || c.before args0 about1) = true := by decide +kernel
set_option maxRecDepth 65536 in
theorem w_t4 : ((((words1.drop 24).drop 24).drop 24).take 24).all (fun c => isCode c || c.before args0 about1) = true := by decide +kernel
set_option maxRecDepth 65536 in
theorem w_t5 : (((((words1.drop 24).drop 24).drop 24).drop 24).take 24).all (fun c => isCode c || c.before args0 about1) = true := by decide +kernel
set_option maxRecDepth 65536 in
theorem w_t6 : ((((((words1.drop 24).drop 24).drop 24).drop 24).drop 24).take 24).all (fun c => isCode c || c.before args0 about1) = true := by decide +kernel
set_option maxRecDepth 65536 in
theorem w_t7 : ((((((words1.drop 24).drop 24).drop 24).drop 24).drop 24).drop 24).all (fun c => isCode c || c.before args0 about1) = true := by decide +kernel
theorem w_tables : (allAtoms (Jvm.Cond.code x code maxLocals ret :: tables_1)).before args0 about1 = true := by
  rw [allAtoms_all]
  show words1.all (fun c => c.before args0 about1) = true
  refine all_split ?_ w_codes
  rw [← List.take_append_drop 24 words1, List.all_append, w_t1, ← List.take_append_drop 24 (words1.drop 24), List.all_append, w_t2, ← List.take_append_drop 24 ((words1.drop 24).drop 24), List.all_append, w_t3, ← List.take_append_drop 24 (((words1.drop 24).drop 24).drop 24), List.all_append, w_t4, ← List.take_append_drop 24 ((((words1.drop 24).drop 24).drop 24).drop 24), List.all_append, w_t5, ← List.take_append_drop 24 (((((words1.drop 24).drop 24).drop 24).drop 24).drop 24), List.all_append, w_t6, w_t7]
  rfl
set_option maxRecDepth 65536 in
theorem w_rest : rest_1_c.before args0 about1 = true := by decide +kernel
set_option maxRecDepth 65536 in
theorem w_case : (Jvm.Cond.and given_1 narrow_1).before args0 about1 = true := by decide +kernel
set_option maxRecDepth 65536 in
theorem w_consts : constsHeld consts_1 about1 := Jvm.Lit.constsHeldB_iff.mp (by decide +kernel)
theorem w_applies : (headSpec (Jvm.Cond.code x code maxLocals ret :: tables_1) room_1).applies x e0.platform about1 = true :=
  (Spec.applies_iff w_frames).mpr ⟨w_running, w_runnable, w_alone, w_named, w_hears, w_ripe, w_room, w_tables⟩
theorem atStart : AtStart classFile x code maxLocals ret World_1 tables_1 room_1 Calls_1 rest_1 Pre_1 launch0 p0 e0 about1 theMethod args0 below0 :=
  ⟨lists_1, trivial, launch0.admits_env _ _ _, launch0.least_env, fairChoices_fair.cas, fairChoices_fair.clock, w_frames, w_args, w_heap, w_applies, ⟨w_consts, trivial⟩, w_rest, w_case⟩
end start1
theorem witness_1 : WitnessClaimed_1 := ⟨start1.p0, start1.e0, start1.about1, start1.theMethod, start1.args0, start1.below0, start1.atStart⟩
end Jvm.Pilot.@@N@@
