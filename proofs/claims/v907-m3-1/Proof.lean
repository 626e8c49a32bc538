import JvmDerived
import JvmDerived.Pilot.@@N@@Statement
import JvmDerived.Pilot.@@N@@Code
set_option linter.unusedVariables false
set_option linter.unusedSimpArgs false

namespace Jvm.Own
open Sem ClassFile Op Lib Jvm.Stand Jvm.Free Jvm.LawKit Jvm.RoadKit
def Go (p : Program) (e : Env) (below : List Frame) (G : State → Outcome → Prop) (σ : State) : Prop := ∃ s₂ o, Steps p.tables e below σ s₂ ∧ s₂.status = .running ∧ Ended s₂ below o ∧ G s₂ o
theorem Go.step {p : Program} {e : Env} {below : List Frame} {G : State → Outcome → Prop} {σ σ' : State} (h : ∀ t, Steps p.tables e below σ' t → Steps p.tables e below σ t) (k : Go p e below G σ') : Go p e below G σ := by
  obtain ⟨s₂, o, h1, h2⟩ := k
  exact ⟨s₂, o, h _ h1, h2⟩
def RetG (s : State) (Q : Option Value → Heap → List Loc → Prop) (cells slots : Nat) (s₂ : State) (o : Outcome) : Prop := ∃ v L, o = .returned v ∧ Q v s₂.heap L ∧ FrameEnd s o s₂ L cells slots
section
variable {p : Program} {l : Launch} {e : Env} {R : Room} {s : State} {m : MethodId} {args : Array Value} {below : List Frame} {meth : Method} {c : Code} {T : State} {locs : List Loc} {k n : Nat} {G : State → Outcome → Prop} {code : ByteArray} {pc : Nat} {Ls : Array Slot} {st : List Value} {Z : State} {a0 : Array Value} {h : Heap} {n0 : Nat}
theorem Go.leave (X : Stand p l e R s m args below meth c T locs k n) {v : Option Value} (hv : meth.sig.returnType = none → v = none) (hlocks : meth.locks = false) {Q : Option Value → Heap → List Loc → Prop} {cells slots : Nat} {σ : State} (eT : T.heap = h) (hq : Q v h locs) (hk : k ≤ cells) (hn : n ≤ slots)
    (st : ∀ fs, (∀ (f : JFrame) (acts : List Action), f.method = m → f.locked = none → f.entered = [] → (doReturn e (T.setTop f) acts v).1 = T.setFrames fs) → Steps p.tables e below σ (T.setFrames fs)) : Go p e below (RetG s Q cells slots) σ := by
  obtain ⟨fs, hr, hrun, hended, hW, hsame⟩ := X.leave (v := v) hv hlocks
  subst eT
  exact ⟨_, _, st fs hr, hrun, hended, _, _, rfl, hq, ⟨_, rfl⟩, hW, hsame.mono hk hn⟩
/-- null or some object -/
def Rf (v : Value) : Prop := v = .null ∨ ∃ a, v = .ref a
theorem Rf.is {v : Value} (r : Rf v) : v.isRef = true := by rcases r with rfl | ⟨a, rfl⟩ <;> rfl
theorem Rf.cat {v : Value} (r : Rf v) : v.category = 1 := by rcases r with rfl | ⟨a, rfl⟩ <;> rfl
theorem Rf.nar {v : Value} (r : Rf v) {c : String} : narrow (.object c) v = v := by rcases r with rfl | ⟨a, rfl⟩ <;> rfl
theorem Rf.fit {v : Value} (r : Rf v) {c : String} : fits (.object c) v = true := by rcases r with rfl | ⟨a, rfl⟩ <;> rfl
theorem Rf.store {v : Value} (r : Rf v) {ls ls' : Array Slot} {i : Nat} {o : Slot} (hold : ls[i]? = some o) (ho : One o) (hl : ls.setIfInBounds i (.val v) = ls') : storeLocals ls i v = some ls' := by rw [XS.store1 hold ho r.cat, hl]
theorem Rf.of {v : Value} (h : v.isRef = true) : Rf v := ref_cases h
theorem selOf {U : State} {as : Array Value} {y : MethodName} {n : Nat} (wi : (Cond.instantiable y.cls n).before as U = true) (wp : (Cond.privateMethod y).before #[] U = true) (wm : (Cond.instanceMethod y).before as U = true) (hy : y.cls ≠ "java/lang/invoke/MethodHandle" ∧ y.cls ≠ "java/lang/invoke/VarHandle") : (Cond.selects y.cls y y).before as U = true := by
  obtain ⟨c, k, h1, h2, -, h4, -⟩ := Cond.instantiable_spec wi
  exact selects_self_of_private h1 h2 (Bool.or_eq_false_iff.mp h4).1 (Cond.privateMethod_at wp) wm hy
theorem g_iload (X : Stand p l e R s m args below meth c T locs k n) (hx : p.tables.exec = Jvm.exec) (hby : c.code = code) {j : Nat} {v : Int32} (hd : decode code pc = .ok (.iload j, 2)) (hl : Ls[j]? = some (.val (.int v))) (K : Go p e below G (T.setTop (mkF m (pc + 2) Ls (.int v :: st)))) : Go p e below G (T.setTop (mkF m pc Ls st)) := Go.step (fun t q => XS.iload X.here hx rfl (hb hby hd) hl q) K
theorem g_iloadN (X : Stand p l e R s m args below meth c T locs k n) (hx : p.tables.exec = Jvm.exec) (hby : c.code = code) {j : Fin 4} {v : Int32} (hd : decode code pc = .ok (.iload_n j, 1)) (hl : Ls[j.val]? = some (.val (.int v))) (K : Go p e below G (T.setTop (mkF m (pc + 1) Ls (.int v :: st)))) : Go p e below G (T.setTop (mkF m pc Ls st)) := Go.step (fun t q => XS.iloadN X.here hx rfl (hb hby hd) hl q) K
theorem g_lload (X : Stand p l e R s m args below meth c T locs k n) (hx : p.tables.exec = Jvm.exec) (hby : c.code = code) {j : Nat} {v : Int64} (hd : decode code pc = .ok (.lload j, 2)) (hl : Ls[j]? = some (.val (.long v))) (K : Go p e below G (T.setTop (mkF m (pc + 2) Ls (.long v :: st)))) : Go p e below G (T.setTop (mkF m pc Ls st)) := Go.step (fun t q => XS.lload X.here hx rfl (hb hby hd) hl q) K
theorem g_lloadN (X : Stand p l e R s m args below meth c T locs k n) (hx : p.tables.exec = Jvm.exec) (hby : c.code = code) {j : Fin 4} {v : Int64} (hd : decode code pc = .ok (.lload_n j, 1)) (hl : Ls[j.val]? = some (.val (.long v))) (K : Go p e below G (T.setTop (mkF m (pc + 1) Ls (.long v :: st)))) : Go p e below G (T.setTop (mkF m pc Ls st)) := Go.step (fun t q => XS.lloadN X.here hx rfl (hb hby hd) hl q) K
theorem g_aload (X : Stand p l e R s m args below meth c T locs k n) (hx : p.tables.exec = Jvm.exec) (hby : c.code = code) {j : Nat} {v : Value} (hd : decode code pc = .ok (.aload j, 2)) (hl : Ls[j]? = some (.val v)) (hv : v.isRef = true) (K : Go p e below G (T.setTop (mkF m (pc + 2) Ls (v :: st)))) : Go p e below G (T.setTop (mkF m pc Ls st)) := Go.step (fun t q => XS.aload X.here hx rfl (hb hby hd) hl hv q) K
theorem g_aloadN (X : Stand p l e R s m args below meth c T locs k n) (hx : p.tables.exec = Jvm.exec) (hby : c.code = code) {j : Fin 4} {v : Value} (hd : decode code pc = .ok (.aload_n j, 1)) (hl : Ls[j.val]? = some (.val v)) (hv : v.isRef = true) (K : Go p e below G (T.setTop (mkF m (pc + 1) Ls (v :: st)))) : Go p e below G (T.setTop (mkF m pc Ls st)) := Go.step (fun t q => XS.aloadN X.here hx rfl (hb hby hd) hl hv q) K
theorem g_istore (X : Stand p l e R s m args below meth c T locs k n) (hx : p.tables.exec = Jvm.exec) (hby : c.code = code) {j : Nat} {x : Int32} {rest : List Value} {l' : Array Slot} (hd : decode code pc = .ok (.istore j, 2)) (hl : storeLocals Ls j (.int x) = some l') (K : Go p e below G (T.setTop (mkF m (pc + 2) l' rest))) : Go p e below G (T.setTop (mkF m pc Ls (.int x :: rest))) := Go.step (fun t q => XS.istore X.here hx rfl (hb hby hd) rfl hl q) K
theorem g_istoreN (X : Stand p l e R s m args below meth c T locs k n) (hx : p.tables.exec = Jvm.exec) (hby : c.code = code) {j : Fin 4} {x : Int32} {rest : List Value} {l' : Array Slot} (hd : decode code pc = .ok (.istore_n j, 1)) (hl : storeLocals Ls j.val (.int x) = some l') (K : Go p e below G (T.setTop (mkF m (pc + 1) l' rest))) : Go p e below G (T.setTop (mkF m pc Ls (.int x :: rest))) := Go.step (fun t q => XS.istoreN X.here hx rfl (hb hby hd) rfl hl q) K
theorem g_lstore (X : Stand p l e R s m args below meth c T locs k n) (hx : p.tables.exec = Jvm.exec) (hby : c.code = code) {j : Nat} {x : Int64} {rest : List Value} {l' : Array Slot} (hd : decode code pc = .ok (.lstore j, 2)) (hl : storeLocals Ls j (.long x) = some l') (K : Go p e below G (T.setTop (mkF m (pc + 2) l' rest))) : Go p e below G (T.setTop (mkF m pc Ls (.long x :: rest))) := Go.step (fun t q => XS.lstore X.here hx rfl (hb hby hd) rfl hl q) K
theorem g_lstoreN (X : Stand p l e R s m args below meth c T locs k n) (hx : p.tables.exec = Jvm.exec) (hby : c.code = code) {j : Fin 4} {x : Int64} {rest : List Value} {l' : Array Slot} (hd : decode code pc = .ok (.lstore_n j, 1)) (hl : storeLocals Ls j.val (.long x) = some l') (K : Go p e below G (T.setTop (mkF m (pc + 1) l' rest))) : Go p e below G (T.setTop (mkF m pc Ls (.long x :: rest))) := Go.step (fun t q => XS.lstoreN X.here hx rfl (hb hby hd) rfl hl q) K
theorem g_astore (X : Stand p l e R s m args below meth c T locs k n) (hx : p.tables.exec = Jvm.exec) (hby : c.code = code) {j : Nat} {x : Value} {rest : List Value} {l' : Array Slot} (hd : decode code pc = .ok (.astore j, 2)) (hv : x.isRef = true) (hl : storeLocals Ls j x = some l') (K : Go p e below G (T.setTop (mkF m (pc + 2) l' rest))) : Go p e below G (T.setTop (mkF m pc Ls (x :: rest))) := Go.step (fun t q => XS.astore X.here hx rfl (hb hby hd) rfl hv hl q) K
theorem g_astoreN (X : Stand p l e R s m args below meth c T locs k n) (hx : p.tables.exec = Jvm.exec) (hby : c.code = code) {j : Fin 4} {x : Value} {rest : List Value} {l' : Array Slot} (hd : decode code pc = .ok (.astore_n j, 1)) (hv : x.isRef = true) (hl : storeLocals Ls j.val x = some l') (K : Go p e below G (T.setTop (mkF m (pc + 1) l' rest))) : Go p e below G (T.setTop (mkF m pc Ls (x :: rest))) := Go.step (fun t q => XS.astoreN X.here hx rfl (hb hby hd) rfl hv hl q) K
theorem g_iconst (X : Stand p l e R s m args below meth c T locs k n) (hx : p.tables.exec = Jvm.exec) (hby : c.code = code) {i : Int} (v : Int32) (hd : decode code pc = .ok (.iconst i, 1)) (hv : Int32.ofInt i = v) (K : Go p e below G (T.setTop (mkF m (pc + 1) Ls (.int v :: st)))) : Go p e below G (T.setTop (mkF m pc Ls st)) := Go.step (fun t q => XS.iconst X.here hx rfl (hb hby hd) (by rw [hv]; exact q)) K
theorem g_bipush (X : Stand p l e R s m args below meth c T locs k n) (hx : p.tables.exec = Jvm.exec) (hby : c.code = code) {i : Int} (v : Int32) (hd : decode code pc = .ok (.bipush i, 2)) (hv : (Int8.ofInt i).toInt32 = v) (K : Go p e below G (T.setTop (mkF m (pc + 2) Ls (.int v :: st)))) : Go p e below G (T.setTop (mkF m pc Ls st)) := Go.step (fun t q => XS.bipush X.here hx rfl (hb hby hd) (by rw [hv]; exact q)) K
theorem g_sipush (X : Stand p l e R s m args below meth c T locs k n) (hx : p.tables.exec = Jvm.exec) (hby : c.code = code) {i : Int} (v : Int32) (hd : decode code pc = .ok (.sipush i, 3)) (hv : (Int16.ofInt i).toInt32 = v) (K : Go p e below G (T.setTop (mkF m (pc + 3) Ls (.int v :: st)))) : Go p e below G (T.setTop (mkF m pc Ls st)) := Go.step (fun t q => XS.sipush X.here hx rfl (hb hby hd) (by rw [hv]; exact q)) K
theorem g_lconst (X : Stand p l e R s m args below meth c T locs k n) (hx : p.tables.exec = Jvm.exec) (hby : c.code = code) {j : Fin 2} (v : Int64) (hd : decode code pc = .ok (.lconst j, 1)) (hv : Int64.ofNat j = v) (K : Go p e below G (T.setTop (mkF m (pc + 1) Ls (.long v :: st)))) : Go p e below G (T.setTop (mkF m pc Ls st)) := Go.step (fun t q => XS.lconst X.here hx rfl (hb hby hd) (by rw [hv]; exact q)) K
theorem g_topI {x : Int32} (y : Int32) (q : x = y) {rest : List Value} (K : Go p e below G (T.setTop (mkF m pc Ls (.int y :: rest)))) : Go p e below G (T.setTop (mkF m pc Ls (.int x :: rest))) := q ▸ K
theorem g_topJ {x : Int64} (y : Int64) (q : x = y) {rest : List Value} (K : Go p e below G (T.setTop (mkF m pc Ls (.long y :: rest)))) : Go p e below G (T.setTop (mkF m pc Ls (.long x :: rest))) := q ▸ K
theorem g_at {ls ls' : Array Slot} {st' : List Value} (pc' : Nat) (h1 : pc = pc') (h2 : ls = ls') (h3 : st = st') (K : Go p e below G (T.setTop (mkF m pc' ls' st'))) : Go p e below G (T.setTop (mkF m pc ls st)) := h1 ▸ h2 ▸ h3 ▸ K
theorem g_aconst_null (X : Stand p l e R s m args below meth c T locs k n) (hx : p.tables.exec = Jvm.exec) (hby : c.code = code)  (hd : decode code pc = .ok (.aconst_null, 1)) (K : Go p e below G (T.setTop (mkF m (pc + 1) Ls (.null :: st)))) : Go p e below G (T.setTop (mkF m pc Ls st)) := Go.step (fun t q => XS.aconstNull X.here hx rfl (hb hby hd)  q) K
theorem g_iadd (X : Stand p l e R s m args below meth c T locs k n) (hx : p.tables.exec = Jvm.exec) (hby : c.code = code) {x y : Int32} {rest : List Value} (hd : decode code pc = .ok (.iadd, 1)) (K : Go p e below G (T.setTop (mkF m (pc + 1) Ls (.int (x + y) :: rest)))) : Go p e below G (T.setTop (mkF m pc Ls (.int y :: .int x :: rest))) := Go.step (fun t q => XS.iadd X.here hx rfl (hb hby hd) rfl q) K
theorem g_ladd (X : Stand p l e R s m args below meth c T locs k n) (hx : p.tables.exec = Jvm.exec) (hby : c.code = code) {x y : Int64} {rest : List Value} (hd : decode code pc = .ok (.ladd, 1)) (K : Go p e below G (T.setTop (mkF m (pc + 1) Ls (.long (x + y) :: rest)))) : Go p e below G (T.setTop (mkF m pc Ls (.long y :: .long x :: rest))) := Go.step (fun t q => XS.ladd X.here hx rfl (hb hby hd) rfl q) K
theorem g_isub (X : Stand p l e R s m args below meth c T locs k n) (hx : p.tables.exec = Jvm.exec) (hby : c.code = code) {x y : Int32} {rest : List Value} (hd : decode code pc = .ok (.isub, 1)) (K : Go p e below G (T.setTop (mkF m (pc + 1) Ls (.int (x - y) :: rest)))) : Go p e below G (T.setTop (mkF m pc Ls (.int y :: .int x :: rest))) := Go.step (fun t q => XS.isub X.here hx rfl (hb hby hd) rfl q) K
theorem g_lsub (X : Stand p l e R s m args below meth c T locs k n) (hx : p.tables.exec = Jvm.exec) (hby : c.code = code) {x y : Int64} {rest : List Value} (hd : decode code pc = .ok (.lsub, 1)) (K : Go p e below G (T.setTop (mkF m (pc + 1) Ls (.long (x - y) :: rest)))) : Go p e below G (T.setTop (mkF m pc Ls (.long y :: .long x :: rest))) := Go.step (fun t q => XS.lsub X.here hx rfl (hb hby hd) rfl q) K
theorem g_imul (X : Stand p l e R s m args below meth c T locs k n) (hx : p.tables.exec = Jvm.exec) (hby : c.code = code) {x y : Int32} {rest : List Value} (hd : decode code pc = .ok (.imul, 1)) (K : Go p e below G (T.setTop (mkF m (pc + 1) Ls (.int (x * y) :: rest)))) : Go p e below G (T.setTop (mkF m pc Ls (.int y :: .int x :: rest))) := Go.step (fun t q => XS.imul X.here hx rfl (hb hby hd) rfl q) K
theorem g_lmul (X : Stand p l e R s m args below meth c T locs k n) (hx : p.tables.exec = Jvm.exec) (hby : c.code = code) {x y : Int64} {rest : List Value} (hd : decode code pc = .ok (.lmul, 1)) (K : Go p e below G (T.setTop (mkF m (pc + 1) Ls (.long (x * y) :: rest)))) : Go p e below G (T.setTop (mkF m pc Ls (.long y :: .long x :: rest))) := Go.step (fun t q => XS.lmul X.here hx rfl (hb hby hd) rfl q) K
theorem g_iand (X : Stand p l e R s m args below meth c T locs k n) (hx : p.tables.exec = Jvm.exec) (hby : c.code = code) {x y : Int32} {rest : List Value} (hd : decode code pc = .ok (.iand, 1)) (K : Go p e below G (T.setTop (mkF m (pc + 1) Ls (.int (x &&& y) :: rest)))) : Go p e below G (T.setTop (mkF m pc Ls (.int y :: .int x :: rest))) := Go.step (fun t q => XS.iand X.here hx rfl (hb hby hd) rfl q) K
theorem g_land (X : Stand p l e R s m args below meth c T locs k n) (hx : p.tables.exec = Jvm.exec) (hby : c.code = code) {x y : Int64} {rest : List Value} (hd : decode code pc = .ok (.land, 1)) (K : Go p e below G (T.setTop (mkF m (pc + 1) Ls (.long (x &&& y) :: rest)))) : Go p e below G (T.setTop (mkF m pc Ls (.long y :: .long x :: rest))) := Go.step (fun t q => XS.land X.here hx rfl (hb hby hd) rfl q) K
theorem g_ior (X : Stand p l e R s m args below meth c T locs k n) (hx : p.tables.exec = Jvm.exec) (hby : c.code = code) {x y : Int32} {rest : List Value} (hd : decode code pc = .ok (.ior, 1)) (K : Go p e below G (T.setTop (mkF m (pc + 1) Ls (.int (x ||| y) :: rest)))) : Go p e below G (T.setTop (mkF m pc Ls (.int y :: .int x :: rest))) := Go.step (fun t q => XS.ior X.here hx rfl (hb hby hd) rfl q) K
theorem g_lor (X : Stand p l e R s m args below meth c T locs k n) (hx : p.tables.exec = Jvm.exec) (hby : c.code = code) {x y : Int64} {rest : List Value} (hd : decode code pc = .ok (.lor, 1)) (K : Go p e below G (T.setTop (mkF m (pc + 1) Ls (.long (x ||| y) :: rest)))) : Go p e below G (T.setTop (mkF m pc Ls (.long y :: .long x :: rest))) := Go.step (fun t q => XS.lor X.here hx rfl (hb hby hd) rfl q) K
theorem g_ixor (X : Stand p l e R s m args below meth c T locs k n) (hx : p.tables.exec = Jvm.exec) (hby : c.code = code) {x y : Int32} {rest : List Value} (hd : decode code pc = .ok (.ixor, 1)) (K : Go p e below G (T.setTop (mkF m (pc + 1) Ls (.int (x ^^^ y) :: rest)))) : Go p e below G (T.setTop (mkF m pc Ls (.int y :: .int x :: rest))) := Go.step (fun t q => XS.ixor X.here hx rfl (hb hby hd) rfl q) K
theorem g_lxor (X : Stand p l e R s m args below meth c T locs k n) (hx : p.tables.exec = Jvm.exec) (hby : c.code = code) {x y : Int64} {rest : List Value} (hd : decode code pc = .ok (.lxor, 1)) (K : Go p e below G (T.setTop (mkF m (pc + 1) Ls (.long (x ^^^ y) :: rest)))) : Go p e below G (T.setTop (mkF m pc Ls (.long y :: .long x :: rest))) := Go.step (fun t q => XS.lxor X.here hx rfl (hb hby hd) rfl q) K
theorem g_ishl (X : Stand p l e R s m args below meth c T locs k n) (hx : p.tables.exec = Jvm.exec) (hby : c.code = code) {x y : Int32} {rest : List Value} (hd : decode code pc = .ok (.ishl, 1)) (K : Go p e below G (T.setTop (mkF m (pc + 1) Ls (.int (x <<< (y &&& 31)) :: rest)))) : Go p e below G (T.setTop (mkF m pc Ls (.int y :: .int x :: rest))) := Go.step (fun t q => XS.ishl X.here hx rfl (hb hby hd) rfl q) K
theorem g_ishr (X : Stand p l e R s m args below meth c T locs k n) (hx : p.tables.exec = Jvm.exec) (hby : c.code = code) {x y : Int32} {rest : List Value} (hd : decode code pc = .ok (.ishr, 1)) (K : Go p e below G (T.setTop (mkF m (pc + 1) Ls (.int (x >>> (y &&& 31)) :: rest)))) : Go p e below G (T.setTop (mkF m pc Ls (.int y :: .int x :: rest))) := Go.step (fun t q => XS.ishr X.here hx rfl (hb hby hd) rfl q) K
theorem g_iushr (X : Stand p l e R s m args below meth c T locs k n) (hx : p.tables.exec = Jvm.exec) (hby : c.code = code) {x y : Int32} {rest : List Value} (hd : decode code pc = .ok (.iushr, 1)) (K : Go p e below G (T.setTop (mkF m (pc + 1) Ls (.int ((x.toUInt32 >>> (y &&& 31).toUInt32).toInt32) :: rest)))) : Go p e below G (T.setTop (mkF m pc Ls (.int y :: .int x :: rest))) := Go.step (fun t q => XS.iushr X.here hx rfl (hb hby hd) rfl q) K
theorem g_lshl (X : Stand p l e R s m args below meth c T locs k n) (hx : p.tables.exec = Jvm.exec) (hby : c.code = code) {x : Int64} {y : Int32} {rest : List Value} (hd : decode code pc = .ok (.lshl, 1)) (K : Go p e below G (T.setTop (mkF m (pc + 1) Ls (.long (x <<< (y &&& 0x3f).toInt64) :: rest)))) : Go p e below G (T.setTop (mkF m pc Ls (.int y :: .long x :: rest))) := Go.step (fun t q => XS.lshl X.here hx rfl (hb hby hd) rfl q) K
theorem g_lshr (X : Stand p l e R s m args below meth c T locs k n) (hx : p.tables.exec = Jvm.exec) (hby : c.code = code) {x : Int64} {y : Int32} {rest : List Value} (hd : decode code pc = .ok (.lshr, 1)) (K : Go p e below G (T.setTop (mkF m (pc + 1) Ls (.long (x >>> (y &&& 0x3f).toInt64) :: rest)))) : Go p e below G (T.setTop (mkF m pc Ls (.int y :: .long x :: rest))) := Go.step (fun t q => XS.lshr X.here hx rfl (hb hby hd) rfl q) K
theorem g_lushr (X : Stand p l e R s m args below meth c T locs k n) (hx : p.tables.exec = Jvm.exec) (hby : c.code = code) {x : Int64} {y : Int32} {rest : List Value} (hd : decode code pc = .ok (.lushr, 1)) (K : Go p e below G (T.setTop (mkF m (pc + 1) Ls (.long ((x.toUInt64 >>> (y &&& 0x3f).toInt64.toUInt64).toInt64) :: rest)))) : Go p e below G (T.setTop (mkF m pc Ls (.int y :: .long x :: rest))) := Go.step (fun t q => XS.lushr X.here hx rfl (hb hby hd) rfl q) K
theorem g_ineg (X : Stand p l e R s m args below meth c T locs k n) (hx : p.tables.exec = Jvm.exec) (hby : c.code = code) {x : Int32} {rest : List Value} (hd : decode code pc = .ok (.ineg, 1)) (K : Go p e below G (T.setTop (mkF m (pc + 1) Ls (.int (-x) :: rest)))) : Go p e below G (T.setTop (mkF m pc Ls (.int x :: rest))) := Go.step (fun t q => XS.ineg X.here hx rfl (hb hby hd) rfl q) K
theorem g_lneg (X : Stand p l e R s m args below meth c T locs k n) (hx : p.tables.exec = Jvm.exec) (hby : c.code = code) {x : Int64} {rest : List Value} (hd : decode code pc = .ok (.lneg, 1)) (K : Go p e below G (T.setTop (mkF m (pc + 1) Ls (.long (-x) :: rest)))) : Go p e below G (T.setTop (mkF m pc Ls (.long x :: rest))) := Go.step (fun t q => XS.lneg X.here hx rfl (hb hby hd) rfl q) K
theorem g_i2l (X : Stand p l e R s m args below meth c T locs k n) (hx : p.tables.exec = Jvm.exec) (hby : c.code = code) {x : Int32} {rest : List Value} (hd : decode code pc = .ok (.i2l, 1)) (K : Go p e below G (T.setTop (mkF m (pc + 1) Ls (.long (x.toInt64) :: rest)))) : Go p e below G (T.setTop (mkF m pc Ls (.int x :: rest))) := Go.step (fun t q => XS.i2l X.here hx rfl (hb hby hd) rfl q) K
theorem g_l2i (X : Stand p l e R s m args below meth c T locs k n) (hx : p.tables.exec = Jvm.exec) (hby : c.code = code) {x : Int64} {rest : List Value} (hd : decode code pc = .ok (.l2i, 1)) (K : Go p e below G (T.setTop (mkF m (pc + 1) Ls (.int (x.toInt32) :: rest)))) : Go p e below G (T.setTop (mkF m pc Ls (.long x :: rest))) := Go.step (fun t q => XS.l2i X.here hx rfl (hb hby hd) rfl q) K
theorem g_i2b (X : Stand p l e R s m args below meth c T locs k n) (hx : p.tables.exec = Jvm.exec) (hby : c.code = code) {x : Int32} {rest : List Value} (hd : decode code pc = .ok (.i2b, 1)) (K : Go p e below G (T.setTop (mkF m (pc + 1) Ls (.int (x.toInt8.toInt32) :: rest)))) : Go p e below G (T.setTop (mkF m pc Ls (.int x :: rest))) := Go.step (fun t q => XS.i2b X.here hx rfl (hb hby hd) rfl q) K
theorem g_i2s (X : Stand p l e R s m args below meth c T locs k n) (hx : p.tables.exec = Jvm.exec) (hby : c.code = code) {x : Int32} {rest : List Value} (hd : decode code pc = .ok (.i2s, 1)) (K : Go p e below G (T.setTop (mkF m (pc + 1) Ls (.int (x.toInt16.toInt32) :: rest)))) : Go p e below G (T.setTop (mkF m pc Ls (.int x :: rest))) := Go.step (fun t q => XS.i2s X.here hx rfl (hb hby hd) rfl q) K
theorem g_i2c (X : Stand p l e R s m args below meth c T locs k n) (hx : p.tables.exec = Jvm.exec) (hby : c.code = code) {x : Int32} {rest : List Value} (hd : decode code pc = .ok (.i2c, 1)) (K : Go p e below G (T.setTop (mkF m (pc + 1) Ls (.int (x.toUInt32.toUInt16.toUInt32.toInt32) :: rest)))) : Go p e below G (T.setTop (mkF m pc Ls (.int x :: rest))) := Go.step (fun t q => XS.i2c X.here hx rfl (hb hby hd) rfl q) K
theorem g_lcmp (X : Stand p l e R s m args below meth c T locs k n) (hx : p.tables.exec = Jvm.exec) (hby : c.code = code) {x y : Int64} {rest : List Value} (hd : decode code pc = .ok (.lcmp, 1)) (K : Go p e below G (T.setTop (mkF m (pc + 1) Ls (.int (lcmpW x y) :: rest)))) : Go p e below G (T.setTop (mkF m pc Ls (.long y :: .long x :: rest))) := Go.step (fun t q => XS.lcmp X.here hx rfl (hb hby hd) rfl q) K
theorem g_idiv (X : Stand p l e R s m args below meth c T locs k n) (hx : p.tables.exec = Jvm.exec) (hby : c.code = code) {x y : Int32} {rest : List Value} (hd : decode code pc = .ok (.idiv, 1)) (hy : y ≠ 0) (K : Go p e below G (T.setTop (mkF m (pc + 1) Ls (.int (x / y) :: rest)))) : Go p e below G (T.setTop (mkF m pc Ls (.int y :: .int x :: rest))) := Go.step (fun t q => XS.idiv X.here hx rfl (hb hby hd) rfl hy q) K
theorem g_irem (X : Stand p l e R s m args below meth c T locs k n) (hx : p.tables.exec = Jvm.exec) (hby : c.code = code) {x y : Int32} {rest : List Value} (hd : decode code pc = .ok (.irem, 1)) (hy : y ≠ 0) (K : Go p e below G (T.setTop (mkF m (pc + 1) Ls (.int (x % y) :: rest)))) : Go p e below G (T.setTop (mkF m pc Ls (.int y :: .int x :: rest))) := Go.step (fun t q => iremM X hx rfl (hb hby hd) rfl hy q) K
theorem g_iinc (X : Stand p l e R s m args below meth c T locs k n) (hx : p.tables.exec = Jvm.exec) (hby : c.code = code) {j : Nat} {cst : Int} {x : Int32} {l' : Array Slot} (v : Int32) (hd : decode code pc = .ok (.iinc j cst, 3)) (hl : Ls[j]? = some (.val (.int x))) (hv : x + Int32.ofInt cst = v) (hl' : storeLocals Ls j (.int v) = some l') (K : Go p e below G (T.setTop (mkF m (pc + 3) l' st))) : Go p e below G (T.setTop (mkF m pc Ls st)) := Go.step (fun t q => XS.iinc X.here hx rfl (hb hby hd) hl (by rw [hv]; exact hl') q) K
theorem g_dup (X : Stand p l e R s m args below meth c T locs k n) (hx : p.tables.exec = Jvm.exec) (hby : c.code = code) {x : Value} {rest : List Value} (hd : decode code pc = .ok (.dup, 1)) (hc : x.category = 1) (K : Go p e below G (T.setTop (mkF m (pc + 1) Ls (x :: x :: rest)))) : Go p e below G (T.setTop (mkF m pc Ls (x :: rest))) := Go.step (fun t q => XS.dup X.here hx rfl (hb hby hd) rfl hc q) K
theorem g_dup_x1 (X : Stand p l e R s m args below meth c T locs k n) (hx : p.tables.exec = Jvm.exec) (hby : c.code = code) {x y : Value} {rest : List Value} (hd : decode code pc = .ok (.dup_x1, 1)) (hc : x.category = 1) (hc2 : y.category = 1) (K : Go p e below G (T.setTop (mkF m (pc + 1) Ls (x :: y :: x :: rest)))) : Go p e below G (T.setTop (mkF m pc Ls (x :: y :: rest))) := Go.step (fun t q => XS.dupX1 X.here hx rfl (hb hby hd) rfl hc hc2 q) K
theorem g_pop (X : Stand p l e R s m args below meth c T locs k n) (hx : p.tables.exec = Jvm.exec) (hby : c.code = code) {x : Value} {rest : List Value} (hd : decode code pc = .ok (.pop, 1)) (hc : x.category = 1) (K : Go p e below G (T.setTop (mkF m (pc + 1) Ls rest))) : Go p e below G (T.setTop (mkF m pc Ls (x :: rest))) := Go.step (fun t q => XS.pop X.here hx rfl (hb hby hd) rfl hc q) K
theorem g_dup2 (X : Stand p l e R s m args below meth c T locs k n) (hx : p.tables.exec = Jvm.exec) (hby : c.code = code) {x y : Value} {rest : List Value} (hd : decode code pc = .ok (.dup2, 1)) (hc : x.category = 1) (hc2 : y.category = 1) (K : Go p e below G (T.setTop (mkF m (pc + 1) Ls (x :: y :: x :: y :: rest)))) : Go p e below G (T.setTop (mkF m pc Ls (x :: y :: rest))) := Go.step (fun t q => XT.dup2 X.here hx rfl (hb hby hd) rfl hc hc2 q) K
theorem g_dup2L (X : Stand p l e R s m args below meth c T locs k n) (hx : p.tables.exec = Jvm.exec) (hby : c.code = code) {x : Int64} {rest : List Value} (hd : decode code pc = .ok (.dup2, 1)) (K : Go p e below G (T.setTop (mkF m (pc + 1) Ls (.long x :: .long x :: rest)))) : Go p e below G (T.setTop (mkF m pc Ls (.long x :: rest))) := Go.step (fun t q => XT.dup2L X.here hx rfl (hb hby hd) rfl q) K
theorem g_pop2J (X : Stand p l e R s m args below meth c T locs k n) (hx : p.tables.exec = Jvm.exec) (hby : c.code = code) {x : Int64} {rest : List Value} (hd : decode code pc = .ok (.pop2, 1)) (K : Go p e below G (T.setTop (mkF m (pc + 1) Ls rest))) : Go p e below G (T.setTop (mkF m pc Ls (.long x :: rest))) := Go.step (fun t q => by
  have hd' := hb hby hd
  show Steps p.tables e below (T.setTop { method := m, pc := pc, locals := Ls, stack := .long x :: rest, locked := none }) t
  jvm_step X.here [X.here.top, hx, hd', Value.category]
  exact q) K
theorem g_goto (X : Stand p l e R s m args below meth c T locs k n) (hx : p.tables.exec = Jvm.exec) (hby : c.code = code) {d : Int} (pc' : Nat) (hd : decode code pc = .ok (.goto d, 3)) (ho : 0 ≤ (pc : Int) + d) (hp : ((pc : Int) + d).toNat = pc') (K : Go p e below G (T.setTop (mkF m pc' Ls st))) : Go p e below G (T.setTop (mkF m pc Ls st)) := Go.step (fun t q => XS.goto X.here hx rfl (pc0 := pc) (pc' := pc') rfl (hb hby hd) ho hp q) K
theorem g_ifY (X : Stand p l e R s m args below meth c T locs k n) (hx : p.tables.exec = Jvm.exec) (hby : c.code = code) {cd : ClassFile.Cond} {x : Int32} {rest : List Value} {d : Int} (pc' : Nat) (hd : decode code pc = .ok (.ifCond cd d, 3)) (hc : if_icmp.holds cd x 0 = true) (ho : 0 ≤ (pc : Int) + d) (hp : ((pc : Int) + d).toNat = pc') (K : Go p e below G (T.setTop (mkF m pc' Ls rest))) : Go p e below G (T.setTop (mkF m pc Ls (.int x :: rest))) := Go.step (fun t q => XS.ifYes X.here hx rfl (pc0 := pc) (pc' := pc') rfl (hb hby hd) rfl ((if0 _ _).trans hc) ho hp q) K
theorem g_ifN (X : Stand p l e R s m args below meth c T locs k n) (hx : p.tables.exec = Jvm.exec) (hby : c.code = code) {cd : ClassFile.Cond} {x : Int32} {rest : List Value} {d : Int} (hd : decode code pc = .ok (.ifCond cd d, 3)) (hc : if_icmp.holds cd x 0 = false) (K : Go p e below G (T.setTop (mkF m (pc + 3) Ls rest))) : Go p e below G (T.setTop (mkF m pc Ls (.int x :: rest))) := Go.step (fun t q => XS.ifNo X.here hx rfl (hb hby hd) rfl ((if0 _ _).trans hc) q) K
theorem g_icY (X : Stand p l e R s m args below meth c T locs k n) (hx : p.tables.exec = Jvm.exec) (hby : c.code = code) {cd : ClassFile.Cond} {x y : Int32} {rest : List Value} {d : Int} (pc' : Nat) (hd : decode code pc = .ok (.if_icmp cd d, 3)) (hc : if_icmp.holds cd x y = true) (ho : 0 ≤ (pc : Int) + d) (hp : ((pc : Int) + d).toNat = pc') (K : Go p e below G (T.setTop (mkF m pc' Ls rest))) : Go p e below G (T.setTop (mkF m pc Ls (.int y :: .int x :: rest))) := Go.step (fun t q => XS.icmpYes X.here hx rfl (pc0 := pc) (pc' := pc') rfl (hb hby hd) rfl hc ho hp q) K
theorem g_icN (X : Stand p l e R s m args below meth c T locs k n) (hx : p.tables.exec = Jvm.exec) (hby : c.code = code) {cd : ClassFile.Cond} {x y : Int32} {rest : List Value} {d : Int} (hd : decode code pc = .ok (.if_icmp cd d, 3)) (hc : if_icmp.holds cd x y = false) (K : Go p e below G (T.setTop (mkF m (pc + 3) Ls rest))) : Go p e below G (T.setTop (mkF m pc Ls (.int y :: .int x :: rest))) := Go.step (fun t q => XS.icmpNo X.here hx rfl (hb hby hd) rfl hc q) K
theorem g_acmp (X : Stand p l e R s m args below meth c T locs k n) (hx : p.tables.exec = Jvm.exec) (hby : c.code = code) {cd : ACond} {x y : Value} (h1 : x.isRef = true) (h2 : y.isRef = true) {rest : List Value} {d : Int} (pc' : Nat) (same : Bool) (hd : decode code pc = .ok (.if_acmp cd d, 3)) (hq : decide (x = y) = same) (ho : 0 ≤ (pc : Int) + d) (hp : pc' = if acV cd same = true then ((pc : Int) + d).toNat else pc + 3) (K : Go p e below G (T.setTop (mkF m pc' Ls rest))) : Go p e below G (T.setTop (mkF m pc Ls (y :: x :: rest))) := Go.step (fun t q => Jvm.RoadKit.acmp (g := mkF m pc Ls (y :: x :: rest)) X hx rfl h1 h2 (pc0 := pc) (pc' := pc') (same := same) rfl (hb hby hd) rfl hq ho hp q) K
theorem g_ifnullY (X : Stand p l e R s m args below meth c T locs k n) (hx : p.tables.exec = Jvm.exec) (hby : c.code = code) {rest : List Value} {d : Int} (pc' : Nat) (hd : decode code pc = .ok (.ifnull d, 3)) (ho : 0 ≤ (pc : Int) + d) (hp : ((pc : Int) + d).toNat = pc') (K : Go p e below G (T.setTop (mkF m pc' Ls rest))) : Go p e below G (T.setTop (mkF m pc Ls (.null :: rest))) := Go.step (fun t q => XS.ifnullYes X.here hx rfl (pc0 := pc) (pc' := pc') rfl (hb hby hd) rfl ho hp q) K
theorem g_ifnullN (X : Stand p l e R s m args below meth c T locs k n) (hx : p.tables.exec = Jvm.exec) (hby : c.code = code) {b : Addr} {rest : List Value} {d : Int} (hd : decode code pc = .ok (.ifnull d, 3)) (K : Go p e below G (T.setTop (mkF m (pc + 3) Ls rest))) : Go p e below G (T.setTop (mkF m pc Ls (.ref b :: rest))) := Go.step (fun t q => XS.ifnullNo X.here hx rfl (hb hby hd) rfl q) K
theorem g_ifnonnullY (X : Stand p l e R s m args below meth c T locs k n) (hx : p.tables.exec = Jvm.exec) (hby : c.code = code) {b : Addr} {rest : List Value} {d : Int} (pc' : Nat) (hd : decode code pc = .ok (.ifnonnull d, 3)) (ho : 0 ≤ (pc : Int) + d) (hp : ((pc : Int) + d).toNat = pc') (K : Go p e below G (T.setTop (mkF m pc' Ls rest))) : Go p e below G (T.setTop (mkF m pc Ls (.ref b :: rest))) := Go.step (fun t q => XS.ifnonnullYes X.here hx rfl (pc0 := pc) (pc' := pc') rfl (hb hby hd) rfl ho hp q) K
theorem g_ifnonnullN (X : Stand p l e R s m args below meth c T locs k n) (hx : p.tables.exec = Jvm.exec) (hby : c.code = code) {rest : List Value} {d : Int} (hd : decode code pc = .ok (.ifnonnull d, 3)) (K : Go p e below G (T.setTop (mkF m (pc + 3) Ls rest))) : Go p e below G (T.setTop (mkF m pc Ls (.null :: rest))) := Go.step (fun t q => XS.ifnonnullNo X.here hx rfl (hb hby hd) rfl q) K
theorem g_ldcI (X : Stand p l e R s m args below meth c T locs k n) (hx : p.tables.exec = Jvm.exec) (hby : c.code = code) (hZ : Z.Warmed39 s.vm) {own : String} (hown : s.vm.findClass own = some m.cls) {index : Nat} {v : Int32} (w : (Cond.constant own index v).before a0 Z = true) (hd : decode code pc = .ok (.ldc index, 2)) (K : Go p e below G (T.setTop (mkF m (pc + 2) Ls (.int v :: st)))) : Go p e below G (T.setTop (mkF m pc Ls st)) := Go.step (fun t q => X.ldcInt hx hown (mvT hZ w) (g := mkF m pc Ls st) rfl (hb hby hd) t q) K
theorem g_ldcwI (X : Stand p l e R s m args below meth c T locs k n) (hx : p.tables.exec = Jvm.exec) (hby : c.code = code) (hZ : Z.Warmed39 s.vm) {own : String} (hown : s.vm.findClass own = some m.cls) {index : Nat} {v : Int32} (w : (Cond.constant own index v).before a0 Z = true) (hd : decode code pc = .ok (.ldc_w index, 3)) (K : Go p e below G (T.setTop (mkF m (pc + 3) Ls (.int v :: st)))) : Go p e below G (T.setTop (mkF m pc Ls st)) := Go.step (fun t q => X.ldcwInt hx hown (mvT hZ w) (g := mkF m pc Ls st) rfl (hb hby hd) t q) K
theorem g_ldc2J (X : Stand p l e R s m args below meth c T locs k n) (hx : p.tables.exec = Jvm.exec) (hby : c.code = code) (hZ : Z.Warmed39 s.vm) {own : String} (hown : s.vm.findClass own = some m.cls) {index : Nat} {v : Int64} (w : (Cond.constantLong own index v).before a0 Z = true) (hd : decode code pc = .ok (.ldc2_w index, 3)) (K : Go p e below G (T.setTop (mkF m (pc + 3) Ls (.long v :: st)))) : Go p e below G (T.setTop (mkF m pc Ls st)) := Go.step (fun t q => X.ldc2Long hx hown (mvT hZ w) (g := mkF m pc Ls st) rfl (hb hby hd) t q) K
theorem g_getF (X : Stand p l e R s m args below meth c T locs k n) (hx : p.tables.exec = Jvm.exec) (hby : c.code = code) (hZ : Z.Warmed39 s.vm) {own : String} (hown : s.vm.findClass own = some m.cls) {R0 O f d host : String} {index : Nat} (w : (Cond.fieldLink own index R0 f d).before a0 Z = true ∨ (Cond.fieldLinkNest own index R0 f d host).before a0 Z = true) (via : Via Z R0 O f d) (eT : T.heap = h) {a : Addr} {v : Value} (F : Fld Z h a O f d v) {rest : List Value} (hd : decode code pc = .ok (.getfield index, 3)) (K : ∀ T', Stand p l e R s m args below meth c T' locs k n → T'.heap = h → Go p e below G (T'.setTop (mkF m (pc + 3) Ls (v :: rest)))) : Go p e below G (T.setTop (mkF m pc Ls (.ref a :: rest))) := by
  obtain ⟨T', X', e', q⟩ := getF X hx hZ hown w via eT F (g := mkF m pc Ls (.ref a :: rest)) rfl rfl (hb hby hd)
  exact Go.step q (K T' X' e')
theorem g_getS (X : Stand p l e R s m args below meth c T locs k n) (hx : p.tables.exec = Jvm.exec) (hby : c.code = code) (hZ : Z.Warmed39 s.vm) {own : String} (hown : s.vm.findClass own = some m.cls) {R0 O f d host : String} {index : Nat} (w : (Cond.fieldLink own index R0 f d).before a0 Z = true ∨ (Cond.fieldLinkNest own index R0 f d host).before a0 Z = true) (via : Via Z R0 O f d) (eT : T.heap = h) {v : Value} (F : Sta Z h O f d v) (hd : decode code pc = .ok (.getstatic index, 3)) (K : ∀ T', Stand p l e R s m args below meth c T' locs k n → T'.heap = h → Go p e below G (T'.setTop (mkF m (pc + 3) Ls (v :: st)))) : Go p e below G (T.setTop (mkF m pc Ls st)) := by
  obtain ⟨T', X', e', q⟩ := getS2 X hx hZ hown w via eT F (g := mkF m pc Ls st) rfl (hb hby hd)
  exact Go.step q (K T' X' e')
theorem g_putF (X : Stand p l e R s m args below meth c T locs k n) (hx : p.tables.exec = Jvm.exec) (hby : c.code = code) (hZ : Z.Warmed39 s.vm) {own : String} (hown : s.vm.findClass own = some m.cls) {R0 O f d host : String} {index : Nat} (w : (Cond.fieldLink own index R0 f d).before a0 Z = true ∨ (Cond.fieldLinkNest own index R0 f d host).before a0 Z = true) (via : Via Z R0 O f d) (eT : T.heap = h) {C : String} {kk : Nat} {a : Addr} {v old : Value} (F : Fld Z h a O f d old) (E : Exa Z h a C) (L : (Cond.lays C O f d).before a0 Z = true ∨ ((Cond.laysFinal C O f d).before a0 Z = true ∧ own = O ∧ meth.name = "<init>")) (wi : (Cond.instantiable C kk).before a0 Z = true) (ty : FieldType) (hty : parseFieldDescriptor d = some ty) (hn : narrow ty v = v) (hf : fits ty v = true) (N : Fr n0 locs) (ga : n0 ≤ a) {rest : List Value} (hd : decode code pc = .ok (.putfield index, 3)) (K : ∀ T' h', Stand p l e R s m args below meth c T' (locs ++ [⟨a, Jvm.RoadKit.slotOf Z O f d⟩]) k n → T'.heap = h' → Wr h h' a (Jvm.RoadKit.slotOf Z O f d) v → Fld Z h' a O f d v → Fr n0 (locs ++ [⟨a, Jvm.RoadKit.slotOf Z O f d⟩]) → Go p e below G (T'.setTop (mkF m (pc + 3) Ls rest))) : Go p e below G (T.setTop (mkF m pc Ls (v :: .ref a :: rest))) := by
  obtain ⟨T', h', X', e', W, q⟩ := putF X hx hZ hown w via eT F E L wi hty hn hf (g := mkF m pc Ls (v :: .ref a :: rest)) rfl rfl (hb hby hd)
  exact Go.step q (K T' h' X' e' W (F.same W) (Fr.snoc X' N ga))
theorem g_putFN (X : Stand p l e R s m args below meth c T locs k n) (hx : p.tables.exec = Jvm.exec) (hby : c.code = code) (hZ : Z.Warmed39 s.vm) {own : String} (hown : s.vm.findClass own = some m.cls) {R0 O f d : String} {index : Nat} (w : (Cond.fieldLink own index R0 f d).before a0 Z = true) (via : Via Z R0 O f d) (eT : T.heap = h) {C : String} {kk : Nat} {a : Addr} {v old : Value} (F : Fld Z h a O f d old) (E : Exa Z h a C) (L : (Cond.lays C O f d).before a0 Z = true ∨ ((Cond.laysFinal C O f d).before a0 Z = true ∧ own = O ∧ meth.name = "<init>")) (wi : (Cond.instantiable C kk).before a0 Z = true) (ty : FieldType) (hty : parseFieldDescriptor d = some ty) (v' : Value) (hn : narrow ty v = v') (hf : fits ty v' = true) (N : Fr n0 locs) (ga : n0 ≤ a) {rest : List Value} (hd : decode code pc = .ok (.putfield index, 3)) (K : ∀ T' h', Stand p l e R s m args below meth c T' (locs ++ [⟨a, Jvm.RoadKit.slotOf Z O f d⟩]) k n → T'.heap = h' → Wr h h' a (Jvm.RoadKit.slotOf Z O f d) v' → Fld Z h' a O f d v' → Fr n0 (locs ++ [⟨a, Jvm.RoadKit.slotOf Z O f d⟩]) → Go p e below G (T'.setTop (mkF m (pc + 3) Ls rest))) : Go p e below G (T.setTop (mkF m pc Ls (v :: .ref a :: rest))) := by
  obtain ⟨T', h', X', e', W, q⟩ := putFN X hx hZ hown w via eT F E L wi hty hn hf (g := mkF m pc Ls (v :: .ref a :: rest)) rfl rfl (hb hby hd)
  exact Go.step q (K T' h' X' e' W (F.same W) (Fr.snoc X' N ga))
theorem g_new (X : Stand p l e R s m args below meth c T locs k n) (hx : p.tables.exec = Jvm.exec) (hby : c.code = code) (hZ : Z.Warmed39 s.vm) {own : String} (hown : s.vm.findClass own = some m.cls) {C : String} {index j : Nat} (w : (Cond.classLink own index C).before a0 Z = true) (wi : (Cond.instantiable C j).before a0 Z = true) (wz : (Cond.initialized C).before a0 Z = true) (eT : T.heap = h) (hc : k + 1 ≤ R.cells) (hl : n + j ≤ R.slots) (hd : decode code pc = .ok (.new index, 3)) (K : ∀ T' h' x, h.size = x → Stand p l e R s m args below meth c T' locs (k + 1) (n + j) → T'.heap = h' → Ext h h' → Exa Z h' x C → (∀ {O nm d : String} {ty : FieldType}, Laid Z a0 C O nm d → parseFieldDescriptor d = some ty → Fld Z h' x O nm d (defaultValue ty)) → Go p e below G (T'.setTop (mkF m (pc + 3) Ls (.ref x :: st)))) : Go p e below G (T.setTop (mkF m pc Ls st)) := by
  obtain ⟨T', h', X', e', E, A, D, -, q⟩ := newO X hx hZ hown w wi wz eT (g := mkF m pc Ls st) rfl (hb hby hd) hc hl
  exact Go.step q (K T' h' _ rfl X' e' E A D)
theorem g_newarray (X : Stand p l e R s m args below meth c T locs k n) (hx : p.tables.exec = Jvm.exec) (hby : c.code = code) (hZ : Z.Warmed39 s.vm) (aty : ArrayType) (ty : FieldType) (dv : Value) (vs : List Value) (hty : newarray.typeOf aty = ty) (hdv : defaultValue ty = dv) (w : (Cond.arrayClass ty).before a0 Z = true) (eT : T.heap = h) {z : Int32} {rest : List Value} (hn : ¬ z < 0) (cap : Nat) (hvs : List.replicate cap dv = vs) (hcap : z.toNatClampNeg ≤ cap) (hbig : cap * 8 ≤ 536870912) (hc : k + 1 ≤ R.cells) (hl : n + cap ≤ R.slots) (hd : decode code pc = .ok (.newarray aty, 2)) (K : ∀ T' h' kc x, h.size = x → Stand p l e R s m args below meth c T' locs (k + 1) (n + cap) → T'.heap = h' → Ext h h' → Arv Z h' x kc ty z vs dv → Go p e below G (T'.setTop (mkF m (pc + 2) Ls (.ref x :: rest)))) : Go p e below G (T.setTop (mkF m pc Ls (.int z :: rest))) := by
  subst hty hdv hvs
  obtain ⟨T', h', kc, X', e', E, A, q⟩ := newP X hx hZ w eT (g := mkF m pc Ls (.int z :: rest)) rfl (hb hby hd) rfl hn (cap := cap) hcap hbig hc hl
  exact Go.step q (K T' h' kc _ rfl X' e' E ((Arv.new A hn).pad (pad_rep [] _ cap)))
theorem g_iastore (X : Stand p l e R s m args below meth c T locs k n) (hx : p.tables.exec = Jvm.exec) (hby : c.code = code) (hZ : Z.Warmed39 s.vm) (eT : T.heap = h) {a : Addr} {kc : ClassId} {z : Int32} {vs : List Value} {dv : Value} (V : Arv Z h a kc .int z vs dv) {j : Int32} {x : Int32} (i : Nat) (vs' : List Value) (hvs : vs.set i (.int x) = vs') (hj : ¬ j < 0 ∧ j < z) (hi : j.toNatClampNeg = i) (hlen : i < vs.length) (N : Fr n0 locs) (ga : n0 ≤ a) {rest : List Value} (hd : decode code pc = .ok (.iastore, 1)) (K : ∀ T' h', Stand p l e R s m args below meth c T' (locs ++ [⟨a, j.toNatClampNeg⟩]) k n → T'.heap = h' → Wr h h' a j.toNatClampNeg (.int x) → Arv Z h' a kc .int z vs' dv → Fr n0 (locs ++ [⟨a, j.toNatClampNeg⟩]) → Go p e below G (T'.setTop (mkF m (pc + 1) Ls rest))) : Go p e below G (T.setTop (mkF m pc Ls (.int x :: .int j :: .ref a :: rest))) := by
  subst hvs
  obtain ⟨cl, Ar, q1, S, M, H, F⟩ := V
  obtain ⟨T', h', X', e', W, q⟩ := stI X hx hZ eT Ar (j := j) (inb_of S hj) (g := mkF m pc Ls (.int x :: .int j :: .ref a :: rest)) rfl rfl (hb hby hd)
  exact Go.step q (K T' h' X' e' W (Arv.set Ar q1 S M H F rfl W i hi hlen) (Fr.snoc X' N ga))
theorem g_castore (X : Stand p l e R s m args below meth c T locs k n) (hx : p.tables.exec = Jvm.exec) (hby : c.code = code) (hZ : Z.Warmed39 s.vm) (eT : T.heap = h) {a : Addr} {kc : ClassId} {z : Int32} {vs : List Value} {dv : Value} (V : Arv Z h a kc .char z vs dv) {j : Int32} {x : Int32} (i : Nat) (vs' : List Value) (hvs : vs.set i (.int (nar .char x)) = vs') (hj : ¬ j < 0 ∧ j < z) (hi : j.toNatClampNeg = i) (hlen : i < vs.length) (N : Fr n0 locs) (ga : n0 ≤ a) {rest : List Value} (hd : decode code pc = .ok (.castore, 1)) (K : ∀ T' h', Stand p l e R s m args below meth c T' (locs ++ [⟨a, j.toNatClampNeg⟩]) k n → T'.heap = h' → Wr h h' a j.toNatClampNeg (.int (nar .char x)) → Arv Z h' a kc .char z vs' dv → Fr n0 (locs ++ [⟨a, j.toNatClampNeg⟩]) → Go p e below G (T'.setTop (mkF m (pc + 1) Ls rest))) : Go p e below G (T.setTop (mkF m pc Ls (.int x :: .int j :: .ref a :: rest))) := by
  subst hvs
  obtain ⟨cl, Ar, q1, S, M, H, F⟩ := V
  obtain ⟨T', h', X', e', W, q⟩ := stC X hx hZ eT Ar (j := j) (inb_of S hj) (g := mkF m pc Ls (.int x :: .int j :: .ref a :: rest)) rfl rfl (hb hby hd)
  exact Go.step q (K T' h' X' e' W (Arv.set Ar q1 S M H F (fits_nar_char _) W i hi hlen) (Fr.snoc X' N ga))
theorem g_sastore (X : Stand p l e R s m args below meth c T locs k n) (hx : p.tables.exec = Jvm.exec) (hby : c.code = code) (hZ : Z.Warmed39 s.vm) (eT : T.heap = h) {a : Addr} {kc : ClassId} {z : Int32} {vs : List Value} {dv : Value} (V : Arv Z h a kc .short z vs dv) {j : Int32} {x : Int32} (i : Nat) (vs' : List Value) (hvs : vs.set i (.int (nar .short x)) = vs') (hj : ¬ j < 0 ∧ j < z) (hi : j.toNatClampNeg = i) (hlen : i < vs.length) (N : Fr n0 locs) (ga : n0 ≤ a) {rest : List Value} (hd : decode code pc = .ok (.sastore, 1)) (K : ∀ T' h', Stand p l e R s m args below meth c T' (locs ++ [⟨a, j.toNatClampNeg⟩]) k n → T'.heap = h' → Wr h h' a j.toNatClampNeg (.int (nar .short x)) → Arv Z h' a kc .short z vs' dv → Fr n0 (locs ++ [⟨a, j.toNatClampNeg⟩]) → Go p e below G (T'.setTop (mkF m (pc + 1) Ls rest))) : Go p e below G (T.setTop (mkF m pc Ls (.int x :: .int j :: .ref a :: rest))) := by
  subst hvs
  obtain ⟨cl, Ar, q1, S, M, H, F⟩ := V
  obtain ⟨T', h', X', e', W, q⟩ := stS X hx hZ eT Ar (j := j) (inb_of S hj) (g := mkF m pc Ls (.int x :: .int j :: .ref a :: rest)) rfl rfl (hb hby hd)
  exact Go.step q (K T' h' X' e' W (Arv.set Ar q1 S M H F (fits_nar_short _) W i hi hlen) (Fr.snoc X' N ga))
theorem g_bastore (X : Stand p l e R s m args below meth c T locs k n) (hx : p.tables.exec = Jvm.exec) (hby : c.code = code) (hZ : Z.Warmed39 s.vm) (eT : T.heap = h) {a : Addr} {kc : ClassId} {z : Int32} {vs : List Value} {dv : Value} (V : Arv Z h a kc .byte z vs dv) {j : Int32} {x : Int32} (i : Nat) (vs' : List Value) (hvs : vs.set i (.int (nar .byte x)) = vs') (hj : ¬ j < 0 ∧ j < z) (hi : j.toNatClampNeg = i) (hlen : i < vs.length) (N : Fr n0 locs) (ga : n0 ≤ a) {rest : List Value} (hd : decode code pc = .ok (.bastore, 1)) (K : ∀ T' h', Stand p l e R s m args below meth c T' (locs ++ [⟨a, j.toNatClampNeg⟩]) k n → T'.heap = h' → Wr h h' a j.toNatClampNeg (.int (nar .byte x)) → Arv Z h' a kc .byte z vs' dv → Fr n0 (locs ++ [⟨a, j.toNatClampNeg⟩]) → Go p e below G (T'.setTop (mkF m (pc + 1) Ls rest))) : Go p e below G (T.setTop (mkF m pc Ls (.int x :: .int j :: .ref a :: rest))) := by
  subst hvs
  obtain ⟨cl, Ar, q1, S, M, H, F⟩ := V
  obtain ⟨T', h', X', e', W, q⟩ := stB X hx hZ eT Ar (j := j) (inb_of S hj) (g := mkF m pc Ls (.int x :: .int j :: .ref a :: rest)) rfl rfl (hb hby hd)
  exact Go.step q (K T' h' X' e' W (Arv.set Ar q1 S M H F (fits_nar_byte _) W i hi hlen) (Fr.snoc X' N ga))
theorem g_lastore (X : Stand p l e R s m args below meth c T locs k n) (hx : p.tables.exec = Jvm.exec) (hby : c.code = code) (hZ : Z.Warmed39 s.vm) (eT : T.heap = h) {a : Addr} {kc : ClassId} {z : Int32} {vs : List Value} {dv : Value} (V : Arv Z h a kc .long z vs dv) {j : Int32} {x : Int64} (i : Nat) (vs' : List Value) (hvs : vs.set i (.long x) = vs') (hj : ¬ j < 0 ∧ j < z) (hi : j.toNatClampNeg = i) (hlen : i < vs.length) (N : Fr n0 locs) (ga : n0 ≤ a) {rest : List Value} (hd : decode code pc = .ok (.lastore, 1)) (K : ∀ T' h', Stand p l e R s m args below meth c T' (locs ++ [⟨a, j.toNatClampNeg⟩]) k n → T'.heap = h' → Wr h h' a j.toNatClampNeg (.long x) → Arv Z h' a kc .long z vs' dv → Fr n0 (locs ++ [⟨a, j.toNatClampNeg⟩]) → Go p e below G (T'.setTop (mkF m (pc + 1) Ls rest))) : Go p e below G (T.setTop (mkF m pc Ls (.long x :: .int j :: .ref a :: rest))) := by
  subst hvs
  obtain ⟨cl, Ar, q1, S, M, H, F⟩ := V
  obtain ⟨T', h', X', e', W, q⟩ := stJ X hx hZ eT Ar (j := j) (inb_of S hj) (g := mkF m pc Ls (.long x :: .int j :: .ref a :: rest)) rfl rfl (hb hby hd)
  exact Go.step q (K T' h' X' e' W (Arv.set Ar q1 S M H F rfl W i hi hlen) (Fr.snoc X' N ga))
theorem g_iaload (X : Stand p l e R s m args below meth c T locs k n) (hx : p.tables.exec = Jvm.exec) (hby : c.code = code) (hZ : Z.Warmed39 s.vm) (eT : T.heap = h) {a : Addr} {kc : ClassId} {z : Int32} {vs : List Value} {dv : Value} (V : Arv Z h a kc .int z vs dv) {j : Int32} (v : Value) (hj : ¬ j < 0 ∧ j < z) (hv : vs.getD j.toNatClampNeg dv = v) {rest : List Value} (hd : decode code pc = .ok (.iaload, 1)) (K : Go p e below G (T.setTop (mkF m (pc + 1) Ls (v :: rest)))) : Go p e below G (T.setTop (mkF m pc Ls (.int j :: .ref a :: rest))) := by
  obtain ⟨cl, Ar, q1, S, M, H, F⟩ := V
  have hin := inb_of S hj
  exact Go.step (fun t q => X.iaload hx (j := j) (v := v) (by rw [eT]; exact Ar.1) (State.isArrayOf_alike hZ.alike Ar.2.1) Ar.2.2 hin (H.at hin hv) (g := mkF m pc Ls (.int j :: .ref a :: rest)) rfl rfl (hb hby hd) t q) K
theorem g_caload (X : Stand p l e R s m args below meth c T locs k n) (hx : p.tables.exec = Jvm.exec) (hby : c.code = code) (hZ : Z.Warmed39 s.vm) (eT : T.heap = h) {a : Addr} {kc : ClassId} {z : Int32} {vs : List Value} {dv : Value} (V : Arv Z h a kc .char z vs dv) {j : Int32} (v : Value) (hj : ¬ j < 0 ∧ j < z) (hv : vs.getD j.toNatClampNeg dv = v) {rest : List Value} (hd : decode code pc = .ok (.caload, 1)) (K : Go p e below G (T.setTop (mkF m (pc + 1) Ls (v :: rest)))) : Go p e below G (T.setTop (mkF m pc Ls (.int j :: .ref a :: rest))) := by
  obtain ⟨cl, Ar, q1, S, M, H, F⟩ := V
  have hin := inb_of S hj
  exact Go.step (fun t q => X.caload hx (j := j) (v := v) (by rw [eT]; exact Ar.1) (State.isArrayOf_alike hZ.alike Ar.2.1) Ar.2.2 hin (H.at hin hv) (g := mkF m pc Ls (.int j :: .ref a :: rest)) rfl rfl (hb hby hd) t q) K
theorem g_saload (X : Stand p l e R s m args below meth c T locs k n) (hx : p.tables.exec = Jvm.exec) (hby : c.code = code) (hZ : Z.Warmed39 s.vm) (eT : T.heap = h) {a : Addr} {kc : ClassId} {z : Int32} {vs : List Value} {dv : Value} (V : Arv Z h a kc .short z vs dv) {j : Int32} (v : Value) (hj : ¬ j < 0 ∧ j < z) (hv : vs.getD j.toNatClampNeg dv = v) {rest : List Value} (hd : decode code pc = .ok (.saload, 1)) (K : Go p e below G (T.setTop (mkF m (pc + 1) Ls (v :: rest)))) : Go p e below G (T.setTop (mkF m pc Ls (.int j :: .ref a :: rest))) := by
  obtain ⟨cl, Ar, q1, S, M, H, F⟩ := V
  have hin := inb_of S hj
  exact Go.step (fun t q => X.saload hx (j := j) (v := v) (by rw [eT]; exact Ar.1) (State.isArrayOf_alike hZ.alike Ar.2.1) Ar.2.2 hin (H.at hin hv) (g := mkF m pc Ls (.int j :: .ref a :: rest)) rfl rfl (hb hby hd) t q) K
theorem g_baload (X : Stand p l e R s m args below meth c T locs k n) (hx : p.tables.exec = Jvm.exec) (hby : c.code = code) (hZ : Z.Warmed39 s.vm) (eT : T.heap = h) {a : Addr} {kc : ClassId} {z : Int32} {vs : List Value} {dv : Value} (V : Arv Z h a kc .byte z vs dv) {j : Int32} (v : Value) (hj : ¬ j < 0 ∧ j < z) (hv : vs.getD j.toNatClampNeg dv = v) {rest : List Value} (hd : decode code pc = .ok (.baload, 1)) (K : Go p e below G (T.setTop (mkF m (pc + 1) Ls (v :: rest)))) : Go p e below G (T.setTop (mkF m pc Ls (.int j :: .ref a :: rest))) := by
  obtain ⟨cl, Ar, q1, S, M, H, F⟩ := V
  have hin := inb_of S hj
  exact Go.step (fun t q => X.baloadBytes hx (j := j) (v := v) (by rw [eT]; exact Ar.1) (State.isArrayOf_alike hZ.alike Ar.2.1) Ar.2.2 hin (H.at hin hv) (g := mkF m pc Ls (.int j :: .ref a :: rest)) rfl rfl (hb hby hd) t q) K
theorem g_laload (X : Stand p l e R s m args below meth c T locs k n) (hx : p.tables.exec = Jvm.exec) (hby : c.code = code) (hZ : Z.Warmed39 s.vm) (eT : T.heap = h) {a : Addr} {kc : ClassId} {z : Int32} {vs : List Value} {dv : Value} (V : Arv Z h a kc .long z vs dv) {j : Int32} (v : Value) (hj : ¬ j < 0 ∧ j < z) (hv : vs.getD j.toNatClampNeg dv = v) {rest : List Value} (hd : decode code pc = .ok (.laload, 1)) (K : Go p e below G (T.setTop (mkF m (pc + 1) Ls (v :: rest)))) : Go p e below G (T.setTop (mkF m pc Ls (.int j :: .ref a :: rest))) := by
  obtain ⟨cl, Ar, q1, S, M, H, F⟩ := V
  have hin := inb_of S hj
  exact Go.step (fun t q => X.laload hx (j := j) (v := v) (by rw [eT]; exact Ar.1) (State.isArrayOf_alike hZ.alike Ar.2.1) Ar.2.2 hin (H.at hin hv) (g := mkF m pc Ls (.int j :: .ref a :: rest)) rfl rfl (hb hby hd) t q) K
theorem g_aaload (X : Stand p l e R s m args below meth c T locs k n) (hx : p.tables.exec = Jvm.exec) (hby : c.code = code) (hZ : Z.Warmed39 s.vm) (eT : T.heap = h) {a : Addr} {kc : ClassId} {ty : FieldType} {z : Int32} {vs : List Value} {dv : Value} (V : Arv Z h a kc ty z vs dv) (hty : ty.isReference = true) {j : Int32} (v : Value) (hj : ¬ j < 0 ∧ j < z) (hv : vs.getD j.toNatClampNeg dv = v) {rest : List Value} (hd : decode code pc = .ok (.aaload, 1)) (K : Go p e below G (T.setTop (mkF m (pc + 1) Ls (v :: rest)))) : Go p e below G (T.setTop (mkF m pc Ls (.int j :: .ref a :: rest))) := by
  obtain ⟨cl, Ar, q1, S, M, H, F⟩ := V
  have hin := inb_of S hj
  exact Go.step (fun t q => X.aaload hx (j := j) (v := v) (by rw [eT]; exact Ar.1) (State.isArrayOf_alike hZ.alike Ar.2.1) hty Ar.2.2 hin (H.at hin hv) (g := mkF m pc Ls (.int j :: .ref a :: rest)) rfl rfl (hb hby hd) t q) K
theorem g_arraylength (X : Stand p l e R s m args below meth c T locs k n) (hx : p.tables.exec = Jvm.exec) (hby : c.code = code) (hZ : Z.Warmed39 s.vm) (eT : T.heap = h) {a : Addr} {kc : ClassId} {ty : FieldType} {z : Int32} {vs : List Value} {dv : Value} (V : Arv Z h a kc ty z vs dv) {rest : List Value} (hd : decode code pc = .ok (.arraylength, 1)) (K : Go p e below G (T.setTop (mkF m (pc + 1) Ls (.int z :: rest)))) : Go p e below G (T.setTop (mkF m pc Ls (.ref a :: rest))) := by
  obtain ⟨cl, Ar, q1, S, M, H, F⟩ := V
  refine Go.step (fun t q => X.arraylength hx (by rw [eT]; exact Ar.1) (State.isArrayOf_alike hZ.alike Ar.2.1) (g := mkF m pc Ls (.ref a :: rest)) rfl rfl (hb hby hd) t q) ?_
  rw [len_of S M]
  exact K
theorem g_checkcast (X : Stand p l e R s m args below meth c T locs k n) (hx : p.tables.exec = Jvm.exec) (hby : c.code = code) (hZ : Z.Warmed39 s.vm) {own : String} (hown : s.vm.findClass own = some m.cls) {C : String} {index : Nat} (w : (Cond.classLink own index C).before a0 Z = true) (eT : T.heap = h) {a : Addr} (I : Ins Z h a C true) {rest : List Value} (hd : decode code pc = .ok (.checkcast index, 3)) (K : ∀ T', Stand p l e R s m args below meth c T' locs k n → T'.heap = h → Go p e below G (T'.setTop (mkF m (pc + 3) Ls (.ref a :: rest)))) : Go p e below G (T.setTop (mkF m pc Ls (.ref a :: rest))) := by
  obtain ⟨T', X', e', q⟩ := castY X hx hZ hown w eT I (g := mkF m pc Ls (.ref a :: rest)) rfl rfl (hb hby hd)
  exact Go.step q (K T' X' e')
theorem g_instanceof (X : Stand p l e R s m args below meth c T locs k n) (hx : p.tables.exec = Jvm.exec) (hby : c.code = code) (hZ : Z.Warmed39 s.vm) {own : String} (hown : s.vm.findClass own = some m.cls) {C : String} {index : Nat} (w : (Cond.classLink own index C).before a0 Z = true) (eT : T.heap = h) {a : Addr} (I : Ins Z h a C true) {rest : List Value} (hd : decode code pc = .ok (.instanceof index, 3)) (K : ∀ T', Stand p l e R s m args below meth c T' locs k n → T'.heap = h → Go p e below G (T'.setTop (mkF m (pc + 3) Ls (.int 1 :: rest)))) : Go p e below G (T.setTop (mkF m pc Ls (.ref a :: rest))) := by
  obtain ⟨T', X', e', q⟩ := instY X hx hZ hown w eT I (g := mkF m pc Ls (.ref a :: rest)) rfl rfl (hb hby hd)
  exact Go.step q (K T' X' e')
theorem g_instNo (X : Stand p l e R s m args below meth c T locs k n) (hx : p.tables.exec = Jvm.exec) (hby : c.code = code) (hZ : Z.Warmed39 s.vm) {own : String} (hown : s.vm.findClass own = some m.cls) {C K : String} {index : Nat} (w : (Cond.classLink own index K).before a0 Z = true) (eT : T.heap = h) {a : Addr} (E : Exa Z h a C) (F : ∃ c t, Z.vm.findClass C = some c ∧ Z.vm.findClass K = some t ∧ Z.vm.assignable c t = false) {rest : List Value} (hd : decode code pc = .ok (.instanceof index, 3)) (K' : ∀ T', Stand p l e R s m args below meth c T' locs k n → T'.heap = h → Go p e below G (T'.setTop (mkF m (pc + 3) Ls (.int 0 :: rest)))) : Go p e below G (T.setTop (mkF m pc Ls (.ref a :: rest))) := by
  obtain ⟨T', X', e', q⟩ := instNo X hx hZ hown w eT E F (g := mkF m pc Ls (.ref a :: rest)) rfl rfl (hb hby hd)
  exact Go.step q (K' T' X' e')
theorem g_instanceofNull (X : Stand p l e R s m args below meth c T locs k n) (hx : p.tables.exec = Jvm.exec) (hby : c.code = code) {index : Nat} {rest : List Value} (hd : decode code pc = .ok (.instanceof index, 3)) (K : Go p e below G (T.setTop (mkF m (pc + 3) Ls (.int 0 :: rest)))) : Go p e below G (T.setTop (mkF m pc Ls (.null :: rest))) := Go.step (fun t q => X.instanceofNull hx (g := mkF m pc Ls (.null :: rest)) rfl rfl (hb hby hd) t q) K
theorem g_checkcastNull (X : Stand p l e R s m args below meth c T locs k n) (hx : p.tables.exec = Jvm.exec) (hby : c.code = code) {index : Nat} {rest : List Value} (hd : decode code pc = .ok (.checkcast index, 3)) (K : Go p e below G (T.setTop (mkF m (pc + 3) Ls (.null :: rest)))) : Go p e below G (T.setTop (mkF m pc Ls (.null :: rest))) := Go.step (fun t q => X.checkcastNull hx (g := mkF m pc Ls (.null :: rest)) rfl rfl (hb hby hd) t q) K
theorem g_initO (X : Stand p l e R s m args below meth c T locs k n) (hx : p.tables.exec = Jvm.exec) (hby : c.code = code) (hZ : Z.Warmed39 s.vm) {own : String} (hown : s.vm.findClass own = some m.cls) {idx : Nat} (w1 : (Cond.methodLink own idx Lib.objectInit).before a0 Z = true) (w2 : (Cond.instanceMethod Lib.objectInit).before a0 Z = true) (w3 : (Cond.code Lib.objectInit ⟨#[0xb1]⟩ 1 none).before a0 Z = true) (eT : T.heap = h) (hsize : Ls.size = c.maxLocals) {a : Addr} {rest : List Value} (hf : 1 ≤ R.frames) (hl : (rest.map fun v => v.category).sum + 12 ≤ R.locals) (hd : decode code pc = .ok (.invokespecial idx, 3)) (K : ∀ T', Stand p l e R s m args below meth c T' locs k n → T'.heap = h → Go p e below G (T'.setTop (mkF m (pc + 3) Ls rest))) : Go p e below G (T.setTop (mkF m pc Ls (.ref a :: rest))) := by
  obtain ⟨T', X', e', q⟩ := initO X hx hZ hown w1 w2 w3 eT (g := mkF m pc Ls (.ref a :: rest)) rfl hsize rfl (hb hby hd) hf (W := (rest.map fun v => v.category).sum) (by show 2 * 0 + _ ≤ _; omega) hl
  exact Go.step q (K T' X' e')
theorem g_static (X : Stand p l e R s m args below meth c T locs k n) (hx : p.tables.exec = Jvm.exec) (hby : c.code = code) (hZ : Z.Warmed39 s.vm) {own : String} (hown : s.vm.findClass own = some m.cls) {index : Nat} {y : MethodName} {bytes : ByteArray} {maxL : Nat} {ret : Option FieldType} {rm : Room} {as' : Array Value} {Q : Option Value → Heap → List Loc → Prop} (hM : MetFree l y (head1 [Cond.code y bytes maxL ret] rm) (fun a U => a = as' ∧ Z.Warmed39 U.vm ∧ U.heap = h) (fun _ _ _ _ _ => True) (fun _ U o U' => RetG U Q rm.cells rm.slots U' o)) (wl : (Cond.methodLink own index y).before a0 Z = true) (ws : (Cond.static y).before a0 Z = true) (wz : (Cond.initialized y.cls).before a0 Z = true) (wc : (Cond.code y bytes maxL ret).before a0 Z = true) (hy : y.cls ≠ "java/lang/invoke/MethodHandle" ∧ y.cls ≠ "java/lang/invoke/VarHandle") (eT : T.heap = h) (hsize : Ls.size = c.maxLocals) (argsL : List Value) {rest : List Value} (hlen : ∀ sig, parseMethodDescriptor y.desc = some sig → argsL.length = sig.parameters.length) (has : argsL.toArray = as') (hst : st = argsL.reverse ++ rest) (hf : rm.frames + 1 ≤ R.frames) (hl : (rest.map fun v => v.category).sum + (maxL + 11) + rm.locals ≤ R.locals) (hc : k + rm.cells ≤ R.cells) (hs : n + rm.slots ≤ R.slots) (hd : decode code pc = .ok (.invokestatic index, 3)) (K : ∀ v T' L, Stand p l e R s m args below meth c T' (locs ++ L) (k + rm.cells) (n + rm.slots) → Q v T'.heap L → Go p e below G (T'.setTop (mkF m (pc + 3) Ls (v.toList ++ rest)))) : Go p e below G (T.setTop (mkF m pc Ls st)) := by
  obtain ⟨v, _, ⟨T', L', k', n'⟩, -, X', ⟨L, hq, l1, l2, l3⟩, q⟩ := Jvm.LawKit.callS X hx (y := y) hown (mvT hZ wl) (mvT hZ ws) (mvT hZ wz) (mvT hZ wc) hy (backOf (W := (rest.map fun v => v.category).sum) hM hZ wc wz hf hl) (g := mkF m pc Ls st) rfl hsize (argsL := argsL) (rest := rest) hlen hst (by show 2 * 0 + _ ≤ _; omega) (hb hby hd) (fun _ _ => ⟨has, eT, hc, hs⟩)
  dsimp only [Pt.U, Pt.locs, Pt.cells, Pt.slots] at X' l1 l2 l3 q hq
  subst l1 l2 l3
  exact Go.step q (K v T' L X' hq)
theorem g_special (X : Stand p l e R s m args below meth c T locs k n) (hx : p.tables.exec = Jvm.exec) (hby : c.code = code) (hZ : Z.Warmed39 s.vm) {own : String} (hown : s.vm.findClass own = some m.cls) {index : Nat} {y : MethodName} {bytes : ByteArray} {maxL : Nat} {ret : Option FieldType} {rm : Room} {as' : Array Value} {Q : Option Value → Heap → List Loc → Prop} (hM : MetFree l y (head1 [Cond.code y bytes maxL ret] rm) (fun a U => a = as' ∧ Z.Warmed39 U.vm ∧ U.heap = h) (fun _ _ _ _ _ => True) (fun _ U o U' => RetG U Q rm.cells rm.slots U' o)) (hy1 : y.name = "<init>") (hret : ret = none) (wl : (Cond.methodLink own index y).before a0 Z = true) (ws : (Cond.instanceMethod y).before a0 Z = true) (wz : (Cond.initialized y.cls).before a0 Z = true) (wc : (Cond.code y bytes maxL ret).before a0 Z = true) (hy : y.cls ≠ "java/lang/invoke/MethodHandle" ∧ y.cls ≠ "java/lang/invoke/VarHandle") (eT : T.heap = h) (hsize : Ls.size = c.maxLocals) {a : Addr} (argsL : List Value) {rest : List Value} (hlen : ∀ sig, parseMethodDescriptor y.desc = some sig → argsL.length = sig.parameters.length) (has : (.ref a :: argsL).toArray = as') (hst : st = argsL.reverse ++ .ref a :: rest) (hf : rm.frames + 1 ≤ R.frames) (hl : (rest.map fun v => v.category).sum + (maxL + 11) + rm.locals ≤ R.locals) (hc : k + rm.cells ≤ R.cells) (hs : n + rm.slots ≤ R.slots) (hd : decode code pc = .ok (.invokespecial index, 3)) (K : ∀ v T' L, Stand p l e R s m args below meth c T' (locs ++ L) (k + rm.cells) (n + rm.slots) → Q v T'.heap L → Go p e below G (T'.setTop (mkF m (pc + 3) Ls (v.toList ++ rest)))) : Go p e below G (T.setTop (mkF m pc Ls st)) := by
  subst hret
  obtain ⟨v, _, ⟨T', L', k', n'⟩, -, X', ⟨L, hq, l1, l2, l3⟩, q⟩ := X.specialBack hx (y := y) hy1 hown (mvT hZ wl) (mvT hZ ws) (mvT hZ wc) hy (backOf (W := (rest.map fun v => v.category).sum) hM hZ wc wz hf hl) (g := mkF m pc Ls st) rfl hsize (Steps.refl _) (a := a) (argsL := argsL) (rest := rest) hlen hst (by show 2 * 0 + _ ≤ _; omega) (hb hby hd) (fun _ _ => ⟨has, eT, hc, hs⟩)
  dsimp only [Pt.U, Pt.locs, Pt.cells, Pt.slots] at X' l1 l2 l3 q hq
  subst l1 l2 l3
  exact Go.step (fun t r => q.trans r) (K v T' L X' hq)
theorem g_virtual (X : Stand p l e R s m args below meth c T locs k n) (hx : p.tables.exec = Jvm.exec) (hby : c.code = code) (hZ : Z.Warmed39 s.vm) {own : String} (hown : s.vm.findClass own = some m.cls) {C : String} {index : Nat} {z : MethodName} {y : MethodName} {bytes : ByteArray} {maxL : Nat} {ret : Option FieldType} {rm : Room} {as' : Array Value} {Q : Option Value → Heap → List Loc → Prop} (hM : MetFree l y (head1 [Cond.code y bytes maxL ret] rm) (fun a U => a = as' ∧ Z.Warmed39 U.vm ∧ U.heap = h) (fun _ _ _ _ _ => True) (fun _ U o U' => RetG U Q rm.cells rm.slots U' o)) (wl : (Cond.methodLink own index z).before a0 Z = true) (wd : (Cond.declares z).before a0 Z = true) (hnf : NotFace s z) (wsel : (Cond.selects C z y).before a0 Z = true) (ws : (Cond.instanceMethod y).before a0 Z = true) (wz : (Cond.initialized y.cls).before a0 Z = true) (wc : (Cond.code y bytes maxL ret).before a0 Z = true) (hy : z.cls ≠ "java/lang/invoke/MethodHandle" ∧ z.cls ≠ "java/lang/invoke/VarHandle") (eT : T.heap = h) {a : Addr} (E : Exa Z h a C) (hsize : Ls.size = c.maxLocals) (argsL : List Value) {rest : List Value} (hlen : ∀ sig, parseMethodDescriptor z.desc = some sig → argsL.length = sig.parameters.length) (has : (.ref a :: argsL).toArray = as') (hst : st = argsL.reverse ++ .ref a :: rest) (hf : rm.frames + 1 ≤ R.frames) (hl : (rest.map fun v => v.category).sum + (maxL + 11) + rm.locals ≤ R.locals) (hc : k + rm.cells ≤ R.cells) (hs : n + rm.slots ≤ R.slots) (hd : decode code pc = .ok (.invokevirtual index, 3)) (K : ∀ v T' L, Stand p l e R s m args below meth c T' (locs ++ L) (k + rm.cells) (n + rm.slots) → Q v T'.heap L → Go p e below G (T'.setTop (mkF m (pc + 3) Ls (v.toList ++ rest)))) : Go p e below G (T.setTop (mkF m pc Ls st)) := by
  obtain ⟨cq, kq, qa, qb, qc⟩ := isOf hZ eT E
  obtain ⟨v, _, ⟨T', L', k', n'⟩, -, X', ⟨L, hq, l1, l2, l3⟩, q⟩ := X.virtualBack hx (y := z) (z := y) hown (mvT hZ wl) (mvT hZ wd) hnf (mvT hZ wsel) (mvT hZ ws) hy (backOf (W := (rest.map fun v => v.category).sum) hM hZ wc wz hf hl) qa qc (g := mkF m pc Ls st) rfl hsize (Steps.refl _) (argsL := argsL) (rest := rest) hlen hst (by show 2 * 0 + _ ≤ _; omega) (hb hby hd) (fun _ _ => ⟨has, eT, hc, hs⟩)
  dsimp only [Pt.U, Pt.locs, Pt.cells, Pt.slots] at X' l1 l2 l3 q hq
  subst l1 l2 l3
  exact Go.step (fun t r => q.trans r) (K v T' L X' hq)
theorem g_private (X : Stand p l e R s m args below meth c T locs k n) (hx : p.tables.exec = Jvm.exec) (hby : c.code = code) (hZ : Z.Warmed39 s.vm) {own : String} (hown : s.vm.findClass own = some m.cls) {index j : Nat} {y : MethodName} {bytes : ByteArray} {maxL : Nat} {ret : Option FieldType} {rm : Room} {as' : Array Value} {Q : Option Value → Heap → List Loc → Prop} (hM : MetFree l y (head1 [Cond.code y bytes maxL ret] rm) (fun a U => a = as' ∧ Z.Warmed39 U.vm ∧ U.heap = h) (fun _ _ _ _ _ => True) (fun _ U o U' => RetG U Q rm.cells rm.slots U' o)) (wl : (Cond.methodLink own index y).before a0 Z = true) (ws : (Cond.instanceMethod y).before a0 Z = true) (wi : (Cond.instantiable y.cls j).before a0 Z = true) (wp : (Cond.privateMethod y).before a0 Z = true) (wz : (Cond.initialized y.cls).before a0 Z = true) (wc : (Cond.code y bytes maxL ret).before a0 Z = true) (hy : y.cls ≠ "java/lang/invoke/MethodHandle" ∧ y.cls ≠ "java/lang/invoke/VarHandle") (eT : T.heap = h) {a : Addr} {C : String} (E : Exa Z h a C) (hsize : Ls.size = c.maxLocals) (argsL : List Value) {rest : List Value} (hlen : ∀ sig, parseMethodDescriptor y.desc = some sig → argsL.length = sig.parameters.length) (has : (.ref a :: argsL).toArray = as') (hst : st = argsL.reverse ++ .ref a :: rest) (hf : rm.frames + 1 ≤ R.frames) (hl : (rest.map fun v => v.category).sum + (maxL + 11) + rm.locals ≤ R.locals) (hc : k + rm.cells ≤ R.cells) (hs : n + rm.slots ≤ R.slots) (hd : decode code pc = .ok (.invokevirtual index, 3)) (K : ∀ v T' L, Stand p l e R s m args below meth c T' (locs ++ L) (k + rm.cells) (n + rm.slots) → Q v T'.heap L → Go p e below G (T'.setTop (mkF m (pc + 3) Ls (v.toList ++ rest)))) : Go p e below G (T.setTop (mkF m pc Ls st)) := by
  obtain ⟨cq, q1, q2⟩ := E.cell
  obtain ⟨v, _, ⟨T', L', k', n'⟩, -, X', ⟨L, hq, l1, l2, l3⟩, q⟩ := X.privateBack hx (y := y) hown (mvT hZ wl) (mvT hZ ws) (selOf (mvT hZ wi) (mvP hZ wp) (mvT hZ ws) hy) (Cond.privateMethod_at (mvP hZ wp (args := #[]))) (mvT hZ wc) hy (backOf (W := (rest.map fun v => v.category).sum) hM hZ wc wz hf hl) (g := mkF m pc Ls st) rfl hsize (Steps.refl _) (a := a) (by rw [eT]; exact q1) q2 (argsL := argsL) (rest := rest) hlen hst (by show 2 * 0 + _ ≤ _; omega) (hb hby hd) (fun _ _ => ⟨has, eT, hc, hs⟩)
  dsimp only [Pt.U, Pt.locs, Pt.cells, Pt.slots] at X' l1 l2 l3 q hq
  subst l1 l2 l3
  exact Go.step (fun t r => q.trans r) (K v T' L X' hq)
theorem g_interface (X : Stand p l e R s m args below meth c T locs k n) (hx : p.tables.exec = Jvm.exec) (hby : c.code = code) (hZ : Z.Warmed39 s.vm) {own : String} (hown : s.vm.findClass own = some m.cls) {C : String} {index count : Nat} {z : MethodName} {y : MethodName} {bytes : ByteArray} {maxL : Nat} {ret : Option FieldType} {rm : Room} {as' : Array Value} {Q : Option Value → Heap → List Loc → Prop} (hM : MetFree l y (head1 [Cond.code y bytes maxL ret] rm) (fun a U => a = as' ∧ Z.Warmed39 U.vm ∧ U.heap = h) (fun _ _ _ _ _ => True) (fun _ U o U' => RetG U Q rm.cells rm.slots U' o)) (wl : (Cond.methodLink own index z).before a0 Z = true) (wd : (Cond.declares z).before a0 Z = true) (wf : (Cond.interfaceMethod z.cls z.cls z.name z.desc).before a0 Z = true) (wsel : (Cond.selects C z y).before a0 Z = true) (ws : (Cond.instanceMethod y).before a0 Z = true) (wp : (Cond.publicMethod y).before a0 Z = true) (wu : (Cond.unhidden C z.name z.desc).before a0 Z = true) (wca : (Cond.castable C z.cls).before a0 Z = true) (wz : (Cond.initialized y.cls).before a0 Z = true) (wc : (Cond.code y bytes maxL ret).before a0 Z = true) (hy : z.cls ≠ "java/lang/invoke/MethodHandle" ∧ z.cls ≠ "java/lang/invoke/VarHandle") (eT : T.heap = h) {a : Addr} (E : Exa Z h a C) (hsize : Ls.size = c.maxLocals) (argsL : List Value) {rest : List Value} (hlen : ∀ sig, parseMethodDescriptor z.desc = some sig → argsL.length = sig.parameters.length) (has : (.ref a :: argsL).toArray = as') (hst : st = argsL.reverse ++ .ref a :: rest) (hf : rm.frames + 1 ≤ R.frames) (hl : (rest.map fun v => v.category).sum + (maxL + 11) + rm.locals ≤ R.locals) (hc : k + rm.cells ≤ R.cells) (hs : n + rm.slots ≤ R.slots) (hd : decode code pc = .ok (.invokeinterface index count, 5)) (K : ∀ v T' L, Stand p l e R s m args below meth c T' (locs ++ L) (k + rm.cells) (n + rm.slots) → Q v T'.heap L → Go p e below G (T'.setTop (mkF m (pc + 5) Ls (v.toList ++ rest)))) : Go p e below G (T.setTop (mkF m pc Ls st)) := by
  obtain ⟨cq, kq, qa, qb, qc⟩ := isOf hZ eT E
  obtain ⟨v, _, ⟨T', L', k', n'⟩, -, X', ⟨L, hq, l1, l2, l3⟩, q⟩ := X.interfaceBack hx (xi := z) (y := y) hown (mvT hZ wl) (mvT hZ wd) (mvT hZ wf (by simp [Cond.onTables, Cond.keepsFace, Cond.keeps, Cond.steady, Cond.faceAtom, hy.1, hy.2])) (mvT hZ wsel) (mvT hZ ws) (mvT hZ wp) (mvT hZ wu) (mvT hZ wca) hy (backOf (W := (rest.map fun v => v.category).sum) hM hZ wc wz hf hl) qa qb qc (g := mkF m pc Ls st) rfl hsize (Steps.refl _) (argsL := argsL) (rest := rest) hlen hst (by show 2 * 0 + _ ≤ _; omega) (hb hby hd) (fun _ _ => ⟨has, eT, hc, hs⟩)
  dsimp only [Pt.U, Pt.locs, Pt.cells, Pt.slots] at X' l1 l2 l3 q hq
  subst l1 l2 l3
  exact Go.step (fun t r => q.trans r) (K v T' L X' hq)
theorem g_ret (X : Stand p l e R s m args below meth c T locs k n) (hx : p.tables.exec = Jvm.exec) (hby : c.code = code) (hret : meth.sig.returnType = none) (hlocks : meth.locks = false) {Q : Option Value → Heap → List Loc → Prop} {cells slots : Nat} (hd : decode code pc = .ok (.return_, 1)) (eT : T.heap = h) (hk : k ≤ cells) (hn : n ≤ slots) (hq : Q none h locs) : Go p e below (RetG s Q cells slots) (T.setTop (mkF m pc Ls [])) := Go.leave X (v := none) (fun _ => rfl) hlocks eT hq hk hn (fun fs hr => X.returnOut hx hret (hb hby hd) hr)
theorem g_iret (X : Stand p l e R s m args below meth c T locs k n) (hx : p.tables.exec = Jvm.exec) (hby : c.code = code) {z : Int32} {rest : List Value} (hret : meth.sig.returnType = some .int) (hlocks : meth.locks = false) {Q : Option Value → Heap → List Loc → Prop} {cells slots : Nat} (hd : decode code pc = .ok (.ireturn, 1)) (eT : T.heap = h) (hk : k ≤ cells) (hn : n ≤ slots) (hq : Q (some (.int z)) h locs) : Go p e below (RetG s Q cells slots) (T.setTop (mkF m pc Ls (.int z :: rest))) := Go.leave X (v := some (.int z)) (fun q => by rw [hret] at q; cases q) hlocks eT hq hk hn (fun fs hr => retOut X hx (t := .int) hret rfl (Or.inl ⟨rfl, Or.inl rfl, z, rfl⟩) (hb hby hd) hr)
theorem g_nret (X : Stand p l e R s m args below meth c T locs k n) (hx : p.tables.exec = Jvm.exec) (hby : c.code = code) {z : Int32} {rest : List Value} {t : FieldType} (ht : t = .boolean ∨ t = .byte ∨ t = .char ∨ t = .short) (hret : meth.sig.returnType = some t) (hlocks : meth.locks = false) {Q : Option Value → Heap → List Loc → Prop} {cells slots : Nat} (hd : decode code pc = .ok (.ireturn, 1)) (eT : T.heap = h) (hk : k ≤ cells) (hn : n ≤ slots) (hq : Q (some (.int (nar t z))) h locs) : Go p e below (RetG s Q cells slots) (T.setTop (mkF m pc Ls (.int z :: rest))) := Go.leave X (v := some (.int (nar t z))) (fun q => by rw [hret] at q; cases q) hlocks eT hq hk hn (fun fs hr => retN X hx (t := t) hret ht (hb hby hd) hr)
theorem g_lret (X : Stand p l e R s m args below meth c T locs k n) (hx : p.tables.exec = Jvm.exec) (hby : c.code = code) {z : Int64} {rest : List Value} (hret : meth.sig.returnType = some .long) (hlocks : meth.locks = false) {Q : Option Value → Heap → List Loc → Prop} {cells slots : Nat} (hd : decode code pc = .ok (.lreturn, 1)) (eT : T.heap = h) (hk : k ≤ cells) (hn : n ≤ slots) (hq : Q (some (.long z)) h locs) : Go p e below (RetG s Q cells slots) (T.setTop (mkF m pc Ls (.long z :: rest))) := Go.leave X (v := some (.long z)) (fun q => by rw [hret] at q; cases q) hlocks eT hq hk hn (fun fs hr => retOut X hx (t := .long) hret rfl (Or.inr (Or.inl ⟨rfl, rfl, z, rfl⟩)) (hb hby hd) hr)
theorem g_aret (X : Stand p l e R s m args below meth c T locs k n) (hx : p.tables.exec = Jvm.exec) (hby : c.code = code) {z : Value} {rest : List Value} {t : FieldType} (ht : t.isReference = true) (hz : z.isRef = true) (hnar : narrow t z = z) (hret : meth.sig.returnType = some t) (hlocks : meth.locks = false) {Q : Option Value → Heap → List Loc → Prop} {cells slots : Nat} (hd : decode code pc = .ok (.areturn, 1)) (eT : T.heap = h) (hk : k ≤ cells) (hn : n ≤ slots) (hq : Q (some z) h locs) : Go p e below (RetG s Q cells slots) (T.setTop (mkF m pc Ls (z :: rest))) := Go.leave X (v := some z) (fun q => by rw [hret] at q; cases q) hlocks eT hq hk hn (fun fs hr => retOut X hx (t := t) hret hnar (Or.inr (Or.inr (Or.inr (Or.inr ⟨rfl, ht, hz⟩)))) (hb hby hd) hr)
end
end Jvm.Own

namespace Jvm.Own
open Sem ClassFile Op Lib Jvm.Stand Jvm.Free Jvm.LawKit Jvm.RoadKit
def RetW (s : State) (Q : Option Value → Heap → List Loc → Prop) (cells slots : Nat) (s₂ : State) (o : Outcome) : Prop := ∃ v L, o = .returned v ∧ Q v s₂.heap L ∧ ReturnedEndW s o s₂ L cells slots
theorem own_widen {s u : State} {o : Outcome} {L L' : List Loc} {a b c d : Nat} (hq : ReturnedEndW s o u L a b) (N : Fr s.heap.size L) (hc : a ≤ c) (hd : b ≤ d) : ReturnedEndW s o u L' c d :=
  ⟨hq.1, hq.2.1, hq.2.2.1, (hq.2.2.2.sift fun y hy => Or.inr (N y hy)).mono hc hd⟩
section
variable {p : Program} {l : Launch} {e : Env} {R : Room} {s : State} {vm0 : Vm} {m : MethodId} {args : Array Value} {below : List Frame} {meth : Method} {c : Code} {T : State} {locs : List Loc} {k n k0 : Nat} {G : State → Outcome → Prop} {code : ByteArray} {pc : Nat} {Ls : Array Slot} {st : List Value} {Z : State} {a0 : Array Value} {h : Heap} {n0 : Nat}
theorem Go.leaveW (X : Stand p l e R (s.setVm vm0) m args below meth c T locs k n) {v : Option Value} (hv : meth.sig.returnType = none → v = none) (hlocks : meth.locks = false) {Q : Option Value → Heap → List Loc → Prop} {cells slots : Nat} {σ : State} (hS : s.Since vm0 k0) (eT : T.heap = h) (hkk : k0 ≤ h.size) (hq : Q v h locs) (hk : k ≤ cells) (hn : n ≤ slots)
    (st : ∀ fs, (∀ (f : JFrame) (acts : List Action), f.method = m → f.locked = none → f.entered = [] → (doReturn e (T.setTop f) acts v).1 = T.setFrames fs) → Steps p.tables e below σ (T.setFrames fs)) : Go p e below (RetW s Q cells slots) σ := by
  subst eT
  obtain ⟨fs, hr, hrun, hended, h1, h2, h3, h4⟩ := X.leaveW hS hkk (v := v) hv hlocks
  exact ⟨_, _, st fs hr, hrun, hended, _, _, rfl, hq, h1, h2, h3, h4.mono hk hn⟩
theorem g_retW (X : Stand p l e R (s.setVm vm0) m args below meth c T locs k n) (hx : p.tables.exec = Jvm.exec) (hby : c.code = code) (hret : meth.sig.returnType = none) (hlocks : meth.locks = false) {Q : Option Value → Heap → List Loc → Prop} {cells slots : Nat} (hS : s.Since vm0 k0) (hd : decode code pc = .ok (.return_, 1)) (eT : T.heap = h) (hkk : k0 ≤ h.size) (hk : k ≤ cells) (hn : n ≤ slots) (hq : Q none h locs) : Go p e below (RetW s Q cells slots) (T.setTop (mkF m pc Ls [])) := Go.leaveW X (v := none) (fun _ => rfl) hlocks hS eT hkk hq hk hn (fun fs hr => X.returnOut hx hret (hb hby hd) hr)
theorem g_iretW (X : Stand p l e R (s.setVm vm0) m args below meth c T locs k n) (hx : p.tables.exec = Jvm.exec) (hby : c.code = code) {z : Int32} {rest : List Value} (hret : meth.sig.returnType = some .int) (hlocks : meth.locks = false) {Q : Option Value → Heap → List Loc → Prop} {cells slots : Nat} (hS : s.Since vm0 k0) (hd : decode code pc = .ok (.ireturn, 1)) (eT : T.heap = h) (hkk : k0 ≤ h.size) (hk : k ≤ cells) (hn : n ≤ slots) (hq : Q (some (.int z)) h locs) : Go p e below (RetW s Q cells slots) (T.setTop (mkF m pc Ls (.int z :: rest))) := Go.leaveW X (v := some (.int z)) (fun q => by rw [hret] at q; cases q) hlocks hS eT hkk hq hk hn (fun fs hr => retOut X hx (t := .int) hret rfl (Or.inl ⟨rfl, Or.inl rfl, z, rfl⟩) (hb hby hd) hr)
theorem g_nretW (X : Stand p l e R (s.setVm vm0) m args below meth c T locs k n) (hx : p.tables.exec = Jvm.exec) (hby : c.code = code) {z : Int32} {rest : List Value} {t : FieldType} (ht : t = .boolean ∨ t = .byte ∨ t = .char ∨ t = .short) (hret : meth.sig.returnType = some t) (hlocks : meth.locks = false) {Q : Option Value → Heap → List Loc → Prop} {cells slots : Nat} (hS : s.Since vm0 k0) (hd : decode code pc = .ok (.ireturn, 1)) (eT : T.heap = h) (hkk : k0 ≤ h.size) (hk : k ≤ cells) (hn : n ≤ slots) (hq : Q (some (.int (nar t z))) h locs) : Go p e below (RetW s Q cells slots) (T.setTop (mkF m pc Ls (.int z :: rest))) := Go.leaveW X (v := some (.int (nar t z))) (fun q => by rw [hret] at q; cases q) hlocks hS eT hkk hq hk hn (fun fs hr => retN X hx (t := t) hret ht (hb hby hd) hr)
theorem g_lretW (X : Stand p l e R (s.setVm vm0) m args below meth c T locs k n) (hx : p.tables.exec = Jvm.exec) (hby : c.code = code) {z : Int64} {rest : List Value} (hret : meth.sig.returnType = some .long) (hlocks : meth.locks = false) {Q : Option Value → Heap → List Loc → Prop} {cells slots : Nat} (hS : s.Since vm0 k0) (hd : decode code pc = .ok (.lreturn, 1)) (eT : T.heap = h) (hkk : k0 ≤ h.size) (hk : k ≤ cells) (hn : n ≤ slots) (hq : Q (some (.long z)) h locs) : Go p e below (RetW s Q cells slots) (T.setTop (mkF m pc Ls (.long z :: rest))) := Go.leaveW X (v := some (.long z)) (fun q => by rw [hret] at q; cases q) hlocks hS eT hkk hq hk hn (fun fs hr => retOut X hx (t := .long) hret rfl (Or.inr (Or.inl ⟨rfl, rfl, z, rfl⟩)) (hb hby hd) hr)
theorem g_aretW (X : Stand p l e R (s.setVm vm0) m args below meth c T locs k n) (hx : p.tables.exec = Jvm.exec) (hby : c.code = code) {z : Value} {rest : List Value} {t : FieldType} (ht : t.isReference = true) (hz : z.isRef = true) (hnar : narrow t z = z) (hret : meth.sig.returnType = some t) (hlocks : meth.locks = false) {Q : Option Value → Heap → List Loc → Prop} {cells slots : Nat} (hS : s.Since vm0 k0) (hd : decode code pc = .ok (.areturn, 1)) (eT : T.heap = h) (hkk : k0 ≤ h.size) (hk : k ≤ cells) (hn : n ≤ slots) (hq : Q (some z) h locs) : Go p e below (RetW s Q cells slots) (T.setTop (mkF m pc Ls (z :: rest))) := Go.leaveW X (v := some z) (fun q => by rw [hret] at q; cases q) hlocks hS eT hkk hq hk hn (fun fs hr => retOut X hx (t := t) hret hnar (Or.inr (Or.inr (Or.inr (Or.inr ⟨rfl, ht, hz⟩)))) (hb hby hd) hr)
theorem g_ldcS (X : Stand p l e R (s.setVm vm0) m args below meth c T locs k n) (hx : p.tables.exec = Jvm.exec) (hby : c.code = code) (hZ : Z.Warmed39 (s.setVm vm0).vm) {own : String} (hown : (s.setVm vm0).vm.findClass own = some m.cls) {text : String} {index : Nat} (w : (Cond.stringLink own index text).before a0 Z = true) (wS : ∀ a ∈ Bundle.stringAtoms, a.before a0 Z = true) (eT : T.heap = h) (hS : s.Since vm0 k0) (hk : k0 ≤ h.size) (nn : Nat) (hnn : 4 * text.toList.length ≤ nn) (hbig : nn ≤ 536870912) (hc : k + 2 ≤ R.cells) (hl : n + (nn + 4) ≤ R.slots) (hd : decode code pc = .ok (.ldc index, 2)) (K : ∀ a T' h' k1, Stand p l e R (s.setVm T'.vm) m args below meth c T' locs (k + 2) (n + (nn + 4)) → T'.heap = h' → Ext h h' → s.Since T'.vm k1 → k1 ≤ h'.size → Z.Warmed39 (s.setVm T'.vm).vm → (s.setVm T'.vm).vm.findClass own = some m.cls → Go p e below G (T'.setTop (mkF m (pc + 2) Ls (.ref a :: st)))) : Go p e below G (T.setTop (mkF m pc Ls st)) := by
  obtain ⟨a, T', h', k1, X', e', E, hS', hk', hZ', ho', q⟩ := ldcS X hx hZ hown w wS eT hS hk (g := mkF m pc Ls st) rfl (hb hby hd) hnn hbig hc hl
  exact Go.step q (K a T' h' k1 X' e' E hS' hk' hZ' ho')
theorem g_ldcwS (X : Stand p l e R (s.setVm vm0) m args below meth c T locs k n) (hx : p.tables.exec = Jvm.exec) (hby : c.code = code) (hZ : Z.Warmed39 (s.setVm vm0).vm) {own : String} (hown : (s.setVm vm0).vm.findClass own = some m.cls) {text : String} {index : Nat} (w : (Cond.stringLink own index text).before a0 Z = true) (wS : ∀ a ∈ Bundle.stringAtoms, a.before a0 Z = true) (eT : T.heap = h) (hS : s.Since vm0 k0) (hk : k0 ≤ h.size) (nn : Nat) (hnn : 4 * text.toList.length ≤ nn) (hbig : nn ≤ 536870912) (hc : k + 2 ≤ R.cells) (hl : n + (nn + 4) ≤ R.slots) (hd : decode code pc = .ok (.ldc_w index, 3)) (K : ∀ a T' h' k1, Stand p l e R (s.setVm T'.vm) m args below meth c T' locs (k + 2) (n + (nn + 4)) → T'.heap = h' → Ext h h' → s.Since T'.vm k1 → k1 ≤ h'.size → Z.Warmed39 (s.setVm T'.vm).vm → (s.setVm T'.vm).vm.findClass own = some m.cls → Go p e below G (T'.setTop (mkF m (pc + 3) Ls (.ref a :: st)))) : Go p e below G (T.setTop (mkF m pc Ls st)) := by
  obtain ⟨a, T', h', k1, X', e', E, hS', hk', hZ', ho', q⟩ := ldcSW X hx hZ hown w wS eT hS hk (g := mkF m pc Ls st) rfl (hb hby hd) hnn hbig hc hl
  exact Go.step q (K a T' h' k1 X' e' E hS' hk' hZ' ho')
theorem g_ldcSV (X : Stand p l e R (s.setVm vm0) m args below meth c T locs k n) (hx : p.tables.exec = Jvm.exec) (hby : c.code = code) (hZ : Z.Warmed39 (s.setVm vm0).vm) {own : String} (hown : (s.setVm vm0).vm.findClass own = some m.cls) {text : String} {index : Nat} (w : (Cond.stringLink own index text).before a0 Z = true) (wS : ∀ a ∈ Bundle.stringAtoms, a.before a0 Z = true) (eT : T.heap = h) (hS : s.Since vm0 k0) (hk : k0 ≤ h.size) (N : Fr s.heap.size locs) (hkeep : ∀ (b : Addr) (cl : Cell), Z.heap[b]? = some cl → s.heap[b]? = some cl) (hI : vm0.interned = Z.vm.interned) (hh : Jvm.Lit.constHeld Z own index) (hcw : Jvm.Lit.compactW.before a0 Z = true) (vs : List Value) (z : Int32) (ht : (∀ c ∈ text.toList, c.toNat < 256) ∧ text.toList.map (fun c => Value.int (Jvm.Lit.byteI c.toNat.toUInt16)) = vs) (hz : ¬ z < 0) (hlz : z.toNatClampNeg = vs.length) (nn : Nat) (hnn : 4 * text.toList.length ≤ nn) (hbig : nn ≤ 536870912) (hc : k + 2 ≤ R.cells) (hl : n + (nn + 4) ≤ R.slots) (hd : decode code pc = .ok (.ldc index, 2)) (K : ∀ a T' h' k1 b kb, Stand p l e R (s.setVm T'.vm) m args below meth c T' locs (k + 2) (n + (nn + 4)) → T'.heap = h' → Ext h h' → s.Since T'.vm k1 → k1 ≤ h'.size → Z.Warmed39 (s.setVm T'.vm).vm → (s.setVm T'.vm).vm.findClass own = some m.cls → Exa Z h' a "java/lang/String" → Fld Z h' a "java/lang/String" "coder" "B" (.int 0) → Fld Z h' a "java/lang/String" "value" "[B" (.ref b) → Arv Z h' b kb .byte z vs (.int 0) → Lit (s.setVm T'.vm) own index a → Go p e below G (T'.setTop (mkF m (pc + 2) Ls (.ref a :: st)))) : Go p e below G (T.setTop (mkF m pc Ls st)) := by
  obtain ⟨a, T', h', k1, b, kb, X', e', E, hS', hk', hZ', ho', r1, r2, r3, r4, -, -, -, r5, q⟩ := ldcSVL X hx hZ hown w wS eT hS hk N hkeep (Ts := []) ⟨#[], by rw [hI]; simp, fun q hq => by simp at hq⟩ (by simp) hh hcw ht hz hlz (g := mkF m pc Ls st) rfl (hb hby hd) hnn hbig hc hl
  exact Go.step q (K a T' h' k1 b kb X' e' E hS' hk' hZ' ho' r1 r2 r3 r4 r5)
theorem g_ldcAgain (X : Stand p l e R (s.setVm vm0) m args below meth c T locs k n) (hx : p.tables.exec = Jvm.exec) (hby : c.code = code) (hZ : Z.Warmed39 (s.setVm vm0).vm) {own : String} (hown : (s.setVm vm0).vm.findClass own = some m.cls) {text : String} {index : Nat} (w : (Cond.stringLink own index text).before a0 Z = true) {a : Addr} (L : Lit (s.setVm vm0) own index a) (hd : decode code pc = .ok (.ldc index, 2)) (K : Go p e below G (T.setTop (mkF m (pc + 2) Ls (.ref a :: st)))) : Go p e below G (T.setTop (mkF m pc Ls st)) := Go.step (ldcAgain X hx hZ hown w L (g := mkF m pc Ls st) rfl (hb hby hd)) K
theorem backW {y : MethodName} {bytes : ByteArray} {maxL : Nat} {ret : Option FieldType} {rm : Room} {len W : Nat} {as' : Array Value} {Q : Option Value → Heap → List Loc → Prop} {PV : Vm → Prop}
    (hM : MetFree l y (head1 [Cond.code y bytes maxL ret] rm) (fun a U => a = as' ∧ PV U.vm ∧ U.heap = h) (fun _ _ _ _ _ => True) (fun _ U o U' => RetW U Q rm.cells rm.slots U' o))
    (hZ : Z.Warmed39 s.vm) (hPV : ∀ vm, s.WarmedH vm → PV vm) (wc : (Cond.code y bytes maxL ret).before a0 Z = true) (wz : (Cond.initialized y.cls).before a0 Z = true) (hf : rm.frames + 1 ≤ R.frames) (hl : W + (maxL + 11) + rm.locals ≤ R.locals) :
    BackS l R p e below s args y len W (fun A a => a = as' ∧ A.U.heap = h ∧ A.cells + rm.cells ≤ R.cells ∧ A.slots + rm.slots ≤ R.slots)
      (fun A _ v B => ∃ L, Q v B.U.heap L ∧ B.locs = A.locs ++ L ∧ B.cells = A.cells + rm.cells ∧ B.slots = A.slots + rm.slots) :=
  BackS.of_freeW (bytes := bytes) (maxL := maxL) (ret := ret) (E := fun _ _ o t L k n => k = rm.cells ∧ n = rm.slots ∧ ∃ v, o = .returned v ∧ Q v t.heap L) hM hf hl
    (fun m meth c A a Y hp => have hU : Z.Warmed39 A.U.vm := wtrans hZ Y.warmed
      ⟨by show (Cond.and _ .tt).before a A.U = true; rw [Cond.before_and, mv hU wc]; rfl, mv hU wc, mv hU wz, hp.2.2.1, hp.2.2.2⟩)
    (fun m meth c A a g mk Y hp => ⟨hp.1, hPV _ Y.warmed, hp.2.1⟩) (fun _ _ _ _ _ _ _ _ _ => trivial)
    (fun _ _ _ _ ⟨v, L, h1, h2, h3⟩ => ⟨L, _, _, h3, rfl, rfl, v, h1, h2⟩)
    (fun m meth c A a g mk v t L k n Y hp _ _ ⟨e1, e2, v', e3, e4⟩ => by cases e3; subst e1 e2; exact ⟨L, e4, rfl, rfl, rfl⟩)
theorem g_staticW (X : Stand p l e R (s.setVm vm0) m args below meth c T locs k n) (hx : p.tables.exec = Jvm.exec) (hby : c.code = code) (hZ : Z.Warmed39 (s.setVm vm0).vm) {own : String} (hown : (s.setVm vm0).vm.findClass own = some m.cls) {index : Nat} {y : MethodName} {bytes : ByteArray} {maxL : Nat} {ret : Option FieldType} {rm : Room} {as' : Array Value} {Q : Option Value → Heap → List Loc → Prop} {PV : Vm → Prop} (hM : MetFree l y (head1 [Cond.code y bytes maxL ret] rm) (fun a U => a = as' ∧ PV U.vm ∧ U.heap = h) (fun _ _ _ _ _ => True) (fun _ U o U' => RetW U Q rm.cells rm.slots U' o)) (hPV : ∀ vm, (s.setVm vm0).WarmedH vm → PV vm) (hS : s.Since vm0 k0) (hkk : k0 ≤ h.size) (wl : (Cond.methodLink own index y).before a0 Z = true) (ws : (Cond.static y).before a0 Z = true) (wz : (Cond.initialized y.cls).before a0 Z = true) (wc : (Cond.code y bytes maxL ret).before a0 Z = true) (hy : y.cls ≠ "java/lang/invoke/MethodHandle" ∧ y.cls ≠ "java/lang/invoke/VarHandle") (eT : T.heap = h) (hsize : Ls.size = c.maxLocals) (argsL : List Value) {rest : List Value} (hlen : ∀ sig, parseMethodDescriptor y.desc = some sig → argsL.length = sig.parameters.length) (has : argsL.toArray = as') (hst : st = argsL.reverse ++ rest) (hf : rm.frames + 1 ≤ R.frames) (hl : (rest.map fun v => v.category).sum + (maxL + 11) + rm.locals ≤ R.locals) (hc : k + rm.cells ≤ R.cells) (hs : n + rm.slots ≤ R.slots) (hd : decode code pc = .ok (.invokestatic index, 3)) (K : ∀ v T' L, Stand p l e R (s.setVm T'.vm) m args below meth c T' (locs ++ L) (k + rm.cells) (n + rm.slots) → s.Since T'.vm T'.heap.size → Z.Warmed39 (s.setVm T'.vm).vm → (s.setVm T'.vm).vm.findClass own = some m.cls → Q v T'.heap L → Go p e below G (T'.setTop (mkF m (pc + 3) Ls (v.toList ++ rest)))) : Go p e below G (T.setTop (mkF m pc Ls st)) := by
  obtain ⟨v, _, ⟨T', L', k', n'⟩, -, X', hs', hg', ⟨L, hq, l1, l2, l3⟩, q⟩ := callSS X hx (y := y) hown (mvT hZ wl) (mvT hZ ws) (mvT hZ wz) (mvT hZ wc) hy (backW (W := (rest.map fun v => v.category).sum) hM hZ hPV wc wz hf hl) (g := mkF m pc Ls st) rfl hsize (argsL := argsL) (rest := rest) hlen hst (by show 2 * 0 + _ ≤ _; omega) (hb hby hd) (fun _ _ => ⟨has, eT, hc, hs⟩)
  dsimp only [Pt.U, Pt.locs, Pt.cells, Pt.slots] at X' hs' hg' l1 l2 l3 q hq
  subst l1 l2 l3
  obtain ⟨X2, hS2, hZ2, ho2⟩ := rebS hS (Nat.le_trans hkk (by rw [← eT]; exact Nat.le_refl _)) X' hs' hg' hZ hown
  exact Go.step (fun t r => q.trans r) (K v T' L X2 hS2 hZ2 ho2 hq)
theorem g_specialW (X : Stand p l e R (s.setVm vm0) m args below meth c T locs k n) (hx : p.tables.exec = Jvm.exec) (hby : c.code = code) (hZ : Z.Warmed39 (s.setVm vm0).vm) {own : String} (hown : (s.setVm vm0).vm.findClass own = some m.cls) {index : Nat} {y : MethodName} {bytes : ByteArray} {maxL : Nat} {ret : Option FieldType} {rm : Room} {as' : Array Value} {Q : Option Value → Heap → List Loc → Prop} {PV : Vm → Prop} (hM : MetFree l y (head1 [Cond.code y bytes maxL ret] rm) (fun a U => a = as' ∧ PV U.vm ∧ U.heap = h) (fun _ _ _ _ _ => True) (fun _ U o U' => RetW U Q rm.cells rm.slots U' o)) (hPV : ∀ vm, (s.setVm vm0).WarmedH vm → PV vm) (hS : s.Since vm0 k0) (hkk : k0 ≤ h.size) (hy1 : y.name = "<init>") (hret : ret = none) (wl : (Cond.methodLink own index y).before a0 Z = true) (ws : (Cond.instanceMethod y).before a0 Z = true) (wz : (Cond.initialized y.cls).before a0 Z = true) (wc : (Cond.code y bytes maxL ret).before a0 Z = true) (hy : y.cls ≠ "java/lang/invoke/MethodHandle" ∧ y.cls ≠ "java/lang/invoke/VarHandle") (eT : T.heap = h) (hsize : Ls.size = c.maxLocals) {a : Addr} (argsL : List Value) {rest : List Value} (hlen : ∀ sig, parseMethodDescriptor y.desc = some sig → argsL.length = sig.parameters.length) (has : (.ref a :: argsL).toArray = as') (hst : st = argsL.reverse ++ .ref a :: rest) (hf : rm.frames + 1 ≤ R.frames) (hl : (rest.map fun v => v.category).sum + (maxL + 11) + rm.locals ≤ R.locals) (hc : k + rm.cells ≤ R.cells) (hs : n + rm.slots ≤ R.slots) (hd : decode code pc = .ok (.invokespecial index, 3)) (K : ∀ v T' L, Stand p l e R (s.setVm T'.vm) m args below meth c T' (locs ++ L) (k + rm.cells) (n + rm.slots) → s.Since T'.vm T'.heap.size → Z.Warmed39 (s.setVm T'.vm).vm → (s.setVm T'.vm).vm.findClass own = some m.cls → Q v T'.heap L → Go p e below G (T'.setTop (mkF m (pc + 3) Ls (v.toList ++ rest)))) : Go p e below G (T.setTop (mkF m pc Ls st)) := by
  subst hret
  obtain ⟨v, _, ⟨T', L', k', n'⟩, -, X', hs', hg', ⟨L, hq, l1, l2, l3⟩, q⟩ := X.specialBackS hx (y := y) hy1 hown (mvT hZ wl) (mvT hZ ws) (mvT hZ wc) hy (backW (W := (rest.map fun v => v.category).sum) hM hZ hPV wc wz hf hl) (g := mkF m pc Ls st) rfl hsize (Steps.refl _) (a := a) (argsL := argsL) (rest := rest) hlen hst (by show 2 * 0 + _ ≤ _; omega) (hb hby hd) (fun _ _ => ⟨has, eT, hc, hs⟩)
  dsimp only [Pt.U, Pt.locs, Pt.cells, Pt.slots] at X' hs' hg' l1 l2 l3 q hq
  subst l1 l2 l3
  obtain ⟨X2, hS2, hZ2, ho2⟩ := rebS hS (Nat.le_trans hkk (by rw [← eT]; exact Nat.le_refl _)) X' hs' hg' hZ hown
  exact Go.step (fun t r => q.trans r) (K v T' L X2 hS2 hZ2 ho2 hq)
theorem g_virtualW (X : Stand p l e R (s.setVm vm0) m args below meth c T locs k n) (hx : p.tables.exec = Jvm.exec) (hby : c.code = code) (hZ : Z.Warmed39 (s.setVm vm0).vm) {own : String} (hown : (s.setVm vm0).vm.findClass own = some m.cls) {C : String} {index : Nat} {z : MethodName} {y : MethodName} {bytes : ByteArray} {maxL : Nat} {ret : Option FieldType} {rm : Room} {as' : Array Value} {Q : Option Value → Heap → List Loc → Prop} {PV : Vm → Prop} (hM : MetFree l y (head1 [Cond.code y bytes maxL ret] rm) (fun a U => a = as' ∧ PV U.vm ∧ U.heap = h) (fun _ _ _ _ _ => True) (fun _ U o U' => RetW U Q rm.cells rm.slots U' o)) (hPV : ∀ vm, (s.setVm vm0).WarmedH vm → PV vm) (hS : s.Since vm0 k0) (hkk : k0 ≤ h.size) (wl : (Cond.methodLink own index z).before a0 Z = true) (wd : (Cond.declares z).before a0 Z = true) (hnf : NotFace (s.setVm vm0) z) (wsel : (Cond.selects C z y).before a0 Z = true) (ws : (Cond.instanceMethod y).before a0 Z = true) (wz : (Cond.initialized y.cls).before a0 Z = true) (wc : (Cond.code y bytes maxL ret).before a0 Z = true) (hy : z.cls ≠ "java/lang/invoke/MethodHandle" ∧ z.cls ≠ "java/lang/invoke/VarHandle") (eT : T.heap = h) {a : Addr} (E : Exa Z h a C) (hsize : Ls.size = c.maxLocals) (argsL : List Value) {rest : List Value} (hlen : ∀ sig, parseMethodDescriptor z.desc = some sig → argsL.length = sig.parameters.length) (has : (.ref a :: argsL).toArray = as') (hst : st = argsL.reverse ++ .ref a :: rest) (hf : rm.frames + 1 ≤ R.frames) (hl : (rest.map fun v => v.category).sum + (maxL + 11) + rm.locals ≤ R.locals) (hc : k + rm.cells ≤ R.cells) (hs : n + rm.slots ≤ R.slots) (hd : decode code pc = .ok (.invokevirtual index, 3)) (K : ∀ v T' L, Stand p l e R (s.setVm T'.vm) m args below meth c T' (locs ++ L) (k + rm.cells) (n + rm.slots) → s.Since T'.vm T'.heap.size → Z.Warmed39 (s.setVm T'.vm).vm → (s.setVm T'.vm).vm.findClass own = some m.cls → Q v T'.heap L → Go p e below G (T'.setTop (mkF m (pc + 3) Ls (v.toList ++ rest)))) : Go p e below G (T.setTop (mkF m pc Ls st)) := by
  obtain ⟨cq, kq, qa, qb, qc⟩ := isOf hZ eT E
  obtain ⟨v, _, ⟨T', L', k', n'⟩, -, X', hs', hg', ⟨L, hq, l1, l2, l3⟩, q⟩ := X.virtualBackS hx (y := z) (z := y) hown (mvT hZ wl) (mvT hZ wd) hnf (mvT hZ wsel) (mvT hZ ws) hy (backW (W := (rest.map fun v => v.category).sum) hM hZ hPV wc wz hf hl) qa qc (g := mkF m pc Ls st) rfl hsize (Steps.refl _) (argsL := argsL) (rest := rest) hlen hst (by show 2 * 0 + _ ≤ _; omega) (hb hby hd) (fun _ _ => ⟨has, eT, hc, hs⟩)
  dsimp only [Pt.U, Pt.locs, Pt.cells, Pt.slots] at X' hs' hg' l1 l2 l3 q hq
  subst l1 l2 l3
  obtain ⟨X2, hS2, hZ2, ho2⟩ := rebS hS (Nat.le_trans hkk (by rw [← eT]; exact Nat.le_refl _)) X' hs' hg' hZ hown
  exact Go.step (fun t r => q.trans r) (K v T' L X2 hS2 hZ2 ho2 hq)
end
end Jvm.Own

namespace Jvm.Pilot.@@N@@
open Jvm Jvm.ClassFile Sem Op Lib Jvm.Free Jvm.Stand Jvm.LawKit Jvm.RoadKit Bundle Jvm.Own Jvm.Pilot.@@N@@.Jvm.D


theorem own_up (j : Nat) : Int32.ofNat j + (1 : Int32) = Int32.ofNat (j + 1) := by rw [Int32.ofNat_add]; rfl
theorem own_up2 (q : Int32) (j : Nat) : q + Int32.ofNat j + (1 : Int32) = q + Int32.ofNat (j + 1) := by rw [Int32.add_assoc, own_up]
theorem own_small {j : Nat} (h : j ≤ 8) : (Int32.ofNat j).toInt = j := Int32.toInt_ofNat_of_lt (by omega)
theorem own_ofNat {k : Int32} (h : 0 ≤ k.toInt) : k = Int32.ofNat k.toInt.toNat := by
  have r := rng32 k
  refine Int32.toInt_inj.mp ?_
  rw [Int32.toInt_ofNat_of_lt (by omega)]; omega
theorem own_getD (bs : List Int32) (i : Nat) : (bs.map Value.int).getD i (.int (0 : Int32)) = .int (bs.getD i 0) := by
  simp only [List.getD_eq_getElem?_getD, List.getElem?_map]
  cases bs[i]? <;> rfl
theorem own_lt {j N : Nat} (h : j < N) (hN : N ≤ 8) : Int32.ofNat j < Int32.ofNat N := by
  rw [Int32.lt_iff_toInt_lt, own_small (by omega), own_small (by omega)]; omega
theorem own_nlt {N : Nat} : ¬ Int32.ofNat N < Int32.ofNat N := by rw [Int32.lt_iff_toInt_lt]; omega
theorem own_pos {q : Int32} {j : Nat} (h0 : 0 ≤ q.toInt) (h : q.toInt + j ≤ 8) : (q + Int32.ofNat j).toInt = q.toInt + j := by
  have h1 := c_iadd q (Int32.ofNat j)
  have h2 := rng32 (q + Int32.ofNat j)
  rw [own_small (by omega)] at h1
  omega
theorem own_in {q : Int32} {j : Nat} (h0 : 0 ≤ q.toInt) (h : q.toInt + j < 8) : ¬ (q + Int32.ofNat j) < 0 ∧ (q + Int32.ofNat j) < (8 : Int32) := by
  have e := own_pos (q := q) (j := j) h0 (by omega)
  have e8 : (8 : Int32).toInt = 8 := rfl
  have e0 : (0 : Int32).toInt = 0 := rfl
  rw [Int32.lt_iff_toInt_lt, Int32.lt_iff_toInt_lt]; omega
theorem own_in0 {q : Int32} (h0 : 0 ≤ q.toInt) (h : q.toInt < 8) : ¬ q < 0 ∧ q < (8 : Int32) := by
  have e8 : (8 : Int32).toInt = 8 := rfl
  have e0 : (0 : Int32).toInt = 0 := rfl
  rw [Int32.lt_iff_toInt_lt, Int32.lt_iff_toInt_lt]; omega
theorem own_rest {q : Int32} (h0 : 0 ≤ q.toInt) (h : q.toInt ≤ 8) : ((8 : Int32) - q).toInt = 8 - q.toInt := by
  have h1 := c_isub 8 q
  have h2 := rng32 (8 - q)
  have e8 : (8 : Int32).toInt = 8 := rfl
  omega
theorem own_room {q : Int32} {N : Nat} (h0 : 0 ≤ q.toInt) (h : q.toInt + N ≤ 8) : ¬ ((8 : Int32) - q) < Int32.ofNat N := by
  rw [Int32.lt_iff_toInt_lt, own_rest h0 (by omega), own_small (by omega)]; omega
theorem own_off {q : Int32} (h0 : 0 ≤ q.toInt) (h : q.toInt ≤ 8) : (8 : Int64) - ((8 : Int32) - q).toInt64 = q.toInt64 := by
  have h1 := c_lsub 8 ((8 : Int32) - q).toInt64
  have h2 := rng64 ((8 : Int64) - ((8 : Int32) - q).toInt64)
  have e8 : (8 : Int64).toInt = 8 := rfl
  rw [c_i2l, own_rest h0 h, e8] at h1
  refine Int64.toInt_inj.mp ?_
  rw [c_i2l]; omega
theorem own_k (a : Int32) : 0 ≤ ((a &&& (2147483647 : Int32)) % (9 : Int32)).toInt ∧ ((a &&& (2147483647 : Int32)) % (9 : Int32)).toInt ≤ 8 := by
  have h1 := c_mask a 2147483647 31 (by decide) (by decide)
  have h2 := (c_irem (a &&& 2147483647) 9 9 rfl).1 (by omega)
  omega
theorem own_9 {k : Int32} (h : 0 ≤ k.toInt ∧ k.toInt ≤ 8) : ((9 : Int32) - k).toInt = 9 - k.toInt := by
  have h1 := c_isub 9 k
  have h2 := rng32 (9 - k)
  have e9 : (9 : Int32).toInt = 9 := rfl
  omega
theorem own_9n {k : Int32} (h : 0 ≤ k.toInt ∧ k.toInt ≤ 8) : (9 : Int32) - k ≠ 0 := fun q => by
  have h1 := own_9 h
  rw [q] at h1
  have e0 : (0 : Int32).toInt = 0 := rfl
  omega
theorem own_k2 (b : Int32) {k : Int32} (h : 0 ≤ k.toInt ∧ k.toInt ≤ 8) : 0 ≤ ((b &&& (2147483647 : Int32)) % ((9 : Int32) - k)).toInt ∧ k.toInt + ((b &&& (2147483647 : Int32)) % ((9 : Int32) - k)).toInt ≤ 8 := by
  have h1 := c_mask b 2147483647 31 (by decide) (by decide)
  have h3 := own_9 h
  have h2 := (c_iremV (b &&& 2147483647) ((9 : Int32) - k)).1 (by omega) (by omega)
  omega
theorem own_sum {k1 k2 : Int32} (h1 : 0 ≤ k1.toInt) (h2 : 0 ≤ k2.toInt) (h : k1.toInt + k2.toInt ≤ 8) : (k1 + k2).toInt = k1.toInt + k2.toInt := by
  have h3 := c_iadd k1 k2
  have h4 := rng32 (k1 + k2)
  omega
theorem own_next {q : Int32} (h0 : 0 ≤ q.toInt) (h : q.toInt < 8) : (q + (1 : Int32)).toInt = q.toInt + 1 := by
  have h3 := c_iadd q 1
  have h4 := rng32 (q + 1)
  have e1 : (1 : Int32).toInt = 1 := rfl
  omega
theorem own_rem {q : Int32} (h0 : 0 ≤ q.toInt) (h : q.toInt < 8) : (8 : Int64) - (q + (1 : Int32)).toInt64 = (((8 : Int32) - q) - (1 : Int32)).toInt64 := by
  have h1 := c_lsub 8 (q + (1 : Int32)).toInt64
  have h2 := rng64 ((8 : Int64) - (q + (1 : Int32)).toInt64)
  have e8 : (8 : Int64).toInt = 8 := rfl
  rw [c_i2l, own_next h0 h, e8] at h1
  have h3 := c_isub ((8 : Int32) - q) 1
  have h4 := rng32 (((8 : Int32) - q) - 1)
  have e1 : (1 : Int32).toInt = 1 := rfl
  rw [own_rest h0 (by omega), e1] at h3
  refine Int64.toInt_inj.mp ?_
  rw [c_i2l]; omega
theorem own_full {q : Int32} (h0 : 0 ≤ q.toInt) (h : q.toInt ≤ 8) (h8 : ¬ q < (8 : Int32)) : (8 : Int64) - q.toInt64 = (0 : Int64) := by
  have e8' : (8 : Int32).toInt = 8 := rfl
  rw [Int32.lt_iff_toInt_lt] at h8
  have : q = 8 := Int32.toInt_inj.mp (by omega)
  subst this; decide
theorem own_ne8 {q : Int32} (h : q < (8 : Int32)) : ¬ q = (8 : Int32) := fun e => by subst e; exact absurd h (by decide)
theorem own_lt8 {q : Int32} (h : q < (8 : Int32)) : q.toInt < 8 := by rw [Int32.lt_iff_toInt_lt] at h; exact h
def own_BR (Z : State) (h : Heap) (a buf : Addr) (q : Int32) : Prop := Exa Z h a "com/example/invix/invix/index/ByteReader" ∧ Fld Z h a "com/example/invix/invix/index/ByteReader" "buffer" "[B" (.ref buf) ∧ Fld Z h a "com/example/invix/invix/index/ByteReader" "end" "J" (.long (8 : Int64)) ∧ Fld Z h a "com/example/invix/invix/index/ByteReader" "next" "J" (.long (8 : Int64)) ∧ Fld Z h a "com/example/invix/invix/index/ByteReader" "limit" "I" (.int (8 : Int32)) ∧ Fld Z h a "com/example/invix/invix/index/ByteReader" "position" "I" (.int q)

theorem d2_0 : decode prog_38_method_2_code 0 = .ok (.aload_n 0, 1) := by decide +kernel
theorem d2_1 : decode prog_38_method_2_code 1 = .ok (.invokespecial 7, 3) := by decide +kernel
theorem d2_4 : decode prog_38_method_2_code 4 = .ok (.aload_n 0, 1) := by decide +kernel
theorem d2_5 : decode prog_38_method_2_code 5 = .ok (.aconst_null, 1) := by decide +kernel
theorem d2_6 : decode prog_38_method_2_code 6 = .ok (.putfield 12, 3) := by decide +kernel
theorem d2_9 : decode prog_38_method_2_code 9 = .ok (.aload_n 0, 1) := by decide +kernel
theorem d2_10 : decode prog_38_method_2_code 10 = .ok (.aload_n 1, 1) := by decide +kernel
theorem d2_11 : decode prog_38_method_2_code 11 = .ok (.putfield 16, 3) := by decide +kernel
theorem d2_14 : decode prog_38_method_2_code 14 = .ok (.aload_n 0, 1) := by decide +kernel
theorem d2_15 : decode prog_38_method_2_code 15 = .ok (.aload_n 3, 1) := by decide +kernel
theorem d2_16 : decode prog_38_method_2_code 16 = .ok (.putfield 20, 3) := by decide +kernel
theorem d2_19 : decode prog_38_method_2_code 19 = .ok (.aload_n 0, 1) := by decide +kernel
theorem d2_20 : decode prog_38_method_2_code 20 = .ok (.iload_n 2, 1) := by decide +kernel
theorem d2_21 : decode prog_38_method_2_code 21 = .ok (.i2l, 1) := by decide +kernel
theorem d2_22 : decode prog_38_method_2_code 22 = .ok (.putfield 24, 3) := by decide +kernel
theorem d2_25 : decode prog_38_method_2_code 25 = .ok (.aload_n 0, 1) := by decide +kernel
theorem d2_26 : decode prog_38_method_2_code 26 = .ok (.iload_n 2, 1) := by decide +kernel
theorem d2_27 : decode prog_38_method_2_code 27 = .ok (.i2l, 1) := by decide +kernel
theorem d2_28 : decode prog_38_method_2_code 28 = .ok (.putfield 28, 3) := by decide +kernel
theorem d2_31 : decode prog_38_method_2_code 31 = .ok (.aload_n 0, 1) := by decide +kernel
theorem d2_32 : decode prog_38_method_2_code 32 = .ok (.iload_n 2, 1) := by decide +kernel
theorem d2_33 : decode prog_38_method_2_code 33 = .ok (.putfield 31, 3) := by decide +kernel
theorem d2_36 : decode prog_38_method_2_code 36 = .ok (.return_, 1) := by decide +kernel
theorem own_pn0 : plainName "com/example/invix/invix/index/ByteReader" = true := by first | (simp [plainName, overriddenIn]; done) | decide +kernel
def Q_ini3 (Z : State) (a : Addr) (buf : Addr) (src : Addr) (h0 : Heap) (n0 : Nat) (v : Option Value) (h : Heap) (L : List Loc) : Prop := v = none ∧ Fr n0 L ∧ Keep h0 h [a] ∧ own_BR Z h a buf 0
set_option maxRecDepth 65536 in
set_option maxHeartbeats 40000000 in
theorem rm_ini3 (l : Launch) (Z : State) (a0 : Array Value) (hw : ∀ d ∈ tables_1, d.before a0 Z = true) (ws : List Jvm.Cond) (a : Addr) (buf : Addr) (src : Addr) (h0 : Heap) (n0 : Nat) (Z0 : n0 ≤ h0.size) (E : Exa Z h0 a "com/example/invix/invix/index/ByteReader") (Fchannel : Fld Z h0 a "com/example/invix/invix/index/ByteReader" "channel" "Ljava/nio/channels/FileChannel;" .null) (Fbuffer : Fld Z h0 a "com/example/invix/invix/index/ByteReader" "buffer" "[B" .null) (Fsource : Fld Z h0 a "com/example/invix/invix/index/ByteReader" "source" "Ljava/lang/String;" .null) (Fend : Fld Z h0 a "com/example/invix/invix/index/ByteReader" "end" "J" (.long (0 : Int64))) (Fnext : Fld Z h0 a "com/example/invix/invix/index/ByteReader" "next" "J" (.long (0 : Int64))) (Flimit : Fld Z h0 a "com/example/invix/invix/index/ByteReader" "limit" "I" (.int (0 : Int32))) (Fposition : Fld Z h0 a "com/example/invix/invix/index/ByteReader" "position" "I" (.int (0 : Int32))) (ga : n0 ≤ a) :
    MetFree l (⟨"com/example/invix/invix/index/ByteReader", "<init>", "([BILjava/lang/String;)V"⟩ : MethodName) (head1 (Jvm.Cond.code (⟨"com/example/invix/invix/index/ByteReader", "<init>", "([BILjava/lang/String;)V"⟩ : MethodName) prog_38_method_2_code 4 none :: ws) ({ frames := 1, cells := 0, slots := 0, locals := 12 } : Room)) (fun aa_ U => aa_ = #[(.ref a), (.ref buf), (.int (8 : Int32)), (.ref src)] ∧ Z.Warmed39 U.vm ∧ U.heap = h0) (fun _ _ _ _ _ => True) (fun _ U o_ U' => RetG U (Q_ini3 Z a buf src h0 n0) 0 0 U' o_) := by
  refine MetFree.of_bodySF (plainFor_of_name own_pn0) hisR ?_
  intro p e s m args below meth c_ s₁ Bd hml0 hP hK
  obtain ⟨rfl, hZ, hh⟩ := hP
  have hx := Bd.exec
  have hby := Bd.bytes
  have hml : c_.maxLocals = 4 := hml0
  have hown : s.vm.findClass "com/example/invix/invix/index/ByteReader" = some m.cls := findClass_of_methodNamed Bd.named
  have hnm := (name_of_methodNamed Bd.named Bd.method).1
  have X0 : Stand p l e ({ frames := 1, cells := 0, slots := 0, locals := 12 } : Room) s m #[(.ref a), (.ref buf), (.int (8 : Int32)), (.ref src)] below meth c_ s₁ [] 0 0 := Stand.of_body Bd
  have e0 : s₁.heap = h0 := by rw [← hh, Bd.state]; rfl
  have N0 := Fr.nil n0
  have w3_ := hw _ (List.mem_of_getElem? (i := 3) rfl)
  have w18_ := hw _ (List.mem_of_getElem? (i := 18) rfl)
  have w19_ := hw _ (List.mem_of_getElem? (i := 19) rfl)
  have w20_ := hw _ (List.mem_of_getElem? (i := 20) rfl)
  have w21_ := hw _ (List.mem_of_getElem? (i := 21) rfl)
  have w22_ := hw _ (List.mem_of_getElem? (i := 22) rfl)
  have w23_ := hw _ (List.mem_of_getElem? (i := 23) rfl)
  have w24_ := hw _ (List.mem_of_getElem? (i := 24) rfl)
  have w25_ := hw _ (List.mem_of_getElem? (i := 25) rfl)
  have w26_ := hw _ (List.mem_of_getElem? (i := 26) rfl)
  have w27_ := hw _ (List.mem_of_getElem? (i := 27) rfl)
  have w28_ := hw _ (List.mem_of_getElem? (i := 28) rfl)
  have w29_ := hw _ (List.mem_of_getElem? (i := 29) rfl)
  have w30_ := hw _ (List.mem_of_getElem? (i := 30) rfl)
  have w31_ := hw _ (List.mem_of_getElem? (i := 31) rfl)
  have w32_ := hw _ (List.mem_of_getElem? (i := 32) rfl)
  have w39_ := hw _ (List.mem_of_getElem? (i := 39) rfl)
  show Go p e below (RetG s (Q_ini3 Z a buf src h0 n0) 0 0) (s₁.setTop (entryFrame m #[(.ref a), (.ref buf), (.int (8 : Int32)), (.ref src)] 4))
  rw [show entryFrame m #[(.ref a), (.ref buf), (.int (8 : Int32)), (.ref src)] 4 = mkF m 0 #[.val (.ref a), .val (.ref buf), .val (.int (8 : Int32)), .val (.ref src)] [] from by first | (simp [entryFrame, mkF, argsToLocals, Value.category]; done) | rfl]
  refine g_aloadN X0 hx hby d2_0 rfl rfl ?_
  refine g_initO X0 hx hby hZ hown w18_ w19_ w20_ e0 (by rw [hml]; rfl) (Nat.le_of_ble_eq_true rfl) (Nat.le_of_ble_eq_true rfl) d2_1 (fun T1 X1 e1 => ?_)
  refine g_aloadN X1 hx hby d2_4 rfl rfl ?_
  refine g_aconst_null X1 hx hby d2_5 ?_
  refine g_putF X1 hx hby hZ hown (host := "") (Or.inl w21_) Via.refl e1 Fchannel E (Or.inr ⟨w22_, rfl, hnm⟩) w3_ (.object "java/nio/channels/FileChannel") (by decide) rfl rfl N0 ga d2_6 (fun T2 h2 X2 e2 W2 F2 N2 => ?_)
  refine g_aloadN X2 hx hby d2_9 rfl rfl ?_
  refine g_aloadN X2 hx hby d2_10 rfl rfl ?_
  have f3 := (E.wr W2)
  have f4 := (Fbuffer.other W2 (Or.inr (slot_ne (Or.inr w24_) (Or.inr w22_) (by decide) (t := (.array .byte)) (t' := (.object "java/nio/channels/FileChannel")) (by decide) (by decide))))
  refine g_putF X2 hx hby hZ hown (host := "") (Or.inl w23_) Via.refl e2 f4 f3 (Or.inr ⟨w24_, rfl, hnm⟩) w3_ (.array .byte) (by decide) rfl rfl N2 ga d2_11 (fun T5 h5 X5 e5 W5 F5 N5 => ?_)
  refine g_aloadN X5 hx hby d2_14 rfl rfl ?_
  refine g_aloadN X5 hx hby d2_15 rfl rfl ?_
  have f6 := (f3.wr W5)
  have f7 := ((Fsource.other W2 (Or.inr (slot_ne (Or.inr w26_) (Or.inr w22_) (by decide) (t := (.object "java/lang/String")) (t' := (.object "java/nio/channels/FileChannel")) (by decide) (by decide)))).other W5 (Or.inr (slot_ne (Or.inr w26_) (Or.inr w24_) (by decide) (t := (.object "java/lang/String")) (t' := (.array .byte)) (by decide) (by decide))))
  refine g_putF X5 hx hby hZ hown (host := "") (Or.inl w25_) Via.refl e5 f7 f6 (Or.inr ⟨w26_, rfl, hnm⟩) w3_ (.object "java/lang/String") (by decide) rfl rfl N5 ga d2_16 (fun T8 h8 X8 e8 W8 F8 N8 => ?_)
  refine g_aloadN X8 hx hby d2_19 rfl rfl ?_
  refine g_iloadN X8 hx hby d2_20 rfl ?_
  refine g_i2l X8 hx hby d2_21 ?_
  refine g_topJ (8 : Int64) (by decide) ?_
  have f9 := (f6.wr W8)
  have f10 := (((Fend.other W2 (Or.inr (slot_ne (Or.inr w28_) (Or.inr w22_) (by decide) (t := .long) (t' := (.object "java/nio/channels/FileChannel")) (by decide) (by decide)))).other W5 (Or.inr (slot_ne (Or.inr w28_) (Or.inr w24_) (by decide) (t := .long) (t' := (.array .byte)) (by decide) (by decide)))).other W8 (Or.inr (slot_ne (Or.inr w28_) (Or.inr w26_) (by decide) (t := .long) (t' := (.object "java/lang/String")) (by decide) (by decide))))
  refine g_putF X8 hx hby hZ hown (host := "") (Or.inl w27_) Via.refl e8 f10 f9 (Or.inr ⟨w28_, rfl, hnm⟩) w3_ .long (by decide) rfl rfl N8 ga d2_22 (fun T11 h11 X11 e11 W11 F11 N11 => ?_)
  refine g_aloadN X11 hx hby d2_25 rfl rfl ?_
  refine g_iloadN X11 hx hby d2_26 rfl ?_
  refine g_i2l X11 hx hby d2_27 ?_
  refine g_topJ (8 : Int64) (by decide) ?_
  have f12 := (f9.wr W11)
  have f13 := ((((Fnext.other W2 (Or.inr (slot_ne (Or.inl w30_) (Or.inr w22_) (by decide) (t := .long) (t' := (.object "java/nio/channels/FileChannel")) (by decide) (by decide)))).other W5 (Or.inr (slot_ne (Or.inl w30_) (Or.inr w24_) (by decide) (t := .long) (t' := (.array .byte)) (by decide) (by decide)))).other W8 (Or.inr (slot_ne (Or.inl w30_) (Or.inr w26_) (by decide) (t := .long) (t' := (.object "java/lang/String")) (by decide) (by decide)))).other W11 (Or.inr (slot_ne (Or.inl w30_) (Or.inr w28_) (by decide) (t := .long) (t' := .long) (by decide) (by decide))))
  refine g_putF X11 hx hby hZ hown (host := "") (Or.inl w29_) Via.refl e11 f13 f12 (Or.inl w30_) w3_ .long (by decide) rfl rfl N11 ga d2_28 (fun T14 h14 X14 e14 W14 F14 N14 => ?_)
  refine g_aloadN X14 hx hby d2_31 rfl rfl ?_
  refine g_iloadN X14 hx hby d2_32 rfl ?_
  have f15 := (f12.wr W14)
  have f16 := (((((Flimit.other W2 (Or.inr (slot_ne (Or.inl w32_) (Or.inr w22_) (by decide) (t := .int) (t' := (.object "java/nio/channels/FileChannel")) (by decide) (by decide)))).other W5 (Or.inr (slot_ne (Or.inl w32_) (Or.inr w24_) (by decide) (t := .int) (t' := (.array .byte)) (by decide) (by decide)))).other W8 (Or.inr (slot_ne (Or.inl w32_) (Or.inr w26_) (by decide) (t := .int) (t' := (.object "java/lang/String")) (by decide) (by decide)))).other W11 (Or.inr (slot_ne (Or.inl w32_) (Or.inr w28_) (by decide) (t := .int) (t' := .long) (by decide) (by decide)))).other W14 (Or.inr (slot_ne (Or.inl w32_) (Or.inl w30_) (by decide) (t := .int) (t' := .long) (by decide) (by decide))))
  refine g_putF X14 hx hby hZ hown (host := "") (Or.inl w31_) Via.refl e14 f16 f15 (Or.inl w32_) w3_ .int (by decide) rfl rfl N14 ga d2_33 (fun T17 h17 X17 e17 W17 F17 N17 => ?_)
  have f18 := (f15.wr W17)
  have f19 := ((((F5.other W8 (Or.inr (slot_ne (Or.inr w24_) (Or.inr w26_) (by decide) (t := (.array .byte)) (t' := (.object "java/lang/String")) (by decide) (by decide)))).other W11 (Or.inr (slot_ne (Or.inr w24_) (Or.inr w28_) (by decide) (t := (.array .byte)) (t' := .long) (by decide) (by decide)))).other W14 (Or.inr (slot_ne (Or.inr w24_) (Or.inl w30_) (by decide) (t := (.array .byte)) (t' := .long) (by decide) (by decide)))).other W17 (Or.inr (slot_ne (Or.inr w24_) (Or.inl w32_) (by decide) (t := (.array .byte)) (t' := .int) (by decide) (by decide))))
  have f20 := ((F11.other W14 (Or.inr (slot_ne (Or.inr w28_) (Or.inl w30_) (by decide) (t := .long) (t' := .long) (by decide) (by decide)))).other W17 (Or.inr (slot_ne (Or.inr w28_) (Or.inl w32_) (by decide) (t := .long) (t' := .int) (by decide) (by decide))))
  have f21 := (F14.other W17 (Or.inr (slot_ne (Or.inl w30_) (Or.inl w32_) (by decide) (t := .long) (t' := .int) (by decide) (by decide))))
  have f22 := ((((((Fposition.other W2 (Or.inr (slot_ne (Or.inl w39_) (Or.inr w22_) (by decide) (t := .int) (t' := (.object "java/nio/channels/FileChannel")) (by decide) (by decide)))).other W5 (Or.inr (slot_ne (Or.inl w39_) (Or.inr w24_) (by decide) (t := .int) (t' := (.array .byte)) (by decide) (by decide)))).other W8 (Or.inr (slot_ne (Or.inl w39_) (Or.inr w26_) (by decide) (t := .int) (t' := (.object "java/lang/String")) (by decide) (by decide)))).other W11 (Or.inr (slot_ne (Or.inl w39_) (Or.inr w28_) (by decide) (t := .int) (t' := .long) (by decide) (by decide)))).other W14 (Or.inr (slot_ne (Or.inl w39_) (Or.inl w30_) (by decide) (t := .int) (t' := .long) (by decide) (by decide)))).other W17 (Or.inr (slot_ne (Or.inl w39_) (Or.inl w32_) (by decide) (t := .int) (t' := .int) (by decide) (by decide))))
  refine g_ret X17 hx hby Bd.returns Bd.notSynchronized d2_36 e17 (by decide) (by decide) ?_
  show (Q_ini3 Z a buf src h0 n0) none _ _
  exact ⟨rfl, N17, (((((((Keep.refl h0 [a]).wr W2 (Or.inl (List.mem_of_getElem? (i := 0) rfl))).wr W5 (Or.inl (List.mem_of_getElem? (i := 0) rfl))).wr W8 (Or.inl (List.mem_of_getElem? (i := 0) rfl))).wr W11 (Or.inl (List.mem_of_getElem? (i := 0) rfl))).wr W14 (Or.inl (List.mem_of_getElem? (i := 0) rfl))).wr W17 (Or.inl (List.mem_of_getElem? (i := 0) rfl))), f18, f19, f20, f21, F17, f22⟩

theorem d1_0 : decode prog_38_method_1_code 0 = .ok (.aload_n 0, 1) := by decide +kernel
theorem d1_1 : decode prog_38_method_1_code 1 = .ok (.aload_n 1, 1) := by decide +kernel
theorem d1_2 : decode prog_38_method_1_code 2 = .ok (.aload_n 1, 1) := by decide +kernel
theorem d1_3 : decode prog_38_method_1_code 3 = .ok (.arraylength, 1) := by decide +kernel
theorem d1_4 : decode prog_38_method_1_code 4 = .ok (.aload_n 2, 1) := by decide +kernel
theorem d1_5 : decode prog_38_method_1_code 5 = .ok (.invokespecial 1, 3) := by decide +kernel
theorem own_pd0 : parseMethodDescriptor "([BILjava/lang/String;)V" = some ⟨[(.array .byte), .int, (.object "java/lang/String")], none⟩ := by decide +kernel
theorem d1_8 : decode prog_38_method_1_code 8 = .ok (.return_, 1) := by decide +kernel
def Q_ini2 (Z : State) (a : Addr) (buf : Addr) (src : Addr) (kb : ClassId) (vs : List Value) (h0 : Heap) (n0 : Nat) (v : Option Value) (h : Heap) (L : List Loc) : Prop := v = none ∧ Fr n0 L ∧ Keep h0 h [a] ∧ own_BR Z h a buf 0
set_option maxRecDepth 65536 in
set_option maxHeartbeats 40000000 in
theorem rm_ini2 (l : Launch) (Z : State) (a0 : Array Value) (hw : ∀ d ∈ tables_1, d.before a0 Z = true) (ws : List Jvm.Cond) (a : Addr) (buf : Addr) (src : Addr) (kb : ClassId) (vs : List Value) (h0 : Heap) (n0 : Nat) (Z0 : n0 ≤ h0.size) (E : Exa Z h0 a "com/example/invix/invix/index/ByteReader") (Fchannel : Fld Z h0 a "com/example/invix/invix/index/ByteReader" "channel" "Ljava/nio/channels/FileChannel;" .null) (Fbuffer : Fld Z h0 a "com/example/invix/invix/index/ByteReader" "buffer" "[B" .null) (Fsource : Fld Z h0 a "com/example/invix/invix/index/ByteReader" "source" "Ljava/lang/String;" .null) (Fend : Fld Z h0 a "com/example/invix/invix/index/ByteReader" "end" "J" (.long (0 : Int64))) (Fnext : Fld Z h0 a "com/example/invix/invix/index/ByteReader" "next" "J" (.long (0 : Int64))) (Flimit : Fld Z h0 a "com/example/invix/invix/index/ByteReader" "limit" "I" (.int (0 : Int32))) (Fposition : Fld Z h0 a "com/example/invix/invix/index/ByteReader" "position" "I" (.int (0 : Int32))) (ga : n0 ≤ a) (VB : Arv Z h0 buf kb .byte (8 : Int32) vs (.int (0 : Int32))) :
    MetFree l (⟨"com/example/invix/invix/index/ByteReader", "<init>", "([BLjava/lang/String;)V"⟩ : MethodName) (head1 (Jvm.Cond.code (⟨"com/example/invix/invix/index/ByteReader", "<init>", "([BLjava/lang/String;)V"⟩ : MethodName) prog_38_method_1_code 3 none :: ws) ({ frames := 2, cells := 0, slots := 0, locals := 27 } : Room)) (fun aa_ U => aa_ = #[(.ref a), (.ref buf), (.ref src)] ∧ Z.Warmed39 U.vm ∧ U.heap = h0) (fun _ _ _ _ _ => True) (fun _ U o_ U' => RetG U (Q_ini2 Z a buf src kb vs h0 n0) 0 0 U' o_) := by
  refine MetFree.of_bodySF (plainFor_of_name own_pn0) hisR ?_
  intro p e s m args below meth c_ s₁ Bd hml0 hP hK
  obtain ⟨rfl, hZ, hh⟩ := hP
  have hx := Bd.exec
  have hby := Bd.bytes
  have hml : c_.maxLocals = 3 := hml0
  have hown : s.vm.findClass "com/example/invix/invix/index/ByteReader" = some m.cls := findClass_of_methodNamed Bd.named
  have hnm := (name_of_methodNamed Bd.named Bd.method).1
  have X0 : Stand p l e ({ frames := 2, cells := 0, slots := 0, locals := 27 } : Room) s m #[(.ref a), (.ref buf), (.ref src)] below meth c_ s₁ [] 0 0 := Stand.of_body Bd
  have e0 : s₁.heap = h0 := by rw [← hh, Bd.state]; rfl
  have N0 := Fr.nil n0
  have w4_ := hw _ (List.mem_of_getElem? (i := 4) rfl)
  have w15_ := hw _ (List.mem_of_getElem? (i := 15) rfl)
  have w16_ := hw _ (List.mem_of_getElem? (i := 16) rfl)
  have w17_ := hw _ (List.mem_of_getElem? (i := 17) rfl)
  show Go p e below (RetG s (Q_ini2 Z a buf src kb vs h0 n0) 0 0) (s₁.setTop (entryFrame m #[(.ref a), (.ref buf), (.ref src)] 3))
  rw [show entryFrame m #[(.ref a), (.ref buf), (.ref src)] 3 = mkF m 0 #[.val (.ref a), .val (.ref buf), .val (.ref src)] [] from by first | (simp [entryFrame, mkF, argsToLocals, Value.category]; done) | rfl]
  refine g_aloadN X0 hx hby d1_0 rfl rfl ?_
  refine g_aloadN X0 hx hby d1_1 rfl rfl ?_
  refine g_aloadN X0 hx hby d1_2 rfl rfl ?_
  refine g_arraylength X0 hx hby hZ e0 VB d1_3 ?_
  refine g_aloadN X0 hx hby d1_4 rfl rfl ?_
  refine g_special X0 hx hby hZ hown (rm_ini3 l Z a0 hw [] a buf src h0 n0 Z0 E Fchannel Fbuffer Fsource Fend Fnext Flimit Fposition ga) rfl rfl w15_ w16_ w4_ w17_ (by decide) e0 (by rw [hml]; rfl) [(.ref buf), (.int (8 : Int32)), (.ref src)] (lenOf own_pd0 rfl) rfl rfl (Nat.le_of_ble_eq_true rfl) (Nat.le_of_ble_eq_true rfl) (Nat.le_of_ble_eq_true rfl) (Nat.le_of_ble_eq_true rfl) d1_5 (fun v1 T1 L1 X1 hQ1 => ?_)
  obtain ⟨rfl, N1q, R1⟩ := hQ1
  have N1 := Fr.app N0 N1q
  refine g_ret X1 hx hby Bd.returns Bd.notSynchronized d1_8 rfl (by decide) (by decide) ?_
  show (Q_ini2 Z a buf src kb vs h0 n0) none _ _
  exact ⟨rfl, N1, R1⟩

theorem d4_0 : decode prog_38_method_13_code 0 = .ok (.aload_n 0, 1) := by decide +kernel
theorem d4_1 : decode prog_38_method_13_code 1 = .ok (.getfield 28, 3) := by decide +kernel
theorem d4_4 : decode prog_38_method_13_code 4 = .ok (.aload_n 0, 1) := by decide +kernel
theorem d4_5 : decode prog_38_method_13_code 5 = .ok (.getfield 31, 3) := by decide +kernel
theorem d4_8 : decode prog_38_method_13_code 8 = .ok (.aload_n 0, 1) := by decide +kernel
theorem d4_9 : decode prog_38_method_13_code 9 = .ok (.getfield 77, 3) := by decide +kernel
theorem d4_12 : decode prog_38_method_13_code 12 = .ok (.isub, 1) := by decide +kernel
theorem d4_13 : decode prog_38_method_13_code 13 = .ok (.i2l, 1) := by decide +kernel
theorem d4_14 : decode prog_38_method_13_code 14 = .ok (.lsub, 1) := by decide +kernel
theorem d4_15 : decode prog_38_method_13_code 15 = .ok (.lreturn, 1) := by decide +kernel
def Q_off (Z : State) (a : Addr) (buf : Addr) (q : Int32) (h0 : Heap) (n0 : Nat) (v : Option Value) (h : Heap) (L : List Loc) : Prop := v = some (.long q.toInt64) ∧ Fr n0 L ∧ h = h0
set_option maxRecDepth 65536 in
set_option maxHeartbeats 40000000 in
theorem rm_off (l : Launch) (Z : State) (a0 : Array Value) (hw : ∀ d ∈ tables_1, d.before a0 Z = true) (ws : List Jvm.Cond) (a : Addr) (buf : Addr) (q : Int32) (h0 : Heap) (n0 : Nat) (Z0 : n0 ≤ h0.size) (BRp : own_BR Z h0 a buf q) (q0 : 0 ≤ q.toInt) (q8 : q.toInt ≤ 8) :
    MetFree l (⟨"com/example/invix/invix/index/ByteReader", "offset", "()J"⟩ : MethodName) (head1 (Jvm.Cond.code (⟨"com/example/invix/invix/index/ByteReader", "offset", "()J"⟩ : MethodName) prog_38_method_13_code 1 (some .long) :: ws) ({ frames := 0, cells := 0, slots := 0, locals := 0 } : Room)) (fun aa_ U => aa_ = #[(.ref a)] ∧ Z.Warmed39 U.vm ∧ U.heap = h0) (fun _ _ _ _ _ => True) (fun _ U o_ U' => RetG U (Q_off Z a buf q h0 n0) 0 0 U' o_) := by
  refine MetFree.of_bodySF (plainFor_of_name own_pn0) hisR ?_
  intro p e s m args below meth c_ s₁ Bd hml0 hP hK
  obtain ⟨rfl, hZ, hh⟩ := hP
  have hx := Bd.exec
  have hby := Bd.bytes
  have hml : c_.maxLocals = 1 := hml0
  have hown : s.vm.findClass "com/example/invix/invix/index/ByteReader" = some m.cls := findClass_of_methodNamed Bd.named
  have hnm := (name_of_methodNamed Bd.named Bd.method).1
  have X0 : Stand p l e ({ frames := 0, cells := 0, slots := 0, locals := 0 } : Room) s m #[(.ref a)] below meth c_ s₁ [] 0 0 := Stand.of_body Bd
  have e0 : s₁.heap = h0 := by rw [← hh, Bd.state]; rfl
  have N0 := Fr.nil n0
  have w29_ := hw _ (List.mem_of_getElem? (i := 29) rfl)
  have w31_ := hw _ (List.mem_of_getElem? (i := 31) rfl)
  have w38_ := hw _ (List.mem_of_getElem? (i := 38) rfl)
  obtain ⟨lE, lB, lD, lN, lL, lP⟩ := BRp
  show Go p e below (RetG s (Q_off Z a buf q h0 n0) 0 0) (s₁.setTop (entryFrame m #[(.ref a)] 1))
  rw [show entryFrame m #[(.ref a)] 1 = mkF m 0 #[.val (.ref a)] [] from by first | (simp [entryFrame, mkF, argsToLocals, Value.category]; done) | rfl]
  refine g_aloadN X0 hx hby d4_0 rfl rfl ?_
  refine g_getF X0 hx hby hZ hown (host := "") (Or.inl w29_) Via.refl e0 lN d4_1 (fun T1 X1 e1 => ?_)
  refine g_aloadN X1 hx hby d4_4 rfl rfl ?_
  refine g_getF X1 hx hby hZ hown (host := "") (Or.inl w31_) Via.refl e1 lL d4_5 (fun T2 X2 e2 => ?_)
  refine g_aloadN X2 hx hby d4_8 rfl rfl ?_
  refine g_getF X2 hx hby hZ hown (host := "") (Or.inl w38_) Via.refl e2 lP d4_9 (fun T3 X3 e3 => ?_)
  refine g_isub X3 hx hby d4_12 ?_
  refine g_i2l X3 hx hby d4_13 ?_
  refine g_lsub X3 hx hby d4_14 ?_
  refine g_lret X3 hx hby Bd.returns Bd.notSynchronized d4_15 e3 (by decide) (by decide) ?_
  show (Q_off Z a buf q h0 n0) (some (.long ((8 : Int64) - (((8 : Int32) - q).toInt64)))) _ _
  exact ⟨by rw [own_off q0 q8], N0, rfl⟩

theorem d7_0 : decode prog_38_method_11_code 0 = .ok (.aload_n 0, 1) := by decide +kernel
theorem d7_1 : decode prog_38_method_11_code 1 = .ok (.getfield 24, 3) := by decide +kernel
theorem d7_4 : decode prog_38_method_11_code 4 = .ok (.aload_n 0, 1) := by decide +kernel
theorem d7_5 : decode prog_38_method_11_code 5 = .ok (.invokevirtual 134, 3) := by decide +kernel
theorem own_pd1 : parseMethodDescriptor "()J" = some ⟨[], some .long⟩ := by decide +kernel
theorem d7_8 : decode prog_38_method_11_code 8 = .ok (.lsub, 1) := by decide +kernel
theorem d7_9 : decode prog_38_method_11_code 9 = .ok (.lreturn, 1) := by decide +kernel
def Q_rem (Z : State) (a : Addr) (buf : Addr) (q : Int32) (h0 : Heap) (n0 : Nat) (v : Option Value) (h : Heap) (L : List Loc) : Prop := v = some (.long ((8 : Int64) - q.toInt64)) ∧ Fr n0 L ∧ h = h0
set_option maxRecDepth 65536 in
set_option maxHeartbeats 40000000 in
theorem rm_rem (l : Launch) (Z : State) (a0 : Array Value) (hw : ∀ d ∈ tables_1, d.before a0 Z = true) (ws : List Jvm.Cond) (a : Addr) (buf : Addr) (q : Int32) (h0 : Heap) (n0 : Nat) (Z0 : n0 ≤ h0.size) (BRp : own_BR Z h0 a buf q) (q0 : 0 ≤ q.toInt) (q8 : q.toInt ≤ 8) :
    MetFree l (⟨"com/example/invix/invix/index/ByteReader", "remaining", "()J"⟩ : MethodName) (head1 (Jvm.Cond.code (⟨"com/example/invix/invix/index/ByteReader", "remaining", "()J"⟩ : MethodName) prog_38_method_11_code 1 (some .long) :: ws) ({ frames := 1, cells := 0, slots := 0, locals := 14 } : Room)) (fun aa_ U => aa_ = #[(.ref a)] ∧ Z.Warmed39 U.vm ∧ U.heap = h0) (fun _ _ _ _ _ => True) (fun _ U o_ U' => RetG U (Q_rem Z a buf q h0 n0) 0 0 U' o_) := by
  refine MetFree.of_bodySF (plainFor_of_name own_pn0) hisR ?_
  intro p e s m args below meth c_ s₁ Bd hml0 hP hK
  obtain ⟨rfl, hZ, hh⟩ := hP
  have hx := Bd.exec
  have hby := Bd.bytes
  have hml : c_.maxLocals = 1 := hml0
  have hown : s.vm.findClass "com/example/invix/invix/index/ByteReader" = some m.cls := findClass_of_methodNamed Bd.named
  have hnm := (name_of_methodNamed Bd.named Bd.method).1
  have X0 : Stand p l e ({ frames := 1, cells := 0, slots := 0, locals := 14 } : Room) s m #[(.ref a)] below meth c_ s₁ [] 0 0 := Stand.of_body Bd
  have e0 : s₁.heap = h0 := by rw [← hh, Bd.state]; rfl
  have N0 := Fr.nil n0
  have w4_ := hw _ (List.mem_of_getElem? (i := 4) rfl)
  have w27_ := hw _ (List.mem_of_getElem? (i := 27) rfl)
  have w34_ := hw _ (List.mem_of_getElem? (i := 34) rfl)
  have w35_ := hw _ (List.mem_of_getElem? (i := 35) rfl)
  have w36_ := hw _ (List.mem_of_getElem? (i := 36) rfl)
  have w37_ := hw _ (List.mem_of_getElem? (i := 37) rfl)
  have w55_ := hw _ (List.mem_of_getElem? (i := 55) rfl)
  obtain ⟨lE, lB, lD, lN, lL, lP⟩ := BRp
  show Go p e below (RetG s (Q_rem Z a buf q h0 n0) 0 0) (s₁.setTop (entryFrame m #[(.ref a)] 1))
  rw [show entryFrame m #[(.ref a)] 1 = mkF m 0 #[.val (.ref a)] [] from by first | (simp [entryFrame, mkF, argsToLocals, Value.category]; done) | rfl]
  refine g_aloadN X0 hx hby d7_0 rfl rfl ?_
  refine g_getF X0 hx hby hZ hown (host := "") (Or.inl w27_) Via.refl e0 lD d7_1 (fun T1 X1 e1 => ?_)
  refine g_aloadN X1 hx hby d7_4 rfl rfl ?_
  refine g_virtual X1 hx hby hZ hown (rm_off l Z a0 hw [] a buf q h0 n0 Z0 ⟨lE, lB, lD, lN, lL, lP⟩ q0 q8) w55_ w34_ (notFace_of_selects (args := #[]) (mvT hZ w36_)) w36_ w35_ w4_ w37_ (by decide) e1 lE (by rw [hml]; rfl) [] (lenOf own_pd1 rfl) rfl rfl (Nat.le_of_ble_eq_true rfl) (Nat.le_of_ble_eq_true rfl) (Nat.le_of_ble_eq_true rfl) (Nat.le_of_ble_eq_true rfl) d7_5 (fun v2 T2 L2 X2 hQ2 => ?_)
  obtain ⟨rfl, N2q, eh2⟩ := hQ2
  have N2 := Fr.app N0 N2q
  refine g_lsub X2 hx hby d7_8 ?_
  refine g_lret X2 hx hby Bd.returns Bd.notSynchronized d7_9 eh2 (by decide) (by decide) ?_
  show (Q_rem Z a buf q h0 n0) (some (.long ((8 : Int64) - q.toInt64))) _ _
  exact ⟨rfl, N2, rfl⟩

theorem d6_0 : decode prog_38_method_5_code 0 = .ok (.aload_n 0, 1) := by decide +kernel
theorem d6_1 : decode prog_38_method_5_code 1 = .ok (.getfield 77, 3) := by decide +kernel
theorem d6_4 : decode prog_38_method_5_code 4 = .ok (.aload_n 0, 1) := by decide +kernel
theorem d6_5 : decode prog_38_method_5_code 5 = .ok (.getfield 31, 3) := by decide +kernel
theorem d6_8 : decode prog_38_method_5_code 8 = .ok (.if_icmp .ne 17, 3) := by decide +kernel
theorem d6_25 : decode prog_38_method_5_code 25 = .ok (.aload_n 0, 1) := by decide +kernel
theorem d6_26 : decode prog_38_method_5_code 26 = .ok (.getfield 16, 3) := by decide +kernel
theorem d6_29 : decode prog_38_method_5_code 29 = .ok (.aload_n 0, 1) := by decide +kernel
theorem d6_30 : decode prog_38_method_5_code 30 = .ok (.dup, 1) := by decide +kernel
theorem d6_31 : decode prog_38_method_5_code 31 = .ok (.getfield 77, 3) := by decide +kernel
theorem d6_34 : decode prog_38_method_5_code 34 = .ok (.dup_x1, 1) := by decide +kernel
theorem d6_35 : decode prog_38_method_5_code 35 = .ok (.iconst 1, 1) := by decide +kernel
theorem d6_36 : decode prog_38_method_5_code 36 = .ok (.iadd, 1) := by decide +kernel
theorem d6_37 : decode prog_38_method_5_code 37 = .ok (.putfield 77, 3) := by decide +kernel
theorem d6_40 : decode prog_38_method_5_code 40 = .ok (.baload, 1) := by decide +kernel
theorem d6_41 : decode prog_38_method_5_code 41 = .ok (.sipush 255, 3) := by decide +kernel
theorem d6_44 : decode prog_38_method_5_code 44 = .ok (.iand, 1) := by decide +kernel
theorem d6_45 : decode prog_38_method_5_code 45 = .ok (.ireturn, 1) := by decide +kernel
def Q_rb (Z : State) (a : Addr) (buf : Addr) (q : Int32) (kb : ClassId) (bs : List Int32) (h0 : Heap) (n0 : Nat) (v : Option Value) (h : Heap) (L : List Loc) : Prop := v = some (.int ((bs.getD q.toNatClampNeg 0) &&& (255 : Int32))) ∧ Fr n0 L ∧ Keep h0 h [a] ∧ own_BR Z h a buf (q + (1 : Int32))
set_option maxRecDepth 65536 in
set_option maxHeartbeats 40000000 in
theorem rm_rb (l : Launch) (Z : State) (a0 : Array Value) (hw : ∀ d ∈ tables_1, d.before a0 Z = true) (ws : List Jvm.Cond) (a : Addr) (buf : Addr) (q : Int32) (kb : ClassId) (bs : List Int32) (h0 : Heap) (n0 : Nat) (Z0 : n0 ≤ h0.size) (BRp : own_BR Z h0 a buf q) (q0 : 0 ≤ q.toInt) (q8 : q < (8 : Int32)) (VB : Arv Z h0 buf kb .byte (8 : Int32) (bs.map Value.int) (.int (0 : Int32))) (ga : n0 ≤ a) (nab : a ≠ buf) :
    MetFree l (⟨"com/example/invix/invix/index/ByteReader", "readByte", "()I"⟩ : MethodName) (head1 (Jvm.Cond.code (⟨"com/example/invix/invix/index/ByteReader", "readByte", "()I"⟩ : MethodName) prog_38_method_5_code 1 (some .int) :: ws) ({ frames := 0, cells := 0, slots := 0, locals := 0 } : Room)) (fun aa_ U => aa_ = #[(.ref a)] ∧ Z.Warmed39 U.vm ∧ U.heap = h0) (fun _ _ _ _ _ => True) (fun _ U o_ U' => RetG U (Q_rb Z a buf q kb bs h0 n0) 0 0 U' o_) := by
  refine MetFree.of_bodySF (plainFor_of_name own_pn0) hisR ?_
  intro p e s m args below meth c_ s₁ Bd hml0 hP hK
  obtain ⟨rfl, hZ, hh⟩ := hP
  have hx := Bd.exec
  have hby := Bd.bytes
  have hml : c_.maxLocals = 1 := hml0
  have hown : s.vm.findClass "com/example/invix/invix/index/ByteReader" = some m.cls := findClass_of_methodNamed Bd.named
  have hnm := (name_of_methodNamed Bd.named Bd.method).1
  have X0 : Stand p l e ({ frames := 0, cells := 0, slots := 0, locals := 0 } : Room) s m #[(.ref a)] below meth c_ s₁ [] 0 0 := Stand.of_body Bd
  have e0 : s₁.heap = h0 := by rw [← hh, Bd.state]; rfl
  have N0 := Fr.nil n0
  have w3_ := hw _ (List.mem_of_getElem? (i := 3) rfl)
  have w23_ := hw _ (List.mem_of_getElem? (i := 23) rfl)
  have w24_ := hw _ (List.mem_of_getElem? (i := 24) rfl)
  have w28_ := hw _ (List.mem_of_getElem? (i := 28) rfl)
  have w30_ := hw _ (List.mem_of_getElem? (i := 30) rfl)
  have w31_ := hw _ (List.mem_of_getElem? (i := 31) rfl)
  have w32_ := hw _ (List.mem_of_getElem? (i := 32) rfl)
  have w38_ := hw _ (List.mem_of_getElem? (i := 38) rfl)
  have w39_ := hw _ (List.mem_of_getElem? (i := 39) rfl)
  obtain ⟨lE, lB, lD, lN, lL, lP⟩ := BRp
  show Go p e below (RetG s (Q_rb Z a buf q kb bs h0 n0) 0 0) (s₁.setTop (entryFrame m #[(.ref a)] 1))
  rw [show entryFrame m #[(.ref a)] 1 = mkF m 0 #[.val (.ref a)] [] from by first | (simp [entryFrame, mkF, argsToLocals, Value.category]; done) | rfl]
  refine g_aloadN X0 hx hby d6_0 rfl rfl ?_
  refine g_getF X0 hx hby hZ hown (host := "") (Or.inl w38_) Via.refl e0 lP d6_1 (fun T1 X1 e1 => ?_)
  refine g_aloadN X1 hx hby d6_4 rfl rfl ?_
  refine g_getF X1 hx hby hZ hown (host := "") (Or.inl w31_) Via.refl e1 lL d6_5 (fun T2 X2 e2 => ?_)
  refine g_icY X2 hx hby 25 d6_8 (feq (own_ne8 q8 : ¬ (q = (8 : Int32)))).2 (by decide) (by decide) ?_
  refine g_aloadN X2 hx hby d6_25 rfl rfl ?_
  refine g_getF X2 hx hby hZ hown (host := "") (Or.inl w23_) Via.refl e2 lB d6_26 (fun T3 X3 e3 => ?_)
  refine g_aloadN X3 hx hby d6_29 rfl rfl ?_
  refine g_dup X3 hx hby d6_30 rfl ?_
  refine g_getF X3 hx hby hZ hown (host := "") (Or.inl w38_) Via.refl e3 lP d6_31 (fun T4 X4 e4 => ?_)
  refine g_dup_x1 X4 hx hby d6_34 rfl rfl ?_
  refine g_iconst X4 hx hby (1 : Int32) d6_35 rfl ?_
  refine g_iadd X4 hx hby d6_36 ?_
  refine g_putF X4 hx hby hZ hown (host := "") (Or.inl w38_) Via.refl e4 lP lE (Or.inl w39_) w3_ .int (by decide) rfl rfl N0 ga d6_37 (fun T5 h5 X5 e5 W5 F5 N5 => ?_)
  have f6 := (VB.other W5 (Ne.symm nab))
  refine g_baload X5 hx hby hZ e5 f6 (.int (bs.getD q.toNatClampNeg 0)) (own_in0 q0 (own_lt8 q8)) (own_getD _ _) d6_40 ?_
  refine g_sipush X5 hx hby (255 : Int32) d6_41 rfl ?_
  refine g_iand X5 hx hby d6_44 ?_
  have f7 := (lE.wr W5)
  have f8 := (lB.other W5 (Or.inr (slot_ne (Or.inr w24_) (Or.inl w39_) (by decide) (t := (.array .byte)) (t' := .int) (by decide) (by decide))))
  have f9 := (lD.other W5 (Or.inr (slot_ne (Or.inr w28_) (Or.inl w39_) (by decide) (t := .long) (t' := .int) (by decide) (by decide))))
  have f10 := (lN.other W5 (Or.inr (slot_ne (Or.inl w30_) (Or.inl w39_) (by decide) (t := .long) (t' := .int) (by decide) (by decide))))
  have f11 := (lL.other W5 (Or.inr (slot_ne (Or.inl w32_) (Or.inl w39_) (by decide) (t := .int) (t' := .int) (by decide) (by decide))))
  refine g_iret X5 hx hby Bd.returns Bd.notSynchronized d6_45 e5 (by decide) (by decide) ?_
  show (Q_rb Z a buf q kb bs h0 n0) (some (.int ((bs.getD q.toNatClampNeg 0) &&& (255 : Int32)))) _ _
  exact ⟨rfl, N5, ((Keep.refl h0 [a]).wr W5 (Or.inl (List.mem_of_getElem? (i := 0) rfl))), f7, f8, f9, f10, f11, F5⟩

theorem d5_0 : decode prog_38_method_6_code 0 = .ok (.lconst 0, 1) := by decide +kernel
theorem d5_1 : decode prog_38_method_6_code 1 = .ok (.lstore_n 2, 1) := by decide +kernel
theorem d5_2 : decode prog_38_method_6_code 2 = .ok (.aload_n 0, 1) := by decide +kernel
theorem d5_3 : decode prog_38_method_6_code 3 = .ok (.getfield 31, 3) := by decide +kernel
theorem d5_6 : decode prog_38_method_6_code 6 = .ok (.aload_n 0, 1) := by decide +kernel
theorem d5_7 : decode prog_38_method_6_code 7 = .ok (.getfield 77, 3) := by decide +kernel
theorem d5_10 : decode prog_38_method_6_code 10 = .ok (.isub, 1) := by decide +kernel
theorem d5_11 : decode prog_38_method_6_code 11 = .ok (.iload_n 1, 1) := by decide +kernel
theorem d5_12 : decode prog_38_method_6_code 12 = .ok (.if_icmp .lt 48, 3) := by decide +kernel
theorem d5_15 : decode prog_38_method_6_code 15 = .ok (.iconst 0, 1) := by decide +kernel
theorem d5_16 : decode prog_38_method_6_code 16 = .ok (.istore 4, 2) := by decide +kernel
theorem d5_18 : decode prog_38_method_6_code 18 = .ok (.iload 4, 2) := by decide +kernel
theorem d5_20 : decode prog_38_method_6_code 20 = .ok (.iload_n 1, 1) := by decide +kernel
theorem d5_21 : decode prog_38_method_6_code 21 = .ok (.if_icmp .ge 36, 3) := by decide +kernel
theorem d5_57 : decode prog_38_method_6_code 57 = .ok (.goto 29, 3) := by decide +kernel
theorem d5_86 : decode prog_38_method_6_code 86 = .ok (.lload_n 2, 1) := by decide +kernel
theorem d5_87 : decode prog_38_method_6_code 87 = .ok (.lreturn, 1) := by decide +kernel
theorem d5_24 : decode prog_38_method_6_code 24 = .ok (.lload_n 2, 1) := by decide +kernel
theorem d5_25 : decode prog_38_method_6_code 25 = .ok (.bipush 8, 2) := by decide +kernel
theorem d5_27 : decode prog_38_method_6_code 27 = .ok (.lshl, 1) := by decide +kernel
theorem d5_28 : decode prog_38_method_6_code 28 = .ok (.aload_n 0, 1) := by decide +kernel
theorem d5_29 : decode prog_38_method_6_code 29 = .ok (.getfield 16, 3) := by decide +kernel
theorem d5_32 : decode prog_38_method_6_code 32 = .ok (.aload_n 0, 1) := by decide +kernel
theorem d5_33 : decode prog_38_method_6_code 33 = .ok (.dup, 1) := by decide +kernel
theorem d5_34 : decode prog_38_method_6_code 34 = .ok (.getfield 77, 3) := by decide +kernel
theorem d5_37 : decode prog_38_method_6_code 37 = .ok (.dup_x1, 1) := by decide +kernel
theorem d5_38 : decode prog_38_method_6_code 38 = .ok (.iconst 1, 1) := by decide +kernel
theorem d5_39 : decode prog_38_method_6_code 39 = .ok (.iadd, 1) := by decide +kernel
theorem d5_40 : decode prog_38_method_6_code 40 = .ok (.putfield 77, 3) := by decide +kernel
theorem d5_43 : decode prog_38_method_6_code 43 = .ok (.baload, 1) := by decide +kernel
theorem d5_44 : decode prog_38_method_6_code 44 = .ok (.sipush 255, 3) := by decide +kernel
theorem d5_47 : decode prog_38_method_6_code 47 = .ok (.iand, 1) := by decide +kernel
theorem d5_48 : decode prog_38_method_6_code 48 = .ok (.i2l, 1) := by decide +kernel
theorem d5_49 : decode prog_38_method_6_code 49 = .ok (.lor, 1) := by decide +kernel
theorem d5_50 : decode prog_38_method_6_code 50 = .ok (.lstore_n 2, 1) := by decide +kernel
theorem d5_51 : decode prog_38_method_6_code 51 = .ok (.iinc 4 1, 3) := by decide +kernel
theorem d5_54 : decode prog_38_method_6_code 54 = .ok (.goto (-36), 3) := by decide +kernel
def Q_rw (Z : State) (a : Addr) (buf : Addr) (q : Int32) (kb : ClassId) (bs : List Int32) (N : Nat) (q' : Int32) (h0 : Heap) (n0 : Nat) (v : Option Value) (h : Heap) (L : List Loc) : Prop := (∃ r : Int64, v = some (.long r)) ∧ Fr n0 L ∧ Keep h0 h [a] ∧ own_BR Z h a buf q'
set_option maxRecDepth 65536 in
set_option maxHeartbeats 40000000 in
theorem rm_rw (l : Launch) (Z : State) (a0 : Array Value) (hw : ∀ d ∈ tables_1, d.before a0 Z = true) (ws : List Jvm.Cond) (a : Addr) (buf : Addr) (q : Int32) (kb : ClassId) (bs : List Int32) (N : Nat) (q' : Int32) (h0 : Heap) (n0 : Nat) (Z0 : n0 ≤ h0.size) (BRp : own_BR Z h0 a buf q) (q0 : 0 ≤ q.toInt) (qN : q.toInt + N ≤ 8) (VB : Arv Z h0 buf kb .byte (8 : Int32) (bs.map Value.int) (.int (0 : Int32))) (ga : n0 ≤ a) (nab : a ≠ buf) (hq' : q + Int32.ofNat N = q') :
    MetFree l (⟨"com/example/invix/invix/index/ByteReader", "readWord", "(I)J"⟩ : MethodName) (head1 (Jvm.Cond.code (⟨"com/example/invix/invix/index/ByteReader", "readWord", "(I)J"⟩ : MethodName) prog_38_method_6_code 5 (some .long) :: ws) ({ frames := 0, cells := 0, slots := 0, locals := 0 } : Room)) (fun aa_ U => aa_ = #[(.ref a), (.int (Int32.ofNat N))] ∧ Z.Warmed39 U.vm ∧ U.heap = h0) (fun _ _ _ _ _ => True) (fun _ U o_ U' => RetG U (Q_rw Z a buf q kb bs N q' h0 n0) 0 0 U' o_) := by
  refine MetFree.of_bodySF (plainFor_of_name own_pn0) hisR ?_
  intro p e s m args below meth c_ s₁ Bd hml0 hP hK
  obtain ⟨rfl, hZ, hh⟩ := hP
  have hx := Bd.exec
  have hby := Bd.bytes
  have hml : c_.maxLocals = 5 := hml0
  have hown : s.vm.findClass "com/example/invix/invix/index/ByteReader" = some m.cls := findClass_of_methodNamed Bd.named
  have hnm := (name_of_methodNamed Bd.named Bd.method).1
  have X0 : Stand p l e ({ frames := 0, cells := 0, slots := 0, locals := 0 } : Room) s m #[(.ref a), (.int (Int32.ofNat N))] below meth c_ s₁ [] 0 0 := Stand.of_body Bd
  have e0 : s₁.heap = h0 := by rw [← hh, Bd.state]; rfl
  have N0 := Fr.nil n0
  have w3_ := hw _ (List.mem_of_getElem? (i := 3) rfl)
  have w23_ := hw _ (List.mem_of_getElem? (i := 23) rfl)
  have w24_ := hw _ (List.mem_of_getElem? (i := 24) rfl)
  have w28_ := hw _ (List.mem_of_getElem? (i := 28) rfl)
  have w30_ := hw _ (List.mem_of_getElem? (i := 30) rfl)
  have w31_ := hw _ (List.mem_of_getElem? (i := 31) rfl)
  have w32_ := hw _ (List.mem_of_getElem? (i := 32) rfl)
  have w38_ := hw _ (List.mem_of_getElem? (i := 38) rfl)
  have w39_ := hw _ (List.mem_of_getElem? (i := 39) rfl)
  obtain ⟨lE, lB, lD, lN, lL, lP⟩ := BRp
  show Go p e below (RetG s (Q_rw Z a buf q kb bs N q' h0 n0) 0 0) (s₁.setTop (entryFrame m #[(.ref a), (.int (Int32.ofNat N))] 5))
  rw [show entryFrame m #[(.ref a), (.int (Int32.ofNat N))] 5 = mkF m 0 #[.val (.ref a), .val (.int (Int32.ofNat N)), .unset, .unset, .unset] [] from by first | (simp [entryFrame, mkF, argsToLocals, Value.category]; done) | rfl]
  refine g_lconst X0 hx hby (0 : Int64) d5_0 rfl ?_
  refine g_lstoreN X0 hx hby d5_1 (l' := #[.val (.ref a), .val (.int (Int32.ofNat N)), .val (.long (0 : Int64)), .second, .unset]) rfl ?_
  refine g_aloadN X0 hx hby d5_2 rfl rfl ?_
  refine g_getF X0 hx hby hZ hown (host := "") (Or.inl w31_) Via.refl e0 lL d5_3 (fun T1 X1 e1 => ?_)
  refine g_aloadN X1 hx hby d5_6 rfl rfl ?_
  refine g_getF X1 hx hby hZ hown (host := "") (Or.inl w38_) Via.refl e1 lP d5_7 (fun T2 X2 e2 => ?_)
  refine g_isub X2 hx hby d5_10 ?_
  refine g_iloadN X2 hx hby d5_11 rfl ?_
  refine g_icN X2 hx hby d5_12 (flt (own_room q0 qN : ¬ (((8 : Int32) - q) < (Int32.ofNat N)))).1 ?_
  refine g_iconst X2 hx hby (0 : Int32) d5_15 rfl ?_
  refine g_istore X2 hx hby d5_16 (l' := #[.val (.ref a), .val (.int (Int32.ofNat N)), .val (.long (0 : Int64)), .second, .val (.int (0 : Int32))]) rfl ?_
  have loop : ∀ (kk j : Nat) (acc : Int64) (T9 : State) (locs9 : List Loc) (h9 : Heap), j + kk = N → Stand p l e ({ frames := 0, cells := 0, slots := 0, locals := 0 } : Room) s m #[(.ref a), (.int (Int32.ofNat N))] below meth c_ T9 locs9 0 0 → T9.heap = h9 → Fr n0 locs9 → Keep h0 h9 [a] → own_BR Z h9 a buf (q + Int32.ofNat j) → Arv Z h9 buf kb .byte (8 : Int32) (bs.map Value.int) (.int (0 : Int32)) → Go p e below (RetG s (Q_rw Z a buf q kb bs N q' h0 n0) 0 0) (T9.setTop (mkF m 18 #[.val (.ref a), .val (.int (Int32.ofNat N)), .val (.long acc), .second, .val (.int (Int32.ofNat j))] [])) := by
    intro kk
    induction kk with
    | zero =>
      intro j acc T9 locs9 h9 hj X9 e9 N9 K9 BR9 V9
      have z9 : n0 ≤ h9.size := Nat.le_trans Z0 K9.1
      obtain rfl : N = j := by omega
      obtain ⟨lE9, lB9, lD9, lN9, lL9, lP9⟩ := BR9
      refine g_iload X9 hx hby d5_18 rfl ?_
      refine g_iloadN X9 hx hby d5_20 rfl ?_
      refine g_icY X9 hx hby 57 d5_21 (flt (own_nlt : ¬ ((Int32.ofNat N) < (Int32.ofNat N)))).2.1 (by decide) (by decide) ?_
      refine g_goto X9 hx hby 86 d5_57 (by decide) (by decide) ?_
      refine g_lloadN X9 hx hby d5_86 rfl ?_
      refine g_lret X9 hx hby Bd.returns Bd.notSynchronized d5_87 e9 (by decide) (by decide) ?_
      show (Q_rw Z a buf q kb bs N q' h0 n0) (some (.long acc)) _ _
      exact ⟨⟨_, rfl⟩, N9, K9, by rw [← hq']; exact ⟨lE9, lB9, lD9, lN9, lL9, lP9⟩⟩
    | succ kk ih =>
      intro j acc T9 locs9 h9 hj X9 e9 N9 K9 BR9 V9
      have z9 : n0 ≤ h9.size := Nat.le_trans Z0 K9.1
      obtain ⟨lE9, lB9, lD9, lN9, lL9, lP9⟩ := BR9
      refine g_iload X9 hx hby d5_18 rfl ?_
      refine g_iloadN X9 hx hby d5_20 rfl ?_
      refine g_icN X9 hx hby d5_21 (tlt (own_lt (by omega) (by omega) : (Int32.ofNat j) < (Int32.ofNat N))).2.1 ?_
      refine g_lloadN X9 hx hby d5_24 rfl ?_
      refine g_bipush X9 hx hby (8 : Int32) d5_25 rfl ?_
      refine g_lshl X9 hx hby d5_27 ?_
      refine g_aloadN X9 hx hby d5_28 rfl rfl ?_
      refine g_getF X9 hx hby hZ hown (host := "") (Or.inl w23_) Via.refl e9 lB9 d5_29 (fun T3 X3 e3 => ?_)
      refine g_aloadN X3 hx hby d5_32 rfl rfl ?_
      refine g_dup X3 hx hby d5_33 rfl ?_
      refine g_getF X3 hx hby hZ hown (host := "") (Or.inl w38_) Via.refl e3 lP9 d5_34 (fun T4 X4 e4 => ?_)
      refine g_dup_x1 X4 hx hby d5_37 rfl rfl ?_
      refine g_iconst X4 hx hby (1 : Int32) d5_38 rfl ?_
      refine g_iadd X4 hx hby d5_39 ?_
      refine g_putF X4 hx hby hZ hown (host := "") (Or.inl w38_) Via.refl e4 lP9 lE9 (Or.inl w39_) w3_ .int (by decide) rfl rfl N9 ga d5_40 (fun T5 h5 X5 e5 W5 F5 N5 => ?_)
      have f6 := (V9.other W5 (Ne.symm nab))
      refine g_baload X5 hx hby hZ e5 f6 (.int (bs.getD (q + Int32.ofNat j).toNatClampNeg 0)) (own_in q0 (by omega)) (own_getD _ _) d5_43 ?_
      refine g_sipush X5 hx hby (255 : Int32) d5_44 rfl ?_
      refine g_iand X5 hx hby d5_47 ?_
      refine g_i2l X5 hx hby d5_48 ?_
      refine g_lor X5 hx hby d5_49 ?_
      refine g_lstoreN X5 hx hby d5_50 (l' := #[.val (.ref a), .val (.int (Int32.ofNat N)), .val (.long ((acc <<< ((8 : Int32) &&& 0x3f).toInt64) ||| (((bs.getD (q + Int32.ofNat j).toNatClampNeg 0) &&& (255 : Int32)).toInt64))), .second, .val (.int (Int32.ofNat j))]) rfl ?_
      refine g_iinc X5 hx hby ((Int32.ofNat j) + (1 : Int32)) d5_51 rfl rfl (l' := #[.val (.ref a), .val (.int (Int32.ofNat N)), .val (.long ((acc <<< ((8 : Int32) &&& 0x3f).toInt64) ||| (((bs.getD (q + Int32.ofNat j).toNatClampNeg 0) &&& (255 : Int32)).toInt64))), .second, .val (.int ((Int32.ofNat j) + (1 : Int32)))]) rfl ?_
      refine g_goto X5 hx hby 18 d5_54 (by decide) (by decide) ?_
      rw [own_up]
      have f7 := (lE9.wr W5)
      have f8 := (lB9.other W5 (Or.inr (slot_ne (Or.inr w24_) (Or.inl w39_) (by decide) (t := (.array .byte)) (t' := .int) (by decide) (by decide))))
      have f9 := (lD9.other W5 (Or.inr (slot_ne (Or.inr w28_) (Or.inl w39_) (by decide) (t := .long) (t' := .int) (by decide) (by decide))))
      have f10 := (lN9.other W5 (Or.inr (slot_ne (Or.inl w30_) (Or.inl w39_) (by decide) (t := .long) (t' := .int) (by decide) (by decide))))
      have f11 := (lL9.other W5 (Or.inr (slot_ne (Or.inl w32_) (Or.inl w39_) (by decide) (t := .int) (t' := .int) (by decide) (by decide))))
      exact ih (j + 1) _ _ _ _ (by omega) X5 e5 N5 (K9.wr W5 (Or.inl (List.mem_of_getElem? (i := 0) rfl))) ⟨f7, f8, f9, f10, f11, own_up2 q j ▸ F5⟩ f6
  refine loop N 0 _ _ _ _ (by omega) X2 e2 N0 (Keep.refl h0 [a]) (by rw [show q + Int32.ofNat 0 = q from Int32.add_zero q]; exact ⟨lE, lB, lD, lN, lL, lP⟩) VB

theorem own_pd2 : parseMethodDescriptor "([BLjava/lang/String;)V" = some ⟨[(.array .byte), (.object "java/lang/String")], none⟩ := by decide +kernel
theorem own_pd3 : parseMethodDescriptor "(I)J" = some ⟨[.int], some .long⟩ := by decide +kernel
theorem own_pd4 : parseMethodDescriptor "()I" = some ⟨[], some .int⟩ := by decide +kernel
theorem own_pn1 : plainName "com/example/invix/invix/index/ByteReaderOffsetPinLaw" = true := by first | (simp [plainName, overriddenIn]; done) | decide +kernel
def Q_law (Z : State) (i : Int32) (j : Int32) (c8 : Int64) (h0 : Heap) (n0 : Nat) (v : Option Value) (h : Heap) (L : List Loc) : Prop := v = some (.int 1) ∧ Fr n0 L
set_option maxRecDepth 65536 in
set_option maxHeartbeats 40000000 in
theorem rm_law (l : Launch) (Z : State) (a0 : Array Value) (hw : ∀ d ∈ tables_1, d.before a0 Z = true) (ws : List Jvm.Cond) (i : Int32) (j : Int32) (c8 : Int64) (h0 : Heap) (n0 : Nat) (Z0 : n0 ≤ h0.size) :
    MetFree l Jvm.Pilot.@@N@@.x (head1 (Jvm.Cond.code Jvm.Pilot.@@N@@.x Jvm.Pilot.@@N@@.code Jvm.Pilot.@@N@@.maxLocals Jvm.Pilot.@@N@@.ret :: ws) room_1) (fun aa_ U => aa_ = #[(.int i), (.int j), (.long c8)] ∧ Z.Warmed39 U.vm ∧ U.heap = h0) (fun _ _ _ _ _ => True) (fun _ U o_ U' => RetW U (Q_law Z i j c8 h0 n0) 16 1152 U' o_) := by
  refine MetFree.of_bodySF (plainFor_of_name own_pn1) hisR ?_
  intro p e s m args below meth c_ s₁ Bd hml0 hP hK
  obtain ⟨rfl, hZ, hh⟩ := hP
  have hx := Bd.exec
  have hby := Bd.bytes
  have hml : c_.maxLocals = 10 := hml0
  have hS0 : s.Since s.vm 0 := (State.WarmedH.refl s).since 0
  have hown : s.vm.findClass "com/example/invix/invix/index/ByteReaderOffsetPinLaw" = some m.cls := findClass_of_methodNamed Bd.named
  have hnm := (name_of_methodNamed Bd.named Bd.method).1
  have X0 : Stand p l e room_1 (s.setVm s.vm) m #[(.int i), (.int j), (.long c8)] below meth c_ s₁ [] 0 0 := Stand.of_body Bd
  have e0 : s₁.heap = h0 := by rw [← hh, Bd.state]; rfl
  have N0 := Fr.nil n0
  have w0_ := hw _ (List.mem_of_getElem? (i := 0) rfl)
  have w1_ := hw _ (List.mem_of_getElem? (i := 1) rfl)
  have w2_ := hw _ (List.mem_of_getElem? (i := 2) rfl)
  have w3_ := hw _ (List.mem_of_getElem? (i := 3) rfl)
  have w4_ := hw _ (List.mem_of_getElem? (i := 4) rfl)
  have w5_ := hw _ (List.mem_of_getElem? (i := 5) rfl)
  have w12_ := hw _ (List.mem_of_getElem? (i := 12) rfl)
  have w13_ := hw _ (List.mem_of_getElem? (i := 13) rfl)
  have w14_ := hw _ (List.mem_of_getElem? (i := 14) rfl)
  have w22_ := hw _ (List.mem_of_getElem? (i := 22) rfl)
  have w24_ := hw _ (List.mem_of_getElem? (i := 24) rfl)
  have w26_ := hw _ (List.mem_of_getElem? (i := 26) rfl)
  have w28_ := hw _ (List.mem_of_getElem? (i := 28) rfl)
  have w30_ := hw _ (List.mem_of_getElem? (i := 30) rfl)
  have w32_ := hw _ (List.mem_of_getElem? (i := 32) rfl)
  have w33_ := hw _ (List.mem_of_getElem? (i := 33) rfl)
  have w34_ := hw _ (List.mem_of_getElem? (i := 34) rfl)
  have w35_ := hw _ (List.mem_of_getElem? (i := 35) rfl)
  have w36_ := hw _ (List.mem_of_getElem? (i := 36) rfl)
  have w37_ := hw _ (List.mem_of_getElem? (i := 37) rfl)
  have w39_ := hw _ (List.mem_of_getElem? (i := 39) rfl)
  have w40_ := hw _ (List.mem_of_getElem? (i := 40) rfl)
  have w41_ := hw _ (List.mem_of_getElem? (i := 41) rfl)
  have w42_ := hw _ (List.mem_of_getElem? (i := 42) rfl)
  have w43_ := hw _ (List.mem_of_getElem? (i := 43) rfl)
  have w44_ := hw _ (List.mem_of_getElem? (i := 44) rfl)
  have w45_ := hw _ (List.mem_of_getElem? (i := 45) rfl)
  have w46_ := hw _ (List.mem_of_getElem? (i := 46) rfl)
  have w47_ := hw _ (List.mem_of_getElem? (i := 47) rfl)
  have w48_ := hw _ (List.mem_of_getElem? (i := 48) rfl)
  have w49_ := hw _ (List.mem_of_getElem? (i := 49) rfl)
  have w50_ := hw _ (List.mem_of_getElem? (i := 50) rfl)
  have w51_ := hw _ (List.mem_of_getElem? (i := 51) rfl)
  have w52_ := hw _ (List.mem_of_getElem? (i := 52) rfl)
  have w53_ := hw _ (List.mem_of_getElem? (i := 53) rfl)
  have w54_ := hw _ (List.mem_of_getElem? (i := 54) rfl)
  have wS : ∀ d ∈ Bundle.stringAtoms, d.before a0 Z = true := fun d hd => hw d ((by decide +kernel : ∀ d ∈ Bundle.stringAtoms, d ∈ tables_1) d hd)
  show Go p e below (RetW s (Q_law Z i j c8 h0 n0) 16 1152) (s₁.setTop (entryFrame m #[(.int i), (.int j), (.long c8)] maxLocals))
  rw [show entryFrame m #[(.int i), (.int j), (.long c8)] maxLocals = mkF m 0 #[.val (.int i), .val (.int j), .val (.long c8), .second, .unset, .unset, .unset, .unset, .unset, .unset] [] from by first | (simp [entryFrame, mkF, argsToLocals, Value.category, maxLocals]; done) | rfl]
  refine g_bipush X0 hx hby (8 : Int32) at_0 rfl ?_
  refine g_newarray X0 hx hby hZ .byte .byte (.int (0 : Int32)) [(.int (0 : Int32)), (.int (0 : Int32)), (.int (0 : Int32)), (.int (0 : Int32)), (.int (0 : Int32)), (.int (0 : Int32)), (.int (0 : Int32)), (.int (0 : Int32))] rfl rfl w0_ e0 (by decide) 8 rfl (by decide) (by decide) (by decide) (by decide) at_2 (fun T1 h1 k1 b1 g1 X1 e1 E1 V1 => ?_)
  refine g_astore X1 hx hby at_4 rfl (l' := #[.val (.int i), .val (.int j), .val (.long c8), .second, .val (.ref b1), .unset, .unset, .unset, .unset, .unset]) rfl ?_
  refine g_aload X1 hx hby at_6 rfl rfl ?_
  refine g_iconst X1 hx hby (0 : Int32) at_8 rfl ?_
  refine g_lloadN X1 hx hby at_9 rfl ?_
  refine g_l2i X1 hx hby at_10 ?_
  refine g_i2b X1 hx hby at_11 ?_
  have g_b1 : n0 ≤ b1 := Nat.le_trans Z0 (Nat.le_of_eq g1)
  refine g_bastore X1 hx hby hZ e1 V1 0 [(.int (nar .byte ((c8.toInt32).toInt8.toInt32))), (.int (0 : Int32)), (.int (0 : Int32)), (.int (0 : Int32)), (.int (0 : Int32)), (.int (0 : Int32)), (.int (0 : Int32)), (.int (0 : Int32))] rfl ⟨by decide, by decide⟩ rfl (Nat.le_of_ble_eq_true rfl) N0 g_b1 at_12 (fun T2 h2 X2 e2 W2 V2 N2 => ?_)
  refine g_aload X2 hx hby at_13 rfl rfl ?_
  refine g_iconst X2 hx hby (1 : Int32) at_15 rfl ?_
  refine g_lloadN X2 hx hby at_16 rfl ?_
  refine g_bipush X2 hx hby (8 : Int32) at_17 rfl ?_
  refine g_lushr X2 hx hby at_19 ?_
  refine g_l2i X2 hx hby at_20 ?_
  refine g_i2b X2 hx hby at_21 ?_
  refine g_bastore X2 hx hby hZ e2 V2 1 [(.int (nar .byte ((c8.toInt32).toInt8.toInt32))), (.int (nar .byte ((((c8.toUInt64 >>> ((8 : Int32) &&& 0x3f).toInt64.toUInt64).toInt64).toInt32).toInt8.toInt32))), (.int (0 : Int32)), (.int (0 : Int32)), (.int (0 : Int32)), (.int (0 : Int32)), (.int (0 : Int32)), (.int (0 : Int32))] rfl ⟨by decide, by decide⟩ rfl (Nat.le_of_ble_eq_true rfl) N2 g_b1 at_22 (fun T3 h3 X3 e3 W3 V3 N3 => ?_)
  refine g_aload X3 hx hby at_23 rfl rfl ?_
  refine g_iconst X3 hx hby (2 : Int32) at_25 rfl ?_
  refine g_lloadN X3 hx hby at_26 rfl ?_
  refine g_bipush X3 hx hby (16 : Int32) at_27 rfl ?_
  refine g_lushr X3 hx hby at_29 ?_
  refine g_l2i X3 hx hby at_30 ?_
  refine g_i2b X3 hx hby at_31 ?_
  refine g_bastore X3 hx hby hZ e3 V3 2 [(.int (nar .byte ((c8.toInt32).toInt8.toInt32))), (.int (nar .byte ((((c8.toUInt64 >>> ((8 : Int32) &&& 0x3f).toInt64.toUInt64).toInt64).toInt32).toInt8.toInt32))), (.int (nar .byte ((((c8.toUInt64 >>> ((16 : Int32) &&& 0x3f).toInt64.toUInt64).toInt64).toInt32).toInt8.toInt32))), (.int (0 : Int32)), (.int (0 : Int32)), (.int (0 : Int32)), (.int (0 : Int32)), (.int (0 : Int32))] rfl ⟨by decide, by decide⟩ rfl (Nat.le_of_ble_eq_true rfl) N3 g_b1 at_32 (fun T4 h4 X4 e4 W4 V4 N4 => ?_)
  refine g_at 33 rfl rfl rfl ?_
  refine g_aload X4 hx hby at_33 rfl rfl ?_
  refine g_iconst X4 hx hby (3 : Int32) at_35 rfl ?_
  refine g_lloadN X4 hx hby at_36 rfl ?_
  refine g_bipush X4 hx hby (24 : Int32) at_37 rfl ?_
  refine g_lushr X4 hx hby at_39 ?_
  refine g_l2i X4 hx hby at_40 ?_
  refine g_i2b X4 hx hby at_41 ?_
  refine g_bastore X4 hx hby hZ e4 V4 3 [(.int (nar .byte ((c8.toInt32).toInt8.toInt32))), (.int (nar .byte ((((c8.toUInt64 >>> ((8 : Int32) &&& 0x3f).toInt64.toUInt64).toInt64).toInt32).toInt8.toInt32))), (.int (nar .byte ((((c8.toUInt64 >>> ((16 : Int32) &&& 0x3f).toInt64.toUInt64).toInt64).toInt32).toInt8.toInt32))), (.int (nar .byte ((((c8.toUInt64 >>> ((24 : Int32) &&& 0x3f).toInt64.toUInt64).toInt64).toInt32).toInt8.toInt32))), (.int (0 : Int32)), (.int (0 : Int32)), (.int (0 : Int32)), (.int (0 : Int32))] rfl ⟨by decide, by decide⟩ rfl (Nat.le_of_ble_eq_true rfl) N4 g_b1 at_42 (fun T5 h5 X5 e5 W5 V5 N5 => ?_)
  refine g_aload X5 hx hby at_43 rfl rfl ?_
  refine g_iconst X5 hx hby (4 : Int32) at_45 rfl ?_
  refine g_lloadN X5 hx hby at_46 rfl ?_
  refine g_bipush X5 hx hby (32 : Int32) at_47 rfl ?_
  refine g_lushr X5 hx hby at_49 ?_
  refine g_l2i X5 hx hby at_50 ?_
  refine g_i2b X5 hx hby at_51 ?_
  refine g_bastore X5 hx hby hZ e5 V5 4 [(.int (nar .byte ((c8.toInt32).toInt8.toInt32))), (.int (nar .byte ((((c8.toUInt64 >>> ((8 : Int32) &&& 0x3f).toInt64.toUInt64).toInt64).toInt32).toInt8.toInt32))), (.int (nar .byte ((((c8.toUInt64 >>> ((16 : Int32) &&& 0x3f).toInt64.toUInt64).toInt64).toInt32).toInt8.toInt32))), (.int (nar .byte ((((c8.toUInt64 >>> ((24 : Int32) &&& 0x3f).toInt64.toUInt64).toInt64).toInt32).toInt8.toInt32))), (.int (nar .byte ((((c8.toUInt64 >>> ((32 : Int32) &&& 0x3f).toInt64.toUInt64).toInt64).toInt32).toInt8.toInt32))), (.int (0 : Int32)), (.int (0 : Int32)), (.int (0 : Int32))] rfl ⟨by decide, by decide⟩ rfl (Nat.le_of_ble_eq_true rfl) N5 g_b1 at_52 (fun T6 h6 X6 e6 W6 V6 N6 => ?_)
  refine g_aload X6 hx hby at_53 rfl rfl ?_
  refine g_iconst X6 hx hby (5 : Int32) at_55 rfl ?_
  refine g_lloadN X6 hx hby at_56 rfl ?_
  refine g_bipush X6 hx hby (40 : Int32) at_57 rfl ?_
  refine g_lushr X6 hx hby at_59 ?_
  refine g_l2i X6 hx hby at_60 ?_
  refine g_i2b X6 hx hby at_61 ?_
  refine g_bastore X6 hx hby hZ e6 V6 5 [(.int (nar .byte ((c8.toInt32).toInt8.toInt32))), (.int (nar .byte ((((c8.toUInt64 >>> ((8 : Int32) &&& 0x3f).toInt64.toUInt64).toInt64).toInt32).toInt8.toInt32))), (.int (nar .byte ((((c8.toUInt64 >>> ((16 : Int32) &&& 0x3f).toInt64.toUInt64).toInt64).toInt32).toInt8.toInt32))), (.int (nar .byte ((((c8.toUInt64 >>> ((24 : Int32) &&& 0x3f).toInt64.toUInt64).toInt64).toInt32).toInt8.toInt32))), (.int (nar .byte ((((c8.toUInt64 >>> ((32 : Int32) &&& 0x3f).toInt64.toUInt64).toInt64).toInt32).toInt8.toInt32))), (.int (nar .byte ((((c8.toUInt64 >>> ((40 : Int32) &&& 0x3f).toInt64.toUInt64).toInt64).toInt32).toInt8.toInt32))), (.int (0 : Int32)), (.int (0 : Int32))] rfl ⟨by decide, by decide⟩ rfl (Nat.le_of_ble_eq_true rfl) N6 g_b1 at_62 (fun T7 h7 X7 e7 W7 V7 N7 => ?_)
  refine g_aload X7 hx hby at_63 rfl rfl ?_
  refine g_bipush X7 hx hby (6 : Int32) at_65 rfl ?_
  refine g_at 67 rfl rfl rfl ?_
  refine g_lloadN X7 hx hby at_67 rfl ?_
  refine g_bipush X7 hx hby (48 : Int32) at_68 rfl ?_
  refine g_lushr X7 hx hby at_70 ?_
  refine g_l2i X7 hx hby at_71 ?_
  refine g_i2b X7 hx hby at_72 ?_
  refine g_bastore X7 hx hby hZ e7 V7 6 [(.int (nar .byte ((c8.toInt32).toInt8.toInt32))), (.int (nar .byte ((((c8.toUInt64 >>> ((8 : Int32) &&& 0x3f).toInt64.toUInt64).toInt64).toInt32).toInt8.toInt32))), (.int (nar .byte ((((c8.toUInt64 >>> ((16 : Int32) &&& 0x3f).toInt64.toUInt64).toInt64).toInt32).toInt8.toInt32))), (.int (nar .byte ((((c8.toUInt64 >>> ((24 : Int32) &&& 0x3f).toInt64.toUInt64).toInt64).toInt32).toInt8.toInt32))), (.int (nar .byte ((((c8.toUInt64 >>> ((32 : Int32) &&& 0x3f).toInt64.toUInt64).toInt64).toInt32).toInt8.toInt32))), (.int (nar .byte ((((c8.toUInt64 >>> ((40 : Int32) &&& 0x3f).toInt64.toUInt64).toInt64).toInt32).toInt8.toInt32))), (.int (nar .byte ((((c8.toUInt64 >>> ((48 : Int32) &&& 0x3f).toInt64.toUInt64).toInt64).toInt32).toInt8.toInt32))), (.int (0 : Int32))] rfl ⟨by decide, by decide⟩ rfl (Nat.le_of_ble_eq_true rfl) N7 g_b1 at_73 (fun T8 h8 X8 e8 W8 V8 N8 => ?_)
  refine g_aload X8 hx hby at_74 rfl rfl ?_
  refine g_bipush X8 hx hby (7 : Int32) at_76 rfl ?_
  refine g_lloadN X8 hx hby at_78 rfl ?_
  refine g_bipush X8 hx hby (56 : Int32) at_79 rfl ?_
  refine g_lushr X8 hx hby at_81 ?_
  refine g_l2i X8 hx hby at_82 ?_
  refine g_i2b X8 hx hby at_83 ?_
  refine g_bastore X8 hx hby hZ e8 V8 7 [(.int (nar .byte ((c8.toInt32).toInt8.toInt32))), (.int (nar .byte ((((c8.toUInt64 >>> ((8 : Int32) &&& 0x3f).toInt64.toUInt64).toInt64).toInt32).toInt8.toInt32))), (.int (nar .byte ((((c8.toUInt64 >>> ((16 : Int32) &&& 0x3f).toInt64.toUInt64).toInt64).toInt32).toInt8.toInt32))), (.int (nar .byte ((((c8.toUInt64 >>> ((24 : Int32) &&& 0x3f).toInt64.toUInt64).toInt64).toInt32).toInt8.toInt32))), (.int (nar .byte ((((c8.toUInt64 >>> ((32 : Int32) &&& 0x3f).toInt64.toUInt64).toInt64).toInt32).toInt8.toInt32))), (.int (nar .byte ((((c8.toUInt64 >>> ((40 : Int32) &&& 0x3f).toInt64.toUInt64).toInt64).toInt32).toInt8.toInt32))), (.int (nar .byte ((((c8.toUInt64 >>> ((48 : Int32) &&& 0x3f).toInt64.toUInt64).toInt64).toInt32).toInt8.toInt32))), (.int (nar .byte ((((c8.toUInt64 >>> ((56 : Int32) &&& 0x3f).toInt64.toUInt64).toInt64).toInt32).toInt8.toInt32)))] rfl ⟨by decide, by decide⟩ rfl (Nat.le_of_ble_eq_true rfl) N8 g_b1 at_84 (fun T9 h9 X9 e9 W9 V9 N9 => ?_)
  obtain ⟨bs, hbs⟩ : ∃ bs : List Int32, bs = [(nar .byte ((c8.toInt32).toInt8.toInt32)), (nar .byte ((((c8.toUInt64 >>> ((8 : Int32) &&& 0x3f).toInt64.toUInt64).toInt64).toInt32).toInt8.toInt32)), (nar .byte ((((c8.toUInt64 >>> ((16 : Int32) &&& 0x3f).toInt64.toUInt64).toInt64).toInt32).toInt8.toInt32)), (nar .byte ((((c8.toUInt64 >>> ((24 : Int32) &&& 0x3f).toInt64.toUInt64).toInt64).toInt32).toInt8.toInt32)), (nar .byte ((((c8.toUInt64 >>> ((32 : Int32) &&& 0x3f).toInt64.toUInt64).toInt64).toInt32).toInt8.toInt32)), (nar .byte ((((c8.toUInt64 >>> ((40 : Int32) &&& 0x3f).toInt64.toUInt64).toInt64).toInt32).toInt8.toInt32)), (nar .byte ((((c8.toUInt64 >>> ((48 : Int32) &&& 0x3f).toInt64.toUInt64).toInt64).toInt32).toInt8.toInt32)), (nar .byte ((((c8.toUInt64 >>> ((56 : Int32) &&& 0x3f).toInt64.toUInt64).toInt64).toInt32).toInt8.toInt32))] := ⟨_, rfl⟩
  have VB0 : Arv Z h9 b1 k1 .byte (8 : Int32) (bs.map Value.int) (.int (0 : Int32)) := by rw [hbs]; exact V9
  clear hbs
  refine g_iloadN X9 hx hby at_85 rfl ?_
  refine g_ldcI X9 hx hby hZ hown w1_ at_86 ?_
  refine g_iand X9 hx hby at_88 ?_
  refine g_bipush X9 hx hby (9 : Int32) at_89 rfl ?_
  refine g_irem X9 hx hby at_91 (by decide) ?_
  refine g_istore X9 hx hby at_92 (l' := #[.val (.int i), .val (.int j), .val (.long c8), .second, .val (.ref b1), .val (.int ((i &&& (2147483647 : Int32)) % (9 : Int32))), .unset, .unset, .unset, .unset]) rfl ?_
  obtain ⟨kka, e_kka⟩ : ∃ z, z = ((i &&& (2147483647 : Int32)) % (9 : Int32)) := ⟨_, rfl⟩
  rw [← e_kka]
  have hk1 : 0 ≤ kka.toInt ∧ kka.toInt ≤ 8 := by rw [e_kka]; exact own_k _
  refine g_iloadN X9 hx hby at_94 rfl ?_
  refine g_ldcI X9 hx hby hZ hown w1_ at_95 ?_
  refine g_iand X9 hx hby at_97 ?_
  refine g_bipush X9 hx hby (9 : Int32) at_98 rfl ?_
  refine g_iload X9 hx hby at_100 rfl ?_
  refine g_isub X9 hx hby at_102 ?_
  refine g_at 103 rfl rfl rfl ?_
  refine g_irem X9 hx hby at_103 (own_9n hk1) ?_
  refine g_istore X9 hx hby at_104 (l' := #[.val (.int i), .val (.int j), .val (.long c8), .second, .val (.ref b1), .val (.int kka), .val (.int ((j &&& (2147483647 : Int32)) % ((9 : Int32) - kka))), .unset, .unset, .unset]) rfl ?_
  obtain ⟨kkb, e_kkb⟩ : ∃ z, z = ((j &&& (2147483647 : Int32)) % ((9 : Int32) - kka)) := ⟨_, rfl⟩
  rw [← e_kkb]
  have hk2 : 0 ≤ kkb.toInt ∧ kka.toInt + kkb.toInt ≤ 8 := by rw [e_kkb]; exact own_k2 _ hk1
  have hsum : (kka + kkb).toInt = kka.toInt + kkb.toInt := own_sum hk1.1 hk2.1 hk2.2
  refine g_iload X9 hx hby at_106 rfl ?_
  refine g_iload X9 hx hby at_108 rfl ?_
  refine g_iadd X9 hx hby at_110 ?_
  refine g_istore X9 hx hby at_111 (l' := #[.val (.int i), .val (.int j), .val (.long c8), .second, .val (.ref b1), .val (.int kka), .val (.int kkb), .val (.int (kka + kkb)), .unset, .unset]) rfl ?_
  refine g_new X9 hx hby hZ hown w2_ w3_ w4_ e9 (by decide) (by decide) at_113 (fun T10 h10 b10 g10 X10 e10 E10 A10 D10 => ?_)
  have F_channel_b10 : Fld Z h10 b10 "com/example/invix/invix/index/ByteReader" "channel" "Ljava/nio/channels/FileChannel;" .null := D10 (Or.inr w22_) (ty := (.object "java/nio/channels/FileChannel")) (by decide)
  have F_buffer_b10 : Fld Z h10 b10 "com/example/invix/invix/index/ByteReader" "buffer" "[B" .null := D10 (Or.inr w24_) (ty := (.array .byte)) (by decide)
  have F_source_b10 : Fld Z h10 b10 "com/example/invix/invix/index/ByteReader" "source" "Ljava/lang/String;" .null := D10 (Or.inr w26_) (ty := (.object "java/lang/String")) (by decide)
  have F_end_b10 : Fld Z h10 b10 "com/example/invix/invix/index/ByteReader" "end" "J" (.long (0 : Int64)) := D10 (Or.inr w28_) (ty := .long) (by decide)
  have F_next_b10 : Fld Z h10 b10 "com/example/invix/invix/index/ByteReader" "next" "J" (.long (0 : Int64)) := D10 (Or.inl w30_) (ty := .long) (by decide)
  have F_limit_b10 : Fld Z h10 b10 "com/example/invix/invix/index/ByteReader" "limit" "I" (.int (0 : Int32)) := D10 (Or.inl w32_) (ty := .int) (by decide)
  have F_position_b10 : Fld Z h10 b10 "com/example/invix/invix/index/ByteReader" "position" "I" (.int (0 : Int32)) := D10 (Or.inl w39_) (ty := .int) (by decide)
  refine g_dup X10 hx hby at_116 rfl ?_
  refine g_aload X10 hx hby at_117 rfl rfl ?_
  refine g_ldcS X10 hx hby hZ hown w5_ wS e10 hS0 (Nat.zero_le _) 8 (by decide) (by decide) (by decide) (by decide) at_119 (fun a11 T11 h11 kk11 X11 e11 E11 hS11 hk11 hZ11 ho11 => ?_)
  have f13 := (A10.ext E11)
  have f14 := (F_channel_b10.ext E11)
  have f15 := (F_buffer_b10.ext E11)
  have f16 := (F_source_b10.ext E11)
  have f17 := (F_end_b10.ext E11)
  have f18 := (F_next_b10.ext E11)
  have f19 := (F_limit_b10.ext E11)
  have f20 := (F_position_b10.ext E11)
  have g_b10 : n0 ≤ b10 := Nat.le_trans (Nat.le_trans Z0 (Nat.le_trans (Nat.le_trans (Nat.le_trans (Nat.le_trans (Nat.le_trans (Nat.le_trans (Nat.le_trans (Nat.le_trans E1.1 (Keep.of_wr W2).1) (Keep.of_wr W3).1) (Keep.of_wr W4).1) (Keep.of_wr W5).1) (Keep.of_wr W6).1) (Keep.of_wr W7).1) (Keep.of_wr W8).1) (Keep.of_wr W9).1)) (Nat.le_of_eq g10)
  have f21 := ((VB0.ext E10).ext E11)
  have z22 := (Nat.le_trans Z0 (Nat.le_trans (Nat.le_trans (Nat.le_trans (Nat.le_trans (Nat.le_trans (Nat.le_trans (Nat.le_trans (Nat.le_trans (Nat.le_trans (Nat.le_trans E1.1 (Keep.of_wr W2).1) (Keep.of_wr W3).1) (Keep.of_wr W4).1) (Keep.of_wr W5).1) (Keep.of_wr W6).1) (Keep.of_wr W7).1) (Keep.of_wr W8).1) (Keep.of_wr W9).1) E10.1) E11.1))
  refine g_special X11 hx hby hZ11 ho11 (rm_ini2 l Z a0 hw [] b10 b1 a11 k1 (bs.map Value.int) h11 n0 z22 f13 f14 f15 f16 f17 f18 f19 f20 g_b10 f21) rfl rfl w12_ w13_ w4_ w14_ (by decide) e11 (by rw [hml]; rfl) [(.ref b1), (.ref a11)] (lenOf own_pd2 rfl) rfl rfl (Nat.le_of_ble_eq_true rfl) (Nat.le_of_ble_eq_true rfl) (Nat.le_of_ble_eq_true rfl) (Nat.le_of_ble_eq_true rfl) at_121 (fun v12 T12 L12 X12 hQ12 => ?_)
  obtain ⟨rfl, N12q, K12, lE12, lB12, lD12, lN12, lL12, lP12⟩ := hQ12
  have N12 := Fr.app N9 N12q
  refine g_astore X12 hx hby at_124 rfl (l' := #[.val (.int i), .val (.int j), .val (.long c8), .second, .val (.ref b1), .val (.int kka), .val (.int kkb), .val (.int (kka + kkb)), .val (.ref b10), .unset]) rfl ?_
  refine g_aload X12 hx hby at_126 rfl rfl ?_
  have z24 := (Nat.le_trans z22 K12.1)
  refine g_virtual X12 hx hby hZ11 ho11 (rm_off l Z a0 hw [] b10 b1 (0 : Int32) T12.heap n0 z24 ⟨lE12, lB12, lD12, lN12, lL12, lP12⟩ (by decide) (by decide)) w33_ w34_ (notFace_of_selects (args := #[]) (mvT hZ11 w36_)) w36_ w35_ w4_ w37_ (by decide) rfl lE12 (by rw [hml]; rfl) [] (lenOf own_pd1 rfl) rfl rfl (Nat.le_of_ble_eq_true rfl) (Nat.le_of_ble_eq_true rfl) (Nat.le_of_ble_eq_true rfl) (Nat.le_of_ble_eq_true rfl) at_128 (fun v23 T23 L23 X23 hQ23 => ?_)
  obtain ⟨rfl, N23q, eh23⟩ := hQ23
  have N23 := Fr.app N12 N23q
  refine g_lconst X23 hx hby (0 : Int64) at_131 rfl ?_
  refine g_lcmp X23 hx hby at_132 ?_
  refine g_at 133 rfl rfl rfl ?_
  refine g_ifY X23 hx hby 138 at_133 (teq ((lw_eq (0 : Int32).toInt64 (0 : Int64)).mpr (by decide : (0 : Int32).toInt64 = (0 : Int64)))).1 (by decide) (by decide) ?_
  refine g_aload X23 hx hby at_138 rfl rfl ?_
  refine g_iload X23 hx hby at_140 rfl ?_
  obtain ⟨M25, eM25⟩ : ∃ M : Nat, M = kka.toInt.toNat := ⟨_, rfl⟩
  have hM25 : kka = Int32.ofNat M25 := by rw [eM25]; exact own_ofNat hk1.1
  have tM25 : (M25 : Int) = kka.toInt := by have := hk1.1; omega
  have ne26 : b1 ≠ b10 := (Nat.ne_of_lt (Nat.lt_of_lt_of_le V1.lt (Nat.le_trans (Nat.le_trans (Nat.le_trans (Nat.le_trans (Nat.le_trans (Nat.le_trans (Nat.le_trans (Nat.le_trans (Keep.of_wr W2).1 (Keep.of_wr W3).1) (Keep.of_wr W4).1) (Keep.of_wr W5).1) (Keep.of_wr W6).1) (Keep.of_wr W7).1) (Keep.of_wr W8).1) (Keep.of_wr W9).1) (Nat.le_of_eq g10))))
  have f27 := (f21.keep K12 (ninS ne26 nin0))
  refine g_topI (Int32.ofNat M25) hM25 ?_
  refine g_virtual X23 hx hby hZ11 ho11 (rm_rw l Z a0 hw [] b10 b1 (0 : Int32) k1 bs M25 kka T12.heap n0 z24 ⟨lE12, lB12, lD12, lN12, lL12, lP12⟩ (by decide) (by first | omega | (show (0 : Int) + _ ≤ _; omega)) f27 g_b10 (Ne.symm ne26) (by rw [← hM25]; exact Int32.zero_add _)) w40_ w41_ (notFace_of_selects (args := #[]) (mvT hZ11 w43_)) w43_ w42_ w4_ w44_ (by decide) eh23 lE12 (by rw [hml]; rfl) [(.int (Int32.ofNat M25))] (lenOf own_pd3 rfl) rfl rfl (Nat.le_of_ble_eq_true rfl) (Nat.le_of_ble_eq_true rfl) (Nat.le_of_ble_eq_true rfl) (Nat.le_of_ble_eq_true rfl) at_142 (fun v25 T25 L25 X25 hQ25 => ?_)
  obtain ⟨⟨r25, rfl⟩, N25q, K25, lE25, lB25, lD25, lN25, lL25, lP25⟩ := hQ25
  have N25 := Fr.app N23 N25q
  refine g_pop2J X25 hx hby at_145 ?_
  refine g_aload X25 hx hby at_146 rfl rfl ?_
  have z29 := (Nat.le_trans z24 K25.1)
  refine g_virtual X25 hx hby hZ11 ho11 (rm_off l Z a0 hw [] b10 b1 kka T25.heap n0 z29 ⟨lE25, lB25, lD25, lN25, lL25, lP25⟩ hk1.1 hk1.2) w33_ w34_ (notFace_of_selects (args := #[]) (mvT hZ11 w36_)) w36_ w35_ w4_ w37_ (by decide) rfl lE25 (by rw [hml]; rfl) [] (lenOf own_pd1 rfl) rfl rfl (Nat.le_of_ble_eq_true rfl) (Nat.le_of_ble_eq_true rfl) (Nat.le_of_ble_eq_true rfl) (Nat.le_of_ble_eq_true rfl) at_148 (fun v28 T28 L28 X28 hQ28 => ?_)
  obtain ⟨rfl, N28q, eh28⟩ := hQ28
  have N28 := Fr.app N25 N28q
  refine g_iload X28 hx hby at_151 rfl ?_
  refine g_i2l X28 hx hby at_153 ?_
  refine g_lcmp X28 hx hby at_154 ?_
  refine g_ifY X28 hx hby 160 at_155 (teq ((lw_eq kka.toInt64 (kka.toInt64)).mpr (rfl : kka.toInt64 = (kka.toInt64)))).1 (by decide) (by decide) ?_
  refine g_aload X28 hx hby at_160 rfl rfl ?_
  refine g_iload X28 hx hby at_162 rfl ?_
  obtain ⟨M30, eM30⟩ : ∃ M : Nat, M = kkb.toInt.toNat := ⟨_, rfl⟩
  have hM30 : kkb = Int32.ofNat M30 := by rw [eM30]; exact own_ofNat hk2.1
  have tM30 : (M30 : Int) = kkb.toInt := by have := hk2.1; omega
  have f31 := (f27.keep K25 (ninS ne26 nin0))
  refine g_topI (Int32.ofNat M30) hM30 ?_
  refine g_virtual X28 hx hby hZ11 ho11 (rm_rw l Z a0 hw [] b10 b1 kka k1 bs M30 (kka + kkb) T25.heap n0 z29 ⟨lE25, lB25, lD25, lN25, lL25, lP25⟩ hk1.1 (by first | omega | (show (0 : Int) + _ ≤ _; omega)) f31 g_b10 (Ne.symm ne26) (by rw [← hM30])) w40_ w41_ (notFace_of_selects (args := #[]) (mvT hZ11 w43_)) w43_ w42_ w4_ w44_ (by decide) eh28 lE25 (by rw [hml]; rfl) [(.int (Int32.ofNat M30))] (lenOf own_pd3 rfl) rfl rfl (Nat.le_of_ble_eq_true rfl) (Nat.le_of_ble_eq_true rfl) (Nat.le_of_ble_eq_true rfl) (Nat.le_of_ble_eq_true rfl) at_164 (fun v30 T30 L30 X30 hQ30 => ?_)
  obtain ⟨⟨r30, rfl⟩, N30q, K30, lE30, lB30, lD30, lN30, lL30, lP30⟩ := hQ30
  have N30 := Fr.app N28 N30q
  refine g_pop2J X30 hx hby at_167 ?_
  refine g_aload X30 hx hby at_168 rfl rfl ?_
  have z33 := (Nat.le_trans z29 K30.1)
  refine g_virtual X30 hx hby hZ11 ho11 (rm_off l Z a0 hw [] b10 b1 (kka + kkb) T30.heap n0 z33 ⟨lE30, lB30, lD30, lN30, lL30, lP30⟩ (by omega) (by omega)) w33_ w34_ (notFace_of_selects (args := #[]) (mvT hZ11 w36_)) w36_ w35_ w4_ w37_ (by decide) rfl lE30 (by rw [hml]; rfl) [] (lenOf own_pd1 rfl) rfl rfl (Nat.le_of_ble_eq_true rfl) (Nat.le_of_ble_eq_true rfl) (Nat.le_of_ble_eq_true rfl) (Nat.le_of_ble_eq_true rfl) at_170 (fun v32 T32 L32 X32 hQ32 => ?_)
  obtain ⟨rfl, N32q, eh32⟩ := hQ32
  have N32 := Fr.app N30 N32q
  refine g_iload X32 hx hby at_173 rfl ?_
  refine g_i2l X32 hx hby at_175 ?_
  refine g_lcmp X32 hx hby at_176 ?_
  refine g_ifY X32 hx hby 182 at_177 (teq ((lw_eq (kka + kkb).toInt64 ((kka + kkb).toInt64)).mpr (rfl : (kka + kkb).toInt64 = ((kka + kkb).toInt64)))).1 (by decide) (by decide) ?_
  refine g_iload X32 hx hby at_182 rfl ?_
  refine g_bipush X32 hx hby (8 : Int32) at_184 rfl ?_
  by_cases hc186_34 : (kka + kkb) < (8 : Int32)
  · skip
    refine g_icN X32 hx hby at_186 (tlt hc186_34).2.1 ?_
    refine g_aload X32 hx hby at_189 rfl rfl ?_
    have f36 := (f31.keep K30 (ninS ne26 nin0))
    refine g_virtual X32 hx hby hZ11 ho11 (rm_rb l Z a0 hw [] b10 b1 (kka + kkb) k1 bs T30.heap n0 z33 ⟨lE30, lB30, lD30, lN30, lL30, lP30⟩ (by omega) hc186_34 f36 g_b10 (Ne.symm ne26)) w45_ w46_ (notFace_of_selects (args := #[]) (mvT hZ11 w48_)) w48_ w47_ w4_ w49_ (by decide) eh32 lE30 (by rw [hml]; rfl) [] (lenOf own_pd4 rfl) rfl rfl (Nat.le_of_ble_eq_true rfl) (Nat.le_of_ble_eq_true rfl) (Nat.le_of_ble_eq_true rfl) (Nat.le_of_ble_eq_true rfl) at_191 (fun v35 T35 L35 X35 hQ35 => ?_)
    obtain ⟨rfl, N35q, K35, lE35, lB35, lD35, lN35, lL35, lP35⟩ := hQ35
    have N35 := Fr.app N32 N35q
    have h8 : (kka + kkb).toInt < 8 := own_lt8 hc186_34
    refine g_istore X35 hx hby at_194 (l' := #[.val (.int i), .val (.int j), .val (.long c8), .second, .val (.ref b1), .val (.int kka), .val (.int kkb), .val (.int (kka + kkb)), .val (.ref b10), .val (.int ((bs.getD (kka + kkb).toNatClampNeg 0) &&& (255 : Int32)))]) rfl ?_
    refine g_iload X35 hx hby at_196 rfl ?_
    refine g_aload X35 hx hby at_198 rfl rfl ?_
    refine g_iload X35 hx hby at_200 rfl ?_
    have f37 := (f36.keep K35 (ninS ne26 nin0))
    refine g_baload X35 hx hby hZ11 rfl f37 (.int (bs.getD (kka + kkb).toNatClampNeg 0)) (own_in0 (by omega) h8) (own_getD _ _) at_202 ?_
    refine g_sipush X35 hx hby (255 : Int32) at_203 rfl ?_
    refine g_iand X35 hx hby at_206 ?_
    refine g_icY X35 hx hby 212 at_207 (teq (rfl : ((bs.getD (kka + kkb).toNatClampNeg 0) &&& (255 : Int32)) = ((bs.getD (kka + kkb).toNatClampNeg 0) &&& (255 : Int32)))).1 (by decide) (by decide) ?_
    refine g_aload X35 hx hby at_212 rfl rfl ?_
    have z39 := (Nat.le_trans z33 K35.1)
    refine g_virtual X35 hx hby hZ11 ho11 (rm_off l Z a0 hw [] b10 b1 ((kka + kkb) + (1 : Int32)) T35.heap n0 z39 ⟨lE35, lB35, lD35, lN35, lL35, lP35⟩ (by rw [own_next (by omega) h8]; omega) (by rw [own_next (by omega) h8]; omega)) w33_ w34_ (notFace_of_selects (args := #[]) (mvT hZ11 w36_)) w36_ w35_ w4_ w37_ (by decide) rfl lE35 (by rw [hml]; rfl) [] (lenOf own_pd1 rfl) rfl rfl (Nat.le_of_ble_eq_true rfl) (Nat.le_of_ble_eq_true rfl) (Nat.le_of_ble_eq_true rfl) (Nat.le_of_ble_eq_true rfl) at_214 (fun v38 T38 L38 X38 hQ38 => ?_)
    obtain ⟨rfl, N38q, eh38⟩ := hQ38
    have N38 := Fr.app N35 N38q
    refine g_iload X38 hx hby at_217 rfl ?_
    refine g_iconst X38 hx hby (1 : Int32) at_219 rfl ?_
    refine g_iadd X38 hx hby at_220 ?_
    refine g_i2l X38 hx hby at_221 ?_
    refine g_lcmp X38 hx hby at_222 ?_
    refine g_ifY X38 hx hby 228 at_223 (teq ((lw_eq ((kka + kkb) + (1 : Int32)).toInt64 (((kka + kkb) + (1 : Int32)).toInt64)).mpr (rfl : ((kka + kkb) + (1 : Int32)).toInt64 = (((kka + kkb) + (1 : Int32)).toInt64)))).1 (by decide) (by decide) ?_
    refine g_aload X38 hx hby at_228 rfl rfl ?_
    refine g_virtual X38 hx hby hZ11 ho11 (rm_rem l Z a0 hw [] b10 b1 ((kka + kkb) + (1 : Int32)) T35.heap n0 z39 ⟨lE35, lB35, lD35, lN35, lL35, lP35⟩ (by rw [own_next (by omega) h8]; omega) (by rw [own_next (by omega) h8]; omega)) w50_ w51_ (notFace_of_selects (args := #[]) (mvT hZ11 w53_)) w53_ w52_ w4_ w54_ (by decide) eh38 lE35 (by rw [hml]; rfl) [] (lenOf own_pd1 rfl) rfl rfl (Nat.le_of_ble_eq_true rfl) (Nat.le_of_ble_eq_true rfl) (Nat.le_of_ble_eq_true rfl) (Nat.le_of_ble_eq_true rfl) at_230 (fun v40 T40 L40 X40 hQ40 => ?_)
    obtain ⟨rfl, N40q, eh40⟩ := hQ40
    have N40 := Fr.app N38 N40q
    refine g_bipush X40 hx hby (8 : Int32) at_233 rfl ?_
    refine g_iload X40 hx hby at_235 rfl ?_
    refine g_isub X40 hx hby at_237 ?_
    refine g_iconst X40 hx hby (1 : Int32) at_238 rfl ?_
    refine g_isub X40 hx hby at_239 ?_
    refine g_i2l X40 hx hby at_240 ?_
    refine g_lcmp X40 hx hby at_241 ?_
    refine g_ifN X40 hx hby at_242 (teq ((lw_eq ((8 : Int64) - ((kka + kkb) + (1 : Int32)).toInt64) ((((8 : Int32) - (kka + kkb)) - (1 : Int32)).toInt64)).mpr (own_rem (by omega) h8 : ((8 : Int64) - ((kka + kkb) + (1 : Int32)).toInt64) = ((((8 : Int32) - (kka + kkb)) - (1 : Int32)).toInt64)))).2 ?_
    refine g_iconst X40 hx hby (1 : Int32) at_245 rfl ?_
    refine g_goto X40 hx hby 250 at_246 (by decide) (by decide) ?_
    refine g_nretW X40 hx hby (t := .boolean) (by simp) Bd.returns Bd.notSynchronized hS11 at_250 eh40 (Nat.le_trans hk11 (Nat.le_trans (Nat.le_trans (Nat.le_trans K12.1 K25.1) K30.1) K35.1)) (by decide) (by decide) ?_
    show (Q_law Z i j c8 h0 n0) (some (.int (1 : Int32))) _ _
    exact ⟨rfl, N40⟩
  · skip
    refine g_icY X32 hx hby 251 at_186 (flt hc186_34).2.1 (by decide) (by decide) ?_
    refine g_aload X32 hx hby at_251 rfl rfl ?_
    refine g_virtual X32 hx hby hZ11 ho11 (rm_rem l Z a0 hw [] b10 b1 (kka + kkb) T30.heap n0 z33 ⟨lE30, lB30, lD30, lN30, lL30, lP30⟩ (by omega) (by omega)) w50_ w51_ (notFace_of_selects (args := #[]) (mvT hZ11 w53_)) w53_ w52_ w4_ w54_ (by decide) eh32 lE30 (by rw [hml]; rfl) [] (lenOf own_pd1 rfl) rfl rfl (Nat.le_of_ble_eq_true rfl) (Nat.le_of_ble_eq_true rfl) (Nat.le_of_ble_eq_true rfl) (Nat.le_of_ble_eq_true rfl) at_253 (fun v41 T41 L41 X41 hQ41 => ?_)
    obtain ⟨rfl, N41q, eh41⟩ := hQ41
    have N41 := Fr.app N32 N41q
    refine g_lconst X41 hx hby (0 : Int64) at_256 rfl ?_
    refine g_lcmp X41 hx hby at_257 ?_
    refine g_ifN X41 hx hby at_258 (teq ((lw_eq ((8 : Int64) - (kka + kkb).toInt64) (0 : Int64)).mpr (own_full (by omega) (by omega) hc186_34 : ((8 : Int64) - (kka + kkb).toInt64) = (0 : Int64)))).2 ?_
    refine g_iconst X41 hx hby (1 : Int32) at_261 rfl ?_
    refine g_goto X41 hx hby 266 at_262 (by decide) (by decide) ?_
    refine g_nretW X41 hx hby (t := .boolean) (by simp) Bd.returns Bd.notSynchronized hS11 at_266 eh41 (Nat.le_trans hk11 (Nat.le_trans (Nat.le_trans K12.1 K25.1) K30.1)) (by decide) (by decide) ?_
    show (Q_law Z i j c8 h0 n0) (some (.int (1 : Int32))) _ _
    exact ⟨rfl, N41⟩

set_option maxRecDepth 65536 in
set_option maxHeartbeats 40000000 in
theorem comes_1 {Post : Tables → Env → Array Value → State → Outcome → State → Prop} (hpost : ∀ tb e args s v u, (limb_1_1.after args s (.returned v) u = true ∧ limb_1_2.after args s (.returned v) u = true ∧ True) → ReturnedEndW s (.returned v) u (Jvm.fieldLocs frame_1_writes args s ++ Jvm.arrayLocs frame_1_arrays args s ++ Jvm.staticLocs frame_1_statics s) 16 1152 → Post tb e args s (.returned v) u) :
    ArmFor flags0 classFile x code maxLocals ret World_1 tables_1 room_1 Calls_1 rest_1 Pre_1 Post := by
  intro l hfl _ _ p e ha hc hk s m args below hf hA hF happ hP
  obtain ⟨hcalls, hrest, hpre⟩ := hP
  obtain ⟨-, -, -, hnamed, -, -, -, hat⟩ := (Spec.applies_iff hf).mp happ
  obtain ⟨hg, hn⟩ := and_e (Cond.before_iff.mp (show (Jvm.Cond.and given_1 narrow_1).before args s = true from hpre))
  obtain ⟨hcount, hg1⟩ := and_e hg
  obtain ⟨ga0, hg2⟩ := and_e hg1
  obtain ⟨ga1, hg3⟩ := and_e hg2
  have ga2 := hg3
  obtain ⟨w0, w1, w2, rfl⟩ : ∃ w0 w1 w2 : Value, args = #[w0, w1, w2] := by
    have hs : args.size = 3 := by simpa [Cond.value, given_1] using hcount
    obtain ⟨L⟩ := args
    match L, hs with
    | [w0, w1, w2], _ => exact ⟨w0, w1, w2, rfl⟩
  have hw := fun d (hd : d ∈ tables_1) => atoms_spec (ws := Jvm.Cond.code x code maxLocals ret :: tables_1) hat d (List.mem_cons_of_mem _ hd)
  have hfit : Fit s := fun {y c} hc i hi => by
    obtain ⟨ha, rfl⟩ := Array.getElem?_eq_some_iff.mp hc
    have q := List.all_eq_true.mp ((Array.all_eq_true_iff_forall_mem.mp hF) _ (Array.getElem_mem ha)) i (List.mem_range.mpr hi)
    simpa [Array.getElem?_eq_getElem hi] using q
  obtain ⟨i0, ei0⟩ := is_v ga0
  obtain rfl : w0 = (.int i0) := Option.some.inj ei0
  obtain ⟨i1, ei1⟩ := is_v ga1
  obtain rfl : w1 = (.int i1) := Option.some.inj ei1
  obtain ⟨i2, ei2⟩ := isL_v ga2
  obtain rfl : w2 = (.long i2) := Option.some.inj ei2
  obtain ⟨n, o, h1, h2, h3, _, L, rfl, ⟨rfl, N⟩, hq⟩ := rm_law l s _ hw tables_1 i0 i1 i2 s.heap s.heap.size (Nat.le_refl _)  p e ha hc hk s m _ below hf ((Spec.applies_iff_loose hf).mp happ).1 ⟨rfl, State.Warmed39.refl s, rfl⟩ trivial
  refine ⟨n, _, h1, h2, h3, hpost _ _ _ _ _ _ ⟨Cond.after_iff.mpr rfl, Cond.after_iff.mpr (eq_i res_at (Term.int_eval (1)) rfl), trivial⟩ (own_widen hq N (by decide) (by decide))⟩
theorem main_1_1 : Claimed_1_1 := comes_1 fun _ _ _ _ _ _ h hF => ⟨h.1, hF⟩
theorem main_1_2 : Claimed_1_2 := comes_1 fun _ _ _ _ _ _ h hF => ⟨h.2.1, hF⟩

end Jvm.Pilot.@@N@@
namespace Jvm.Pilot.@@N@@
open Jvm Jvm.ClassFile Sem Op Lib Jvm.Free Jvm.Stand Jvm.Pilot.@@N@@.Jvm.D
/-! MADE BY PROGRAM (witnessworld.py) out of the Statement's table words and the real class files: 14 classes; the members and pool entries that the words name. The judged class is class 1, her method 1. -/
namespace start1
open Jvm.ClassFile
def u (s : String) : CpInfo := .utf8 (stringToUtf16 s)
/-- a pool by its gaps: so many unusable entries, then the entry; so many at the end -/
def gap : Nat → List CpInfo → List CpInfo
  | 0, r => r
  | n + 1, r => .unusable :: gap n r
def poolList (es : List (Nat × CpInfo)) (last : Nat) : List CpInfo := es.foldr (fun e r => gap e.1 (e.2 :: r)) (gap last [])
def pool (es : List (Nat × CpInfo)) (last : Nat) : Array CpInfo := ⟨poolList es last⟩
def fileOf (pool : Array CpInfo) (this : Nat) (attrs : Array Attribute := #[]) (ms : Array MethodInfo := #[]) (fl : Nat := 33) (sup : Nat := 0) (ifs : Array Nat := #[]) (fds : Array FieldInfo := #[]) : ClassFile where
  minorVersion := 0
  majorVersion := 65
  constantPool := pool
  accessFlags := fl
  thisClass := this
  superClass := sup
  interfaces := ifs
  fields := fds
  methods := ms
  attributes := attrs
def plain (name : String) (sup : Option ClassId) : Class where
  name := name
  kind := .ordinary
  loader := none
  accessFlags := 33
  super := sup
  interfaces := #[]
  cf := none
  fields := #[]
  methods := #[]
  instanceTypes := #[]
  staticTypes := #[]
  resolved := #[]
  callSites := []
  init := .initialized
  statics := none
  mirror := none

def pool0 : Array CpInfo := pool [(5, u "<init>"), (0, u "()V"), (1, .class_ 10), (1, u "java/lang/Object")] 113

def k0c0 : Code := { maxStack := 0, maxLocals := 1, code := object_method_1_code, exceptionTable := #[], attributes := #[] }
def k0m0 : Method := { name := "<init>", desc := "()V", sig := { parameters := [], returnType := none }, accessFlags := 1, code := some k0c0 }
/-- java/lang/Object -/
def k0 : Class := { plain "java/lang/Object" none with
  accessFlags := 33
  interfaces := #[]
  cf := some (fileOf pool0 8 #[] #[{ accessFlags := 1, nameIndex := 5, descriptorIndex := 6, attributes := #[] }] 33 0 #[] #[])
  fields := #[]
  methods := #[k0m0]
  instanceTypes := #[]
  staticTypes := #[]
  resolved := Array.replicate 124 none
  statics := none }

def pool1 : Array CpInfo := pool [(2, .class_ 4), (1, u "java/lang/Object"), (0, u "<init>"), (0, u "()V"), (0, .integer 2147483647), (0, .class_ 9), (0, u "com/example/invix/invix/index/ByteReader"), (0, .string 11), (0, u "f"), (0, .methodref 8 13), (0, .nameAndType 5 14), (0, u "([BLjava/lang/String;)V"), (0, .methodref 8 16), (0, .nameAndType 17 18), (0, u "offset"), (0, u "()J"), (0, .methodref 8 20), (0, .nameAndType 21 22), (0, u "readWord"), (0, u "(I)J"), (0, .methodref 8 24), (0, .nameAndType 25 26), (0, u "readByte"), (0, u "()I"), (0, .methodref 8 28), (0, .nameAndType 29 18), (0, u "remaining"), (0, .class_ 31), (0, u "com/example/invix/invix/index/ByteReaderOffsetPinLaw"), (2, u "law"), (0, u "(IIJ)Z")] 8

def k1m0 : Method := { name := "<init>", desc := "()V", sig := { parameters := [], returnType := none }, accessFlags := 1, code := none }
def k1c1 : Code := { maxStack := 5, maxLocals := 10, code := code, exceptionTable := #[], attributes := #[] }
def k1m1 : Method := { name := "law", desc := "(IIJ)Z", sig := { parameters := [.int, .int, .long], returnType := some .boolean }, accessFlags := 9, code := some k1c1 }
/-- com/example/invix/invix/index/ByteReaderOffsetPinLaw -/
def k1 : Class := { plain "com/example/invix/invix/index/ByteReaderOffsetPinLaw" (some 0) with
  accessFlags := 49
  interfaces := #[]
  cf := some (fileOf pool1 30 #[] #[{ accessFlags := 1, nameIndex := 5, descriptorIndex := 6, attributes := #[] }, { accessFlags := 9, nameIndex := 34, descriptorIndex := 35, attributes := #[] }] 49 2 #[] #[])
  fields := #[]
  methods := #[k1m0, k1m1]
  instanceTypes := #[]
  staticTypes := #[]
  resolved := Array.replicate 44 none
  statics := none }

def pool2 : Array CpInfo := pool [(1, .methodref 2 3), (0, .class_ 4), (0, .nameAndType 5 6), (0, u "com/example/invix/invix/index/ByteReader"), (0, u "<init>"), (0, u "([BILjava/lang/String;)V"), (0, .methodref 8 9), (0, .class_ 10), (0, .nameAndType 5 11), (0, u "java/lang/Object"), (0, u "()V"), (0, .fieldref 2 13), (0, .nameAndType 14 15), (0, u "channel"), (0, u "Ljava/nio/channels/FileChannel;"), (0, .fieldref 2 17), (0, .nameAndType 18 19), (0, u "buffer"), (0, u "[B"), (0, .fieldref 2 21), (0, .nameAndType 22 23), (0, u "source"), (0, u "Ljava/lang/String;"), (0, .fieldref 2 25), (0, .nameAndType 26 27), (0, u "end"), (0, u "J"), (0, .fieldref 2 29), (0, .nameAndType 30 27), (0, u "next"), (0, .fieldref 2 32), (0, .nameAndType 33 34), (0, u "limit"), (0, u "I"), (24, u "position"), (0, u "()I"), (16, .fieldref 2 78), (0, .nameAndType 59 34), (9, .methodref 2 89), (0, .nameAndType 90 60), (0, u "readByte"), (7, u "()J"), (10, u "remaining"), (24, .methodref 2 135), (0, .nameAndType 136 98), (0, u "offset"), (39, u "CHUNK"), (2, u "ENDS_EARLY"), (0, u "([BLjava/lang/String;)V"), (8, u "readWord"), (0, u "(I)J")] 28

def k2c0 : Code := { maxStack := 4, maxLocals := 3, code := prog_38_method_1_code, exceptionTable := #[], attributes := #[] }
def k2m0 : Method := { name := "<init>", desc := "([BLjava/lang/String;)V", sig := { parameters := [(.array .byte), (.object "java/lang/String")], returnType := none }, accessFlags := 0, code := some k2c0 }
def k2c1 : Code := { maxStack := 3, maxLocals := 4, code := prog_38_method_2_code, exceptionTable := #[], attributes := #[] }
def k2m1 : Method := { name := "<init>", desc := "([BILjava/lang/String;)V", sig := { parameters := [(.array .byte), .int, (.object "java/lang/String")], returnType := none }, accessFlags := 0, code := some k2c1 }
def k2c2 : Code := { maxStack := 5, maxLocals := 1, code := prog_38_method_5_code, exceptionTable := #[], attributes := #[] }
def k2m2 : Method := { name := "readByte", desc := "()I", sig := { parameters := [], returnType := some .int }, accessFlags := 0, code := some k2c2 }
def k2c3 : Code := { maxStack := 7, maxLocals := 5, code := prog_38_method_6_code, exceptionTable := #[], attributes := #[] }
def k2m3 : Method := { name := "readWord", desc := "(I)J", sig := { parameters := [.int], returnType := some .long }, accessFlags := 0, code := some k2c3 }
def k2c4 : Code := { maxStack := 4, maxLocals := 1, code := prog_38_method_11_code, exceptionTable := #[], attributes := #[] }
def k2m4 : Method := { name := "remaining", desc := "()J", sig := { parameters := [], returnType := some .long }, accessFlags := 0, code := some k2c4 }
def k2c5 : Code := { maxStack := 4, maxLocals := 1, code := prog_38_method_13_code, exceptionTable := #[], attributes := #[] }
def k2m5 : Method := { name := "offset", desc := "()J", sig := { parameters := [], returnType := some .long }, accessFlags := 0, code := some k2c5 }
/-- com/example/invix/invix/index/ByteReader -/
def k2 : Class := { plain "com/example/invix/invix/index/ByteReader" (some 0) with
  accessFlags := 48
  interfaces := #[]
  cf := some (fileOf pool2 2 #[] #[{ accessFlags := 0, nameIndex := 5, descriptorIndex := 180, attributes := #[] }, { accessFlags := 0, nameIndex := 5, descriptorIndex := 6, attributes := #[] }, { accessFlags := 0, nameIndex := 90, descriptorIndex := 60, attributes := #[] }, { accessFlags := 0, nameIndex := 189, descriptorIndex := 190, attributes := #[] }, { accessFlags := 0, nameIndex := 109, descriptorIndex := 98, attributes := #[] }, { accessFlags := 0, nameIndex := 136, descriptorIndex := 98, attributes := #[] }] 48 8 #[] #[{ accessFlags := 26, nameIndex := 176, descriptorIndex := 34, attributes := #[] }, { accessFlags := 26, nameIndex := 179, descriptorIndex := 23, attributes := #[] }, { accessFlags := 18, nameIndex := 14, descriptorIndex := 15, attributes := #[] }, { accessFlags := 18, nameIndex := 18, descriptorIndex := 19, attributes := #[] }, { accessFlags := 18, nameIndex := 22, descriptorIndex := 23, attributes := #[] }, { accessFlags := 18, nameIndex := 26, descriptorIndex := 27, attributes := #[] }, { accessFlags := 2, nameIndex := 30, descriptorIndex := 27, attributes := #[] }, { accessFlags := 2, nameIndex := 59, descriptorIndex := 34, attributes := #[] }, { accessFlags := 2, nameIndex := 33, descriptorIndex := 34, attributes := #[] }])
  fields := #[{ name := "CHUNK", type := .int, accessFlags := 26, slot := 0, constantValue := 0 }, { name := "ENDS_EARLY", type := (.object "java/lang/String"), accessFlags := 26, slot := 1, constantValue := 0 }, { name := "channel", type := (.object "java/nio/channels/FileChannel"), accessFlags := 18, slot := 0, constantValue := 0 }, { name := "buffer", type := (.array .byte), accessFlags := 18, slot := 1, constantValue := 0 }, { name := "source", type := (.object "java/lang/String"), accessFlags := 18, slot := 2, constantValue := 0 }, { name := "end", type := .long, accessFlags := 18, slot := 3, constantValue := 0 }, { name := "next", type := .long, accessFlags := 2, slot := 4, constantValue := 0 }, { name := "position", type := .int, accessFlags := 2, slot := 5, constantValue := 0 }, { name := "limit", type := .int, accessFlags := 2, slot := 6, constantValue := 0 }]
  methods := #[k2m0, k2m1, k2m2, k2m3, k2m4, k2m5]
  instanceTypes := #[(.object "java/nio/channels/FileChannel"), (.array .byte), (.object "java/lang/String"), .long, .long, .int, .int]
  staticTypes := #[.int, (.object "java/lang/String")]
  resolved := Array.replicate 219 none
  statics := none }

def pool3 : Array CpInfo := pool [(1, .class_ 2), (0, u "java/io/Serializable"), (0, .class_ 4), (0, u "java/lang/Object")] 2

/-- java/io/Serializable -/
def k3 : Class := { plain "java/io/Serializable" (some 0) with
  accessFlags := 1537
  interfaces := #[]
  cf := some (fileOf pool3 1 #[] #[] 1537 3 #[] #[])
  fields := #[]
  methods := #[]
  instanceTypes := #[]
  staticTypes := #[]
  resolved := Array.replicate 7 none
  statics := none }

def pool4 : Array CpInfo := pool [(1, .class_ 2), (0, u "java/lang/Comparable"), (0, .class_ 4), (0, u "java/lang/Object")] 7

/-- java/lang/Comparable -/
def k4 : Class := { plain "java/lang/Comparable" (some 0) with
  accessFlags := 1537
  interfaces := #[]
  cf := some (fileOf pool4 1 #[] #[] 1537 3 #[] #[])
  fields := #[]
  methods := #[]
  instanceTypes := #[]
  staticTypes := #[]
  resolved := Array.replicate 12 none
  statics := none }

def pool5 : Array CpInfo := pool [(2, .class_ 4), (1, u "java/lang/CharSequence"), (42, .class_ 48), (0, u "java/lang/CharSequence$1CodePointIterator"), (10, .class_ 60), (0, u "java/lang/CharSequence$1CharIterator"), (5, .class_ 67), (0, u "java/lang/Object")] 63

/-- java/lang/CharSequence -/
def k5 : Class := { plain "java/lang/CharSequence" (some 0) with
  accessFlags := 1537
  interfaces := #[]
  cf := some (fileOf pool5 2 #[.nestMembers #[47, 59]] #[] 1537 66 #[] #[])
  fields := #[]
  methods := #[]
  instanceTypes := #[]
  staticTypes := #[]
  resolved := Array.replicate 131 none
  statics := none }

def pool6 : Array CpInfo := pool [(1, .class_ 2), (0, u "java/lang/constant/Constable"), (0, .class_ 4), (0, u "java/lang/Object")] 6

/-- java/lang/constant/Constable -/
def k6 : Class := { plain "java/lang/constant/Constable" (some 0) with
  accessFlags := 1537
  interfaces := #[]
  cf := some (fileOf pool6 1 #[] #[] 1537 3 #[] #[])
  fields := #[]
  methods := #[]
  instanceTypes := #[]
  staticTypes := #[]
  resolved := Array.replicate 11 none
  statics := none }

def pool7 : Array CpInfo := pool [(1, .class_ 2), (0, u "java/lang/constant/ConstantDesc"), (0, .class_ 4), (0, u "java/lang/Object")] 32

/-- java/lang/constant/ConstantDesc -/
def k7 : Class := { plain "java/lang/constant/ConstantDesc" (some 0) with
  accessFlags := 1537
  interfaces := #[]
  cf := some (fileOf pool7 1 #[] #[] 1537 3 #[] #[])
  fields := #[]
  methods := #[]
  instanceTypes := #[]
  staticTypes := #[]
  resolved := Array.replicate 37 none
  statics := none }

def pool8 : Array CpInfo := pool [(2, .class_ 4), (1, u "java/lang/Object"), (0, u "<init>"), (0, u "()V"), (3, .class_ 12), (1, u "java/lang/String"), (0, u "value"), (0, u "[B"), (2, u "coder"), (0, u "B"), (2, u "hash"), (0, u "I"), (2, u "hashIsZero"), (0, u "Z"), (13, u "COMPACT_STRINGS"), (534, .class_ 576), (0, u "java/lang/CharSequence"), (22, u "CASE_INSENSITIVE_ORDER"), (0, u "Ljava/util/Comparator;"), (500, u "serialPersistentFields"), (0, u "[Ljava/io/ObjectStreamField;"), (0, .class_ 1104), (0, u "java/lang/String$CaseInsensitiveComparator"), (1, .class_ 1107), (0, u "java/io/Serializable"), (0, .class_ 1109), (0, u "java/lang/Comparable"), (0, .class_ 1111), (0, u "java/lang/constant/Constable"), (0, .class_ 1113), (0, u "java/lang/constant/ConstantDesc"), (2, u "serialVersionUID"), (0, u "J"), (3, u "REPL"), (0, u "C"), (2, u "LATIN1"), (1, u "UTF16")] 323

def k8m0 : Method := { name := "<init>", desc := "()V", sig := { parameters := [], returnType := none }, accessFlags := 1, code := none }
/-- java/lang/String -/
def k8 : Class := { plain "java/lang/String" (some 0) with
  accessFlags := 49
  interfaces := #[3, 4, 5, 6, 7]
  cf := some (fileOf pool8 10 #[.nestMembers #[1103]] #[{ accessFlags := 1, nameIndex := 5, descriptorIndex := 6, attributes := #[] }] 49 2 #[1106, 1108, 575, 1110, 1112] #[{ accessFlags := 18, nameIndex := 13, descriptorIndex := 14, attributes := #[] }, { accessFlags := 18, nameIndex := 17, descriptorIndex := 18, attributes := #[] }, { accessFlags := 2, nameIndex := 21, descriptorIndex := 22, attributes := #[] }, { accessFlags := 2, nameIndex := 25, descriptorIndex := 26, attributes := #[] }, { accessFlags := 26, nameIndex := 1116, descriptorIndex := 1117, attributes := #[] }, { accessFlags := 24, nameIndex := 40, descriptorIndex := 26, attributes := #[] }, { accessFlags := 26, nameIndex := 1101, descriptorIndex := 1102, attributes := #[] }, { accessFlags := 26, nameIndex := 1121, descriptorIndex := 1122, attributes := #[] }, { accessFlags := 25, nameIndex := 599, descriptorIndex := 600, attributes := #[] }, { accessFlags := 24, nameIndex := 1125, descriptorIndex := 18, attributes := #[] }, { accessFlags := 24, nameIndex := 1127, descriptorIndex := 18, attributes := #[] }])
  fields := #[{ name := "value", type := (.array .byte), accessFlags := 18, slot := 0, constantValue := 0 }, { name := "coder", type := .byte, accessFlags := 18, slot := 1, constantValue := 0 }, { name := "hash", type := .int, accessFlags := 2, slot := 2, constantValue := 0 }, { name := "hashIsZero", type := .boolean, accessFlags := 2, slot := 3, constantValue := 0 }, { name := "serialVersionUID", type := .long, accessFlags := 26, slot := 0, constantValue := 0 }, { name := "COMPACT_STRINGS", type := .boolean, accessFlags := 24, slot := 1, constantValue := 0 }, { name := "serialPersistentFields", type := (.array (.object "java/io/ObjectStreamField")), accessFlags := 26, slot := 2, constantValue := 0 }, { name := "REPL", type := .char, accessFlags := 26, slot := 3, constantValue := 0 }, { name := "CASE_INSENSITIVE_ORDER", type := (.object "java/util/Comparator"), accessFlags := 25, slot := 4, constantValue := 0 }, { name := "LATIN1", type := .byte, accessFlags := 24, slot := 5, constantValue := 0 }, { name := "UTF16", type := .byte, accessFlags := 24, slot := 6, constantValue := 0 }]
  methods := #[k8m0]
  instanceTypes := #[(.array .byte), .byte, .int, .boolean]
  staticTypes := #[.long, .boolean, (.array (.object "java/io/ObjectStreamField")), .char, (.object "java/util/Comparator"), .byte, .byte]
  resolved := Array.replicate 1451 none
  statics := none }

def pool9 : Array CpInfo := pool [(1, u "java/lang/Cloneable"), (0, .class_ 1), (0, u "java/lang/Object"), (0, .class_ 3)] 3

/-- java/lang/Cloneable -/
def k9 : Class := { plain "java/lang/Cloneable" (some 0) with
  accessFlags := 1537
  interfaces := #[]
  cf := some (fileOf pool9 2 #[] #[] 1537 4 #[] #[])
  fields := #[]
  methods := #[]
  instanceTypes := #[]
  staticTypes := #[]
  resolved := Array.replicate 8 none
  statics := none }

/-- the primitive byte -/
def k10 : Class := { plain "byte" none with kind := .primitive 'B', accessFlags := 0x411 }
/-- [B -/
def k11 : Class := { plain "[B" (some 0) with kind := .array 10 .byte, interfaces := #[9, 3], accessFlags := 1041 }

/-- the primitive int -/
def k12 : Class := { plain "int" none with kind := .primitive 'I', accessFlags := 0x411 }
/-- [I -/
def k13 : Class := { plain "[I" (some 0) with kind := .array 12 .int, interfaces := #[9, 3], accessFlags := 1041 }

def heap : Heap := #[]
def classes : Array Class := #[k0, k1, k2, k3, k4, k5, k6, k7, k8, k9, k10, k11, k12, k13]
def interned : List (Array UInt16 × Addr) := []
def slotsUsed : Nat := 0
def theMethod : MethodId := ⟨1, 1⟩
def args0 : Array Value := #[.int 5, .int 1, .long 3]
def aboutOver (below : List Frame) : State where
  vm := { classes := classes, interned := interned.toArray }
  heap := heap
  slotsUsed := slotsUsed
  threads := #[{ frames := .invoking theMethod args0 :: below }]
def below0 : List Frame := [.native { method := ⟨0, 0⟩, args := #[] }]
def about1 : State := aboutOver below0
def p0 : Program := .bare "" "" ""
def e0 : Env := launch0.env 0 0 0
theorem w_frames : about1.frames = Frame.invoking theMethod args0 :: below0 := rfl
set_option maxRecDepth 65536 in
theorem w_args : argsFit about1.vm theMethod args0 = true := by decide +kernel
set_option maxRecDepth 65536 in
theorem w_heap : heapFits about1 = true := by decide +kernel
set_option maxRecDepth 65536 in
theorem w_runnable : about1.curStatus? = some .runnable := by decide +kernel
set_option maxRecDepth 65536 in
theorem w_alone : about1.alone = true := by decide +kernel
set_option maxRecDepth 65536 in
theorem w_named : about1.methodNamed? x = some theMethod := by decide +kernel
set_option maxRecDepth 65536 in
theorem w_hears : about1.hears theMethod below0 = true := by decide +kernel
set_option maxRecDepth 65536 in
theorem w_ripe : about1.ripe theMethod args0 below0 = true := by decide +kernel
theorem w_running : about1.status = .running := rfl
set_option maxRecDepth 65536 in
theorem w_room : about1.hasRoom e0.platform room_1 = true :=
  launch0.hasRoom_least _ room_1 (by decide +kernel) (by decide +kernel) (by decide +kernel) (by decide +kernel) (by decide +kernel) (by decide +kernel)
theorem allAtoms_all (ts : List Jvm.Cond) (a : Array Jvm.Value) (st : Jvm.State) : (allAtoms ts).before a st = ts.all (fun c => c.before a st) := by
  induction ts with
  | nil => rfl
  | cons c t ih =>
    show (Jvm.Cond.and c (allAtoms t)).before a st = _
    rw [Jvm.Cond.before_and, ih, List.all_cons]
def words1 : List Jvm.Cond := Jvm.Cond.code x code maxLocals ret :: tables_1
/-- a 'code' word, met by the world's own term for the bytes: nothing is compared byte by byte -/
theorem code_word {y : MethodName} {bytes : ByteArray} {mx : Nat} {rt : Option FieldType} {a : Array Value} {s : State} {m : MethodId} {meth : Method} {c : Code} (h1 : s.methodNamed? y = some m) (h2 : s.vm.method? m = some meth) (h3 : meth.code = some c) (h4 : c.code = bytes)
    (h5 : (c.maxLocals == mx && c.exceptionTable.isEmpty && decide (c.maxStack ≤ mostOperands) && decide (meth.sig.returnType = rt) && !meth.locks && decide (parseMethodDescriptor y.desc = some meth.sig)) = true) : (Jvm.Cond.code y bytes mx rt).before a s = true := by
  simp only [Bool.and_eq_true, beq_iff_eq, Bool.not_eq_true', decide_eq_true_eq] at h5
  obtain ⟨⟨⟨⟨⟨g1, g2⟩, g3⟩, g4⟩, g5⟩, g6⟩ := h5
  simp [Cond.before, Cond.holds, Cond.value, h1, h2, h3, h4, g1, g2, g3, g4, g5, g6]
def isCode : Jvm.Cond → Bool
  | .code _ _ _ _ => true
  | _ => false
theorem all_split {L : List Jvm.Cond} {P : Jvm.Cond → Bool} (h1 : L.all (fun c => isCode c || P c) = true) (h2 : ∀ c ∈ L.filter isCode, P c = true) : L.all P = true := by
  refine List.all_eq_true.mpr fun c hc => ?_
  have h := List.all_eq_true.mp h1 c hc
  rcases Bool.eq_false_or_eq_true (isCode c) with hi | hi
  · exact h2 c (List.mem_filter.mpr ⟨hc, hi⟩)
  · simpa [hi] using h
set_option maxRecDepth 65536 in
theorem w_c0 : (Jvm.Cond.code x code maxLocals ret).before args0 about1 = true := code_word (m := ⟨1, 1⟩) (meth := k1m1) (c := k1c1) (by decide +kernel) rfl rfl rfl (by decide +kernel)
set_option maxRecDepth 65536 in
theorem w_c1 : (Jvm.Cond.code ({ cls := "com/example/invix/invix/index/ByteReader", name := "<init>", desc := "([BLjava/lang/String;)V" } : Jvm.MethodName) prog_38_method_1_code (3 : Nat) (Option.none : Option Jvm.ClassFile.FieldType)).before args0 about1 = true := code_word (m := ⟨2, 0⟩) (meth := k2m0) (c := k2c0) (by decide +kernel) rfl rfl rfl (by decide +kernel)
set_option maxRecDepth 65536 in
theorem w_c2 : (Jvm.Cond.code ({ cls := "com/example/invix/invix/index/ByteReader", name := "<init>", desc := "([BILjava/lang/String;)V" } : Jvm.MethodName) prog_38_method_2_code (4 : Nat) (Option.none : Option Jvm.ClassFile.FieldType)).before args0 about1 = true := code_word (m := ⟨2, 1⟩) (meth := k2m1) (c := k2c1) (by decide +kernel) rfl rfl rfl (by decide +kernel)
set_option maxRecDepth 65536 in
theorem w_c3 : (Jvm.Cond.code ({ cls := "java/lang/Object", name := "<init>", desc := "()V" } : Jvm.MethodName) object_method_1_code (1 : Nat) (Option.none : Option Jvm.ClassFile.FieldType)).before args0 about1 = true := code_word (m := ⟨0, 0⟩) (meth := k0m0) (c := k0c0) (by decide +kernel) rfl rfl rfl (by decide +kernel)
set_option maxRecDepth 65536 in
theorem w_c4 : (Jvm.Cond.code ({ cls := "com/example/invix/invix/index/ByteReader", name := "offset", desc := "()J" } : Jvm.MethodName) prog_38_method_13_code (1 : Nat) (Option.some Jvm.ClassFile.FieldType.long)).before args0 about1 = true := code_word (m := ⟨2, 5⟩) (meth := k2m5) (c := k2c5) (by decide +kernel) rfl rfl rfl (by decide +kernel)
set_option maxRecDepth 65536 in
theorem w_c5 : (Jvm.Cond.code ({ cls := "com/example/invix/invix/index/ByteReader", name := "readWord", desc := "(I)J" } : Jvm.MethodName) prog_38_method_6_code (5 : Nat) (Option.some Jvm.ClassFile.FieldType.long)).before args0 about1 = true := code_word (m := ⟨2, 3⟩) (meth := k2m3) (c := k2c3) (by decide +kernel) rfl rfl rfl (by decide +kernel)
set_option maxRecDepth 65536 in
theorem w_c6 : (Jvm.Cond.code ({ cls := "com/example/invix/invix/index/ByteReader", name := "readByte", desc := "()I" } : Jvm.MethodName) prog_38_method_5_code (1 : Nat) (Option.some Jvm.ClassFile.FieldType.int)).before args0 about1 = true := code_word (m := ⟨2, 2⟩) (meth := k2m2) (c := k2c2) (by decide +kernel) rfl rfl rfl (by decide +kernel)
set_option maxRecDepth 65536 in
theorem w_c7 : (Jvm.Cond.code ({ cls := "com/example/invix/invix/index/ByteReader", name := "remaining", desc := "()J" } : Jvm.MethodName) prog_38_method_11_code (1 : Nat) (Option.some Jvm.ClassFile.FieldType.long)).before args0 about1 = true := code_word (m := ⟨2, 4⟩) (meth := k2m4) (c := k2c4) (by decide +kernel) rfl rfl rfl (by decide +kernel)
def codes1 : List Jvm.Cond := [Jvm.Cond.code x code maxLocals ret, Jvm.Cond.code ({ cls := "com/example/invix/invix/index/ByteReader", name := "<init>", desc := "([BLjava/lang/String;)V" } : Jvm.MethodName) prog_38_method_1_code (3 : Nat) (Option.none : Option Jvm.ClassFile.FieldType), Jvm.Cond.code ({ cls := "com/example/invix/invix/index/ByteReader", name := "<init>", desc := "([BILjava/lang/String;)V" } : Jvm.MethodName) prog_38_method_2_code (4 : Nat) (Option.none : Option Jvm.ClassFile.FieldType), Jvm.Cond.code ({ cls := "java/lang/Object", name := "<init>", desc := "()V" } : Jvm.MethodName) object_method_1_code (1 : Nat) (Option.none : Option Jvm.ClassFile.FieldType), Jvm.Cond.code ({ cls := "com/example/invix/invix/index/ByteReader", name := "offset", desc := "()J" } : Jvm.MethodName) prog_38_method_13_code (1 : Nat) (Option.some Jvm.ClassFile.FieldType.long), Jvm.Cond.code ({ cls := "com/example/invix/invix/index/ByteReader", name := "readWord", desc := "(I)J" } : Jvm.MethodName) prog_38_method_6_code (5 : Nat) (Option.some Jvm.ClassFile.FieldType.long), Jvm.Cond.code ({ cls := "com/example/invix/invix/index/ByteReader", name := "readByte", desc := "()I" } : Jvm.MethodName) prog_38_method_5_code (1 : Nat) (Option.some Jvm.ClassFile.FieldType.int), Jvm.Cond.code ({ cls := "com/example/invix/invix/index/ByteReader", name := "remaining", desc := "()J" } : Jvm.MethodName) prog_38_method_11_code (1 : Nat) (Option.some Jvm.ClassFile.FieldType.long)]
set_option maxRecDepth 65536 in
theorem codes_eq : words1.filter isCode = codes1 := rfl
theorem w_codes : ∀ c ∈ words1.filter isCode, c.before args0 about1 = true := by
  rw [codes_eq]
  intro c hc
  simp only [codes1, List.mem_cons, List.not_mem_nil, or_false] at hc
  rcases hc with rfl | rfl | rfl | rfl | rfl | rfl | rfl | rfl
  · exact w_c0
  · exact w_c1
  · exact w_c2
  · exact w_c3
  · exact w_c4
  · exact w_c5
  · exact w_c6
  · exact w_c7
set_option maxRecDepth 65536 in
theorem w_t1 : (words1.take 24).all (fun c => isCode c || c.before args0 about1) = true := by decide +kernel
set_option maxRecDepth 65536 in
theorem w_t2 : ((words1.drop 24).take 24).all (fun c => isCode c || c.before args0 about1) = true := by decide +kernel
set_option maxRecDepth 65536 in
theorem w_t3 : ((words1.drop 24).drop 24).all (fun c => isCode c || c.before args0 about1) = true := by decide +kernel
theorem w_tables : (allAtoms (Jvm.Cond.code x code maxLocals ret :: tables_1)).before args0 about1 = true := by
  rw [allAtoms_all]
  show words1.all (fun c => c.before args0 about1) = true
  refine all_split ?_ w_codes
  rw [← List.take_append_drop 24 words1, List.all_append, w_t1, ← List.take_append_drop 24 (words1.drop 24), List.all_append, w_t2, w_t3]
  rfl
set_option maxRecDepth 65536 in
theorem w_case : (Jvm.Cond.and given_1 narrow_1).before args0 about1 = true := by decide +kernel
theorem w_applies : (headSpec (Jvm.Cond.code x code maxLocals ret :: tables_1) room_1).applies x e0.platform about1 = true :=
  (Spec.applies_iff w_frames).mpr ⟨w_running, w_runnable, w_alone, w_named, w_hears, w_ripe, w_room, w_tables⟩
theorem atStart : AtStart classFile x code maxLocals ret World_1 tables_1 room_1 Calls_1 rest_1 Pre_1 launch0 p0 e0 about1 theMethod args0 below0 :=
  ⟨lists_1, trivial, launch0.admits_env _ _ _, launch0.least_env, fairChoices_fair.cas, fairChoices_fair.clock, w_frames, w_args, w_heap, w_applies, trivial, trivial, w_case⟩
end start1
theorem witness_1 : WitnessClaimed_1 := ⟨start1.p0, start1.e0, start1.about1, start1.theMethod, start1.args0, start1.below0, start1.atStart⟩
end Jvm.Pilot.@@N@@
