import JvmDerived
import JvmDerived.Pilot.@@N@@Statement
import JvmDerived.Pilot.@@N@@Code
set_option linter.unusedVariables false
set_option linter.unusedSimpArgs false

namespace Jvm.Own
open Sem ClassFile Op Lib Jvm.Stand Jvm.Free Jvm.LawKit Jvm.RoadKit
def Go (p : Program) (e : Env) (below : List Frame) (G : State → Outcome → Prop) (σ : State) : Prop := ∃ s₂ o, Steps p.tables e below σ s₂ ∧ s₂.status = .running ∧ Ended s₂ below o ∧ G s₂ o
theorem Go.step {p : Program} {e : Env} {below : List Frame} {G : State → Outcome → Prop} {σ σ' : State} (h : ∀ t, Steps p.tables e below σ' t → Steps p.tables e below σ t) (k : Go p e below G σ') : Go p e below G σ := by
  obtain ⟨s₂, o, h1, h2⟩ := k
  exact ⟨s₂, o, h _ h1, h2⟩
def RetG (s : State) (Q : Option Value → Heap → List Loc → Prop) (cells slots : Nat) (s₂ : State) (o : Outcome) : Prop := ∃ v L, o = .returned v ∧ Q v s₂.heap L ∧ FrameEnd s o s₂ L cells slots
section
variable {p : Program} {l : Launch} {e : Env} {R : Room} {s : State} {m : MethodId} {args : Array Value} {below : List Frame} {meth : Method} {c : Code} {T : State} {locs : List Loc} {k n : Nat} {G : State → Outcome → Prop} {code : ByteArray} {pc : Nat} {Ls : Array Slot} {st : List Value} {Z : State} {a0 : Array Value} {h : Heap} {n0 : Nat}
theorem Go.leave (X : Stand p l e R s m args below meth c T locs k n) {v : Option Value} (hv : meth.sig.returnType = none → v = none) (hlocks : meth.locks = false) {Q : Option Value → Heap → List Loc → Prop} {cells slots : Nat} {σ : State} (eT : T.heap = h) (hq : Q v h locs) (hk : k ≤ cells) (hn : n ≤ slots)
    (st : ∀ fs, (∀ (f : JFrame) (acts : List Action), f.method = m → f.locked = none → f.entered = [] → (doReturn e (T.setTop f) acts v).1 = T.setFrames fs) → Steps p.tables e below σ (T.setFrames fs)) : Go p e below (RetG s Q cells slots) σ := by
  obtain ⟨fs, hr, hrun, hended, hW, hsame⟩ := X.leave (v := v) hv hlocks
  subst eT
  exact ⟨_, _, st fs hr, hrun, hended, _, _, rfl, hq, ⟨_, rfl⟩, hW, hsame.mono hk hn⟩
/-- null or some object -/
def Rf (v : Value) : Prop := v = .null ∨ ∃ a, v = .ref a
theorem Rf.is {v : Value} (r : Rf v) : v.isRef = true := by rcases r with rfl | ⟨a, rfl⟩ <;> rfl
theorem Rf.cat {v : Value} (r : Rf v) : v.category = 1 := by rcases r with rfl | ⟨a, rfl⟩ <;> rfl
theorem Rf.nar {v : Value} (r : Rf v) {c : String} : narrow (.object c) v = v := by rcases r with rfl | ⟨a, rfl⟩ <;> rfl
theorem Rf.fit {v : Value} (r : Rf v) {c : String} : fits (.object c) v = true := by rcases r with rfl | ⟨a, rfl⟩ <;> rfl
theorem Rf.store {v : Value} (r : Rf v) {ls ls' : Array Slot} {i : Nat} {o : Slot} (hold : ls[i]? = some o) (ho : One o) (hl : ls.setIfInBounds i (.val v) = ls') : storeLocals ls i v = some ls' := by rw [XS.store1 hold ho r.cat, hl]
theorem Rf.of {v : Value} (h : v.isRef = true) : Rf v := ref_cases h
theorem selOf {U : State} {as : Array Value} {y : MethodName} {n : Nat} (wi : (Cond.instantiable y.cls n).before as U = true) (wp : (Cond.privateMethod y).before #[] U = true) (wm : (Cond.instanceMethod y).before as U = true) (hy : y.cls ≠ "java/lang/invoke/MethodHandle" ∧ y.cls ≠ "java/lang/invoke/VarHandle") : (Cond.selects y.cls y y).before as U = true := by
  obtain ⟨c, k, h1, h2, -, h4, -⟩ := Cond.instantiable_spec wi
  exact selects_self_of_private h1 h2 (Bool.or_eq_false_iff.mp h4).1 (Cond.privateMethod_at wp) wm hy
theorem g_iload (X : Stand p l e R s m args below meth c T locs k n) (hx : p.tables.exec = Jvm.exec) (hby : c.code = code) {j : Nat} {v : Int32} (hd : decode code pc = .ok (.iload j, 2)) (hl : Ls[j]? = some (.val (.int v))) (K : Go p e below G (T.setTop (mkF m (pc + 2) Ls (.int v :: st)))) : Go p e below G (T.setTop (mkF m pc Ls st)) := Go.step (fun t q => XS.iload X.here hx rfl (hb hby hd) hl q) K
theorem g_iloadN (X : Stand p l e R s m args below meth c T locs k n) (hx : p.tables.exec = Jvm.exec) (hby : c.code = code) {j : Fin 4} {v : Int32} (hd : decode code pc = .ok (.iload_n j, 1)) (hl : Ls[j.val]? = some (.val (.int v))) (K : Go p e below G (T.setTop (mkF m (pc + 1) Ls (.int v :: st)))) : Go p e below G (T.setTop (mkF m pc Ls st)) := Go.step (fun t q => XS.iloadN X.here hx rfl (hb hby hd) hl q) K
theorem g_lload (X : Stand p l e R s m args below meth c T locs k n) (hx : p.tables.exec = Jvm.exec) (hby : c.code = code) {j : Nat} {v : Int64} (hd : decode code pc = .ok (.lload j, 2)) (hl : Ls[j]? = some (.val (.long v))) (K : Go p e below G (T.setTop (mkF m (pc + 2) Ls (.long v :: st)))) : Go p e below G (T.setTop (mkF m pc Ls st)) := Go.step (fun t q => XS.lload X.here hx rfl (hb hby hd) hl q) K
theorem g_lloadN (X : Stand p l e R s m args below meth c T locs k n) (hx : p.tables.exec = Jvm.exec) (hby : c.code = code) {j : Fin 4} {v : Int64} (hd : decode code pc = .ok (.lload_n j, 1)) (hl : Ls[j.val]? = some (.val (.long v))) (K : Go p e below G (T.setTop (mkF m (pc + 1) Ls (.long v :: st)))) : Go p e below G (T.setTop (mkF m pc Ls st)) := Go.step (fun t q => XS.lloadN X.here hx rfl (hb hby hd) hl q) K
theorem g_aload (X : Stand p l e R s m args below meth c T locs k n) (hx : p.tables.exec = Jvm.exec) (hby : c.code = code) {j : Nat} {v : Value} (hd : decode code pc = .ok (.aload j, 2)) (hl : Ls[j]? = some (.val v)) (hv : v.isRef = true) (K : Go p e below G (T.setTop (mkF m (pc + 2) Ls (v :: st)))) : Go p e below G (T.setTop (mkF m pc Ls st)) := Go.step (fun t q => XS.aload X.here hx rfl (hb hby hd) hl hv q) K
theorem g_aloadN (X : Stand p l e R s m args below meth c T locs k n) (hx : p.tables.exec = Jvm.exec) (hby : c.code = code) {j : Fin 4} {v : Value} (hd : decode code pc = .ok (.aload_n j, 1)) (hl : Ls[j.val]? = some (.val v)) (hv : v.isRef = true) (K : Go p e below G (T.setTop (mkF m (pc + 1) Ls (v :: st)))) : Go p e below G (T.setTop (mkF m pc Ls st)) := Go.step (fun t q => XS.aloadN X.here hx rfl (hb hby hd) hl hv q) K
theorem g_istore (X : Stand p l e R s m args below meth c T locs k n) (hx : p.tables.exec = Jvm.exec) (hby : c.code = code) {j : Nat} {x : Int32} {rest : List Value} {l' : Array Slot} (hd : decode code pc = .ok (.istore j, 2)) (hl : storeLocals Ls j (.int x) = some l') (K : Go p e below G (T.setTop (mkF m (pc + 2) l' rest))) : Go p e below G (T.setTop (mkF m pc Ls (.int x :: rest))) := Go.step (fun t q => XS.istore X.here hx rfl (hb hby hd) rfl hl q) K
theorem g_istoreN (X : Stand p l e R s m args below meth c T locs k n) (hx : p.tables.exec = Jvm.exec) (hby : c.code = code) {j : Fin 4} {x : Int32} {rest : List Value} {l' : Array Slot} (hd : decode code pc = .ok (.istore_n j, 1)) (hl : storeLocals Ls j.val (.int x) = some l') (K : Go p e below G (T.setTop (mkF m (pc + 1) l' rest))) : Go p e below G (T.setTop (mkF m pc Ls (.int x :: rest))) := Go.step (fun t q => XS.istoreN X.here hx rfl (hb hby hd) rfl hl q) K
theorem g_lstore (X : Stand p l e R s m args below meth c T locs k n) (hx : p.tables.exec = Jvm.exec) (hby : c.code = code) {j : Nat} {x : Int64} {rest : List Value} {l' : Array Slot} (hd : decode code pc = .ok (.lstore j, 2)) (hl : storeLocals Ls j (.long x) = some l') (K : Go p e below G (T.setTop (mkF m (pc + 2) l' rest))) : Go p e below G (T.setTop (mkF m pc Ls (.long x :: rest))) := Go.step (fun t q => XS.lstore X.here hx rfl (hb hby hd) rfl hl q) K
theorem g_lstoreN (X : Stand p l e R s m args below meth c T locs k n) (hx : p.tables.exec = Jvm.exec) (hby : c.code = code) {j : Fin 4} {x : Int64} {rest : List Value} {l' : Array Slot} (hd : decode code pc = .ok (.lstore_n j, 1)) (hl : storeLocals Ls j.val (.long x) = some l') (K : Go p e below G (T.setTop (mkF m (pc + 1) l' rest))) : Go p e below G (T.setTop (mkF m pc Ls (.long x :: rest))) := Go.step (fun t q => XS.lstoreN X.here hx rfl (hb hby hd) rfl hl q) K
theorem g_astore (X : Stand p l e R s m args below meth c T locs k n) (hx : p.tables.exec = Jvm.exec) (hby : c.code = code) {j : Nat} {x : Value} {rest : List Value} {l' : Array Slot} (hd : decode code pc = .ok (.astore j, 2)) (hv : x.isRef = true) (hl : storeLocals Ls j x = some l') (K : Go p e below G (T.setTop (mkF m (pc + 2) l' rest))) : Go p e below G (T.setTop (mkF m pc Ls (x :: rest))) := Go.step (fun t q => XS.astore X.here hx rfl (hb hby hd) rfl hv hl q) K
theorem g_astoreN (X : Stand p l e R s m args below meth c T locs k n) (hx : p.tables.exec = Jvm.exec) (hby : c.code = code) {j : Fin 4} {x : Value} {rest : List Value} {l' : Array Slot} (hd : decode code pc = .ok (.astore_n j, 1)) (hv : x.isRef = true) (hl : storeLocals Ls j.val x = some l') (K : Go p e below G (T.setTop (mkF m (pc + 1) l' rest))) : Go p e below G (T.setTop (mkF m pc Ls (x :: rest))) := Go.step (fun t q => XS.astoreN X.here hx rfl (hb hby hd) rfl hv hl q) K
theorem g_iconst (X : Stand p l e R s m args below meth c T locs k n) (hx : p.tables.exec = Jvm.exec) (hby : c.code = code) {i : Int} (v : Int32) (hd : decode code pc = .ok (.iconst i, 1)) (hv : Int32.ofInt i = v) (K : Go p e below G (T.setTop (mkF m (pc + 1) Ls (.int v :: st)))) : Go p e below G (T.setTop (mkF m pc Ls st)) := Go.step (fun t q => XS.iconst X.here hx rfl (hb hby hd) (by rw [hv]; exact q)) K
theorem g_bipush (X : Stand p l e R s m args below meth c T locs k n) (hx : p.tables.exec = Jvm.exec) (hby : c.code = code) {i : Int} (v : Int32) (hd : decode code pc = .ok (.bipush i, 2)) (hv : (Int8.ofInt i).toInt32 = v) (K : Go p e below G (T.setTop (mkF m (pc + 2) Ls (.int v :: st)))) : Go p e below G (T.setTop (mkF m pc Ls st)) := Go.step (fun t q => XS.bipush X.here hx rfl (hb hby hd) (by rw [hv]; exact q)) K
theorem g_sipush (X : Stand p l e R s m args below meth c T locs k n) (hx : p.tables.exec = Jvm.exec) (hby : c.code = code) {i : Int} (v : Int32) (hd : decode code pc = .ok (.sipush i, 3)) (hv : (Int16.ofInt i).toInt32 = v) (K : Go p e below G (T.setTop (mkF m (pc + 3) Ls (.int v :: st)))) : Go p e below G (T.setTop (mkF m pc Ls st)) := Go.step (fun t q => XS.sipush X.here hx rfl (hb hby hd) (by rw [hv]; exact q)) K
theorem g_lconst (X : Stand p l e R s m args below meth c T locs k n) (hx : p.tables.exec = Jvm.exec) (hby : c.code = code) {j : Fin 2} (v : Int64) (hd : decode code pc = .ok (.lconst j, 1)) (hv : Int64.ofNat j = v) (K : Go p e below G (T.setTop (mkF m (pc + 1) Ls (.long v :: st)))) : Go p e below G (T.setTop (mkF m pc Ls st)) := Go.step (fun t q => XS.lconst X.here hx rfl (hb hby hd) (by rw [hv]; exact q)) K
theorem g_topI {x : Int32} (y : Int32) (q : x = y) {rest : List Value} (K : Go p e below G (T.setTop (mkF m pc Ls (.int y :: rest)))) : Go p e below G (T.setTop (mkF m pc Ls (.int x :: rest))) := q ▸ K
theorem g_topJ {x : Int64} (y : Int64) (q : x = y) {rest : List Value} (K : Go p e below G (T.setTop (mkF m pc Ls (.long y :: rest)))) : Go p e below G (T.setTop (mkF m pc Ls (.long x :: rest))) := q ▸ K
theorem g_at {ls ls' : Array Slot} {st' : List Value} (pc' : Nat) (h1 : pc = pc') (h2 : ls = ls') (h3 : st = st') (K : Go p e below G (T.setTop (mkF m pc' ls' st'))) : Go p e below G (T.setTop (mkF m pc ls st)) := h1 ▸ h2 ▸ h3 ▸ K
theorem g_aconst_null (X : Stand p l e R s m args below meth c T locs k n) (hx : p.tables.exec = Jvm.exec) (hby : c.code = code)  (hd : decode code pc = .ok (.aconst_null, 1)) (K : Go p e below G (T.setTop (mkF m (pc + 1) Ls (.null :: st)))) : Go p e below G (T.setTop (mkF m pc Ls st)) := Go.step (fun t q => XS.aconstNull X.here hx rfl (hb hby hd)  q) K
theorem g_iadd (X : Stand p l e R s m args below meth c T locs k n) (hx : p.tables.exec = Jvm.exec) (hby : c.code = code) {x y : Int32} {rest : List Value} (hd : decode code pc = .ok (.iadd, 1)) (K : Go p e below G (T.setTop (mkF m (pc + 1) Ls (.int (x + y) :: rest)))) : Go p e below G (T.setTop (mkF m pc Ls (.int y :: .int x :: rest))) := Go.step (fun t q => XS.iadd X.here hx rfl (hb hby hd) rfl q) K
theorem g_ladd (X : Stand p l e R s m args below meth c T locs k n) (hx : p.tables.exec = Jvm.exec) (hby : c.code = code) {x y : Int64} {rest : List Value} (hd : decode code pc = .ok (.ladd, 1)) (K : Go p e below G (T.setTop (mkF m (pc + 1) Ls (.long (x + y) :: rest)))) : Go p e below G (T.setTop (mkF m pc Ls (.long y :: .long x :: rest))) := Go.step (fun t q => XS.ladd X.here hx rfl (hb hby hd) rfl q) K
theorem g_isub (X : Stand p l e R s m args below meth c T locs k n) (hx : p.tables.exec = Jvm.exec) (hby : c.code = code) {x y : Int32} {rest : List Value} (hd : decode code pc = .ok (.isub, 1)) (K : Go p e below G (T.setTop (mkF m (pc + 1) Ls (.int (x - y) :: rest)))) : Go p e below G (T.setTop (mkF m pc Ls (.int y :: .int x :: rest))) := Go.step (fun t q => XS.isub X.here hx rfl (hb hby hd) rfl q) K
theorem g_lsub (X : Stand p l e R s m args below meth c T locs k n) (hx : p.tables.exec = Jvm.exec) (hby : c.code = code) {x y : Int64} {rest : List Value} (hd : decode code pc = .ok (.lsub, 1)) (K : Go p e below G (T.setTop (mkF m (pc + 1) Ls (.long (x - y) :: rest)))) : Go p e below G (T.setTop (mkF m pc Ls (.long y :: .long x :: rest))) := Go.step (fun t q => XS.lsub X.here hx rfl (hb hby hd) rfl q) K
theorem g_imul (X : Stand p l e R s m args below meth c T locs k n) (hx : p.tables.exec = Jvm.exec) (hby : c.code = code) {x y : Int32} {rest : List Value} (hd : decode code pc = .ok (.imul, 1)) (K : Go p e below G (T.setTop (mkF m (pc + 1) Ls (.int (x * y) :: rest)))) : Go p e below G (T.setTop (mkF m pc Ls (.int y :: .int x :: rest))) := Go.step (fun t q => XS.imul X.here hx rfl (hb hby hd) rfl q) K
theorem g_lmul (X : Stand p l e R s m args below meth c T locs k n) (hx : p.tables.exec = Jvm.exec) (hby : c.code = code) {x y : Int64} {rest : List Value} (hd : decode code pc = .ok (.lmul, 1)) (K : Go p e below G (T.setTop (mkF m (pc + 1) Ls (.long (x * y) :: rest)))) : Go p e below G (T.setTop (mkF m pc Ls (.long y :: .long x :: rest))) := Go.step (fun t q => XS.lmul X.here hx rfl (hb hby hd) rfl q) K
theorem g_iand (X : Stand p l e R s m args below meth c T locs k n) (hx : p.tables.exec = Jvm.exec) (hby : c.code = code) {x y : Int32} {rest : List Value} (hd : decode code pc = .ok (.iand, 1)) (K : Go p e below G (T.setTop (mkF m (pc + 1) Ls (.int (x &&& y) :: rest)))) : Go p e below G (T.setTop (mkF m pc Ls (.int y :: .int x :: rest))) := Go.step (fun t q => XS.iand X.here hx rfl (hb hby hd) rfl q) K
theorem g_land (X : Stand p l e R s m args below meth c T locs k n) (hx : p.tables.exec = Jvm.exec) (hby : c.code = code) {x y : Int64} {rest : List Value} (hd : decode code pc = .ok (.land, 1)) (K : Go p e below G (T.setTop (mkF m (pc + 1) Ls (.long (x &&& y) :: rest)))) : Go p e below G (T.setTop (mkF m pc Ls (.long y :: .long x :: rest))) := Go.step (fun t q => XS.land X.here hx rfl (hb hby hd) rfl q) K
theorem g_ior (X : Stand p l e R s m args below meth c T locs k n) (hx : p.tables.exec = Jvm.exec) (hby : c.code = code) {x y : Int32} {rest : List Value} (hd : decode code pc = .ok (.ior, 1)) (K : Go p e below G (T.setTop (mkF m (pc + 1) Ls (.int (x ||| y) :: rest)))) : Go p e below G (T.setTop (mkF m pc Ls (.int y :: .int x :: rest))) := Go.step (fun t q => XS.ior X.here hx rfl (hb hby hd) rfl q) K
theorem g_lor (X : Stand p l e R s m args below meth c T locs k n) (hx : p.tables.exec = Jvm.exec) (hby : c.code = code) {x y : Int64} {rest : List Value} (hd : decode code pc = .ok (.lor, 1)) (K : Go p e below G (T.setTop (mkF m (pc + 1) Ls (.long (x ||| y) :: rest)))) : Go p e below G (T.setTop (mkF m pc Ls (.long y :: .long x :: rest))) := Go.step (fun t q => XS.lor X.here hx rfl (hb hby hd) rfl q) K
theorem g_ixor (X : Stand p l e R s m args below meth c T locs k n) (hx : p.tables.exec = Jvm.exec) (hby : c.code = code) {x y : Int32} {rest : List Value} (hd : decode code pc = .ok (.ixor, 1)) (K : Go p e below G (T.setTop (mkF m (pc + 1) Ls (.int (x ^^^ y) :: rest)))) : Go p e below G (T.setTop (mkF m pc Ls (.int y :: .int x :: rest))) := Go.step (fun t q => XS.ixor X.here hx rfl (hb hby hd) rfl q) K
theorem g_lxor (X : Stand p l e R s m args below meth c T locs k n) (hx : p.tables.exec = Jvm.exec) (hby : c.code = code) {x y : Int64} {rest : List Value} (hd : decode code pc = .ok (.lxor, 1)) (K : Go p e below G (T.setTop (mkF m (pc + 1) Ls (.long (x ^^^ y) :: rest)))) : Go p e below G (T.setTop (mkF m pc Ls (.long y :: .long x :: rest))) := Go.step (fun t q => XS.lxor X.here hx rfl (hb hby hd) rfl q) K
theorem g_ishl (X : Stand p l e R s m args below meth c T locs k n) (hx : p.tables.exec = Jvm.exec) (hby : c.code = code) {x y : Int32} {rest : List Value} (hd : decode code pc = .ok (.ishl, 1)) (K : Go p e below G (T.setTop (mkF m (pc + 1) Ls (.int (x <<< (y &&& 31)) :: rest)))) : Go p e below G (T.setTop (mkF m pc Ls (.int y :: .int x :: rest))) := Go.step (fun t q => XS.ishl X.here hx rfl (hb hby hd) rfl q) K
theorem g_ishr (X : Stand p l e R s m args below meth c T locs k n) (hx : p.tables.exec = Jvm.exec) (hby : c.code = code) {x y : Int32} {rest : List Value} (hd : decode code pc = .ok (.ishr, 1)) (K : Go p e below G (T.setTop (mkF m (pc + 1) Ls (.int (x >>> (y &&& 31)) :: rest)))) : Go p e below G (T.setTop (mkF m pc Ls (.int y :: .int x :: rest))) := Go.step (fun t q => XS.ishr X.here hx rfl (hb hby hd) rfl q) K
theorem g_iushr (X : Stand p l e R s m args below meth c T locs k n) (hx : p.tables.exec = Jvm.exec) (hby : c.code = code) {x y : Int32} {rest : List Value} (hd : decode code pc = .ok (.iushr, 1)) (K : Go p e below G (T.setTop (mkF m (pc + 1) Ls (.int ((x.toUInt32 >>> (y &&& 31).toUInt32).toInt32) :: rest)))) : Go p e below G (T.setTop (mkF m pc Ls (.int y :: .int x :: rest))) := Go.step (fun t q => XS.iushr X.here hx rfl (hb hby hd) rfl q) K
theorem g_lshl (X : Stand p l e R s m args below meth c T locs k n) (hx : p.tables.exec = Jvm.exec) (hby : c.code = code) {x : Int64} {y : Int32} {rest : List Value} (hd : decode code pc = .ok (.lshl, 1)) (K : Go p e below G (T.setTop (mkF m (pc + 1) Ls (.long (x <<< (y &&& 0x3f).toInt64) :: rest)))) : Go p e below G (T.setTop (mkF m pc Ls (.int y :: .long x :: rest))) := Go.step (fun t q => XS.lshl X.here hx rfl (hb hby hd) rfl q) K
theorem g_lshr (X : Stand p l e R s m args below meth c T locs k n) (hx : p.tables.exec = Jvm.exec) (hby : c.code = code) {x : Int64} {y : Int32} {rest : List Value} (hd : decode code pc = .ok (.lshr, 1)) (K : Go p e below G (T.setTop (mkF m (pc + 1) Ls (.long (x >>> (y &&& 0x3f).toInt64) :: rest)))) : Go p e below G (T.setTop (mkF m pc Ls (.int y :: .long x :: rest))) := Go.step (fun t q => XS.lshr X.here hx rfl (hb hby hd) rfl q) K
theorem g_lushr (X : Stand p l e R s m args below meth c T locs k n) (hx : p.tables.exec = Jvm.exec) (hby : c.code = code) {x : Int64} {y : Int32} {rest : List Value} (hd : decode code pc = .ok (.lushr, 1)) (K : Go p e below G (T.setTop (mkF m (pc + 1) Ls (.long ((x.toUInt64 >>> (y &&& 0x3f).toInt64.toUInt64).toInt64) :: rest)))) : Go p e below G (T.setTop (mkF m pc Ls (.int y :: .long x :: rest))) := Go.step (fun t q => XS.lushr X.here hx rfl (hb hby hd) rfl q) K
theorem g_ineg (X : Stand p l e R s m args below meth c T locs k n) (hx : p.tables.exec = Jvm.exec) (hby : c.code = code) {x : Int32} {rest : List Value} (hd : decode code pc = .ok (.ineg, 1)) (K : Go p e below G (T.setTop (mkF m (pc + 1) Ls (.int (-x) :: rest)))) : Go p e below G (T.setTop (mkF m pc Ls (.int x :: rest))) := Go.step (fun t q => XS.ineg X.here hx rfl (hb hby hd) rfl q) K
theorem g_lneg (X : Stand p l e R s m args below meth c T locs k n) (hx : p.tables.exec = Jvm.exec) (hby : c.code = code) {x : Int64} {rest : List Value} (hd : decode code pc = .ok (.lneg, 1)) (K : Go p e below G (T.setTop (mkF m (pc + 1) Ls (.long (-x) :: rest)))) : Go p e below G (T.setTop (mkF m pc Ls (.long x :: rest))) := Go.step (fun t q => XS.lneg X.here hx rfl (hb hby hd) rfl q) K
theorem g_i2l (X : Stand p l e R s m args below meth c T locs k n) (hx : p.tables.exec = Jvm.exec) (hby : c.code = code) {x : Int32} {rest : List Value} (hd : decode code pc = .ok (.i2l, 1)) (K : Go p e below G (T.setTop (mkF m (pc + 1) Ls (.long (x.toInt64) :: rest)))) : Go p e below G (T.setTop (mkF m pc Ls (.int x :: rest))) := Go.step (fun t q => XS.i2l X.here hx rfl (hb hby hd) rfl q) K
theorem g_l2i (X : Stand p l e R s m args below meth c T locs k n) (hx : p.tables.exec = Jvm.exec) (hby : c.code = code) {x : Int64} {rest : List Value} (hd : decode code pc = .ok (.l2i, 1)) (K : Go p e below G (T.setTop (mkF m (pc + 1) Ls (.int (x.toInt32) :: rest)))) : Go p e below G (T.setTop (mkF m pc Ls (.long x :: rest))) := Go.step (fun t q => XS.l2i X.here hx rfl (hb hby hd) rfl q) K
theorem g_i2b (X : Stand p l e R s m args below meth c T locs k n) (hx : p.tables.exec = Jvm.exec) (hby : c.code = code) {x : Int32} {rest : List Value} (hd : decode code pc = .ok (.i2b, 1)) (K : Go p e below G (T.setTop (mkF m (pc + 1) Ls (.int (x.toInt8.toInt32) :: rest)))) : Go p e below G (T.setTop (mkF m pc Ls (.int x :: rest))) := Go.step (fun t q => XS.i2b X.here hx rfl (hb hby hd) rfl q) K
theorem g_i2s (X : Stand p l e R s m args below meth c T locs k n) (hx : p.tables.exec = Jvm.exec) (hby : c.code = code) {x : Int32} {rest : List Value} (hd : decode code pc = .ok (.i2s, 1)) (K : Go p e below G (T.setTop (mkF m (pc + 1) Ls (.int (x.toInt16.toInt32) :: rest)))) : Go p e below G (T.setTop (mkF m pc Ls (.int x :: rest))) := Go.step (fun t q => XS.i2s X.here hx rfl (hb hby hd) rfl q) K
theorem g_i2c (X : Stand p l e R s m args below meth c T locs k n) (hx : p.tables.exec = Jvm.exec) (hby : c.code = code) {x : Int32} {rest : List Value} (hd : decode code pc = .ok (.i2c, 1)) (K : Go p e below G (T.setTop (mkF m (pc + 1) Ls (.int (x.toUInt32.toUInt16.toUInt32.toInt32) :: rest)))) : Go p e below G (T.setTop (mkF m pc Ls (.int x :: rest))) := Go.step (fun t q => XS.i2c X.here hx rfl (hb hby hd) rfl q) K
theorem g_lcmp (X : Stand p l e R s m args below meth c T locs k n) (hx : p.tables.exec = Jvm.exec) (hby : c.code = code) {x y : Int64} {rest : List Value} (hd : decode code pc = .ok (.lcmp, 1)) (K : Go p e below G (T.setTop (mkF m (pc + 1) Ls (.int (lcmpW x y) :: rest)))) : Go p e below G (T.setTop (mkF m pc Ls (.long y :: .long x :: rest))) := Go.step (fun t q => XS.lcmp X.here hx rfl (hb hby hd) rfl q) K
theorem g_idiv (X : Stand p l e R s m args below meth c T locs k n) (hx : p.tables.exec = Jvm.exec) (hby : c.code = code) {x y : Int32} {rest : List Value} (hd : decode code pc = .ok (.idiv, 1)) (hy : y ≠ 0) (K : Go p e below G (T.setTop (mkF m (pc + 1) Ls (.int (x / y) :: rest)))) : Go p e below G (T.setTop (mkF m pc Ls (.int y :: .int x :: rest))) := Go.step (fun t q => XS.idiv X.here hx rfl (hb hby hd) rfl hy q) K
theorem g_irem (X : Stand p l e R s m args below meth c T locs k n) (hx : p.tables.exec = Jvm.exec) (hby : c.code = code) {x y : Int32} {rest : List Value} (hd : decode code pc = .ok (.irem, 1)) (hy : y ≠ 0) (K : Go p e below G (T.setTop (mkF m (pc + 1) Ls (.int (x % y) :: rest)))) : Go p e below G (T.setTop (mkF m pc Ls (.int y :: .int x :: rest))) := Go.step (fun t q => iremM X hx rfl (hb hby hd) rfl hy q) K
theorem g_iinc (X : Stand p l e R s m args below meth c T locs k n) (hx : p.tables.exec = Jvm.exec) (hby : c.code = code) {j : Nat} {cst : Int} {x : Int32} {l' : Array Slot} (v : Int32) (hd : decode code pc = .ok (.iinc j cst, 3)) (hl : Ls[j]? = some (.val (.int x))) (hv : x + Int32.ofInt cst = v) (hl' : storeLocals Ls j (.int v) = some l') (K : Go p e below G (T.setTop (mkF m (pc + 3) l' st))) : Go p e below G (T.setTop (mkF m pc Ls st)) := Go.step (fun t q => XS.iinc X.here hx rfl (hb hby hd) hl (by rw [hv]; exact hl') q) K
theorem g_dup (X : Stand p l e R s m args below meth c T locs k n) (hx : p.tables.exec = Jvm.exec) (hby : c.code = code) {x : Value} {rest : List Value} (hd : decode code pc = .ok (.dup, 1)) (hc : x.category = 1) (K : Go p e below G (T.setTop (mkF m (pc + 1) Ls (x :: x :: rest)))) : Go p e below G (T.setTop (mkF m pc Ls (x :: rest))) := Go.step (fun t q => XS.dup X.here hx rfl (hb hby hd) rfl hc q) K
theorem g_dup_x1 (X : Stand p l e R s m args below meth c T locs k n) (hx : p.tables.exec = Jvm.exec) (hby : c.code = code) {x y : Value} {rest : List Value} (hd : decode code pc = .ok (.dup_x1, 1)) (hc : x.category = 1) (hc2 : y.category = 1) (K : Go p e below G (T.setTop (mkF m (pc + 1) Ls (x :: y :: x :: rest)))) : Go p e below G (T.setTop (mkF m pc Ls (x :: y :: rest))) := Go.step (fun t q => XS.dupX1 X.here hx rfl (hb hby hd) rfl hc hc2 q) K
theorem g_pop (X : Stand p l e R s m args below meth c T locs k n) (hx : p.tables.exec = Jvm.exec) (hby : c.code = code) {x : Value} {rest : List Value} (hd : decode code pc = .ok (.pop, 1)) (hc : x.category = 1) (K : Go p e below G (T.setTop (mkF m (pc + 1) Ls rest))) : Go p e below G (T.setTop (mkF m pc Ls (x :: rest))) := Go.step (fun t q => XS.pop X.here hx rfl (hb hby hd) rfl hc q) K
theorem g_dup2 (X : Stand p l e R s m args below meth c T locs k n) (hx : p.tables.exec = Jvm.exec) (hby : c.code = code) {x y : Value} {rest : List Value} (hd : decode code pc = .ok (.dup2, 1)) (hc : x.category = 1) (hc2 : y.category = 1) (K : Go p e below G (T.setTop (mkF m (pc + 1) Ls (x :: y :: x :: y :: rest)))) : Go p e below G (T.setTop (mkF m pc Ls (x :: y :: rest))) := Go.step (fun t q => XT.dup2 X.here hx rfl (hb hby hd) rfl hc hc2 q) K
theorem g_dup2L (X : Stand p l e R s m args below meth c T locs k n) (hx : p.tables.exec = Jvm.exec) (hby : c.code = code) {x : Int64} {rest : List Value} (hd : decode code pc = .ok (.dup2, 1)) (K : Go p e below G (T.setTop (mkF m (pc + 1) Ls (.long x :: .long x :: rest)))) : Go p e below G (T.setTop (mkF m pc Ls (.long x :: rest))) := Go.step (fun t q => XT.dup2L X.here hx rfl (hb hby hd) rfl q) K
theorem g_pop2J (X : Stand p l e R s m args below meth c T locs k n) (hx : p.tables.exec = Jvm.exec) (hby : c.code = code) {x : Int64} {rest : List Value} (hd : decode code pc = .ok (.pop2, 1)) (K : Go p e below G (T.setTop (mkF m (pc + 1) Ls rest))) : Go p e below G (T.setTop (mkF m pc Ls (.long x :: rest))) := Go.step (fun t q => by
  have hd' := hb hby hd
  show Steps p.tables e below (T.setTop { method := m, pc := pc, locals := Ls, stack := .long x :: rest, locked := none }) t
  jvm_step X.here [X.here.top, hx, hd', Value.category]
  exact q) K
theorem g_goto (X : Stand p l e R s m args below meth c T locs k n) (hx : p.tables.exec = Jvm.exec) (hby : c.code = code) {d : Int} (pc' : Nat) (hd : decode code pc = .ok (.goto d, 3)) (ho : 0 ≤ (pc : Int) + d) (hp : ((pc : Int) + d).toNat = pc') (K : Go p e below G (T.setTop (mkF m pc' Ls st))) : Go p e below G (T.setTop (mkF m pc Ls st)) := Go.step (fun t q => XS.goto X.here hx rfl (pc0 := pc) (pc' := pc') rfl (hb hby hd) ho hp q) K
theorem g_ifY (X : Stand p l e R s m args below meth c T locs k n) (hx : p.tables.exec = Jvm.exec) (hby : c.code = code) {cd : ClassFile.Cond} {x : Int32} {rest : List Value} {d : Int} (pc' : Nat) (hd : decode code pc = .ok (.ifCond cd d, 3)) (hc : if_icmp.holds cd x 0 = true) (ho : 0 ≤ (pc : Int) + d) (hp : ((pc : Int) + d).toNat = pc') (K : Go p e below G (T.setTop (mkF m pc' Ls rest))) : Go p e below G (T.setTop (mkF m pc Ls (.int x :: rest))) := Go.step (fun t q => XS.ifYes X.here hx rfl (pc0 := pc) (pc' := pc') rfl (hb hby hd) rfl ((if0 _ _).trans hc) ho hp q) K
theorem g_ifN (X : Stand p l e R s m args below meth c T locs k n) (hx : p.tables.exec = Jvm.exec) (hby : c.code = code) {cd : ClassFile.Cond} {x : Int32} {rest : List Value} {d : Int} (hd : decode code pc = .ok (.ifCond cd d, 3)) (hc : if_icmp.holds cd x 0 = false) (K : Go p e below G (T.setTop (mkF m (pc + 3) Ls rest))) : Go p e below G (T.setTop (mkF m pc Ls (.int x :: rest))) := Go.step (fun t q => XS.ifNo X.here hx rfl (hb hby hd) rfl ((if0 _ _).trans hc) q) K
theorem g_icY (X : Stand p l e R s m args below meth c T locs k n) (hx : p.tables.exec = Jvm.exec) (hby : c.code = code) {cd : ClassFile.Cond} {x y : Int32} {rest : List Value} {d : Int} (pc' : Nat) (hd : decode code pc = .ok (.if_icmp cd d, 3)) (hc : if_icmp.holds cd x y = true) (ho : 0 ≤ (pc : Int) + d) (hp : ((pc : Int) + d).toNat = pc') (K : Go p e below G (T.setTop (mkF m pc' Ls rest))) : Go p e below G (T.setTop (mkF m pc Ls (.int y :: .int x :: rest))) := Go.step (fun t q => XS.icmpYes X.here hx rfl (pc0 := pc) (pc' := pc') rfl (hb hby hd) rfl hc ho hp q) K
theorem g_icN (X : Stand p l e R s m args below meth c T locs k n) (hx : p.tables.exec = Jvm.exec) (hby : c.code = code) {cd : ClassFile.Cond} {x y : Int32} {rest : List Value} {d : Int} (hd : decode code pc = .ok (.if_icmp cd d, 3)) (hc : if_icmp.holds cd x y = false) (K : Go p e below G (T.setTop (mkF m (pc + 3) Ls rest))) : Go p e below G (T.setTop (mkF m pc Ls (.int y :: .int x :: rest))) := Go.step (fun t q => XS.icmpNo X.here hx rfl (hb hby hd) rfl hc q) K
theorem g_acmp (X : Stand p l e R s m args below meth c T locs k n) (hx : p.tables.exec = Jvm.exec) (hby : c.code = code) {cd : ACond} {x y : Value} (h1 : x.isRef = true) (h2 : y.isRef = true) {rest : List Value} {d : Int} (pc' : Nat) (same : Bool) (hd : decode code pc = .ok (.if_acmp cd d, 3)) (hq : decide (x = y) = same) (ho : 0 ≤ (pc : Int) + d) (hp : pc' = if acV cd same = true then ((pc : Int) + d).toNat else pc + 3) (K : Go p e below G (T.setTop (mkF m pc' Ls rest))) : Go p e below G (T.setTop (mkF m pc Ls (y :: x :: rest))) := Go.step (fun t q => Jvm.RoadKit.acmp (g := mkF m pc Ls (y :: x :: rest)) X hx rfl h1 h2 (pc0 := pc) (pc' := pc') (same := same) rfl (hb hby hd) rfl hq ho hp q) K
theorem g_ifnullY (X : Stand p l e R s m args below meth c T locs k n) (hx : p.tables.exec = Jvm.exec) (hby : c.code = code) {rest : List Value} {d : Int} (pc' : Nat) (hd : decode code pc = .ok (.ifnull d, 3)) (ho : 0 ≤ (pc : Int) + d) (hp : ((pc : Int) + d).toNat = pc') (K : Go p e below G (T.setTop (mkF m pc' Ls rest))) : Go p e below G (T.setTop (mkF m pc Ls (.null :: rest))) := Go.step (fun t q => XS.ifnullYes X.here hx rfl (pc0 := pc) (pc' := pc') rfl (hb hby hd) rfl ho hp q) K
theorem g_ifnullN (X : Stand p l e R s m args below meth c T locs k n) (hx : p.tables.exec = Jvm.exec) (hby : c.code = code) {b : Addr} {rest : List Value} {d : Int} (hd : decode code pc = .ok (.ifnull d, 3)) (K : Go p e below G (T.setTop (mkF m (pc + 3) Ls rest))) : Go p e below G (T.setTop (mkF m pc Ls (.ref b :: rest))) := Go.step (fun t q => XS.ifnullNo X.here hx rfl (hb hby hd) rfl q) K
theorem g_ifnonnullY (X : Stand p l e R s m args below meth c T locs k n) (hx : p.tables.exec = Jvm.exec) (hby : c.code = code) {b : Addr} {rest : List Value} {d : Int} (pc' : Nat) (hd : decode code pc = .ok (.ifnonnull d, 3)) (ho : 0 ≤ (pc : Int) + d) (hp : ((pc : Int) + d).toNat = pc') (K : Go p e below G (T.setTop (mkF m pc' Ls rest))) : Go p e below G (T.setTop (mkF m pc Ls (.ref b :: rest))) := Go.step (fun t q => XS.ifnonnullYes X.here hx rfl (pc0 := pc) (pc' := pc') rfl (hb hby hd) rfl ho hp q) K
theorem g_ifnonnullN (X : Stand p l e R s m args below meth c T locs k n) (hx : p.tables.exec = Jvm.exec) (hby : c.code = code) {rest : List Value} {d : Int} (hd : decode code pc = .ok (.ifnonnull d, 3)) (K : Go p e below G (T.setTop (mkF m (pc + 3) Ls rest))) : Go p e below G (T.setTop (mkF m pc Ls (.null :: rest))) := Go.step (fun t q => XS.ifnonnullNo X.here hx rfl (hb hby hd) rfl q) K
theorem g_ldcI (X : Stand p l e R s m args below meth c T locs k n) (hx : p.tables.exec = Jvm.exec) (hby : c.code = code) (hZ : Z.Warmed39 s.vm) {own : String} (hown : s.vm.findClass own = some m.cls) {index : Nat} {v : Int32} (w : (Cond.constant own index v).before a0 Z = true) (hd : decode code pc = .ok (.ldc index, 2)) (K : Go p e below G (T.setTop (mkF m (pc + 2) Ls (.int v :: st)))) : Go p e below G (T.setTop (mkF m pc Ls st)) := Go.step (fun t q => X.ldcInt hx hown (mvT hZ w) (g := mkF m pc Ls st) rfl (hb hby hd) t q) K
theorem g_ldcwI (X : Stand p l e R s m args below meth c T locs k n) (hx : p.tables.exec = Jvm.exec) (hby : c.code = code) (hZ : Z.Warmed39 s.vm) {own : String} (hown : s.vm.findClass own = some m.cls) {index : Nat} {v : Int32} (w : (Cond.constant own index v).before a0 Z = true) (hd : decode code pc = .ok (.ldc_w index, 3)) (K : Go p e below G (T.setTop (mkF m (pc + 3) Ls (.int v :: st)))) : Go p e below G (T.setTop (mkF m pc Ls st)) := Go.step (fun t q => X.ldcwInt hx hown (mvT hZ w) (g := mkF m pc Ls st) rfl (hb hby hd) t q) K
theorem g_ldc2J (X : Stand p l e R s m args below meth c T locs k n) (hx : p.tables.exec = Jvm.exec) (hby : c.code = code) (hZ : Z.Warmed39 s.vm) {own : String} (hown : s.vm.findClass own = some m.cls) {index : Nat} {v : Int64} (w : (Cond.constantLong own index v).before a0 Z = true) (hd : decode code pc = .ok (.ldc2_w index, 3)) (K : Go p e below G (T.setTop (mkF m (pc + 3) Ls (.long v :: st)))) : Go p e below G (T.setTop (mkF m pc Ls st)) := Go.step (fun t q => X.ldc2Long hx hown (mvT hZ w) (g := mkF m pc Ls st) rfl (hb hby hd) t q) K
theorem g_getF (X : Stand p l e R s m args below meth c T locs k n) (hx : p.tables.exec = Jvm.exec) (hby : c.code = code) (hZ : Z.Warmed39 s.vm) {own : String} (hown : s.vm.findClass own = some m.cls) {R0 O f d host : String} {index : Nat} (w : (Cond.fieldLink own index R0 f d).before a0 Z = true ∨ (Cond.fieldLinkNest own index R0 f d host).before a0 Z = true) (via : Via Z R0 O f d) (eT : T.heap = h) {a : Addr} {v : Value} (F : Fld Z h a O f d v) {rest : List Value} (hd : decode code pc = .ok (.getfield index, 3)) (K : ∀ T', Stand p l e R s m args below meth c T' locs k n → T'.heap = h → Go p e below G (T'.setTop (mkF m (pc + 3) Ls (v :: rest)))) : Go p e below G (T.setTop (mkF m pc Ls (.ref a :: rest))) := by
  obtain ⟨T', X', e', q⟩ := getF X hx hZ hown w via eT F (g := mkF m pc Ls (.ref a :: rest)) rfl rfl (hb hby hd)
  exact Go.step q (K T' X' e')
theorem g_getS (X : Stand p l e R s m args below meth c T locs k n) (hx : p.tables.exec = Jvm.exec) (hby : c.code = code) (hZ : Z.Warmed39 s.vm) {own : String} (hown : s.vm.findClass own = some m.cls) {R0 O f d host : String} {index : Nat} (w : (Cond.fieldLink own index R0 f d).before a0 Z = true ∨ (Cond.fieldLinkNest own index R0 f d host).before a0 Z = true) (via : Via Z R0 O f d) (eT : T.heap = h) {v : Value} (F : Sta Z h O f d v) (hd : decode code pc = .ok (.getstatic index, 3)) (K : ∀ T', Stand p l e R s m args below meth c T' locs k n → T'.heap = h → Go p e below G (T'.setTop (mkF m (pc + 3) Ls (v :: st)))) : Go p e below G (T.setTop (mkF m pc Ls st)) := by
  obtain ⟨T', X', e', q⟩ := getS2 X hx hZ hown w via eT F (g := mkF m pc Ls st) rfl (hb hby hd)
  exact Go.step q (K T' X' e')
theorem g_putF (X : Stand p l e R s m args below meth c T locs k n) (hx : p.tables.exec = Jvm.exec) (hby : c.code = code) (hZ : Z.Warmed39 s.vm) {own : String} (hown : s.vm.findClass own = some m.cls) {R0 O f d host : String} {index : Nat} (w : (Cond.fieldLink own index R0 f d).before a0 Z = true ∨ (Cond.fieldLinkNest own index R0 f d host).before a0 Z = true) (via : Via Z R0 O f d) (eT : T.heap = h) {C : String} {kk : Nat} {a : Addr} {v old : Value} (F : Fld Z h a O f d old) (E : Exa Z h a C) (L : (Cond.lays C O f d).before a0 Z = true ∨ ((Cond.laysFinal C O f d).before a0 Z = true ∧ own = O ∧ meth.name = "<init>")) (wi : (Cond.instantiable C kk).before a0 Z = true) (ty : FieldType) (hty : parseFieldDescriptor d = some ty) (hn : narrow ty v = v) (hf : fits ty v = true) (N : Fr n0 locs) (ga : n0 ≤ a) {rest : List Value} (hd : decode code pc = .ok (.putfield index, 3)) (K : ∀ T' h', Stand p l e R s m args below meth c T' (locs ++ [⟨a, Jvm.RoadKit.slotOf Z O f d⟩]) k n → T'.heap = h' → Wr h h' a (Jvm.RoadKit.slotOf Z O f d) v → Fld Z h' a O f d v → Fr n0 (locs ++ [⟨a, Jvm.RoadKit.slotOf Z O f d⟩]) → Go p e below G (T'.setTop (mkF m (pc + 3) Ls rest))) : Go p e below G (T.setTop (mkF m pc Ls (v :: .ref a :: rest))) := by
  obtain ⟨T', h', X', e', W, q⟩ := putF X hx hZ hown w via eT F E L wi hty hn hf (g := mkF m pc Ls (v :: .ref a :: rest)) rfl rfl (hb hby hd)
  exact Go.step q (K T' h' X' e' W (F.same W) (Fr.snoc X' N ga))
theorem g_putFN (X : Stand p l e R s m args below meth c T locs k n) (hx : p.tables.exec = Jvm.exec) (hby : c.code = code) (hZ : Z.Warmed39 s.vm) {own : String} (hown : s.vm.findClass own = some m.cls) {R0 O f d : String} {index : Nat} (w : (Cond.fieldLink own index R0 f d).before a0 Z = true) (via : Via Z R0 O f d) (eT : T.heap = h) {C : String} {kk : Nat} {a : Addr} {v old : Value} (F : Fld Z h a O f d old) (E : Exa Z h a C) (L : (Cond.lays C O f d).before a0 Z = true ∨ ((Cond.laysFinal C O f d).before a0 Z = true ∧ own = O ∧ meth.name = "<init>")) (wi : (Cond.instantiable C kk).before a0 Z = true) (ty : FieldType) (hty : parseFieldDescriptor d = some ty) (v' : Value) (hn : narrow ty v = v') (hf : fits ty v' = true) (N : Fr n0 locs) (ga : n0 ≤ a) {rest : List Value} (hd : decode code pc = .ok (.putfield index, 3)) (K : ∀ T' h', Stand p l e R s m args below meth c T' (locs ++ [⟨a, Jvm.RoadKit.slotOf Z O f d⟩]) k n → T'.heap = h' → Wr h h' a (Jvm.RoadKit.slotOf Z O f d) v' → Fld Z h' a O f d v' → Fr n0 (locs ++ [⟨a, Jvm.RoadKit.slotOf Z O f d⟩]) → Go p e below G (T'.setTop (mkF m (pc + 3) Ls rest))) : Go p e below G (T.setTop (mkF m pc Ls (v :: .ref a :: rest))) := by
  obtain ⟨T', h', X', e', W, q⟩ := putFN X hx hZ hown w via eT F E L wi hty hn hf (g := mkF m pc Ls (v :: .ref a :: rest)) rfl rfl (hb hby hd)
  exact Go.step q (K T' h' X' e' W (F.same W) (Fr.snoc X' N ga))
theorem g_new (X : Stand p l e R s m args below meth c T locs k n) (hx : p.tables.exec = Jvm.exec) (hby : c.code = code) (hZ : Z.Warmed39 s.vm) {own : String} (hown : s.vm.findClass own = some m.cls) {C : String} {index j : Nat} (w : (Cond.classLink own index C).before a0 Z = true) (wi : (Cond.instantiable C j).before a0 Z = true) (wz : (Cond.initialized C).before a0 Z = true) (eT : T.heap = h) (hc : k + 1 ≤ R.cells) (hl : n + j ≤ R.slots) (hd : decode code pc = .ok (.new index, 3)) (K : ∀ T' h' x, h.size = x → Stand p l e R s m args below meth c T' locs (k + 1) (n + j) → T'.heap = h' → Ext h h' → Exa Z h' x C → (∀ {O nm d : String} {ty : FieldType}, Laid Z a0 C O nm d → parseFieldDescriptor d = some ty → Fld Z h' x O nm d (defaultValue ty)) → Go p e below G (T'.setTop (mkF m (pc + 3) Ls (.ref x :: st)))) : Go p e below G (T.setTop (mkF m pc Ls st)) := by
  obtain ⟨T', h', X', e', E, A, D, -, q⟩ := newO X hx hZ hown w wi wz eT (g := mkF m pc Ls st) rfl (hb hby hd) hc hl
  exact Go.step q (K T' h' _ rfl X' e' E A D)
theorem g_newarray (X : Stand p l e R s m args below meth c T locs k n) (hx : p.tables.exec = Jvm.exec) (hby : c.code = code) (hZ : Z.Warmed39 s.vm) (aty : ArrayType) (ty : FieldType) (dv : Value) (vs : List Value) (hty : newarray.typeOf aty = ty) (hdv : defaultValue ty = dv) (w : (Cond.arrayClass ty).before a0 Z = true) (eT : T.heap = h) {z : Int32} {rest : List Value} (hn : ¬ z < 0) (cap : Nat) (hvs : List.replicate cap dv = vs) (hcap : z.toNatClampNeg ≤ cap) (hbig : cap * 8 ≤ 536870912) (hc : k + 1 ≤ R.cells) (hl : n + cap ≤ R.slots) (hd : decode code pc = .ok (.newarray aty, 2)) (K : ∀ T' h' kc x, h.size = x → Stand p l e R s m args below meth c T' locs (k + 1) (n + cap) → T'.heap = h' → Ext h h' → Arv Z h' x kc ty z vs dv → Go p e below G (T'.setTop (mkF m (pc + 2) Ls (.ref x :: rest)))) : Go p e below G (T.setTop (mkF m pc Ls (.int z :: rest))) := by
  subst hty hdv hvs
  obtain ⟨T', h', kc, X', e', E, A, q⟩ := newP X hx hZ w eT (g := mkF m pc Ls (.int z :: rest)) rfl (hb hby hd) rfl hn (cap := cap) hcap hbig hc hl
  exact Go.step q (K T' h' kc _ rfl X' e' E ((Arv.new A hn).pad (pad_rep [] _ cap)))
theorem g_iastore (X : Stand p l e R s m args below meth c T locs k n) (hx : p.tables.exec = Jvm.exec) (hby : c.code = code) (hZ : Z.Warmed39 s.vm) (eT : T.heap = h) {a : Addr} {kc : ClassId} {z : Int32} {vs : List Value} {dv : Value} (V : Arv Z h a kc .int z vs dv) {j : Int32} {x : Int32} (i : Nat) (vs' : List Value) (hvs : vs.set i (.int x) = vs') (hj : ¬ j < 0 ∧ j < z) (hi : j.toNatClampNeg = i) (hlen : i < vs.length) (N : Fr n0 locs) (ga : n0 ≤ a) {rest : List Value} (hd : decode code pc = .ok (.iastore, 1)) (K : ∀ T' h', Stand p l e R s m args below meth c T' (locs ++ [⟨a, j.toNatClampNeg⟩]) k n → T'.heap = h' → Wr h h' a j.toNatClampNeg (.int x) → Arv Z h' a kc .int z vs' dv → Fr n0 (locs ++ [⟨a, j.toNatClampNeg⟩]) → Go p e below G (T'.setTop (mkF m (pc + 1) Ls rest))) : Go p e below G (T.setTop (mkF m pc Ls (.int x :: .int j :: .ref a :: rest))) := by
  subst hvs
  obtain ⟨cl, Ar, q1, S, M, H, F⟩ := V
  obtain ⟨T', h', X', e', W, q⟩ := stI X hx hZ eT Ar (j := j) (inb_of S hj) (g := mkF m pc Ls (.int x :: .int j :: .ref a :: rest)) rfl rfl (hb hby hd)
  exact Go.step q (K T' h' X' e' W (Arv.set Ar q1 S M H F rfl W i hi hlen) (Fr.snoc X' N ga))
theorem g_castore (X : Stand p l e R s m args below meth c T locs k n) (hx : p.tables.exec = Jvm.exec) (hby : c.code = code) (hZ : Z.Warmed39 s.vm) (eT : T.heap = h) {a : Addr} {kc : ClassId} {z : Int32} {vs : List Value} {dv : Value} (V : Arv Z h a kc .char z vs dv) {j : Int32} {x : Int32} (i : Nat) (vs' : List Value) (hvs : vs.set i (.int (nar .char x)) = vs') (hj : ¬ j < 0 ∧ j < z) (hi : j.toNatClampNeg = i) (hlen : i < vs.length) (N : Fr n0 locs) (ga : n0 ≤ a) {rest : List Value} (hd : decode code pc = .ok (.castore, 1)) (K : ∀ T' h', Stand p l e R s m args below meth c T' (locs ++ [⟨a, j.toNatClampNeg⟩]) k n → T'.heap = h' → Wr h h' a j.toNatClampNeg (.int (nar .char x)) → Arv Z h' a kc .char z vs' dv → Fr n0 (locs ++ [⟨a, j.toNatClampNeg⟩]) → Go p e below G (T'.setTop (mkF m (pc + 1) Ls rest))) : Go p e below G (T.setTop (mkF m pc Ls (.int x :: .int j :: .ref a :: rest))) := by
  subst hvs
  obtain ⟨cl, Ar, q1, S, M, H, F⟩ := V
  obtain ⟨T', h', X', e', W, q⟩ := stC X hx hZ eT Ar (j := j) (inb_of S hj) (g := mkF m pc Ls (.int x :: .int j :: .ref a :: rest)) rfl rfl (hb hby hd)
  exact Go.step q (K T' h' X' e' W (Arv.set Ar q1 S M H F (fits_nar_char _) W i hi hlen) (Fr.snoc X' N ga))
theorem g_sastore (X : Stand p l e R s m args below meth c T locs k n) (hx : p.tables.exec = Jvm.exec) (hby : c.code = code) (hZ : Z.Warmed39 s.vm) (eT : T.heap = h) {a : Addr} {kc : ClassId} {z : Int32} {vs : List Value} {dv : Value} (V : Arv Z h a kc .short z vs dv) {j : Int32} {x : Int32} (i : Nat) (vs' : List Value) (hvs : vs.set i (.int (nar .short x)) = vs') (hj : ¬ j < 0 ∧ j < z) (hi : j.toNatClampNeg = i) (hlen : i < vs.length) (N : Fr n0 locs) (ga : n0 ≤ a) {rest : List Value} (hd : decode code pc = .ok (.sastore, 1)) (K : ∀ T' h', Stand p l e R s m args below meth c T' (locs ++ [⟨a, j.toNatClampNeg⟩]) k n → T'.heap = h' → Wr h h' a j.toNatClampNeg (.int (nar .short x)) → Arv Z h' a kc .short z vs' dv → Fr n0 (locs ++ [⟨a, j.toNatClampNeg⟩]) → Go p e below G (T'.setTop (mkF m (pc + 1) Ls rest))) : Go p e below G (T.setTop (mkF m pc Ls (.int x :: .int j :: .ref a :: rest))) := by
  subst hvs
  obtain ⟨cl, Ar, q1, S, M, H, F⟩ := V
  obtain ⟨T', h', X', e', W, q⟩ := stS X hx hZ eT Ar (j := j) (inb_of S hj) (g := mkF m pc Ls (.int x :: .int j :: .ref a :: rest)) rfl rfl (hb hby hd)
  exact Go.step q (K T' h' X' e' W (Arv.set Ar q1 S M H F (fits_nar_short _) W i hi hlen) (Fr.snoc X' N ga))
theorem g_bastore (X : Stand p l e R s m args below meth c T locs k n) (hx : p.tables.exec = Jvm.exec) (hby : c.code = code) (hZ : Z.Warmed39 s.vm) (eT : T.heap = h) {a : Addr} {kc : ClassId} {z : Int32} {vs : List Value} {dv : Value} (V : Arv Z h a kc .byte z vs dv) {j : Int32} {x : Int32} (i : Nat) (vs' : List Value) (hvs : vs.set i (.int (nar .byte x)) = vs') (hj : ¬ j < 0 ∧ j < z) (hi : j.toNatClampNeg = i) (hlen : i < vs.length) (N : Fr n0 locs) (ga : n0 ≤ a) {rest : List Value} (hd : decode code pc = .ok (.bastore, 1)) (K : ∀ T' h', Stand p l e R s m args below meth c T' (locs ++ [⟨a, j.toNatClampNeg⟩]) k n → T'.heap = h' → Wr h h' a j.toNatClampNeg (.int (nar .byte x)) → Arv Z h' a kc .byte z vs' dv → Fr n0 (locs ++ [⟨a, j.toNatClampNeg⟩]) → Go p e below G (T'.setTop (mkF m (pc + 1) Ls rest))) : Go p e below G (T.setTop (mkF m pc Ls (.int x :: .int j :: .ref a :: rest))) := by
  subst hvs
  obtain ⟨cl, Ar, q1, S, M, H, F⟩ := V
  obtain ⟨T', h', X', e', W, q⟩ := stB X hx hZ eT Ar (j := j) (inb_of S hj) (g := mkF m pc Ls (.int x :: .int j :: .ref a :: rest)) rfl rfl (hb hby hd)
  exact Go.step q (K T' h' X' e' W (Arv.set Ar q1 S M H F (fits_nar_byte _) W i hi hlen) (Fr.snoc X' N ga))
theorem g_lastore (X : Stand p l e R s m args below meth c T locs k n) (hx : p.tables.exec = Jvm.exec) (hby : c.code = code) (hZ : Z.Warmed39 s.vm) (eT : T.heap = h) {a : Addr} {kc : ClassId} {z : Int32} {vs : List Value} {dv : Value} (V : Arv Z h a kc .long z vs dv) {j : Int32} {x : Int64} (i : Nat) (vs' : List Value) (hvs : vs.set i (.long x) = vs') (hj : ¬ j < 0 ∧ j < z) (hi : j.toNatClampNeg = i) (hlen : i < vs.length) (N : Fr n0 locs) (ga : n0 ≤ a) {rest : List Value} (hd : decode code pc = .ok (.lastore, 1)) (K : ∀ T' h', Stand p l e R s m args below meth c T' (locs ++ [⟨a, j.toNatClampNeg⟩]) k n → T'.heap = h' → Wr h h' a j.toNatClampNeg (.long x) → Arv Z h' a kc .long z vs' dv → Fr n0 (locs ++ [⟨a, j.toNatClampNeg⟩]) → Go p e below G (T'.setTop (mkF m (pc + 1) Ls rest))) : Go p e below G (T.setTop (mkF m pc Ls (.long x :: .int j :: .ref a :: rest))) := by
  subst hvs
  obtain ⟨cl, Ar, q1, S, M, H, F⟩ := V
  obtain ⟨T', h', X', e', W, q⟩ := stJ X hx hZ eT Ar (j := j) (inb_of S hj) (g := mkF m pc Ls (.long x :: .int j :: .ref a :: rest)) rfl rfl (hb hby hd)
  exact Go.step q (K T' h' X' e' W (Arv.set Ar q1 S M H F rfl W i hi hlen) (Fr.snoc X' N ga))
theorem g_iaload (X : Stand p l e R s m args below meth c T locs k n) (hx : p.tables.exec = Jvm.exec) (hby : c.code = code) (hZ : Z.Warmed39 s.vm) (eT : T.heap = h) {a : Addr} {kc : ClassId} {z : Int32} {vs : List Value} {dv : Value} (V : Arv Z h a kc .int z vs dv) {j : Int32} (v : Value) (hj : ¬ j < 0 ∧ j < z) (hv : vs.getD j.toNatClampNeg dv = v) {rest : List Value} (hd : decode code pc = .ok (.iaload, 1)) (K : Go p e below G (T.setTop (mkF m (pc + 1) Ls (v :: rest)))) : Go p e below G (T.setTop (mkF m pc Ls (.int j :: .ref a :: rest))) := by
  obtain ⟨cl, Ar, q1, S, M, H, F⟩ := V
  have hin := inb_of S hj
  exact Go.step (fun t q => X.iaload hx (j := j) (v := v) (by rw [eT]; exact Ar.1) (State.isArrayOf_alike hZ.alike Ar.2.1) Ar.2.2 hin (H.at hin hv) (g := mkF m pc Ls (.int j :: .ref a :: rest)) rfl rfl (hb hby hd) t q) K
theorem g_caload (X : Stand p l e R s m args below meth c T locs k n) (hx : p.tables.exec = Jvm.exec) (hby : c.code = code) (hZ : Z.Warmed39 s.vm) (eT : T.heap = h) {a : Addr} {kc : ClassId} {z : Int32} {vs : List Value} {dv : Value} (V : Arv Z h a kc .char z vs dv) {j : Int32} (v : Value) (hj : ¬ j < 0 ∧ j < z) (hv : vs.getD j.toNatClampNeg dv = v) {rest : List Value} (hd : decode code pc = .ok (.caload, 1)) (K : Go p e below G (T.setTop (mkF m (pc + 1) Ls (v :: rest)))) : Go p e below G (T.setTop (mkF m pc Ls (.int j :: .ref a :: rest))) := by
  obtain ⟨cl, Ar, q1, S, M, H, F⟩ := V
  have hin := inb_of S hj
  exact Go.step (fun t q => X.caload hx (j := j) (v := v) (by rw [eT]; exact Ar.1) (State.isArrayOf_alike hZ.alike Ar.2.1) Ar.2.2 hin (H.at hin hv) (g := mkF m pc Ls (.int j :: .ref a :: rest)) rfl rfl (hb hby hd) t q) K
theorem g_saload (X : Stand p l e R s m args below meth c T locs k n) (hx : p.tables.exec = Jvm.exec) (hby : c.code = code) (hZ : Z.Warmed39 s.vm) (eT : T.heap = h) {a : Addr} {kc : ClassId} {z : Int32} {vs : List Value} {dv : Value} (V : Arv Z h a kc .short z vs dv) {j : Int32} (v : Value) (hj : ¬ j < 0 ∧ j < z) (hv : vs.getD j.toNatClampNeg dv = v) {rest : List Value} (hd : decode code pc = .ok (.saload, 1)) (K : Go p e below G (T.setTop (mkF m (pc + 1) Ls (v :: rest)))) : Go p e below G (T.setTop (mkF m pc Ls (.int j :: .ref a :: rest))) := by
  obtain ⟨cl, Ar, q1, S, M, H, F⟩ := V
  have hin := inb_of S hj
  exact Go.step (fun t q => X.saload hx (j := j) (v := v) (by rw [eT]; exact Ar.1) (State.isArrayOf_alike hZ.alike Ar.2.1) Ar.2.2 hin (H.at hin hv) (g := mkF m pc Ls (.int j :: .ref a :: rest)) rfl rfl (hb hby hd) t q) K
theorem g_baload (X : Stand p l e R s m args below meth c T locs k n) (hx : p.tables.exec = Jvm.exec) (hby : c.code = code) (hZ : Z.Warmed39 s.vm) (eT : T.heap = h) {a : Addr} {kc : ClassId} {z : Int32} {vs : List Value} {dv : Value} (V : Arv Z h a kc .byte z vs dv) {j : Int32} (v : Value) (hj : ¬ j < 0 ∧ j < z) (hv : vs.getD j.toNatClampNeg dv = v) {rest : List Value} (hd : decode code pc = .ok (.baload, 1)) (K : Go p e below G (T.setTop (mkF m (pc + 1) Ls (v :: rest)))) : Go p e below G (T.setTop (mkF m pc Ls (.int j :: .ref a :: rest))) := by
  obtain ⟨cl, Ar, q1, S, M, H, F⟩ := V
  have hin := inb_of S hj
  exact Go.step (fun t q => X.baloadBytes hx (j := j) (v := v) (by rw [eT]; exact Ar.1) (State.isArrayOf_alike hZ.alike Ar.2.1) Ar.2.2 hin (H.at hin hv) (g := mkF m pc Ls (.int j :: .ref a :: rest)) rfl rfl (hb hby hd) t q) K
theorem g_laload (X : Stand p l e R s m args below meth c T locs k n) (hx : p.tables.exec = Jvm.exec) (hby : c.code = code) (hZ : Z.Warmed39 s.vm) (eT : T.heap = h) {a : Addr} {kc : ClassId} {z : Int32} {vs : List Value} {dv : Value} (V : Arv Z h a kc .long z vs dv) {j : Int32} (v : Value) (hj : ¬ j < 0 ∧ j < z) (hv : vs.getD j.toNatClampNeg dv = v) {rest : List Value} (hd : decode code pc = .ok (.laload, 1)) (K : Go p e below G (T.setTop (mkF m (pc + 1) Ls (v :: rest)))) : Go p e below G (T.setTop (mkF m pc Ls (.int j :: .ref a :: rest))) := by
  obtain ⟨cl, Ar, q1, S, M, H, F⟩ := V
  have hin := inb_of S hj
  exact Go.step (fun t q => X.laload hx (j := j) (v := v) (by rw [eT]; exact Ar.1) (State.isArrayOf_alike hZ.alike Ar.2.1) Ar.2.2 hin (H.at hin hv) (g := mkF m pc Ls (.int j :: .ref a :: rest)) rfl rfl (hb hby hd) t q) K
theorem g_aaload (X : Stand p l e R s m args below meth c T locs k n) (hx : p.tables.exec = Jvm.exec) (hby : c.code = code) (hZ : Z.Warmed39 s.vm) (eT : T.heap = h) {a : Addr} {kc : ClassId} {ty : FieldType} {z : Int32} {vs : List Value} {dv : Value} (V : Arv Z h a kc ty z vs dv) (hty : ty.isReference = true) {j : Int32} (v : Value) (hj : ¬ j < 0 ∧ j < z) (hv : vs.getD j.toNatClampNeg dv = v) {rest : List Value} (hd : decode code pc = .ok (.aaload, 1)) (K : Go p e below G (T.setTop (mkF m (pc + 1) Ls (v :: rest)))) : Go p e below G (T.setTop (mkF m pc Ls (.int j :: .ref a :: rest))) := by
  obtain ⟨cl, Ar, q1, S, M, H, F⟩ := V
  have hin := inb_of S hj
  exact Go.step (fun t q => X.aaload hx (j := j) (v := v) (by rw [eT]; exact Ar.1) (State.isArrayOf_alike hZ.alike Ar.2.1) hty Ar.2.2 hin (H.at hin hv) (g := mkF m pc Ls (.int j :: .ref a :: rest)) rfl rfl (hb hby hd) t q) K
theorem g_arraylength (X : Stand p l e R s m args below meth c T locs k n) (hx : p.tables.exec = Jvm.exec) (hby : c.code = code) (hZ : Z.Warmed39 s.vm) (eT : T.heap = h) {a : Addr} {kc : ClassId} {ty : FieldType} {z : Int32} {vs : List Value} {dv : Value} (V : Arv Z h a kc ty z vs dv) {rest : List Value} (hd : decode code pc = .ok (.arraylength, 1)) (K : Go p e below G (T.setTop (mkF m (pc + 1) Ls (.int z :: rest)))) : Go p e below G (T.setTop (mkF m pc Ls (.ref a :: rest))) := by
  obtain ⟨cl, Ar, q1, S, M, H, F⟩ := V
  refine Go.step (fun t q => X.arraylength hx (by rw [eT]; exact Ar.1) (State.isArrayOf_alike hZ.alike Ar.2.1) (g := mkF m pc Ls (.ref a :: rest)) rfl rfl (hb hby hd) t q) ?_
  rw [len_of S M]
  exact K
theorem g_checkcast (X : Stand p l e R s m args below meth c T locs k n) (hx : p.tables.exec = Jvm.exec) (hby : c.code = code) (hZ : Z.Warmed39 s.vm) {own : String} (hown : s.vm.findClass own = some m.cls) {C : String} {index : Nat} (w : (Cond.classLink own index C).before a0 Z = true) (eT : T.heap = h) {a : Addr} (I : Ins Z h a C true) {rest : List Value} (hd : decode code pc = .ok (.checkcast index, 3)) (K : ∀ T', Stand p l e R s m args below meth c T' locs k n → T'.heap = h → Go p e below G (T'.setTop (mkF m (pc + 3) Ls (.ref a :: rest)))) : Go p e below G (T.setTop (mkF m pc Ls (.ref a :: rest))) := by
  obtain ⟨T', X', e', q⟩ := castY X hx hZ hown w eT I (g := mkF m pc Ls (.ref a :: rest)) rfl rfl (hb hby hd)
  exact Go.step q (K T' X' e')
theorem g_instanceof (X : Stand p l e R s m args below meth c T locs k n) (hx : p.tables.exec = Jvm.exec) (hby : c.code = code) (hZ : Z.Warmed39 s.vm) {own : String} (hown : s.vm.findClass own = some m.cls) {C : String} {index : Nat} (w : (Cond.classLink own index C).before a0 Z = true) (eT : T.heap = h) {a : Addr} (I : Ins Z h a C true) {rest : List Value} (hd : decode code pc = .ok (.instanceof index, 3)) (K : ∀ T', Stand p l e R s m args below meth c T' locs k n → T'.heap = h → Go p e below G (T'.setTop (mkF m (pc + 3) Ls (.int 1 :: rest)))) : Go p e below G (T.setTop (mkF m pc Ls (.ref a :: rest))) := by
  obtain ⟨T', X', e', q⟩ := instY X hx hZ hown w eT I (g := mkF m pc Ls (.ref a :: rest)) rfl rfl (hb hby hd)
  exact Go.step q (K T' X' e')
theorem g_instNo (X : Stand p l e R s m args below meth c T locs k n) (hx : p.tables.exec = Jvm.exec) (hby : c.code = code) (hZ : Z.Warmed39 s.vm) {own : String} (hown : s.vm.findClass own = some m.cls) {C K : String} {index : Nat} (w : (Cond.classLink own index K).before a0 Z = true) (eT : T.heap = h) {a : Addr} (E : Exa Z h a C) (F : ∃ c t, Z.vm.findClass C = some c ∧ Z.vm.findClass K = some t ∧ Z.vm.assignable c t = false) {rest : List Value} (hd : decode code pc = .ok (.instanceof index, 3)) (K' : ∀ T', Stand p l e R s m args below meth c T' locs k n → T'.heap = h → Go p e below G (T'.setTop (mkF m (pc + 3) Ls (.int 0 :: rest)))) : Go p e below G (T.setTop (mkF m pc Ls (.ref a :: rest))) := by
  obtain ⟨T', X', e', q⟩ := instNo X hx hZ hown w eT E F (g := mkF m pc Ls (.ref a :: rest)) rfl rfl (hb hby hd)
  exact Go.step q (K' T' X' e')
theorem g_instanceofNull (X : Stand p l e R s m args below meth c T locs k n) (hx : p.tables.exec = Jvm.exec) (hby : c.code = code) {index : Nat} {rest : List Value} (hd : decode code pc = .ok (.instanceof index, 3)) (K : Go p e below G (T.setTop (mkF m (pc + 3) Ls (.int 0 :: rest)))) : Go p e below G (T.setTop (mkF m pc Ls (.null :: rest))) := Go.step (fun t q => X.instanceofNull hx (g := mkF m pc Ls (.null :: rest)) rfl rfl (hb hby hd) t q) K
theorem g_checkcastNull (X : Stand p l e R s m args below meth c T locs k n) (hx : p.tables.exec = Jvm.exec) (hby : c.code = code) {index : Nat} {rest : List Value} (hd : decode code pc = .ok (.checkcast index, 3)) (K : Go p e below G (T.setTop (mkF m (pc + 3) Ls (.null :: rest)))) : Go p e below G (T.setTop (mkF m pc Ls (.null :: rest))) := Go.step (fun t q => X.checkcastNull hx (g := mkF m pc Ls (.null :: rest)) rfl rfl (hb hby hd) t q) K
theorem g_initO (X : Stand p l e R s m args below meth c T locs k n) (hx : p.tables.exec = Jvm.exec) (hby : c.code = code) (hZ : Z.Warmed39 s.vm) {own : String} (hown : s.vm.findClass own = some m.cls) {idx : Nat} (w1 : (Cond.methodLink own idx Lib.objectInit).before a0 Z = true) (w2 : (Cond.instanceMethod Lib.objectInit).before a0 Z = true) (w3 : (Cond.code Lib.objectInit ⟨#[0xb1]⟩ 1 none).before a0 Z = true) (eT : T.heap = h) (hsize : Ls.size = c.maxLocals) {a : Addr} {rest : List Value} (hf : 1 ≤ R.frames) (hl : (rest.map fun v => v.category).sum + 12 ≤ R.locals) (hd : decode code pc = .ok (.invokespecial idx, 3)) (K : ∀ T', Stand p l e R s m args below meth c T' locs k n → T'.heap = h → Go p e below G (T'.setTop (mkF m (pc + 3) Ls rest))) : Go p e below G (T.setTop (mkF m pc Ls (.ref a :: rest))) := by
  obtain ⟨T', X', e', q⟩ := initO X hx hZ hown w1 w2 w3 eT (g := mkF m pc Ls (.ref a :: rest)) rfl hsize rfl (hb hby hd) hf (W := (rest.map fun v => v.category).sum) (by show 2 * 0 + _ ≤ _; omega) hl
  exact Go.step q (K T' X' e')
theorem g_static (X : Stand p l e R s m args below meth c T locs k n) (hx : p.tables.exec = Jvm.exec) (hby : c.code = code) (hZ : Z.Warmed39 s.vm) {own : String} (hown : s.vm.findClass own = some m.cls) {index : Nat} {y : MethodName} {bytes : ByteArray} {maxL : Nat} {ret : Option FieldType} {rm : Room} {as' : Array Value} {Q : Option Value → Heap → List Loc → Prop} (hM : MetFree l y (head1 [Cond.code y bytes maxL ret] rm) (fun a U => a = as' ∧ Z.Warmed39 U.vm ∧ U.heap = h) (fun _ _ _ _ _ => True) (fun _ U o U' => RetG U Q rm.cells rm.slots U' o)) (wl : (Cond.methodLink own index y).before a0 Z = true) (ws : (Cond.static y).before a0 Z = true) (wz : (Cond.initialized y.cls).before a0 Z = true) (wc : (Cond.code y bytes maxL ret).before a0 Z = true) (hy : y.cls ≠ "java/lang/invoke/MethodHandle" ∧ y.cls ≠ "java/lang/invoke/VarHandle") (eT : T.heap = h) (hsize : Ls.size = c.maxLocals) (argsL : List Value) {rest : List Value} (hlen : ∀ sig, parseMethodDescriptor y.desc = some sig → argsL.length = sig.parameters.length) (has : argsL.toArray = as') (hst : st = argsL.reverse ++ rest) (hf : rm.frames + 1 ≤ R.frames) (hl : (rest.map fun v => v.category).sum + (maxL + 11) + rm.locals ≤ R.locals) (hc : k + rm.cells ≤ R.cells) (hs : n + rm.slots ≤ R.slots) (hd : decode code pc = .ok (.invokestatic index, 3)) (K : ∀ v T' L, Stand p l e R s m args below meth c T' (locs ++ L) (k + rm.cells) (n + rm.slots) → Q v T'.heap L → Go p e below G (T'.setTop (mkF m (pc + 3) Ls (v.toList ++ rest)))) : Go p e below G (T.setTop (mkF m pc Ls st)) := by
  obtain ⟨v, _, ⟨T', L', k', n'⟩, -, X', ⟨L, hq, l1, l2, l3⟩, q⟩ := Jvm.LawKit.callS X hx (y := y) hown (mvT hZ wl) (mvT hZ ws) (mvT hZ wz) (mvT hZ wc) hy (backOf (W := (rest.map fun v => v.category).sum) hM hZ wc wz hf hl) (g := mkF m pc Ls st) rfl hsize (argsL := argsL) (rest := rest) hlen hst (by show 2 * 0 + _ ≤ _; omega) (hb hby hd) (fun _ _ => ⟨has, eT, hc, hs⟩)
  dsimp only [Pt.U, Pt.locs, Pt.cells, Pt.slots] at X' l1 l2 l3 q hq
  subst l1 l2 l3
  exact Go.step q (K v T' L X' hq)
theorem g_special (X : Stand p l e R s m args below meth c T locs k n) (hx : p.tables.exec = Jvm.exec) (hby : c.code = code) (hZ : Z.Warmed39 s.vm) {own : String} (hown : s.vm.findClass own = some m.cls) {index : Nat} {y : MethodName} {bytes : ByteArray} {maxL : Nat} {ret : Option FieldType} {rm : Room} {as' : Array Value} {Q : Option Value → Heap → List Loc → Prop} (hM : MetFree l y (head1 [Cond.code y bytes maxL ret] rm) (fun a U => a = as' ∧ Z.Warmed39 U.vm ∧ U.heap = h) (fun _ _ _ _ _ => True) (fun _ U o U' => RetG U Q rm.cells rm.slots U' o)) (hy1 : y.name = "<init>") (hret : ret = none) (wl : (Cond.methodLink own index y).before a0 Z = true) (ws : (Cond.instanceMethod y).before a0 Z = true) (wz : (Cond.initialized y.cls).before a0 Z = true) (wc : (Cond.code y bytes maxL ret).before a0 Z = true) (hy : y.cls ≠ "java/lang/invoke/MethodHandle" ∧ y.cls ≠ "java/lang/invoke/VarHandle") (eT : T.heap = h) (hsize : Ls.size = c.maxLocals) {a : Addr} (argsL : List Value) {rest : List Value} (hlen : ∀ sig, parseMethodDescriptor y.desc = some sig → argsL.length = sig.parameters.length) (has : (.ref a :: argsL).toArray = as') (hst : st = argsL.reverse ++ .ref a :: rest) (hf : rm.frames + 1 ≤ R.frames) (hl : (rest.map fun v => v.category).sum + (maxL + 11) + rm.locals ≤ R.locals) (hc : k + rm.cells ≤ R.cells) (hs : n + rm.slots ≤ R.slots) (hd : decode code pc = .ok (.invokespecial index, 3)) (K : ∀ v T' L, Stand p l e R s m args below meth c T' (locs ++ L) (k + rm.cells) (n + rm.slots) → Q v T'.heap L → Go p e below G (T'.setTop (mkF m (pc + 3) Ls (v.toList ++ rest)))) : Go p e below G (T.setTop (mkF m pc Ls st)) := by
  subst hret
  obtain ⟨v, _, ⟨T', L', k', n'⟩, -, X', ⟨L, hq, l1, l2, l3⟩, q⟩ := X.specialBack hx (y := y) hy1 hown (mvT hZ wl) (mvT hZ ws) (mvT hZ wc) hy (backOf (W := (rest.map fun v => v.category).sum) hM hZ wc wz hf hl) (g := mkF m pc Ls st) rfl hsize (Steps.refl _) (a := a) (argsL := argsL) (rest := rest) hlen hst (by show 2 * 0 + _ ≤ _; omega) (hb hby hd) (fun _ _ => ⟨has, eT, hc, hs⟩)
  dsimp only [Pt.U, Pt.locs, Pt.cells, Pt.slots] at X' l1 l2 l3 q hq
  subst l1 l2 l3
  exact Go.step (fun t r => q.trans r) (K v T' L X' hq)
theorem g_virtual (X : Stand p l e R s m args below meth c T locs k n) (hx : p.tables.exec = Jvm.exec) (hby : c.code = code) (hZ : Z.Warmed39 s.vm) {own : String} (hown : s.vm.findClass own = some m.cls) {C : String} {index : Nat} {z : MethodName} {y : MethodName} {bytes : ByteArray} {maxL : Nat} {ret : Option FieldType} {rm : Room} {as' : Array Value} {Q : Option Value → Heap → List Loc → Prop} (hM : MetFree l y (head1 [Cond.code y bytes maxL ret] rm) (fun a U => a = as' ∧ Z.Warmed39 U.vm ∧ U.heap = h) (fun _ _ _ _ _ => True) (fun _ U o U' => RetG U Q rm.cells rm.slots U' o)) (wl : (Cond.methodLink own index z).before a0 Z = true) (wd : (Cond.declares z).before a0 Z = true) (hnf : NotFace s z) (wsel : (Cond.selects C z y).before a0 Z = true) (ws : (Cond.instanceMethod y).before a0 Z = true) (wz : (Cond.initialized y.cls).before a0 Z = true) (wc : (Cond.code y bytes maxL ret).before a0 Z = true) (hy : z.cls ≠ "java/lang/invoke/MethodHandle" ∧ z.cls ≠ "java/lang/invoke/VarHandle") (eT : T.heap = h) {a : Addr} (E : Exa Z h a C) (hsize : Ls.size = c.maxLocals) (argsL : List Value) {rest : List Value} (hlen : ∀ sig, parseMethodDescriptor z.desc = some sig → argsL.length = sig.parameters.length) (has : (.ref a :: argsL).toArray = as') (hst : st = argsL.reverse ++ .ref a :: rest) (hf : rm.frames + 1 ≤ R.frames) (hl : (rest.map fun v => v.category).sum + (maxL + 11) + rm.locals ≤ R.locals) (hc : k + rm.cells ≤ R.cells) (hs : n + rm.slots ≤ R.slots) (hd : decode code pc = .ok (.invokevirtual index, 3)) (K : ∀ v T' L, Stand p l e R s m args below meth c T' (locs ++ L) (k + rm.cells) (n + rm.slots) → Q v T'.heap L → Go p e below G (T'.setTop (mkF m (pc + 3) Ls (v.toList ++ rest)))) : Go p e below G (T.setTop (mkF m pc Ls st)) := by
  obtain ⟨cq, kq, qa, qb, qc⟩ := isOf hZ eT E
  obtain ⟨v, _, ⟨T', L', k', n'⟩, -, X', ⟨L, hq, l1, l2, l3⟩, q⟩ := X.virtualBack hx (y := z) (z := y) hown (mvT hZ wl) (mvT hZ wd) hnf (mvT hZ wsel) (mvT hZ ws) hy (backOf (W := (rest.map fun v => v.category).sum) hM hZ wc wz hf hl) qa qc (g := mkF m pc Ls st) rfl hsize (Steps.refl _) (argsL := argsL) (rest := rest) hlen hst (by show 2 * 0 + _ ≤ _; omega) (hb hby hd) (fun _ _ => ⟨has, eT, hc, hs⟩)
  dsimp only [Pt.U, Pt.locs, Pt.cells, Pt.slots] at X' l1 l2 l3 q hq
  subst l1 l2 l3
  exact Go.step (fun t r => q.trans r) (K v T' L X' hq)
theorem g_private (X : Stand p l e R s m args below meth c T locs k n) (hx : p.tables.exec = Jvm.exec) (hby : c.code = code) (hZ : Z.Warmed39 s.vm) {own : String} (hown : s.vm.findClass own = some m.cls) {index j : Nat} {y : MethodName} {bytes : ByteArray} {maxL : Nat} {ret : Option FieldType} {rm : Room} {as' : Array Value} {Q : Option Value → Heap → List Loc → Prop} (hM : MetFree l y (head1 [Cond.code y bytes maxL ret] rm) (fun a U => a = as' ∧ Z.Warmed39 U.vm ∧ U.heap = h) (fun _ _ _ _ _ => True) (fun _ U o U' => RetG U Q rm.cells rm.slots U' o)) (wl : (Cond.methodLink own index y).before a0 Z = true) (ws : (Cond.instanceMethod y).before a0 Z = true) (wi : (Cond.instantiable y.cls j).before a0 Z = true) (wp : (Cond.privateMethod y).before a0 Z = true) (wz : (Cond.initialized y.cls).before a0 Z = true) (wc : (Cond.code y bytes maxL ret).before a0 Z = true) (hy : y.cls ≠ "java/lang/invoke/MethodHandle" ∧ y.cls ≠ "java/lang/invoke/VarHandle") (eT : T.heap = h) {a : Addr} {C : String} (E : Exa Z h a C) (hsize : Ls.size = c.maxLocals) (argsL : List Value) {rest : List Value} (hlen : ∀ sig, parseMethodDescriptor y.desc = some sig → argsL.length = sig.parameters.length) (has : (.ref a :: argsL).toArray = as') (hst : st = argsL.reverse ++ .ref a :: rest) (hf : rm.frames + 1 ≤ R.frames) (hl : (rest.map fun v => v.category).sum + (maxL + 11) + rm.locals ≤ R.locals) (hc : k + rm.cells ≤ R.cells) (hs : n + rm.slots ≤ R.slots) (hd : decode code pc = .ok (.invokevirtual index, 3)) (K : ∀ v T' L, Stand p l e R s m args below meth c T' (locs ++ L) (k + rm.cells) (n + rm.slots) → Q v T'.heap L → Go p e below G (T'.setTop (mkF m (pc + 3) Ls (v.toList ++ rest)))) : Go p e below G (T.setTop (mkF m pc Ls st)) := by
  obtain ⟨cq, q1, q2⟩ := E.cell
  obtain ⟨v, _, ⟨T', L', k', n'⟩, -, X', ⟨L, hq, l1, l2, l3⟩, q⟩ := X.privateBack hx (y := y) hown (mvT hZ wl) (mvT hZ ws) (selOf (mvT hZ wi) (mvP hZ wp) (mvT hZ ws) hy) (Cond.privateMethod_at (mvP hZ wp (args := #[]))) (mvT hZ wc) hy (backOf (W := (rest.map fun v => v.category).sum) hM hZ wc wz hf hl) (g := mkF m pc Ls st) rfl hsize (Steps.refl _) (a := a) (by rw [eT]; exact q1) q2 (argsL := argsL) (rest := rest) hlen hst (by show 2 * 0 + _ ≤ _; omega) (hb hby hd) (fun _ _ => ⟨has, eT, hc, hs⟩)
  dsimp only [Pt.U, Pt.locs, Pt.cells, Pt.slots] at X' l1 l2 l3 q hq
  subst l1 l2 l3
  exact Go.step (fun t r => q.trans r) (K v T' L X' hq)
theorem g_interface (X : Stand p l e R s m args below meth c T locs k n) (hx : p.tables.exec = Jvm.exec) (hby : c.code = code) (hZ : Z.Warmed39 s.vm) {own : String} (hown : s.vm.findClass own = some m.cls) {C : String} {index count : Nat} {z : MethodName} {y : MethodName} {bytes : ByteArray} {maxL : Nat} {ret : Option FieldType} {rm : Room} {as' : Array Value} {Q : Option Value → Heap → List Loc → Prop} (hM : MetFree l y (head1 [Cond.code y bytes maxL ret] rm) (fun a U => a = as' ∧ Z.Warmed39 U.vm ∧ U.heap = h) (fun _ _ _ _ _ => True) (fun _ U o U' => RetG U Q rm.cells rm.slots U' o)) (wl : (Cond.methodLink own index z).before a0 Z = true) (wd : (Cond.declares z).before a0 Z = true) (wf : (Cond.interfaceMethod z.cls z.cls z.name z.desc).before a0 Z = true) (wsel : (Cond.selects C z y).before a0 Z = true) (ws : (Cond.instanceMethod y).before a0 Z = true) (wp : (Cond.publicMethod y).before a0 Z = true) (wu : (Cond.unhidden C z.name z.desc).before a0 Z = true) (wca : (Cond.castable C z.cls).before a0 Z = true) (wz : (Cond.initialized y.cls).before a0 Z = true) (wc : (Cond.code y bytes maxL ret).before a0 Z = true) (hy : z.cls ≠ "java/lang/invoke/MethodHandle" ∧ z.cls ≠ "java/lang/invoke/VarHandle") (eT : T.heap = h) {a : Addr} (E : Exa Z h a C) (hsize : Ls.size = c.maxLocals) (argsL : List Value) {rest : List Value} (hlen : ∀ sig, parseMethodDescriptor z.desc = some sig → argsL.length = sig.parameters.length) (has : (.ref a :: argsL).toArray = as') (hst : st = argsL.reverse ++ .ref a :: rest) (hf : rm.frames + 1 ≤ R.frames) (hl : (rest.map fun v => v.category).sum + (maxL + 11) + rm.locals ≤ R.locals) (hc : k + rm.cells ≤ R.cells) (hs : n + rm.slots ≤ R.slots) (hd : decode code pc = .ok (.invokeinterface index count, 5)) (K : ∀ v T' L, Stand p l e R s m args below meth c T' (locs ++ L) (k + rm.cells) (n + rm.slots) → Q v T'.heap L → Go p e below G (T'.setTop (mkF m (pc + 5) Ls (v.toList ++ rest)))) : Go p e below G (T.setTop (mkF m pc Ls st)) := by
  obtain ⟨cq, kq, qa, qb, qc⟩ := isOf hZ eT E
  obtain ⟨v, _, ⟨T', L', k', n'⟩, -, X', ⟨L, hq, l1, l2, l3⟩, q⟩ := X.interfaceBack hx (xi := z) (y := y) hown (mvT hZ wl) (mvT hZ wd) (mvT hZ wf (by simp [Cond.onTables, Cond.keepsFace, Cond.keeps, Cond.steady, Cond.faceAtom, hy.1, hy.2])) (mvT hZ wsel) (mvT hZ ws) (mvT hZ wp) (mvT hZ wu) (mvT hZ wca) hy (backOf (W := (rest.map fun v => v.category).sum) hM hZ wc wz hf hl) qa qb qc (g := mkF m pc Ls st) rfl hsize (Steps.refl _) (argsL := argsL) (rest := rest) hlen hst (by show 2 * 0 + _ ≤ _; omega) (hb hby hd) (fun _ _ => ⟨has, eT, hc, hs⟩)
  dsimp only [Pt.U, Pt.locs, Pt.cells, Pt.slots] at X' l1 l2 l3 q hq
  subst l1 l2 l3
  exact Go.step (fun t r => q.trans r) (K v T' L X' hq)
theorem g_ret (X : Stand p l e R s m args below meth c T locs k n) (hx : p.tables.exec = Jvm.exec) (hby : c.code = code) (hret : meth.sig.returnType = none) (hlocks : meth.locks = false) {Q : Option Value → Heap → List Loc → Prop} {cells slots : Nat} (hd : decode code pc = .ok (.return_, 1)) (eT : T.heap = h) (hk : k ≤ cells) (hn : n ≤ slots) (hq : Q none h locs) : Go p e below (RetG s Q cells slots) (T.setTop (mkF m pc Ls [])) := Go.leave X (v := none) (fun _ => rfl) hlocks eT hq hk hn (fun fs hr => X.returnOut hx hret (hb hby hd) hr)
theorem g_iret (X : Stand p l e R s m args below meth c T locs k n) (hx : p.tables.exec = Jvm.exec) (hby : c.code = code) {z : Int32} {rest : List Value} (hret : meth.sig.returnType = some .int) (hlocks : meth.locks = false) {Q : Option Value → Heap → List Loc → Prop} {cells slots : Nat} (hd : decode code pc = .ok (.ireturn, 1)) (eT : T.heap = h) (hk : k ≤ cells) (hn : n ≤ slots) (hq : Q (some (.int z)) h locs) : Go p e below (RetG s Q cells slots) (T.setTop (mkF m pc Ls (.int z :: rest))) := Go.leave X (v := some (.int z)) (fun q => by rw [hret] at q; cases q) hlocks eT hq hk hn (fun fs hr => retOut X hx (t := .int) hret rfl (Or.inl ⟨rfl, Or.inl rfl, z, rfl⟩) (hb hby hd) hr)
theorem g_nret (X : Stand p l e R s m args below meth c T locs k n) (hx : p.tables.exec = Jvm.exec) (hby : c.code = code) {z : Int32} {rest : List Value} {t : FieldType} (ht : t = .boolean ∨ t = .byte ∨ t = .char ∨ t = .short) (hret : meth.sig.returnType = some t) (hlocks : meth.locks = false) {Q : Option Value → Heap → List Loc → Prop} {cells slots : Nat} (hd : decode code pc = .ok (.ireturn, 1)) (eT : T.heap = h) (hk : k ≤ cells) (hn : n ≤ slots) (hq : Q (some (.int (nar t z))) h locs) : Go p e below (RetG s Q cells slots) (T.setTop (mkF m pc Ls (.int z :: rest))) := Go.leave X (v := some (.int (nar t z))) (fun q => by rw [hret] at q; cases q) hlocks eT hq hk hn (fun fs hr => retN X hx (t := t) hret ht (hb hby hd) hr)
theorem g_lret (X : Stand p l e R s m args below meth c T locs k n) (hx : p.tables.exec = Jvm.exec) (hby : c.code = code) {z : Int64} {rest : List Value} (hret : meth.sig.returnType = some .long) (hlocks : meth.locks = false) {Q : Option Value → Heap → List Loc → Prop} {cells slots : Nat} (hd : decode code pc = .ok (.lreturn, 1)) (eT : T.heap = h) (hk : k ≤ cells) (hn : n ≤ slots) (hq : Q (some (.long z)) h locs) : Go p e below (RetG s Q cells slots) (T.setTop (mkF m pc Ls (.long z :: rest))) := Go.leave X (v := some (.long z)) (fun q => by rw [hret] at q; cases q) hlocks eT hq hk hn (fun fs hr => retOut X hx (t := .long) hret rfl (Or.inr (Or.inl ⟨rfl, rfl, z, rfl⟩)) (hb hby hd) hr)
theorem g_aret (X : Stand p l e R s m args below meth c T locs k n) (hx : p.tables.exec = Jvm.exec) (hby : c.code = code) {z : Value} {rest : List Value} {t : FieldType} (ht : t.isReference = true) (hz : z.isRef = true) (hnar : narrow t z = z) (hret : meth.sig.returnType = some t) (hlocks : meth.locks = false) {Q : Option Value → Heap → List Loc → Prop} {cells slots : Nat} (hd : decode code pc = .ok (.areturn, 1)) (eT : T.heap = h) (hk : k ≤ cells) (hn : n ≤ slots) (hq : Q (some z) h locs) : Go p e below (RetG s Q cells slots) (T.setTop (mkF m pc Ls (z :: rest))) := Go.leave X (v := some z) (fun q => by rw [hret] at q; cases q) hlocks eT hq hk hn (fun fs hr => retOut X hx (t := t) hret hnar (Or.inr (Or.inr (Or.inr (Or.inr ⟨rfl, ht, hz⟩)))) (hb hby hd) hr)
end
end Jvm.Own

namespace Jvm.Pilot.@@N@@
open Jvm Jvm.ClassFile Sem Op Lib Jvm.Free Jvm.Stand Jvm.LawKit Jvm.RoadKit Bundle Jvm.Own Jvm.Pilot.@@N@@.Jvm.D


def own_draw (x : Int32) : Int32 := if x.toInt8.toInt32 = (44 : Int32) then 43 else nar .byte x.toInt8.toInt32
def own_expct (n v : Int32) : Int32 := if n = 1 then (if v < 48 then -1 else if 57 < v then -1 else v - 48) else -1
def own_dig (d v : Int32) : Int32 := if d = 1 then (if v - 48 < 0 then -1 else if 9 < v - 48 then -1 else v - 48) else -1
theorem own_nar (x : Int32) : nar .byte x = x.toInt8.toInt32 := rfl
theorem own_nar2 (x : Int32) : nar .byte x.toInt8.toInt32 = x.toInt8.toInt32 := by
  have h1 := c_i2b x
  have h2 := c_i2b x.toInt8.toInt32
  rw [own_nar]
  exact Int32.toInt_inj.mp (by omega)
theorem own_draw_nar (x : Int32) : nar .byte (own_draw x) = own_draw x := by
  unfold own_draw
  split
  · decide
  · rw [own_nar2, own_nar2]
theorem own_draw_ne (x : Int32) : ¬ nar .byte (own_draw x) = (44 : Int32) := by
  rw [own_draw_nar]
  unfold own_draw
  split
  · decide
  · rename_i h; rw [own_nar2]; exact h
theorem own_fin0 {d n v w : Int32} (hd : ¬ d = 1) (hn : ¬ n = 1) : own_dig d v = own_expct n w := by simp [own_dig, own_expct, hd, hn]
theorem own_fin1 (x : Int32) : own_dig 1 (nar .byte (own_draw x)) = own_expct 1 (own_draw x) := by
  rw [own_draw_nar]
  have h1 : -128 ≤ (own_draw x).toInt ∧ (own_draw x).toInt < 128 := by
    rw [← own_draw_nar]; exact (c_i2b (own_draw x)).2
  generalize own_draw x = v at *
  simp only [own_dig, own_expct, if_true]
  have h2 := c_isub v 48
  have h3 := rng32 (v - 48)
  have e48 : (48 : Int32).toInt = 48 := rfl
  have e57 : (57 : Int32).toInt = 57 := rfl
  have e9 : (9 : Int32).toInt = 9 := rfl
  have e0 : (0 : Int32).toInt = 0 := rfl
  rw [e48] at h2
  have i1 : v - 48 < 0 ↔ v < 48 := by rw [Int32.lt_iff_toInt_lt, Int32.lt_iff_toInt_lt]; omega
  have i2 : 9 < v - 48 ↔ 57 < v := by rw [Int32.lt_iff_toInt_lt, Int32.lt_iff_toInt_lt]; omega
  by_cases q1 : v < 48
  · rw [if_pos q1, if_pos (i1.mpr q1)]
  · rw [if_neg q1, if_neg (mt i1.mp q1)]
    by_cases q2 : 57 < v
    · rw [if_pos q2, if_pos (i2.mpr q2)]
    · rw [if_neg q2, if_neg (mt i2.mp q2)]
theorem own_mod3 (x : Int32) : (x &&& 3) % 3 = (0 : Int32) ∨ (x &&& 3) % 3 = (1 : Int32) ∨ (x &&& 3) % 3 = (2 : Int32) := by
  have h := c_mask x 3 2 (by decide) (by decide)
  generalize x &&& 3 = y at h
  have h1 : y = 0 ∨ y = 1 ∨ y = 2 ∨ y = 3 := by
    have : y.toInt = 0 ∨ y.toInt = 1 ∨ y.toInt = 2 ∨ y.toInt = 3 := by omega
    rcases this with q | q | q | q
    · exact Or.inl (Int32.toInt_inj.mp q)
    · exact Or.inr (Or.inl (Int32.toInt_inj.mp q))
    · exact Or.inr (Or.inr (Or.inl (Int32.toInt_inj.mp q)))
    · exact Or.inr (Or.inr (Or.inr (Int32.toInt_inj.mp q)))
  rcases h1 with rfl | rfl | rfl | rfl <;> decide
theorem own_bit (x : Int32) : x &&& 1 = (0 : Int32) ∨ x &&& 1 = (1 : Int32) := by
  have h := c_mask x 1 1 (by decide) (by decide)
  generalize x &&& 1 = y at h
  have : y.toInt = 0 ∨ y.toInt = 1 := by omega
  rcases this with q | q
  · exact Or.inl (Int32.toInt_inj.mp q)
  · exact Or.inr (Int32.toInt_inj.mp q)
def own_LF (Z : State) (h : Heap) (a bb : Addr) (w : Int32) (st en : Addr) (kS kE : ClassId) (vs us : List Value) : Prop := Exa Z h a "com/example/tidegate/tidegate/venue/LineFields" ∧ Fld Z h a "com/example/tidegate/tidegate/venue/LineFields" "bytes" "[B" (.ref bb) ∧ Fld Z h a "com/example/tidegate/tidegate/venue/LineFields" "width" "I" (.int w) ∧ Fld Z h a "com/example/tidegate/tidegate/venue/LineFields" "starts" "[I" (.ref st) ∧ Fld Z h a "com/example/tidegate/tidegate/venue/LineFields" "ends" "[I" (.ref en) ∧ Arv Z h st kS .int (8 : Int32) vs (.int (0 : Int32)) ∧ Arv Z h en kE .int (8 : Int32) us (.int (0 : Int32)) ∧ a ≠ st ∧ a ≠ en ∧ st ≠ en

theorem d1_0 : decode method_2_code 0 = .ok (.iload_n 0, 1) := by decide +kernel
theorem d1_1 : decode method_2_code 1 = .ok (.i2b, 1) := by decide +kernel
theorem d1_2 : decode method_2_code 2 = .ok (.istore_n 1, 1) := by decide +kernel
theorem d1_3 : decode method_2_code 3 = .ok (.iload_n 1, 1) := by decide +kernel
theorem d1_4 : decode method_2_code 4 = .ok (.bipush 44, 2) := by decide +kernel
theorem d1_6 : decode method_2_code 6 = .ok (.if_icmp .ne 8, 3) := by decide +kernel
theorem d1_9 : decode method_2_code 9 = .ok (.bipush 43, 2) := by decide +kernel
theorem d1_11 : decode method_2_code 11 = .ok (.goto 4, 3) := by decide +kernel
theorem d1_15 : decode method_2_code 15 = .ok (.ireturn, 1) := by decide +kernel
theorem d1_14 : decode method_2_code 14 = .ok (.iload_n 1, 1) := by decide +kernel
theorem own_pn0 : plainName "com/example/tidegate/tidegate/venue/LineFieldsDigitPinLaw" = true := by first | (simp [plainName, overriddenIn]; done) | decide +kernel
def Q_draw (Z : State) (x : Int32) (h0 : Heap) (n0 : Nat) (v : Option Value) (h : Heap) (L : List Loc) : Prop := v = some (.int (own_draw x)) ∧ Fr n0 L ∧ h = h0
set_option maxRecDepth 65536 in
set_option maxHeartbeats 40000000 in
theorem rm_draw (l : Launch) (Z : State) (a0 : Array Value) (hw : ∀ d ∈ tables_1, d.before a0 Z = true) (ws : List Jvm.Cond) (x : Int32) (h0 : Heap) (n0 : Nat) (Z0 : n0 ≤ h0.size) :
    MetFree l (⟨"com/example/tidegate/tidegate/venue/LineFieldsDigitPinLaw", "draw", "(I)B"⟩ : MethodName) (head1 (Jvm.Cond.code (⟨"com/example/tidegate/tidegate/venue/LineFieldsDigitPinLaw", "draw", "(I)B"⟩ : MethodName) method_2_code 2 (some .byte) :: ws) ({ frames := 0, cells := 0, slots := 0, locals := 0 } : Room)) (fun aa_ U => aa_ = #[(.int x)] ∧ Z.Warmed39 U.vm ∧ U.heap = h0) (fun _ _ _ _ _ => True) (fun _ U o_ U' => RetG U (Q_draw Z x h0 n0) 0 0 U' o_) := by
  refine MetFree.of_bodySF (plainFor_of_name own_pn0) hisR ?_
  intro p e s m args below meth c_ s₁ Bd hml0 hP hK
  obtain ⟨rfl, hZ, hh⟩ := hP
  have hx := Bd.exec
  have hby := Bd.bytes
  have hml : c_.maxLocals = 2 := hml0
  have hown : s.vm.findClass "com/example/tidegate/tidegate/venue/LineFieldsDigitPinLaw" = some m.cls := findClass_of_methodNamed Bd.named
  have hnm := (name_of_methodNamed Bd.named Bd.method).1
  have X0 : Stand p l e ({ frames := 0, cells := 0, slots := 0, locals := 0 } : Room) s m #[(.int x)] below meth c_ s₁ [] 0 0 := Stand.of_body Bd
  have e0 : s₁.heap = h0 := by rw [← hh, Bd.state]; rfl
  have N0 := Fr.nil n0
  show Go p e below (RetG s (Q_draw Z x h0 n0) 0 0) (s₁.setTop (entryFrame m #[(.int x)] 2))
  rw [show entryFrame m #[(.int x)] 2 = mkF m 0 #[.val (.int x), .unset] [] from by first | (simp [entryFrame, mkF, argsToLocals, Value.category]; done) | rfl]
  refine g_iloadN X0 hx hby d1_0 rfl ?_
  refine g_i2b X0 hx hby d1_1 ?_
  refine g_istoreN X0 hx hby d1_2 (l' := #[.val (.int x), .val (.int (x.toInt8.toInt32))]) rfl ?_
  refine g_iloadN X0 hx hby d1_3 rfl ?_
  refine g_bipush X0 hx hby (44 : Int32) d1_4 rfl ?_
  by_cases hc6_1 : (x.toInt8.toInt32) = (44 : Int32)
  · skip
    refine g_icN X0 hx hby d1_6 (teq hc6_1).2 ?_
    refine g_bipush X0 hx hby (43 : Int32) d1_9 rfl ?_
    refine g_goto X0 hx hby 15 d1_11 (by decide) (by decide) ?_
    refine g_nret X0 hx hby (t := .byte) (by simp) Bd.returns Bd.notSynchronized d1_15 e0 (by decide) (by decide) ?_
    show (Q_draw Z x h0 n0) (some (.int (43 : Int32))) _ _
    exact ⟨by simp [own_draw, hc6_1], N0, rfl⟩
  · skip
    refine g_icY X0 hx hby 14 d1_6 (feq hc6_1).2 (by decide) (by decide) ?_
    refine g_iloadN X0 hx hby d1_14 rfl ?_
    refine g_nret X0 hx hby (t := .byte) (by simp) Bd.returns Bd.notSynchronized d1_15 e0 (by decide) (by decide) ?_
    show (Q_draw Z x h0 n0) (some (.int (nar .byte (x.toInt8.toInt32)))) _ _
    exact ⟨by simp [own_draw, hc6_1], N0, rfl⟩

theorem d6_0 : decode method_3_code 0 = .ok (.iload_n 0, 1) := by decide +kernel
theorem d6_1 : decode method_3_code 1 = .ok (.iconst 1, 1) := by decide +kernel
theorem d6_2 : decode method_3_code 2 = .ok (.if_icmp .eq 5, 3) := by decide +kernel
theorem d6_7 : decode method_3_code 7 = .ok (.iload_n 1, 1) := by decide +kernel
theorem d6_8 : decode method_3_code 8 = .ok (.bipush 48, 2) := by decide +kernel
theorem d6_10 : decode method_3_code 10 = .ok (.if_icmp .lt 9, 3) := by decide +kernel
theorem d6_19 : decode method_3_code 19 = .ok (.iconst (-1), 1) := by decide +kernel
theorem d6_20 : decode method_3_code 20 = .ok (.ireturn, 1) := by decide +kernel
theorem d6_13 : decode method_3_code 13 = .ok (.iload_n 1, 1) := by decide +kernel
theorem d6_14 : decode method_3_code 14 = .ok (.bipush 57, 2) := by decide +kernel
theorem d6_16 : decode method_3_code 16 = .ok (.if_icmp .le 5, 3) := by decide +kernel
theorem d6_21 : decode method_3_code 21 = .ok (.iload_n 1, 1) := by decide +kernel
theorem d6_22 : decode method_3_code 22 = .ok (.bipush 48, 2) := by decide +kernel
theorem d6_24 : decode method_3_code 24 = .ok (.isub, 1) := by decide +kernel
theorem d6_25 : decode method_3_code 25 = .ok (.ireturn, 1) := by decide +kernel
theorem d6_5 : decode method_3_code 5 = .ok (.iconst (-1), 1) := by decide +kernel
theorem d6_6 : decode method_3_code 6 = .ok (.ireturn, 1) := by decide +kernel
def Q_expd (Z : State) (x : Int32) (y : Int32) (h0 : Heap) (n0 : Nat) (v : Option Value) (h : Heap) (L : List Loc) : Prop := v = some (.int (own_expct x y)) ∧ Fr n0 L ∧ h = h0
set_option maxRecDepth 65536 in
set_option maxHeartbeats 40000000 in
theorem rm_expd (l : Launch) (Z : State) (a0 : Array Value) (hw : ∀ d ∈ tables_1, d.before a0 Z = true) (ws : List Jvm.Cond) (x : Int32) (y : Int32) (h0 : Heap) (n0 : Nat) (Z0 : n0 ≤ h0.size) :
    MetFree l (⟨"com/example/tidegate/tidegate/venue/LineFieldsDigitPinLaw", "expected", "(IB)I"⟩ : MethodName) (head1 (Jvm.Cond.code (⟨"com/example/tidegate/tidegate/venue/LineFieldsDigitPinLaw", "expected", "(IB)I"⟩ : MethodName) method_3_code 2 (some .int) :: ws) ({ frames := 0, cells := 0, slots := 0, locals := 0 } : Room)) (fun aa_ U => aa_ = #[(.int x), (.int y)] ∧ Z.Warmed39 U.vm ∧ U.heap = h0) (fun _ _ _ _ _ => True) (fun _ U o_ U' => RetG U (Q_expd Z x y h0 n0) 0 0 U' o_) := by
  refine MetFree.of_bodySF (plainFor_of_name own_pn0) hisR ?_
  intro p e s m args below meth c_ s₁ Bd hml0 hP hK
  obtain ⟨rfl, hZ, hh⟩ := hP
  have hx := Bd.exec
  have hby := Bd.bytes
  have hml : c_.maxLocals = 2 := hml0
  have hown : s.vm.findClass "com/example/tidegate/tidegate/venue/LineFieldsDigitPinLaw" = some m.cls := findClass_of_methodNamed Bd.named
  have hnm := (name_of_methodNamed Bd.named Bd.method).1
  have X0 : Stand p l e ({ frames := 0, cells := 0, slots := 0, locals := 0 } : Room) s m #[(.int x), (.int y)] below meth c_ s₁ [] 0 0 := Stand.of_body Bd
  have e0 : s₁.heap = h0 := by rw [← hh, Bd.state]; rfl
  have N0 := Fr.nil n0
  show Go p e below (RetG s (Q_expd Z x y h0 n0) 0 0) (s₁.setTop (entryFrame m #[(.int x), (.int y)] 2))
  rw [show entryFrame m #[(.int x), (.int y)] 2 = mkF m 0 #[.val (.int x), .val (.int y)] [] from by first | (simp [entryFrame, mkF, argsToLocals, Value.category]; done) | rfl]
  refine g_iloadN X0 hx hby d6_0 rfl ?_
  refine g_iconst X0 hx hby (1 : Int32) d6_1 rfl ?_
  by_cases hc2_1 : x = (1 : Int32)
  · skip
    refine g_icY X0 hx hby 7 d6_2 (teq hc2_1).1 (by decide) (by decide) ?_
    refine g_iloadN X0 hx hby d6_7 rfl ?_
    refine g_bipush X0 hx hby (48 : Int32) d6_8 rfl ?_
    by_cases hc10_2 : y < (48 : Int32)
    · skip
      refine g_icY X0 hx hby 19 d6_10 (tlt hc10_2).1 (by decide) (by decide) ?_
      refine g_iconst X0 hx hby (-1 : Int32) d6_19 rfl ?_
      refine g_iret X0 hx hby Bd.returns Bd.notSynchronized d6_20 e0 (by decide) (by decide) ?_
      show (Q_expd Z x y h0 n0) (some (.int (-1 : Int32))) _ _
      exact ⟨by simp [own_expct, hc2_1, hc10_2], N0, rfl⟩
    · skip
      refine g_icN X0 hx hby d6_10 (flt hc10_2).1 ?_
      refine g_iloadN X0 hx hby d6_13 rfl ?_
      refine g_bipush X0 hx hby (57 : Int32) d6_14 rfl ?_
      by_cases hc16_3 : (57 : Int32) < y
      · skip
        refine g_icN X0 hx hby d6_16 (tlt hc16_3).2.2.2 ?_
        refine g_iconst X0 hx hby (-1 : Int32) d6_19 rfl ?_
        refine g_iret X0 hx hby Bd.returns Bd.notSynchronized d6_20 e0 (by decide) (by decide) ?_
        show (Q_expd Z x y h0 n0) (some (.int (-1 : Int32))) _ _
        exact ⟨by simp [own_expct, hc2_1, hc10_2, hc16_3], N0, rfl⟩
      · skip
        refine g_icY X0 hx hby 21 d6_16 (flt hc16_3).2.2.2 (by decide) (by decide) ?_
        refine g_iloadN X0 hx hby d6_21 rfl ?_
        refine g_bipush X0 hx hby (48 : Int32) d6_22 rfl ?_
        refine g_isub X0 hx hby d6_24 ?_
        refine g_iret X0 hx hby Bd.returns Bd.notSynchronized d6_25 e0 (by decide) (by decide) ?_
        show (Q_expd Z x y h0 n0) (some (.int (y - (48 : Int32)))) _ _
        exact ⟨by simp [own_expct, hc2_1, hc10_2, hc16_3], N0, rfl⟩
  · skip
    refine g_icN X0 hx hby d6_2 (feq hc2_1).1 ?_
    refine g_iconst X0 hx hby (-1 : Int32) d6_5 rfl ?_
    refine g_iret X0 hx hby Bd.returns Bd.notSynchronized d6_6 e0 (by decide) (by decide) ?_
    show (Q_expd Z x y h0 n0) (some (.int (-1 : Int32))) _ _
    exact ⟨by simp [own_expct, hc2_1], N0, rfl⟩

theorem d2_0 : decode prog_65_method_1_code 0 = .ok (.aload_n 0, 1) := by decide +kernel
theorem d2_1 : decode prog_65_method_1_code 1 = .ok (.invokespecial 1, 3) := by decide +kernel
theorem d2_4 : decode prog_65_method_1_code 4 = .ok (.aload_n 0, 1) := by decide +kernel
theorem d2_5 : decode prog_65_method_1_code 5 = .ok (.iconst 0, 1) := by decide +kernel
theorem d2_6 : decode prog_65_method_1_code 6 = .ok (.newarray .byte, 2) := by decide +kernel
theorem d2_8 : decode prog_65_method_1_code 8 = .ok (.putfield 7, 3) := by decide +kernel
theorem d2_11 : decode prog_65_method_1_code 11 = .ok (.aload_n 0, 1) := by decide +kernel
theorem d2_12 : decode prog_65_method_1_code 12 = .ok (.iconst 1, 1) := by decide +kernel
theorem d2_13 : decode prog_65_method_1_code 13 = .ok (.putfield 13, 3) := by decide +kernel
theorem d2_16 : decode prog_65_method_1_code 16 = .ok (.aload_n 0, 1) := by decide +kernel
theorem d2_17 : decode prog_65_method_1_code 17 = .ok (.bipush 8, 2) := by decide +kernel
theorem d2_19 : decode prog_65_method_1_code 19 = .ok (.newarray .int, 2) := by decide +kernel
theorem d2_21 : decode prog_65_method_1_code 21 = .ok (.putfield 17, 3) := by decide +kernel
theorem d2_24 : decode prog_65_method_1_code 24 = .ok (.aload_n 0, 1) := by decide +kernel
theorem d2_25 : decode prog_65_method_1_code 25 = .ok (.bipush 8, 2) := by decide +kernel
theorem d2_27 : decode prog_65_method_1_code 27 = .ok (.newarray .int, 2) := by decide +kernel
theorem d2_29 : decode prog_65_method_1_code 29 = .ok (.putfield 21, 3) := by decide +kernel
theorem d2_32 : decode prog_65_method_1_code 32 = .ok (.return_, 1) := by decide +kernel
theorem own_pn1 : plainName "com/example/tidegate/tidegate/venue/LineFields" = true := by first | (simp [plainName, overriddenIn]; done) | decide +kernel
def Q_ini (Z : State) (a : Addr) (h0 : Heap) (n0 : Nat) (v : Option Value) (h : Heap) (L : List Loc) : Prop := v = none ∧ Fr n0 L ∧ Keep h0 h [a] ∧ ∃ (bb st en : Addr) (kS kE : ClassId), h0.size ≤ st ∧ h0.size ≤ en ∧ own_LF Z h a bb 1 st en kS kE [(.int (0 : Int32)), (.int (0 : Int32)), (.int (0 : Int32)), (.int (0 : Int32)), (.int (0 : Int32)), (.int (0 : Int32)), (.int (0 : Int32)), (.int (0 : Int32))] [(.int (0 : Int32)), (.int (0 : Int32)), (.int (0 : Int32)), (.int (0 : Int32)), (.int (0 : Int32)), (.int (0 : Int32)), (.int (0 : Int32)), (.int (0 : Int32))]
set_option maxRecDepth 65536 in
set_option maxHeartbeats 40000000 in
theorem rm_ini (l : Launch) (Z : State) (a0 : Array Value) (hw : ∀ d ∈ tables_1, d.before a0 Z = true) (ws : List Jvm.Cond) (a : Addr) (h0 : Heap) (n0 : Nat) (Z0 : n0 ≤ h0.size) (E : Exa Z h0 a "com/example/tidegate/tidegate/venue/LineFields") (FB : Fld Z h0 a "com/example/tidegate/tidegate/venue/LineFields" "bytes" "[B" .null) (FW : Fld Z h0 a "com/example/tidegate/tidegate/venue/LineFields" "width" "I" (.int (0 : Int32))) (FS : Fld Z h0 a "com/example/tidegate/tidegate/venue/LineFields" "starts" "[I" .null) (FE : Fld Z h0 a "com/example/tidegate/tidegate/venue/LineFields" "ends" "[I" .null) (ga : n0 ≤ a) :
    MetFree l (⟨"com/example/tidegate/tidegate/venue/LineFields", "<init>", "()V"⟩ : MethodName) (head1 (Jvm.Cond.code (⟨"com/example/tidegate/tidegate/venue/LineFields", "<init>", "()V"⟩ : MethodName) prog_65_method_1_code 1 none :: ws) ({ frames := 1, cells := 3, slots := 16, locals := 12 } : Room)) (fun aa_ U => aa_ = #[(.ref a)] ∧ Z.Warmed39 U.vm ∧ U.heap = h0) (fun _ _ _ _ _ => True) (fun _ U o_ U' => RetG U (Q_ini Z a h0 n0) 3 16 U' o_) := by
  refine MetFree.of_bodySF (plainFor_of_name own_pn1) hisR ?_
  intro p e s m args below meth c_ s₁ Bd hml0 hP hK
  obtain ⟨rfl, hZ, hh⟩ := hP
  have hx := Bd.exec
  have hby := Bd.bytes
  have hml : c_.maxLocals = 1 := hml0
  have hown : s.vm.findClass "com/example/tidegate/tidegate/venue/LineFields" = some m.cls := findClass_of_methodNamed Bd.named
  have hnm := (name_of_methodNamed Bd.named Bd.method).1
  have X0 : Stand p l e ({ frames := 1, cells := 3, slots := 16, locals := 12 } : Room) s m #[(.ref a)] below meth c_ s₁ [] 0 0 := Stand.of_body Bd
  have e0 : s₁.heap = h0 := by rw [← hh, Bd.state]; rfl
  have N0 := Fr.nil n0
  have w4_ := hw _ (List.mem_of_getElem? (i := 4) rfl)
  have w6_ := hw _ (List.mem_of_getElem? (i := 6) rfl)
  have w11_ := hw _ (List.mem_of_getElem? (i := 11) rfl)
  have w12_ := hw _ (List.mem_of_getElem? (i := 12) rfl)
  have w13_ := hw _ (List.mem_of_getElem? (i := 13) rfl)
  have w14_ := hw _ (List.mem_of_getElem? (i := 14) rfl)
  have w15_ := hw _ (List.mem_of_getElem? (i := 15) rfl)
  have w16_ := hw _ (List.mem_of_getElem? (i := 16) rfl)
  have w17_ := hw _ (List.mem_of_getElem? (i := 17) rfl)
  have w18_ := hw _ (List.mem_of_getElem? (i := 18) rfl)
  have w19_ := hw _ (List.mem_of_getElem? (i := 19) rfl)
  have w20_ := hw _ (List.mem_of_getElem? (i := 20) rfl)
  have w21_ := hw _ (List.mem_of_getElem? (i := 21) rfl)
  have w22_ := hw _ (List.mem_of_getElem? (i := 22) rfl)
  show Go p e below (RetG s (Q_ini Z a h0 n0) 3 16) (s₁.setTop (entryFrame m #[(.ref a)] 1))
  rw [show entryFrame m #[(.ref a)] 1 = mkF m 0 #[.val (.ref a)] [] from by first | (simp [entryFrame, mkF, argsToLocals, Value.category]; done) | rfl]
  refine g_aloadN X0 hx hby d2_0 rfl rfl ?_
  refine g_initO X0 hx hby hZ hown w11_ w12_ w13_ e0 (by rw [hml]; rfl) (Nat.le_of_ble_eq_true rfl) (Nat.le_of_ble_eq_true rfl) d2_1 (fun T1 X1 e1 => ?_)
  refine g_aloadN X1 hx hby d2_4 rfl rfl ?_
  refine g_iconst X1 hx hby (0 : Int32) d2_5 rfl ?_
  refine g_newarray X1 hx hby hZ .byte .byte (.int (0 : Int32)) [] rfl rfl w4_ e1 (by decide) 0 rfl (by decide) (by decide) (by decide) (by decide) d2_6 (fun T2 h2 k2 b2 g2 X2 e2 E2 V2 => ?_)
  have f3 := (E.ext E2)
  have f4 := (FB.ext E2)
  refine g_putF X2 hx hby hZ hown (host := "") (Or.inl w14_) Via.refl e2 f4 f3 (Or.inl w15_) w6_ (.array .byte) (by decide) rfl rfl N0 ga d2_8 (fun T5 h5 X5 e5 W5 F5 N5 => ?_)
  refine g_aloadN X5 hx hby d2_11 rfl rfl ?_
  refine g_iconst X5 hx hby (1 : Int32) d2_12 rfl ?_
  have f6 := (f3.wr W5)
  have f7 := ((FW.ext E2).other W5 (Or.inr (slot_ne (Or.inl w17_) (Or.inl w15_) (by decide) (t := .int) (t' := (.array .byte)) (by decide) (by decide))))
  refine g_putF X5 hx hby hZ hown (host := "") (Or.inl w16_) Via.refl e5 f7 f6 (Or.inl w17_) w6_ .int (by decide) rfl rfl N5 ga d2_13 (fun T8 h8 X8 e8 W8 F8 N8 => ?_)
  refine g_aloadN X8 hx hby d2_16 rfl rfl ?_
  refine g_bipush X8 hx hby (8 : Int32) d2_17 rfl ?_
  refine g_newarray X8 hx hby hZ .int .int (.int (0 : Int32)) [(.int (0 : Int32)), (.int (0 : Int32)), (.int (0 : Int32)), (.int (0 : Int32)), (.int (0 : Int32)), (.int (0 : Int32)), (.int (0 : Int32)), (.int (0 : Int32))] rfl rfl w18_ e8 (by decide) 8 rfl (by decide) (by decide) (by decide) (by decide) d2_19 (fun T9 h9 k9 b9 g9 X9 e9 E9 V9 => ?_)
  have f10 := ((f6.wr W8).ext E9)
  have f11 := ((((FS.ext E2).other W5 (Or.inr (slot_ne (Or.inl w20_) (Or.inl w15_) (by decide) (t := (.array .int)) (t' := (.array .byte)) (by decide) (by decide)))).other W8 (Or.inr (slot_ne (Or.inl w20_) (Or.inl w17_) (by decide) (t := (.array .int)) (t' := .int) (by decide) (by decide)))).ext E9)
  refine g_putF X9 hx hby hZ hown (host := "") (Or.inl w19_) Via.refl e9 f11 f10 (Or.inl w20_) w6_ (.array .int) (by decide) rfl rfl N8 ga d2_21 (fun T12 h12 X12 e12 W12 F12 N12 => ?_)
  refine g_aloadN X12 hx hby d2_24 rfl rfl ?_
  refine g_bipush X12 hx hby (8 : Int32) d2_25 rfl ?_
  refine g_newarray X12 hx hby hZ .int .int (.int (0 : Int32)) [(.int (0 : Int32)), (.int (0 : Int32)), (.int (0 : Int32)), (.int (0 : Int32)), (.int (0 : Int32)), (.int (0 : Int32)), (.int (0 : Int32)), (.int (0 : Int32))] rfl rfl w18_ e12 (by decide) 8 rfl (by decide) (by decide) (by decide) (by decide) d2_27 (fun T13 h13 k13 b13 g13 X13 e13 E13 V13 => ?_)
  have f14 := ((f10.wr W12).ext E13)
  have f15 := ((((((FE.ext E2).other W5 (Or.inr (slot_ne (Or.inl w22_) (Or.inl w15_) (by decide) (t := (.array .int)) (t' := (.array .byte)) (by decide) (by decide)))).other W8 (Or.inr (slot_ne (Or.inl w22_) (Or.inl w17_) (by decide) (t := (.array .int)) (t' := .int) (by decide) (by decide)))).ext E9).other W12 (Or.inr (slot_ne (Or.inl w22_) (Or.inl w20_) (by decide) (t := (.array .int)) (t' := (.array .int)) (by decide) (by decide)))).ext E13)
  refine g_putF X13 hx hby hZ hown (host := "") (Or.inl w21_) Via.refl e13 f15 f14 (Or.inl w22_) w6_ (.array .int) (by decide) rfl rfl N12 ga d2_29 (fun T16 h16 X16 e16 W16 F16 N16 => ?_)
  have f17 := (f14.wr W16)
  have f18 := (((((F5.other W8 (Or.inr (slot_ne (Or.inl w15_) (Or.inl w17_) (by decide) (t := (.array .byte)) (t' := .int) (by decide) (by decide)))).ext E9).other W12 (Or.inr (slot_ne (Or.inl w15_) (Or.inl w20_) (by decide) (t := (.array .byte)) (t' := (.array .int)) (by decide) (by decide)))).ext E13).other W16 (Or.inr (slot_ne (Or.inl w15_) (Or.inl w22_) (by decide) (t := (.array .byte)) (t' := (.array .int)) (by decide) (by decide))))
  have f19 := ((((F8.ext E9).other W12 (Or.inr (slot_ne (Or.inl w17_) (Or.inl w20_) (by decide) (t := .int) (t' := (.array .int)) (by decide) (by decide)))).ext E13).other W16 (Or.inr (slot_ne (Or.inl w17_) (Or.inl w22_) (by decide) (t := .int) (t' := (.array .int)) (by decide) (by decide))))
  have f20 := ((F12.ext E13).other W16 (Or.inr (slot_ne (Or.inl w20_) (Or.inl w22_) (by decide) (t := (.array .int)) (t' := (.array .int)) (by decide) (by decide))))
  have ne21 : b9 ≠ a := (Ne.symm (Nat.ne_of_lt (Nat.lt_of_lt_of_le FB.lt (Nat.le_trans (Nat.le_trans (Nat.le_trans E2.1 (Keep.of_wr W5).1) (Keep.of_wr W8).1) (Nat.le_of_eq g9)))))
  have f22 := (((V9.other W12 ne21).ext E13).other W16 ne21)
  have ne23 : b13 ≠ a := (Ne.symm (Nat.ne_of_lt (Nat.lt_of_lt_of_le FB.lt (Nat.le_trans (Nat.le_trans (Nat.le_trans (Nat.le_trans (Nat.le_trans E2.1 (Keep.of_wr W5).1) (Keep.of_wr W8).1) E9.1) (Keep.of_wr W12).1) (Nat.le_of_eq g13)))))
  have f24 := (V13.other W16 ne23)
  have ne25 : b9 ≠ b13 := (Nat.ne_of_lt (Nat.lt_of_lt_of_le V9.lt (Nat.le_trans (Keep.of_wr W12).1 (Nat.le_of_eq g13))))
  refine g_ret X16 hx hby Bd.returns Bd.notSynchronized d2_32 e16 (by decide) (by decide) ?_
  show (Q_ini Z a h0 n0) none _ _
  exact ⟨rfl, N16, ((((((((Keep.refl h0 [a]).ext E2).wr W5 (Or.inl (List.mem_of_getElem? (i := 0) rfl))).wr W8 (Or.inl (List.mem_of_getElem? (i := 0) rfl))).ext E9).wr W12 (Or.inl (List.mem_of_getElem? (i := 0) rfl))).ext E13).wr W16 (Or.inl (List.mem_of_getElem? (i := 0) rfl))), b2, b9, b13, k9, k13, (Nat.le_trans (Nat.le_trans (Nat.le_trans E2.1 (Keep.of_wr W5).1) (Keep.of_wr W8).1) (Nat.le_of_eq g9)), (Nat.le_trans (Nat.le_trans (Nat.le_trans (Nat.le_trans (Nat.le_trans E2.1 (Keep.of_wr W5).1) (Keep.of_wr W8).1) E9.1) (Keep.of_wr W12).1) (Nat.le_of_eq g13)), f17, f18, f19, f20, F16, f22, f24, (Ne.symm ne21), (Ne.symm ne23), ne25⟩

theorem d5_0 : decode prog_65_method_16_code 0 = .ok (.aload_n 0, 1) := by decide +kernel
theorem d5_1 : decode prog_65_method_16_code 1 = .ok (.getfield 13, 3) := by decide +kernel
theorem d5_4 : decode prog_65_method_16_code 4 = .ok (.aload_n 0, 1) := by decide +kernel
theorem d5_5 : decode prog_65_method_16_code 5 = .ok (.getfield 17, 3) := by decide +kernel
theorem d5_8 : decode prog_65_method_16_code 8 = .ok (.arraylength, 1) := by decide +kernel
theorem d5_9 : decode prog_65_method_16_code 9 = .ok (.if_icmp .ne 37, 3) := by decide +kernel
theorem d5_46 : decode prog_65_method_16_code 46 = .ok (.aload_n 0, 1) := by decide +kernel
theorem d5_47 : decode prog_65_method_16_code 47 = .ok (.getfield 17, 3) := by decide +kernel
theorem d5_50 : decode prog_65_method_16_code 50 = .ok (.aload_n 0, 1) := by decide +kernel
theorem d5_51 : decode prog_65_method_16_code 51 = .ok (.getfield 13, 3) := by decide +kernel
theorem d5_54 : decode prog_65_method_16_code 54 = .ok (.iload_n 1, 1) := by decide +kernel
theorem d5_55 : decode prog_65_method_16_code 55 = .ok (.iastore, 1) := by decide +kernel
theorem d5_56 : decode prog_65_method_16_code 56 = .ok (.aload_n 0, 1) := by decide +kernel
theorem d5_57 : decode prog_65_method_16_code 57 = .ok (.getfield 21, 3) := by decide +kernel
theorem d5_60 : decode prog_65_method_16_code 60 = .ok (.aload_n 0, 1) := by decide +kernel
theorem d5_61 : decode prog_65_method_16_code 61 = .ok (.getfield 13, 3) := by decide +kernel
theorem d5_64 : decode prog_65_method_16_code 64 = .ok (.iload_n 2, 1) := by decide +kernel
theorem d5_65 : decode prog_65_method_16_code 65 = .ok (.iastore, 1) := by decide +kernel
theorem d5_66 : decode prog_65_method_16_code 66 = .ok (.aload_n 0, 1) := by decide +kernel
theorem d5_67 : decode prog_65_method_16_code 67 = .ok (.dup, 1) := by decide +kernel
theorem d5_68 : decode prog_65_method_16_code 68 = .ok (.getfield 13, 3) := by decide +kernel
theorem d5_71 : decode prog_65_method_16_code 71 = .ok (.iconst 1, 1) := by decide +kernel
theorem d5_72 : decode prog_65_method_16_code 72 = .ok (.iadd, 1) := by decide +kernel
theorem d5_73 : decode prog_65_method_16_code 73 = .ok (.putfield 13, 3) := by decide +kernel
theorem d5_76 : decode prog_65_method_16_code 76 = .ok (.return_, 1) := by decide +kernel
def Q_add0 (Z : State) (a : Addr) (bb : Addr) (st : Addr) (en : Addr) (kS : ClassId) (kE : ClassId) (x : Int32) (y : Int32) (h0 : Heap) (n0 : Nat) (v : Option Value) (h : Heap) (L : List Loc) : Prop := v = none ∧ Fr n0 L ∧ Keep h0 h [a, st, en] ∧ own_LF Z h a bb 1 st en kS kE [(.int x), (.int (0 : Int32)), (.int (0 : Int32)), (.int (0 : Int32)), (.int (0 : Int32)), (.int (0 : Int32)), (.int (0 : Int32)), (.int (0 : Int32))] [(.int y), (.int (0 : Int32)), (.int (0 : Int32)), (.int (0 : Int32)), (.int (0 : Int32)), (.int (0 : Int32)), (.int (0 : Int32)), (.int (0 : Int32))]
set_option maxRecDepth 65536 in
set_option maxHeartbeats 40000000 in
theorem rm_add0 (l : Launch) (Z : State) (a0 : Array Value) (hw : ∀ d ∈ tables_1, d.before a0 Z = true) (ws : List Jvm.Cond) (a : Addr) (bb : Addr) (st : Addr) (en : Addr) (kS : ClassId) (kE : ClassId) (x : Int32) (y : Int32) (h0 : Heap) (n0 : Nat) (Z0 : n0 ≤ h0.size) (LFp : own_LF Z h0 a bb 0 st en kS kE [(.int (0 : Int32)), (.int (0 : Int32)), (.int (0 : Int32)), (.int (0 : Int32)), (.int (0 : Int32)), (.int (0 : Int32)), (.int (0 : Int32)), (.int (0 : Int32))] [(.int (0 : Int32)), (.int (0 : Int32)), (.int (0 : Int32)), (.int (0 : Int32)), (.int (0 : Int32)), (.int (0 : Int32)), (.int (0 : Int32)), (.int (0 : Int32))]) (ga : n0 ≤ a) (gs : n0 ≤ st) (ge : n0 ≤ en) :
    MetFree l (⟨"com/example/tidegate/tidegate/venue/LineFields", "add", "(II)V"⟩ : MethodName) (head1 (Jvm.Cond.code (⟨"com/example/tidegate/tidegate/venue/LineFields", "add", "(II)V"⟩ : MethodName) prog_65_method_16_code 3 none :: ws) ({ frames := 0, cells := 0, slots := 0, locals := 0 } : Room)) (fun aa_ U => aa_ = #[(.ref a), (.int x), (.int y)] ∧ Z.Warmed39 U.vm ∧ U.heap = h0) (fun _ _ _ _ _ => True) (fun _ U o_ U' => RetG U (Q_add0 Z a bb st en kS kE x y h0 n0) 0 0 U' o_) := by
  refine MetFree.of_bodySF (plainFor_of_name own_pn1) hisR ?_
  intro p e s m args below meth c_ s₁ Bd hml0 hP hK
  obtain ⟨rfl, hZ, hh⟩ := hP
  have hx := Bd.exec
  have hby := Bd.bytes
  have hml : c_.maxLocals = 3 := hml0
  have hown : s.vm.findClass "com/example/tidegate/tidegate/venue/LineFields" = some m.cls := findClass_of_methodNamed Bd.named
  have hnm := (name_of_methodNamed Bd.named Bd.method).1
  have X0 : Stand p l e ({ frames := 0, cells := 0, slots := 0, locals := 0 } : Room) s m #[(.ref a), (.int x), (.int y)] below meth c_ s₁ [] 0 0 := Stand.of_body Bd
  have e0 : s₁.heap = h0 := by rw [← hh, Bd.state]; rfl
  have N0 := Fr.nil n0
  have w6_ := hw _ (List.mem_of_getElem? (i := 6) rfl)
  have w15_ := hw _ (List.mem_of_getElem? (i := 15) rfl)
  have w16_ := hw _ (List.mem_of_getElem? (i := 16) rfl)
  have w17_ := hw _ (List.mem_of_getElem? (i := 17) rfl)
  have w19_ := hw _ (List.mem_of_getElem? (i := 19) rfl)
  have w20_ := hw _ (List.mem_of_getElem? (i := 20) rfl)
  have w21_ := hw _ (List.mem_of_getElem? (i := 21) rfl)
  have w22_ := hw _ (List.mem_of_getElem? (i := 22) rfl)
  obtain ⟨lE, lB, lW, lS, lN, lVS, lVE, ln1, ln2, ln3⟩ := LFp
  show Go p e below (RetG s (Q_add0 Z a bb st en kS kE x y h0 n0) 0 0) (s₁.setTop (entryFrame m #[(.ref a), (.int x), (.int y)] 3))
  rw [show entryFrame m #[(.ref a), (.int x), (.int y)] 3 = mkF m 0 #[.val (.ref a), .val (.int x), .val (.int y)] [] from by first | (simp [entryFrame, mkF, argsToLocals, Value.category]; done) | rfl]
  refine g_aloadN X0 hx hby d5_0 rfl rfl ?_
  refine g_getF X0 hx hby hZ hown (host := "") (Or.inl w16_) Via.refl e0 lW d5_1 (fun T1 X1 e1 => ?_)
  refine g_aloadN X1 hx hby d5_4 rfl rfl ?_
  refine g_getF X1 hx hby hZ hown (host := "") (Or.inl w19_) Via.refl e1 lS d5_5 (fun T2 X2 e2 => ?_)
  refine g_arraylength X2 hx hby hZ e2 lVS d5_8 ?_
  refine g_icY X2 hx hby 46 d5_9 (feq (by decide : ¬ ((0 : Int32) = (8 : Int32)))).2 (by decide) (by decide) ?_
  refine g_aloadN X2 hx hby d5_46 rfl rfl ?_
  refine g_getF X2 hx hby hZ hown (host := "") (Or.inl w19_) Via.refl e2 lS d5_47 (fun T3 X3 e3 => ?_)
  refine g_aloadN X3 hx hby d5_50 rfl rfl ?_
  refine g_getF X3 hx hby hZ hown (host := "") (Or.inl w16_) Via.refl e3 lW d5_51 (fun T4 X4 e4 => ?_)
  refine g_iloadN X4 hx hby d5_54 rfl ?_
  refine g_iastore X4 hx hby hZ e4 lVS 0 [(.int x), (.int (0 : Int32)), (.int (0 : Int32)), (.int (0 : Int32)), (.int (0 : Int32)), (.int (0 : Int32)), (.int (0 : Int32)), (.int (0 : Int32))] rfl ⟨by decide, by decide⟩ rfl (Nat.le_of_ble_eq_true rfl) N0 gs d5_55 (fun T5 h5 X5 e5 W5 V5 N5 => ?_)
  refine g_aloadN X5 hx hby d5_56 rfl rfl ?_
  have f6 := (lN.other W5 (Or.inl ln1))
  refine g_getF X5 hx hby hZ hown (host := "") (Or.inl w21_) Via.refl e5 f6 d5_57 (fun T7 X7 e7 => ?_)
  refine g_aloadN X7 hx hby d5_60 rfl rfl ?_
  have f8 := (lW.other W5 (Or.inl ln1))
  refine g_getF X7 hx hby hZ hown (host := "") (Or.inl w16_) Via.refl e7 f8 d5_61 (fun T9 X9 e9 => ?_)
  refine g_iloadN X9 hx hby d5_64 rfl ?_
  have f10 := (lVE.other W5 (Ne.symm ln3))
  refine g_iastore X9 hx hby hZ e9 f10 0 [(.int y), (.int (0 : Int32)), (.int (0 : Int32)), (.int (0 : Int32)), (.int (0 : Int32)), (.int (0 : Int32)), (.int (0 : Int32)), (.int (0 : Int32))] rfl ⟨by decide, by decide⟩ rfl (Nat.le_of_ble_eq_true rfl) N5 ge d5_65 (fun T11 h11 X11 e11 W11 V11 N11 => ?_)
  refine g_aloadN X11 hx hby d5_66 rfl rfl ?_
  refine g_dup X11 hx hby d5_67 rfl ?_
  have f12 := (f8.other W11 (Or.inl ln2))
  refine g_getF X11 hx hby hZ hown (host := "") (Or.inl w16_) Via.refl e11 f12 d5_68 (fun T13 X13 e13 => ?_)
  refine g_iconst X13 hx hby (1 : Int32) d5_71 rfl ?_
  refine g_iadd X13 hx hby d5_72 ?_
  refine g_topI (1 : Int32) (by decide) ?_
  have f14 := ((lE.wr W5).wr W11)
  refine g_putF X13 hx hby hZ hown (host := "") (Or.inl w16_) Via.refl e13 f12 f14 (Or.inl w17_) w6_ .int (by decide) rfl rfl N11 ga d5_73 (fun T15 h15 X15 e15 W15 F15 N15 => ?_)
  have f16 := (f14.wr W15)
  have f17 := (((lB.other W5 (Or.inl ln1)).other W11 (Or.inl ln2)).other W15 (Or.inr (slot_ne (Or.inl w15_) (Or.inl w17_) (by decide) (t := (.array .byte)) (t' := .int) (by decide) (by decide))))
  have f18 := (((lS.other W5 (Or.inl ln1)).other W11 (Or.inl ln2)).other W15 (Or.inr (slot_ne (Or.inl w20_) (Or.inl w17_) (by decide) (t := (.array .int)) (t' := .int) (by decide) (by decide))))
  have f19 := ((f6.other W11 (Or.inl ln2)).other W15 (Or.inr (slot_ne (Or.inl w22_) (Or.inl w17_) (by decide) (t := (.array .int)) (t' := .int) (by decide) (by decide))))
  have f20 := ((V5.other W11 ln3).other W15 (Ne.symm ln1))
  have f21 := (V11.other W15 (Ne.symm ln2))
  refine g_ret X15 hx hby Bd.returns Bd.notSynchronized d5_76 e15 (by decide) (by decide) ?_
  show (Q_add0 Z a bb st en kS kE x y h0 n0) none _ _
  exact ⟨rfl, N15, ((((Keep.refl h0 [a, st, en]).wr W5 (Or.inl (List.mem_of_getElem? (i := 1) rfl))).wr W11 (Or.inl (List.mem_of_getElem? (i := 2) rfl))).wr W15 (Or.inl (List.mem_of_getElem? (i := 0) rfl))), f16, f17, F15, f18, f19, f20, f21, ln1, ln2, ln3⟩

def Q_add1 (Z : State) (a : Addr) (bb : Addr) (st : Addr) (en : Addr) (kS : ClassId) (kE : ClassId) (x : Int32) (y : Int32) (s0 : Int32) (ee0 : Int32) (h0 : Heap) (n0 : Nat) (v : Option Value) (h : Heap) (L : List Loc) : Prop := v = none ∧ Fr n0 L ∧ Keep h0 h [a, st, en] ∧ own_LF Z h a bb 2 st en kS kE [(.int s0), (.int x), (.int (0 : Int32)), (.int (0 : Int32)), (.int (0 : Int32)), (.int (0 : Int32)), (.int (0 : Int32)), (.int (0 : Int32))] [(.int ee0), (.int y), (.int (0 : Int32)), (.int (0 : Int32)), (.int (0 : Int32)), (.int (0 : Int32)), (.int (0 : Int32)), (.int (0 : Int32))]
set_option maxRecDepth 65536 in
set_option maxHeartbeats 40000000 in
theorem rm_add1 (l : Launch) (Z : State) (a0 : Array Value) (hw : ∀ d ∈ tables_1, d.before a0 Z = true) (ws : List Jvm.Cond) (a : Addr) (bb : Addr) (st : Addr) (en : Addr) (kS : ClassId) (kE : ClassId) (x : Int32) (y : Int32) (s0 : Int32) (ee0 : Int32) (h0 : Heap) (n0 : Nat) (Z0 : n0 ≤ h0.size) (LFp : own_LF Z h0 a bb 1 st en kS kE [(.int s0), (.int (0 : Int32)), (.int (0 : Int32)), (.int (0 : Int32)), (.int (0 : Int32)), (.int (0 : Int32)), (.int (0 : Int32)), (.int (0 : Int32))] [(.int ee0), (.int (0 : Int32)), (.int (0 : Int32)), (.int (0 : Int32)), (.int (0 : Int32)), (.int (0 : Int32)), (.int (0 : Int32)), (.int (0 : Int32))]) (ga : n0 ≤ a) (gs : n0 ≤ st) (ge : n0 ≤ en) :
    MetFree l (⟨"com/example/tidegate/tidegate/venue/LineFields", "add", "(II)V"⟩ : MethodName) (head1 (Jvm.Cond.code (⟨"com/example/tidegate/tidegate/venue/LineFields", "add", "(II)V"⟩ : MethodName) prog_65_method_16_code 3 none :: ws) ({ frames := 0, cells := 0, slots := 0, locals := 0 } : Room)) (fun aa_ U => aa_ = #[(.ref a), (.int x), (.int y)] ∧ Z.Warmed39 U.vm ∧ U.heap = h0) (fun _ _ _ _ _ => True) (fun _ U o_ U' => RetG U (Q_add1 Z a bb st en kS kE x y s0 ee0 h0 n0) 0 0 U' o_) := by
  refine MetFree.of_bodySF (plainFor_of_name own_pn1) hisR ?_
  intro p e s m args below meth c_ s₁ Bd hml0 hP hK
  obtain ⟨rfl, hZ, hh⟩ := hP
  have hx := Bd.exec
  have hby := Bd.bytes
  have hml : c_.maxLocals = 3 := hml0
  have hown : s.vm.findClass "com/example/tidegate/tidegate/venue/LineFields" = some m.cls := findClass_of_methodNamed Bd.named
  have hnm := (name_of_methodNamed Bd.named Bd.method).1
  have X0 : Stand p l e ({ frames := 0, cells := 0, slots := 0, locals := 0 } : Room) s m #[(.ref a), (.int x), (.int y)] below meth c_ s₁ [] 0 0 := Stand.of_body Bd
  have e0 : s₁.heap = h0 := by rw [← hh, Bd.state]; rfl
  have N0 := Fr.nil n0
  have w6_ := hw _ (List.mem_of_getElem? (i := 6) rfl)
  have w15_ := hw _ (List.mem_of_getElem? (i := 15) rfl)
  have w16_ := hw _ (List.mem_of_getElem? (i := 16) rfl)
  have w17_ := hw _ (List.mem_of_getElem? (i := 17) rfl)
  have w19_ := hw _ (List.mem_of_getElem? (i := 19) rfl)
  have w20_ := hw _ (List.mem_of_getElem? (i := 20) rfl)
  have w21_ := hw _ (List.mem_of_getElem? (i := 21) rfl)
  have w22_ := hw _ (List.mem_of_getElem? (i := 22) rfl)
  obtain ⟨lE, lB, lW, lS, lN, lVS, lVE, ln1, ln2, ln3⟩ := LFp
  show Go p e below (RetG s (Q_add1 Z a bb st en kS kE x y s0 ee0 h0 n0) 0 0) (s₁.setTop (entryFrame m #[(.ref a), (.int x), (.int y)] 3))
  rw [show entryFrame m #[(.ref a), (.int x), (.int y)] 3 = mkF m 0 #[.val (.ref a), .val (.int x), .val (.int y)] [] from by first | (simp [entryFrame, mkF, argsToLocals, Value.category]; done) | rfl]
  refine g_aloadN X0 hx hby d5_0 rfl rfl ?_
  refine g_getF X0 hx hby hZ hown (host := "") (Or.inl w16_) Via.refl e0 lW d5_1 (fun T1 X1 e1 => ?_)
  refine g_aloadN X1 hx hby d5_4 rfl rfl ?_
  refine g_getF X1 hx hby hZ hown (host := "") (Or.inl w19_) Via.refl e1 lS d5_5 (fun T2 X2 e2 => ?_)
  refine g_arraylength X2 hx hby hZ e2 lVS d5_8 ?_
  refine g_icY X2 hx hby 46 d5_9 (feq (by decide : ¬ ((1 : Int32) = (8 : Int32)))).2 (by decide) (by decide) ?_
  refine g_aloadN X2 hx hby d5_46 rfl rfl ?_
  refine g_getF X2 hx hby hZ hown (host := "") (Or.inl w19_) Via.refl e2 lS d5_47 (fun T3 X3 e3 => ?_)
  refine g_aloadN X3 hx hby d5_50 rfl rfl ?_
  refine g_getF X3 hx hby hZ hown (host := "") (Or.inl w16_) Via.refl e3 lW d5_51 (fun T4 X4 e4 => ?_)
  refine g_iloadN X4 hx hby d5_54 rfl ?_
  refine g_iastore X4 hx hby hZ e4 lVS 1 [(.int s0), (.int x), (.int (0 : Int32)), (.int (0 : Int32)), (.int (0 : Int32)), (.int (0 : Int32)), (.int (0 : Int32)), (.int (0 : Int32))] rfl ⟨by decide, by decide⟩ rfl (Nat.le_of_ble_eq_true rfl) N0 gs d5_55 (fun T5 h5 X5 e5 W5 V5 N5 => ?_)
  refine g_aloadN X5 hx hby d5_56 rfl rfl ?_
  have f6 := (lN.other W5 (Or.inl ln1))
  refine g_getF X5 hx hby hZ hown (host := "") (Or.inl w21_) Via.refl e5 f6 d5_57 (fun T7 X7 e7 => ?_)
  refine g_aloadN X7 hx hby d5_60 rfl rfl ?_
  have f8 := (lW.other W5 (Or.inl ln1))
  refine g_getF X7 hx hby hZ hown (host := "") (Or.inl w16_) Via.refl e7 f8 d5_61 (fun T9 X9 e9 => ?_)
  refine g_iloadN X9 hx hby d5_64 rfl ?_
  have f10 := (lVE.other W5 (Ne.symm ln3))
  refine g_iastore X9 hx hby hZ e9 f10 1 [(.int ee0), (.int y), (.int (0 : Int32)), (.int (0 : Int32)), (.int (0 : Int32)), (.int (0 : Int32)), (.int (0 : Int32)), (.int (0 : Int32))] rfl ⟨by decide, by decide⟩ rfl (Nat.le_of_ble_eq_true rfl) N5 ge d5_65 (fun T11 h11 X11 e11 W11 V11 N11 => ?_)
  refine g_aloadN X11 hx hby d5_66 rfl rfl ?_
  refine g_dup X11 hx hby d5_67 rfl ?_
  have f12 := (f8.other W11 (Or.inl ln2))
  refine g_getF X11 hx hby hZ hown (host := "") (Or.inl w16_) Via.refl e11 f12 d5_68 (fun T13 X13 e13 => ?_)
  refine g_iconst X13 hx hby (1 : Int32) d5_71 rfl ?_
  refine g_iadd X13 hx hby d5_72 ?_
  refine g_topI (2 : Int32) (by decide) ?_
  have f14 := ((lE.wr W5).wr W11)
  refine g_putF X13 hx hby hZ hown (host := "") (Or.inl w16_) Via.refl e13 f12 f14 (Or.inl w17_) w6_ .int (by decide) rfl rfl N11 ga d5_73 (fun T15 h15 X15 e15 W15 F15 N15 => ?_)
  have f16 := (f14.wr W15)
  have f17 := (((lB.other W5 (Or.inl ln1)).other W11 (Or.inl ln2)).other W15 (Or.inr (slot_ne (Or.inl w15_) (Or.inl w17_) (by decide) (t := (.array .byte)) (t' := .int) (by decide) (by decide))))
  have f18 := (((lS.other W5 (Or.inl ln1)).other W11 (Or.inl ln2)).other W15 (Or.inr (slot_ne (Or.inl w20_) (Or.inl w17_) (by decide) (t := (.array .int)) (t' := .int) (by decide) (by decide))))
  have f19 := ((f6.other W11 (Or.inl ln2)).other W15 (Or.inr (slot_ne (Or.inl w22_) (Or.inl w17_) (by decide) (t := (.array .int)) (t' := .int) (by decide) (by decide))))
  have f20 := ((V5.other W11 ln3).other W15 (Ne.symm ln1))
  have f21 := (V11.other W15 (Ne.symm ln2))
  refine g_ret X15 hx hby Bd.returns Bd.notSynchronized d5_76 e15 (by decide) (by decide) ?_
  show (Q_add1 Z a bb st en kS kE x y s0 ee0 h0 n0) none _ _
  exact ⟨rfl, N15, ((((Keep.refl h0 [a, st, en]).wr W5 (Or.inl (List.mem_of_getElem? (i := 1) rfl))).wr W11 (Or.inl (List.mem_of_getElem? (i := 2) rfl))).wr W15 (Or.inl (List.mem_of_getElem? (i := 0) rfl))), f16, f17, F15, f18, f19, f20, f21, ln1, ln2, ln3⟩

theorem d4_0 : decode prog_65_method_2_code 0 = .ok (.aload_n 0, 1) := by decide +kernel
theorem d4_1 : decode prog_65_method_2_code 1 = .ok (.aload_n 1, 1) := by decide +kernel
theorem d4_2 : decode prog_65_method_2_code 2 = .ok (.putfield 7, 3) := by decide +kernel
theorem d4_5 : decode prog_65_method_2_code 5 = .ok (.aload_n 0, 1) := by decide +kernel
theorem d4_6 : decode prog_65_method_2_code 6 = .ok (.iconst 0, 1) := by decide +kernel
theorem d4_7 : decode prog_65_method_2_code 7 = .ok (.putfield 13, 3) := by decide +kernel
theorem d4_10 : decode prog_65_method_2_code 10 = .ok (.iload_n 2, 1) := by decide +kernel
theorem d4_11 : decode prog_65_method_2_code 11 = .ok (.istore 4, 2) := by decide +kernel
theorem d4_13 : decode prog_65_method_2_code 13 = .ok (.iload_n 2, 1) := by decide +kernel
theorem d4_14 : decode prog_65_method_2_code 14 = .ok (.istore 5, 2) := by decide +kernel
theorem d4_16 : decode prog_65_method_2_code 16 = .ok (.iload 5, 2) := by decide +kernel
theorem d4_18 : decode prog_65_method_2_code 18 = .ok (.iload_n 3, 1) := by decide +kernel
theorem d4_19 : decode prog_65_method_2_code 19 = .ok (.if_icmp .ge 32, 3) := by decide +kernel
theorem d4_22 : decode prog_65_method_2_code 22 = .ok (.aload_n 1, 1) := by decide +kernel
theorem d4_23 : decode prog_65_method_2_code 23 = .ok (.iload 5, 2) := by decide +kernel
theorem d4_25 : decode prog_65_method_2_code 25 = .ok (.baload, 1) := by decide +kernel
theorem d4_26 : decode prog_65_method_2_code 26 = .ok (.bipush 44, 2) := by decide +kernel
theorem d4_28 : decode prog_65_method_2_code 28 = .ok (.if_icmp .ne 17, 3) := by decide +kernel
theorem d4_31 : decode prog_65_method_2_code 31 = .ok (.aload_n 0, 1) := by decide +kernel
theorem d4_32 : decode prog_65_method_2_code 32 = .ok (.iload 4, 2) := by decide +kernel
theorem d4_34 : decode prog_65_method_2_code 34 = .ok (.iload 5, 2) := by decide +kernel
theorem d4_36 : decode prog_65_method_2_code 36 = .ok (.invokevirtual 24, 3) := by decide +kernel
theorem own_pd0 : parseMethodDescriptor "(II)V" = some ⟨[.int, .int], none⟩ := by decide +kernel
theorem d4_39 : decode prog_65_method_2_code 39 = .ok (.iload 5, 2) := by decide +kernel
theorem d4_41 : decode prog_65_method_2_code 41 = .ok (.iconst 1, 1) := by decide +kernel
theorem d4_42 : decode prog_65_method_2_code 42 = .ok (.iadd, 1) := by decide +kernel
theorem d4_43 : decode prog_65_method_2_code 43 = .ok (.istore 4, 2) := by decide +kernel
theorem d4_45 : decode prog_65_method_2_code 45 = .ok (.iinc 5 1, 3) := by decide +kernel
theorem d4_48 : decode prog_65_method_2_code 48 = .ok (.goto (-32), 3) := by decide +kernel
theorem d4_51 : decode prog_65_method_2_code 51 = .ok (.aload_n 0, 1) := by decide +kernel
theorem d4_52 : decode prog_65_method_2_code 52 = .ok (.iload 4, 2) := by decide +kernel
theorem d4_54 : decode prog_65_method_2_code 54 = .ok (.iload_n 3, 1) := by decide +kernel
theorem d4_55 : decode prog_65_method_2_code 55 = .ok (.invokevirtual 24, 3) := by decide +kernel
theorem d4_58 : decode prog_65_method_2_code 58 = .ok (.return_, 1) := by decide +kernel
def Q_split00 (Z : State) (a : Addr) (bb : Addr) (st : Addr) (en : Addr) (kS : ClassId) (kE : ClassId) (ln : Addr) (kL : ClassId) (bv0 : Int32) (bv2 : Int32) (bv3 : Int32) (bv4 : Int32) (bv5 : Int32) (h0 : Heap) (n0 : Nat) (v : Option Value) (h : Heap) (L : List Loc) : Prop := v = none ∧ Fr n0 L ∧ Keep h0 h [a, st, en] ∧ own_LF Z h a ln 2 st en kS kE [(.int (1 : Int32)), (.int (2 : Int32)), (.int (0 : Int32)), (.int (0 : Int32)), (.int (0 : Int32)), (.int (0 : Int32)), (.int (0 : Int32)), (.int (0 : Int32))] [(.int (1 : Int32)), (.int (2 : Int32)), (.int (0 : Int32)), (.int (0 : Int32)), (.int (0 : Int32)), (.int (0 : Int32)), (.int (0 : Int32)), (.int (0 : Int32))]
set_option maxRecDepth 65536 in
set_option maxHeartbeats 40000000 in
theorem rm_split00 (l : Launch) (Z : State) (a0 : Array Value) (hw : ∀ d ∈ tables_1, d.before a0 Z = true) (ws : List Jvm.Cond) (a : Addr) (bb : Addr) (st : Addr) (en : Addr) (kS : ClassId) (kE : ClassId) (ln : Addr) (kL : ClassId) (bv0 : Int32) (bv2 : Int32) (bv3 : Int32) (bv4 : Int32) (bv5 : Int32) (h0 : Heap) (n0 : Nat) (Z0 : n0 ≤ h0.size) (LFp : own_LF Z h0 a bb 1 st en kS kE [(.int (0 : Int32)), (.int (0 : Int32)), (.int (0 : Int32)), (.int (0 : Int32)), (.int (0 : Int32)), (.int (0 : Int32)), (.int (0 : Int32)), (.int (0 : Int32))] [(.int (0 : Int32)), (.int (0 : Int32)), (.int (0 : Int32)), (.int (0 : Int32)), (.int (0 : Int32)), (.int (0 : Int32)), (.int (0 : Int32)), (.int (0 : Int32))]) (ga : n0 ≤ a) (gs : n0 ≤ st) (ge : n0 ≤ en) (VL : Arv Z h0 ln kL .byte (6 : Int32) [(.int bv0), (.int (44 : Int32)), (.int bv2), (.int bv3), (.int bv4), (.int bv5)] (.int (0 : Int32))) (na : ln ≠ a) (ns : ln ≠ st) (nn : ln ≠ en) :
    MetFree l (⟨"com/example/tidegate/tidegate/venue/LineFields", "split", "([BII)V"⟩ : MethodName) (head1 (Jvm.Cond.code (⟨"com/example/tidegate/tidegate/venue/LineFields", "split", "([BII)V"⟩ : MethodName) prog_65_method_2_code 6 none :: ws) ({ frames := 1, cells := 0, slots := 0, locals := 14 } : Room)) (fun aa_ U => aa_ = #[(.ref a), (.ref ln), (.int (1 : Int32)), (.int (2 : Int32))] ∧ Z.Warmed39 U.vm ∧ U.heap = h0) (fun _ _ _ _ _ => True) (fun _ U o_ U' => RetG U (Q_split00 Z a bb st en kS kE ln kL bv0 bv2 bv3 bv4 bv5 h0 n0) 0 0 U' o_) := by
  refine MetFree.of_bodySF (plainFor_of_name own_pn1) hisR ?_
  intro p e s m args below meth c_ s₁ Bd hml0 hP hK
  obtain ⟨rfl, hZ, hh⟩ := hP
  have hx := Bd.exec
  have hby := Bd.bytes
  have hml : c_.maxLocals = 6 := hml0
  have hown : s.vm.findClass "com/example/tidegate/tidegate/venue/LineFields" = some m.cls := findClass_of_methodNamed Bd.named
  have hnm := (name_of_methodNamed Bd.named Bd.method).1
  have X0 : Stand p l e ({ frames := 1, cells := 0, slots := 0, locals := 14 } : Room) s m #[(.ref a), (.ref ln), (.int (1 : Int32)), (.int (2 : Int32))] below meth c_ s₁ [] 0 0 := Stand.of_body Bd
  have e0 : s₁.heap = h0 := by rw [← hh, Bd.state]; rfl
  have N0 := Fr.nil n0
  have w6_ := hw _ (List.mem_of_getElem? (i := 6) rfl)
  have w7_ := hw _ (List.mem_of_getElem? (i := 7) rfl)
  have w14_ := hw _ (List.mem_of_getElem? (i := 14) rfl)
  have w15_ := hw _ (List.mem_of_getElem? (i := 15) rfl)
  have w16_ := hw _ (List.mem_of_getElem? (i := 16) rfl)
  have w17_ := hw _ (List.mem_of_getElem? (i := 17) rfl)
  have w20_ := hw _ (List.mem_of_getElem? (i := 20) rfl)
  have w22_ := hw _ (List.mem_of_getElem? (i := 22) rfl)
  have w28_ := hw _ (List.mem_of_getElem? (i := 28) rfl)
  have w29_ := hw _ (List.mem_of_getElem? (i := 29) rfl)
  have w30_ := hw _ (List.mem_of_getElem? (i := 30) rfl)
  have w31_ := hw _ (List.mem_of_getElem? (i := 31) rfl)
  obtain ⟨lE, lB, lW, lS, lN, lVS, lVE, ln1, ln2, ln3⟩ := LFp
  show Go p e below (RetG s (Q_split00 Z a bb st en kS kE ln kL bv0 bv2 bv3 bv4 bv5 h0 n0) 0 0) (s₁.setTop (entryFrame m #[(.ref a), (.ref ln), (.int (1 : Int32)), (.int (2 : Int32))] 6))
  rw [show entryFrame m #[(.ref a), (.ref ln), (.int (1 : Int32)), (.int (2 : Int32))] 6 = mkF m 0 #[.val (.ref a), .val (.ref ln), .val (.int (1 : Int32)), .val (.int (2 : Int32)), .unset, .unset] [] from by first | (simp [entryFrame, mkF, argsToLocals, Value.category]; done) | rfl]
  refine g_aloadN X0 hx hby d4_0 rfl rfl ?_
  refine g_aloadN X0 hx hby d4_1 rfl rfl ?_
  refine g_putF X0 hx hby hZ hown (host := "") (Or.inl w14_) Via.refl e0 lB lE (Or.inl w15_) w6_ (.array .byte) (by decide) rfl rfl N0 ga d4_2 (fun T1 h1 X1 e1 W1 F1 N1 => ?_)
  refine g_aloadN X1 hx hby d4_5 rfl rfl ?_
  refine g_iconst X1 hx hby (0 : Int32) d4_6 rfl ?_
  have f2 := (lE.wr W1)
  have f3 := (lW.other W1 (Or.inr (slot_ne (Or.inl w17_) (Or.inl w15_) (by decide) (t := .int) (t' := (.array .byte)) (by decide) (by decide))))
  refine g_putF X1 hx hby hZ hown (host := "") (Or.inl w16_) Via.refl e1 f3 f2 (Or.inl w17_) w6_ .int (by decide) rfl rfl N1 ga d4_7 (fun T4 h4 X4 e4 W4 F4 N4 => ?_)
  refine g_iloadN X4 hx hby d4_10 rfl ?_
  refine g_istore X4 hx hby d4_11 (l' := #[.val (.ref a), .val (.ref ln), .val (.int (1 : Int32)), .val (.int (2 : Int32)), .val (.int (1 : Int32)), .unset]) rfl ?_
  refine g_iloadN X4 hx hby d4_13 rfl ?_
  refine g_istore X4 hx hby d4_14 (l' := #[.val (.ref a), .val (.ref ln), .val (.int (1 : Int32)), .val (.int (2 : Int32)), .val (.int (1 : Int32)), .val (.int (1 : Int32))]) rfl ?_
  refine g_iload X4 hx hby d4_16 rfl ?_
  refine g_iloadN X4 hx hby d4_18 rfl ?_
  refine g_icN X4 hx hby d4_19 (tlt (by decide : (1 : Int32) < (2 : Int32))).2.1 ?_
  refine g_aloadN X4 hx hby d4_22 rfl rfl ?_
  refine g_iload X4 hx hby d4_23 rfl ?_
  have f5 := ((VL.other W1 na).other W4 na)
  refine g_baload X4 hx hby hZ e4 f5 (.int (44 : Int32)) ⟨by decide, by decide⟩ rfl d4_25 ?_
  refine g_bipush X4 hx hby (44 : Int32) d4_26 rfl ?_
  refine g_icN X4 hx hby d4_28 (teq (by decide : (44 : Int32) = (44 : Int32))).2 ?_
  refine g_aloadN X4 hx hby d4_31 rfl rfl ?_
  refine g_iload X4 hx hby d4_32 rfl ?_
  refine g_iload X4 hx hby d4_34 rfl ?_
  have f7 := (f2.wr W4)
  have f8 := (F1.other W4 (Or.inr (slot_ne (Or.inl w15_) (Or.inl w17_) (by decide) (t := (.array .byte)) (t' := .int) (by decide) (by decide))))
  have f9 := ((lS.other W1 (Or.inr (slot_ne (Or.inl w20_) (Or.inl w15_) (by decide) (t := (.array .int)) (t' := (.array .byte)) (by decide) (by decide)))).other W4 (Or.inr (slot_ne (Or.inl w20_) (Or.inl w17_) (by decide) (t := (.array .int)) (t' := .int) (by decide) (by decide))))
  have f10 := ((lN.other W1 (Or.inr (slot_ne (Or.inl w22_) (Or.inl w15_) (by decide) (t := (.array .int)) (t' := (.array .byte)) (by decide) (by decide)))).other W4 (Or.inr (slot_ne (Or.inl w22_) (Or.inl w17_) (by decide) (t := (.array .int)) (t' := .int) (by decide) (by decide))))
  have f11 := ((lVS.other W1 (Ne.symm ln1)).other W4 (Ne.symm ln1))
  have f12 := ((lVE.other W1 (Ne.symm ln2)).other W4 (Ne.symm ln2))
  have z13 := (Nat.le_trans Z0 (Nat.le_trans (Keep.of_wr W1).1 (Keep.of_wr W4).1))
  refine g_private X4 hx hby hZ hown (rm_add0 l Z a0 hw [] a ln st en kS kE (1 : Int32) (1 : Int32) h4 n0 z13 ⟨f7, f8, F4, f9, f10, f11, f12, ln1, ln2, ln3⟩ ga gs ge) w28_ w29_ w6_ w30_ w7_ w31_ (by decide) e4 f7 (by rw [hml]; rfl) [(.int (1 : Int32)), (.int (1 : Int32))] (lenOf own_pd0 rfl) rfl rfl (Nat.le_of_ble_eq_true rfl) (Nat.le_of_ble_eq_true rfl) (Nat.le_of_ble_eq_true rfl) (Nat.le_of_ble_eq_true rfl) d4_36 (fun v6 T6 L6 X6 hQ6 => ?_)
  obtain ⟨rfl, N6q, K6, lE6, lB6, lW6, lS6, lN6, lVS6, lVE6, -, -, -⟩ := hQ6
  have N6 := Fr.app N4 N6q
  refine g_at 39 rfl rfl rfl ?_
  refine g_iload X6 hx hby d4_39 rfl ?_
  refine g_iconst X6 hx hby (1 : Int32) d4_41 rfl ?_
  refine g_iadd X6 hx hby d4_42 ?_
  refine g_topI (2 : Int32) (by decide) ?_
  refine g_istore X6 hx hby d4_43 (l' := #[.val (.ref a), .val (.ref ln), .val (.int (1 : Int32)), .val (.int (2 : Int32)), .val (.int (2 : Int32)), .val (.int (1 : Int32))]) rfl ?_
  refine g_iinc X6 hx hby (2 : Int32) d4_45 rfl (by decide) (l' := #[.val (.ref a), .val (.ref ln), .val (.int (1 : Int32)), .val (.int (2 : Int32)), .val (.int (2 : Int32)), .val (.int (2 : Int32))]) rfl ?_
  refine g_goto X6 hx hby 16 d4_48 (by decide) (by decide) ?_
  refine g_iload X6 hx hby d4_16 rfl ?_
  refine g_iloadN X6 hx hby d4_18 rfl ?_
  refine g_icY X6 hx hby 51 d4_19 (flt (by decide : ¬ ((2 : Int32) < (2 : Int32)))).2.1 (by decide) (by decide) ?_
  refine g_aloadN X6 hx hby d4_51 rfl rfl ?_
  refine g_iload X6 hx hby d4_52 rfl ?_
  refine g_iloadN X6 hx hby d4_54 rfl ?_
  have z15 := (Nat.le_trans z13 K6.1)
  refine g_private X6 hx hby hZ hown (rm_add1 l Z a0 hw [] a ln st en kS kE (2 : Int32) (2 : Int32) (1 : Int32) (1 : Int32) T6.heap n0 z15 ⟨lE6, lB6, lW6, lS6, lN6, lVS6, lVE6, ln1, ln2, ln3⟩ ga gs ge) w28_ w29_ w6_ w30_ w7_ w31_ (by decide) rfl lE6 (by rw [hml]; rfl) [(.int (2 : Int32)), (.int (2 : Int32))] (lenOf own_pd0 rfl) rfl rfl (Nat.le_of_ble_eq_true rfl) (Nat.le_of_ble_eq_true rfl) (Nat.le_of_ble_eq_true rfl) (Nat.le_of_ble_eq_true rfl) d4_55 (fun v14 T14 L14 X14 hQ14 => ?_)
  obtain ⟨rfl, N14q, K14, lE14, lB14, lW14, lS14, lN14, lVS14, lVE14, -, -, -⟩ := hQ14
  have N14 := Fr.app N6 N14q
  refine g_ret X14 hx hby Bd.returns Bd.notSynchronized d4_58 rfl (by decide) (by decide) ?_
  show (Q_split00 Z a bb st en kS kE ln kL bv0 bv2 bv3 bv4 bv5 h0 n0) none _ _
  exact ⟨rfl, N14, (((((Keep.refl h0 [a, st, en]).wr W1 (Or.inl (List.mem_of_getElem? (i := 0) rfl))).wr W4 (Or.inl (List.mem_of_getElem? (i := 0) rfl))).trans K6 (allS (Or.inl (List.mem_of_getElem? (i := 0) rfl)) (allS (Or.inl (List.mem_of_getElem? (i := 1) rfl)) (allS (Or.inl (List.mem_of_getElem? (i := 2) rfl)) all0)))).trans K14 (allS (Or.inl (List.mem_of_getElem? (i := 0) rfl)) (allS (Or.inl (List.mem_of_getElem? (i := 1) rfl)) (allS (Or.inl (List.mem_of_getElem? (i := 2) rfl)) all0)))), lE14, lB14, lW14, lS14, lN14, lVS14, lVE14, ln1, ln2, ln3⟩

def Q_split01 (Z : State) (a : Addr) (bb : Addr) (st : Addr) (en : Addr) (kS : ClassId) (kE : ClassId) (ln : Addr) (kL : ClassId) (bv0 : Int32) (bv2 : Int32) (bv3 : Int32) (bv4 : Int32) (bv5 : Int32) (h0 : Heap) (n0 : Nat) (v : Option Value) (h : Heap) (L : List Loc) : Prop := v = none ∧ Fr n0 L ∧ Keep h0 h [a, st, en] ∧ own_LF Z h a ln 2 st en kS kE [(.int (1 : Int32)), (.int (2 : Int32)), (.int (0 : Int32)), (.int (0 : Int32)), (.int (0 : Int32)), (.int (0 : Int32)), (.int (0 : Int32)), (.int (0 : Int32))] [(.int (1 : Int32)), (.int (3 : Int32)), (.int (0 : Int32)), (.int (0 : Int32)), (.int (0 : Int32)), (.int (0 : Int32)), (.int (0 : Int32)), (.int (0 : Int32))]
set_option maxRecDepth 65536 in
set_option maxHeartbeats 40000000 in
theorem rm_split01 (l : Launch) (Z : State) (a0 : Array Value) (hw : ∀ d ∈ tables_1, d.before a0 Z = true) (ws : List Jvm.Cond) (a : Addr) (bb : Addr) (st : Addr) (en : Addr) (kS : ClassId) (kE : ClassId) (ln : Addr) (kL : ClassId) (bv0 : Int32) (bv2 : Int32) (bv3 : Int32) (bv4 : Int32) (bv5 : Int32) (h0 : Heap) (n0 : Nat) (Z0 : n0 ≤ h0.size) (LFp : own_LF Z h0 a bb 1 st en kS kE [(.int (0 : Int32)), (.int (0 : Int32)), (.int (0 : Int32)), (.int (0 : Int32)), (.int (0 : Int32)), (.int (0 : Int32)), (.int (0 : Int32)), (.int (0 : Int32))] [(.int (0 : Int32)), (.int (0 : Int32)), (.int (0 : Int32)), (.int (0 : Int32)), (.int (0 : Int32)), (.int (0 : Int32)), (.int (0 : Int32)), (.int (0 : Int32))]) (ga : n0 ≤ a) (gs : n0 ≤ st) (ge : n0 ≤ en) (VL : Arv Z h0 ln kL .byte (6 : Int32) [(.int bv0), (.int (44 : Int32)), (.int bv2), (.int bv3), (.int bv4), (.int bv5)] (.int (0 : Int32))) (na : ln ≠ a) (ns : ln ≠ st) (nn : ln ≠ en) (hb2 : ¬ bv2 = (44 : Int32)) :
    MetFree l (⟨"com/example/tidegate/tidegate/venue/LineFields", "split", "([BII)V"⟩ : MethodName) (head1 (Jvm.Cond.code (⟨"com/example/tidegate/tidegate/venue/LineFields", "split", "([BII)V"⟩ : MethodName) prog_65_method_2_code 6 none :: ws) ({ frames := 1, cells := 0, slots := 0, locals := 14 } : Room)) (fun aa_ U => aa_ = #[(.ref a), (.ref ln), (.int (1 : Int32)), (.int (3 : Int32))] ∧ Z.Warmed39 U.vm ∧ U.heap = h0) (fun _ _ _ _ _ => True) (fun _ U o_ U' => RetG U (Q_split01 Z a bb st en kS kE ln kL bv0 bv2 bv3 bv4 bv5 h0 n0) 0 0 U' o_) := by
  refine MetFree.of_bodySF (plainFor_of_name own_pn1) hisR ?_
  intro p e s m args below meth c_ s₁ Bd hml0 hP hK
  obtain ⟨rfl, hZ, hh⟩ := hP
  have hx := Bd.exec
  have hby := Bd.bytes
  have hml : c_.maxLocals = 6 := hml0
  have hown : s.vm.findClass "com/example/tidegate/tidegate/venue/LineFields" = some m.cls := findClass_of_methodNamed Bd.named
  have hnm := (name_of_methodNamed Bd.named Bd.method).1
  have X0 : Stand p l e ({ frames := 1, cells := 0, slots := 0, locals := 14 } : Room) s m #[(.ref a), (.ref ln), (.int (1 : Int32)), (.int (3 : Int32))] below meth c_ s₁ [] 0 0 := Stand.of_body Bd
  have e0 : s₁.heap = h0 := by rw [← hh, Bd.state]; rfl
  have N0 := Fr.nil n0
  have w6_ := hw _ (List.mem_of_getElem? (i := 6) rfl)
  have w7_ := hw _ (List.mem_of_getElem? (i := 7) rfl)
  have w14_ := hw _ (List.mem_of_getElem? (i := 14) rfl)
  have w15_ := hw _ (List.mem_of_getElem? (i := 15) rfl)
  have w16_ := hw _ (List.mem_of_getElem? (i := 16) rfl)
  have w17_ := hw _ (List.mem_of_getElem? (i := 17) rfl)
  have w20_ := hw _ (List.mem_of_getElem? (i := 20) rfl)
  have w22_ := hw _ (List.mem_of_getElem? (i := 22) rfl)
  have w28_ := hw _ (List.mem_of_getElem? (i := 28) rfl)
  have w29_ := hw _ (List.mem_of_getElem? (i := 29) rfl)
  have w30_ := hw _ (List.mem_of_getElem? (i := 30) rfl)
  have w31_ := hw _ (List.mem_of_getElem? (i := 31) rfl)
  obtain ⟨lE, lB, lW, lS, lN, lVS, lVE, ln1, ln2, ln3⟩ := LFp
  show Go p e below (RetG s (Q_split01 Z a bb st en kS kE ln kL bv0 bv2 bv3 bv4 bv5 h0 n0) 0 0) (s₁.setTop (entryFrame m #[(.ref a), (.ref ln), (.int (1 : Int32)), (.int (3 : Int32))] 6))
  rw [show entryFrame m #[(.ref a), (.ref ln), (.int (1 : Int32)), (.int (3 : Int32))] 6 = mkF m 0 #[.val (.ref a), .val (.ref ln), .val (.int (1 : Int32)), .val (.int (3 : Int32)), .unset, .unset] [] from by first | (simp [entryFrame, mkF, argsToLocals, Value.category]; done) | rfl]
  refine g_aloadN X0 hx hby d4_0 rfl rfl ?_
  refine g_aloadN X0 hx hby d4_1 rfl rfl ?_
  refine g_putF X0 hx hby hZ hown (host := "") (Or.inl w14_) Via.refl e0 lB lE (Or.inl w15_) w6_ (.array .byte) (by decide) rfl rfl N0 ga d4_2 (fun T1 h1 X1 e1 W1 F1 N1 => ?_)
  refine g_aloadN X1 hx hby d4_5 rfl rfl ?_
  refine g_iconst X1 hx hby (0 : Int32) d4_6 rfl ?_
  have f2 := (lE.wr W1)
  have f3 := (lW.other W1 (Or.inr (slot_ne (Or.inl w17_) (Or.inl w15_) (by decide) (t := .int) (t' := (.array .byte)) (by decide) (by decide))))
  refine g_putF X1 hx hby hZ hown (host := "") (Or.inl w16_) Via.refl e1 f3 f2 (Or.inl w17_) w6_ .int (by decide) rfl rfl N1 ga d4_7 (fun T4 h4 X4 e4 W4 F4 N4 => ?_)
  refine g_iloadN X4 hx hby d4_10 rfl ?_
  refine g_istore X4 hx hby d4_11 (l' := #[.val (.ref a), .val (.ref ln), .val (.int (1 : Int32)), .val (.int (3 : Int32)), .val (.int (1 : Int32)), .unset]) rfl ?_
  refine g_iloadN X4 hx hby d4_13 rfl ?_
  refine g_istore X4 hx hby d4_14 (l' := #[.val (.ref a), .val (.ref ln), .val (.int (1 : Int32)), .val (.int (3 : Int32)), .val (.int (1 : Int32)), .val (.int (1 : Int32))]) rfl ?_
  refine g_iload X4 hx hby d4_16 rfl ?_
  refine g_iloadN X4 hx hby d4_18 rfl ?_
  refine g_icN X4 hx hby d4_19 (tlt (by decide : (1 : Int32) < (3 : Int32))).2.1 ?_
  refine g_aloadN X4 hx hby d4_22 rfl rfl ?_
  refine g_iload X4 hx hby d4_23 rfl ?_
  have f5 := ((VL.other W1 na).other W4 na)
  refine g_baload X4 hx hby hZ e4 f5 (.int (44 : Int32)) ⟨by decide, by decide⟩ rfl d4_25 ?_
  refine g_bipush X4 hx hby (44 : Int32) d4_26 rfl ?_
  refine g_icN X4 hx hby d4_28 (teq (by decide : (44 : Int32) = (44 : Int32))).2 ?_
  refine g_aloadN X4 hx hby d4_31 rfl rfl ?_
  refine g_iload X4 hx hby d4_32 rfl ?_
  refine g_iload X4 hx hby d4_34 rfl ?_
  have f7 := (f2.wr W4)
  have f8 := (F1.other W4 (Or.inr (slot_ne (Or.inl w15_) (Or.inl w17_) (by decide) (t := (.array .byte)) (t' := .int) (by decide) (by decide))))
  have f9 := ((lS.other W1 (Or.inr (slot_ne (Or.inl w20_) (Or.inl w15_) (by decide) (t := (.array .int)) (t' := (.array .byte)) (by decide) (by decide)))).other W4 (Or.inr (slot_ne (Or.inl w20_) (Or.inl w17_) (by decide) (t := (.array .int)) (t' := .int) (by decide) (by decide))))
  have f10 := ((lN.other W1 (Or.inr (slot_ne (Or.inl w22_) (Or.inl w15_) (by decide) (t := (.array .int)) (t' := (.array .byte)) (by decide) (by decide)))).other W4 (Or.inr (slot_ne (Or.inl w22_) (Or.inl w17_) (by decide) (t := (.array .int)) (t' := .int) (by decide) (by decide))))
  have f11 := ((lVS.other W1 (Ne.symm ln1)).other W4 (Ne.symm ln1))
  have f12 := ((lVE.other W1 (Ne.symm ln2)).other W4 (Ne.symm ln2))
  have z13 := (Nat.le_trans Z0 (Nat.le_trans (Keep.of_wr W1).1 (Keep.of_wr W4).1))
  refine g_private X4 hx hby hZ hown (rm_add0 l Z a0 hw [] a ln st en kS kE (1 : Int32) (1 : Int32) h4 n0 z13 ⟨f7, f8, F4, f9, f10, f11, f12, ln1, ln2, ln3⟩ ga gs ge) w28_ w29_ w6_ w30_ w7_ w31_ (by decide) e4 f7 (by rw [hml]; rfl) [(.int (1 : Int32)), (.int (1 : Int32))] (lenOf own_pd0 rfl) rfl rfl (Nat.le_of_ble_eq_true rfl) (Nat.le_of_ble_eq_true rfl) (Nat.le_of_ble_eq_true rfl) (Nat.le_of_ble_eq_true rfl) d4_36 (fun v6 T6 L6 X6 hQ6 => ?_)
  obtain ⟨rfl, N6q, K6, lE6, lB6, lW6, lS6, lN6, lVS6, lVE6, -, -, -⟩ := hQ6
  have N6 := Fr.app N4 N6q
  refine g_at 39 rfl rfl rfl ?_
  refine g_iload X6 hx hby d4_39 rfl ?_
  refine g_iconst X6 hx hby (1 : Int32) d4_41 rfl ?_
  refine g_iadd X6 hx hby d4_42 ?_
  refine g_topI (2 : Int32) (by decide) ?_
  refine g_istore X6 hx hby d4_43 (l' := #[.val (.ref a), .val (.ref ln), .val (.int (1 : Int32)), .val (.int (3 : Int32)), .val (.int (2 : Int32)), .val (.int (1 : Int32))]) rfl ?_
  refine g_iinc X6 hx hby (2 : Int32) d4_45 rfl (by decide) (l' := #[.val (.ref a), .val (.ref ln), .val (.int (1 : Int32)), .val (.int (3 : Int32)), .val (.int (2 : Int32)), .val (.int (2 : Int32))]) rfl ?_
  refine g_goto X6 hx hby 16 d4_48 (by decide) (by decide) ?_
  refine g_iload X6 hx hby d4_16 rfl ?_
  refine g_iloadN X6 hx hby d4_18 rfl ?_
  refine g_icN X6 hx hby d4_19 (tlt (by decide : (2 : Int32) < (3 : Int32))).2.1 ?_
  refine g_aloadN X6 hx hby d4_22 rfl rfl ?_
  refine g_iload X6 hx hby d4_23 rfl ?_
  have f14 := (f5.keep K6 (ninS na (ninS ns (ninS nn nin0))))
  refine g_baload X6 hx hby hZ rfl f14 (.int bv2) ⟨by decide, by decide⟩ rfl d4_25 ?_
  refine g_bipush X6 hx hby (44 : Int32) d4_26 rfl ?_
  refine g_icY X6 hx hby 45 d4_28 (feq (hb2 : ¬ (bv2 = (44 : Int32)))).2 (by decide) (by decide) ?_
  refine g_iinc X6 hx hby (3 : Int32) d4_45 rfl (by decide) (l' := #[.val (.ref a), .val (.ref ln), .val (.int (1 : Int32)), .val (.int (3 : Int32)), .val (.int (2 : Int32)), .val (.int (3 : Int32))]) rfl ?_
  refine g_goto X6 hx hby 16 d4_48 (by decide) (by decide) ?_
  refine g_iload X6 hx hby d4_16 rfl ?_
  refine g_iloadN X6 hx hby d4_18 rfl ?_
  refine g_icY X6 hx hby 51 d4_19 (flt (by decide : ¬ ((3 : Int32) < (3 : Int32)))).2.1 (by decide) (by decide) ?_
  refine g_aloadN X6 hx hby d4_51 rfl rfl ?_
  refine g_iload X6 hx hby d4_52 rfl ?_
  refine g_iloadN X6 hx hby d4_54 rfl ?_
  have z16 := (Nat.le_trans z13 K6.1)
  refine g_private X6 hx hby hZ hown (rm_add1 l Z a0 hw [] a ln st en kS kE (2 : Int32) (3 : Int32) (1 : Int32) (1 : Int32) T6.heap n0 z16 ⟨lE6, lB6, lW6, lS6, lN6, lVS6, lVE6, ln1, ln2, ln3⟩ ga gs ge) w28_ w29_ w6_ w30_ w7_ w31_ (by decide) rfl lE6 (by rw [hml]; rfl) [(.int (2 : Int32)), (.int (3 : Int32))] (lenOf own_pd0 rfl) rfl rfl (Nat.le_of_ble_eq_true rfl) (Nat.le_of_ble_eq_true rfl) (Nat.le_of_ble_eq_true rfl) (Nat.le_of_ble_eq_true rfl) d4_55 (fun v15 T15 L15 X15 hQ15 => ?_)
  obtain ⟨rfl, N15q, K15, lE15, lB15, lW15, lS15, lN15, lVS15, lVE15, -, -, -⟩ := hQ15
  have N15 := Fr.app N6 N15q
  refine g_ret X15 hx hby Bd.returns Bd.notSynchronized d4_58 rfl (by decide) (by decide) ?_
  show (Q_split01 Z a bb st en kS kE ln kL bv0 bv2 bv3 bv4 bv5 h0 n0) none _ _
  exact ⟨rfl, N15, (((((Keep.refl h0 [a, st, en]).wr W1 (Or.inl (List.mem_of_getElem? (i := 0) rfl))).wr W4 (Or.inl (List.mem_of_getElem? (i := 0) rfl))).trans K6 (allS (Or.inl (List.mem_of_getElem? (i := 0) rfl)) (allS (Or.inl (List.mem_of_getElem? (i := 1) rfl)) (allS (Or.inl (List.mem_of_getElem? (i := 2) rfl)) all0)))).trans K15 (allS (Or.inl (List.mem_of_getElem? (i := 0) rfl)) (allS (Or.inl (List.mem_of_getElem? (i := 1) rfl)) (allS (Or.inl (List.mem_of_getElem? (i := 2) rfl)) all0)))), lE15, lB15, lW15, lS15, lN15, lVS15, lVE15, ln1, ln2, ln3⟩

def Q_split02 (Z : State) (a : Addr) (bb : Addr) (st : Addr) (en : Addr) (kS : ClassId) (kE : ClassId) (ln : Addr) (kL : ClassId) (bv0 : Int32) (bv2 : Int32) (bv3 : Int32) (bv4 : Int32) (bv5 : Int32) (h0 : Heap) (n0 : Nat) (v : Option Value) (h : Heap) (L : List Loc) : Prop := v = none ∧ Fr n0 L ∧ Keep h0 h [a, st, en] ∧ own_LF Z h a ln 2 st en kS kE [(.int (1 : Int32)), (.int (2 : Int32)), (.int (0 : Int32)), (.int (0 : Int32)), (.int (0 : Int32)), (.int (0 : Int32)), (.int (0 : Int32)), (.int (0 : Int32))] [(.int (1 : Int32)), (.int (4 : Int32)), (.int (0 : Int32)), (.int (0 : Int32)), (.int (0 : Int32)), (.int (0 : Int32)), (.int (0 : Int32)), (.int (0 : Int32))]
set_option maxRecDepth 65536 in
set_option maxHeartbeats 40000000 in
theorem rm_split02 (l : Launch) (Z : State) (a0 : Array Value) (hw : ∀ d ∈ tables_1, d.before a0 Z = true) (ws : List Jvm.Cond) (a : Addr) (bb : Addr) (st : Addr) (en : Addr) (kS : ClassId) (kE : ClassId) (ln : Addr) (kL : ClassId) (bv0 : Int32) (bv2 : Int32) (bv3 : Int32) (bv4 : Int32) (bv5 : Int32) (h0 : Heap) (n0 : Nat) (Z0 : n0 ≤ h0.size) (LFp : own_LF Z h0 a bb 1 st en kS kE [(.int (0 : Int32)), (.int (0 : Int32)), (.int (0 : Int32)), (.int (0 : Int32)), (.int (0 : Int32)), (.int (0 : Int32)), (.int (0 : Int32)), (.int (0 : Int32))] [(.int (0 : Int32)), (.int (0 : Int32)), (.int (0 : Int32)), (.int (0 : Int32)), (.int (0 : Int32)), (.int (0 : Int32)), (.int (0 : Int32)), (.int (0 : Int32))]) (ga : n0 ≤ a) (gs : n0 ≤ st) (ge : n0 ≤ en) (VL : Arv Z h0 ln kL .byte (6 : Int32) [(.int bv0), (.int (44 : Int32)), (.int bv2), (.int bv3), (.int bv4), (.int bv5)] (.int (0 : Int32))) (na : ln ≠ a) (ns : ln ≠ st) (nn : ln ≠ en) (hb2 : ¬ bv2 = (44 : Int32)) (hb3 : ¬ bv3 = (44 : Int32)) :
    MetFree l (⟨"com/example/tidegate/tidegate/venue/LineFields", "split", "([BII)V"⟩ : MethodName) (head1 (Jvm.Cond.code (⟨"com/example/tidegate/tidegate/venue/LineFields", "split", "([BII)V"⟩ : MethodName) prog_65_method_2_code 6 none :: ws) ({ frames := 1, cells := 0, slots := 0, locals := 14 } : Room)) (fun aa_ U => aa_ = #[(.ref a), (.ref ln), (.int (1 : Int32)), (.int (4 : Int32))] ∧ Z.Warmed39 U.vm ∧ U.heap = h0) (fun _ _ _ _ _ => True) (fun _ U o_ U' => RetG U (Q_split02 Z a bb st en kS kE ln kL bv0 bv2 bv3 bv4 bv5 h0 n0) 0 0 U' o_) := by
  refine MetFree.of_bodySF (plainFor_of_name own_pn1) hisR ?_
  intro p e s m args below meth c_ s₁ Bd hml0 hP hK
  obtain ⟨rfl, hZ, hh⟩ := hP
  have hx := Bd.exec
  have hby := Bd.bytes
  have hml : c_.maxLocals = 6 := hml0
  have hown : s.vm.findClass "com/example/tidegate/tidegate/venue/LineFields" = some m.cls := findClass_of_methodNamed Bd.named
  have hnm := (name_of_methodNamed Bd.named Bd.method).1
  have X0 : Stand p l e ({ frames := 1, cells := 0, slots := 0, locals := 14 } : Room) s m #[(.ref a), (.ref ln), (.int (1 : Int32)), (.int (4 : Int32))] below meth c_ s₁ [] 0 0 := Stand.of_body Bd
  have e0 : s₁.heap = h0 := by rw [← hh, Bd.state]; rfl
  have N0 := Fr.nil n0
  have w6_ := hw _ (List.mem_of_getElem? (i := 6) rfl)
  have w7_ := hw _ (List.mem_of_getElem? (i := 7) rfl)
  have w14_ := hw _ (List.mem_of_getElem? (i := 14) rfl)
  have w15_ := hw _ (List.mem_of_getElem? (i := 15) rfl)
  have w16_ := hw _ (List.mem_of_getElem? (i := 16) rfl)
  have w17_ := hw _ (List.mem_of_getElem? (i := 17) rfl)
  have w20_ := hw _ (List.mem_of_getElem? (i := 20) rfl)
  have w22_ := hw _ (List.mem_of_getElem? (i := 22) rfl)
  have w28_ := hw _ (List.mem_of_getElem? (i := 28) rfl)
  have w29_ := hw _ (List.mem_of_getElem? (i := 29) rfl)
  have w30_ := hw _ (List.mem_of_getElem? (i := 30) rfl)
  have w31_ := hw _ (List.mem_of_getElem? (i := 31) rfl)
  obtain ⟨lE, lB, lW, lS, lN, lVS, lVE, ln1, ln2, ln3⟩ := LFp
  show Go p e below (RetG s (Q_split02 Z a bb st en kS kE ln kL bv0 bv2 bv3 bv4 bv5 h0 n0) 0 0) (s₁.setTop (entryFrame m #[(.ref a), (.ref ln), (.int (1 : Int32)), (.int (4 : Int32))] 6))
  rw [show entryFrame m #[(.ref a), (.ref ln), (.int (1 : Int32)), (.int (4 : Int32))] 6 = mkF m 0 #[.val (.ref a), .val (.ref ln), .val (.int (1 : Int32)), .val (.int (4 : Int32)), .unset, .unset] [] from by first | (simp [entryFrame, mkF, argsToLocals, Value.category]; done) | rfl]
  refine g_aloadN X0 hx hby d4_0 rfl rfl ?_
  refine g_aloadN X0 hx hby d4_1 rfl rfl ?_
  refine g_putF X0 hx hby hZ hown (host := "") (Or.inl w14_) Via.refl e0 lB lE (Or.inl w15_) w6_ (.array .byte) (by decide) rfl rfl N0 ga d4_2 (fun T1 h1 X1 e1 W1 F1 N1 => ?_)
  refine g_aloadN X1 hx hby d4_5 rfl rfl ?_
  refine g_iconst X1 hx hby (0 : Int32) d4_6 rfl ?_
  have f2 := (lE.wr W1)
  have f3 := (lW.other W1 (Or.inr (slot_ne (Or.inl w17_) (Or.inl w15_) (by decide) (t := .int) (t' := (.array .byte)) (by decide) (by decide))))
  refine g_putF X1 hx hby hZ hown (host := "") (Or.inl w16_) Via.refl e1 f3 f2 (Or.inl w17_) w6_ .int (by decide) rfl rfl N1 ga d4_7 (fun T4 h4 X4 e4 W4 F4 N4 => ?_)
  refine g_iloadN X4 hx hby d4_10 rfl ?_
  refine g_istore X4 hx hby d4_11 (l' := #[.val (.ref a), .val (.ref ln), .val (.int (1 : Int32)), .val (.int (4 : Int32)), .val (.int (1 : Int32)), .unset]) rfl ?_
  refine g_iloadN X4 hx hby d4_13 rfl ?_
  refine g_istore X4 hx hby d4_14 (l' := #[.val (.ref a), .val (.ref ln), .val (.int (1 : Int32)), .val (.int (4 : Int32)), .val (.int (1 : Int32)), .val (.int (1 : Int32))]) rfl ?_
  refine g_iload X4 hx hby d4_16 rfl ?_
  refine g_iloadN X4 hx hby d4_18 rfl ?_
  refine g_icN X4 hx hby d4_19 (tlt (by decide : (1 : Int32) < (4 : Int32))).2.1 ?_
  refine g_aloadN X4 hx hby d4_22 rfl rfl ?_
  refine g_iload X4 hx hby d4_23 rfl ?_
  have f5 := ((VL.other W1 na).other W4 na)
  refine g_baload X4 hx hby hZ e4 f5 (.int (44 : Int32)) ⟨by decide, by decide⟩ rfl d4_25 ?_
  refine g_bipush X4 hx hby (44 : Int32) d4_26 rfl ?_
  refine g_icN X4 hx hby d4_28 (teq (by decide : (44 : Int32) = (44 : Int32))).2 ?_
  refine g_aloadN X4 hx hby d4_31 rfl rfl ?_
  refine g_iload X4 hx hby d4_32 rfl ?_
  refine g_iload X4 hx hby d4_34 rfl ?_
  have f7 := (f2.wr W4)
  have f8 := (F1.other W4 (Or.inr (slot_ne (Or.inl w15_) (Or.inl w17_) (by decide) (t := (.array .byte)) (t' := .int) (by decide) (by decide))))
  have f9 := ((lS.other W1 (Or.inr (slot_ne (Or.inl w20_) (Or.inl w15_) (by decide) (t := (.array .int)) (t' := (.array .byte)) (by decide) (by decide)))).other W4 (Or.inr (slot_ne (Or.inl w20_) (Or.inl w17_) (by decide) (t := (.array .int)) (t' := .int) (by decide) (by decide))))
  have f10 := ((lN.other W1 (Or.inr (slot_ne (Or.inl w22_) (Or.inl w15_) (by decide) (t := (.array .int)) (t' := (.array .byte)) (by decide) (by decide)))).other W4 (Or.inr (slot_ne (Or.inl w22_) (Or.inl w17_) (by decide) (t := (.array .int)) (t' := .int) (by decide) (by decide))))
  have f11 := ((lVS.other W1 (Ne.symm ln1)).other W4 (Ne.symm ln1))
  have f12 := ((lVE.other W1 (Ne.symm ln2)).other W4 (Ne.symm ln2))
  have z13 := (Nat.le_trans Z0 (Nat.le_trans (Keep.of_wr W1).1 (Keep.of_wr W4).1))
  refine g_private X4 hx hby hZ hown (rm_add0 l Z a0 hw [] a ln st en kS kE (1 : Int32) (1 : Int32) h4 n0 z13 ⟨f7, f8, F4, f9, f10, f11, f12, ln1, ln2, ln3⟩ ga gs ge) w28_ w29_ w6_ w30_ w7_ w31_ (by decide) e4 f7 (by rw [hml]; rfl) [(.int (1 : Int32)), (.int (1 : Int32))] (lenOf own_pd0 rfl) rfl rfl (Nat.le_of_ble_eq_true rfl) (Nat.le_of_ble_eq_true rfl) (Nat.le_of_ble_eq_true rfl) (Nat.le_of_ble_eq_true rfl) d4_36 (fun v6 T6 L6 X6 hQ6 => ?_)
  obtain ⟨rfl, N6q, K6, lE6, lB6, lW6, lS6, lN6, lVS6, lVE6, -, -, -⟩ := hQ6
  have N6 := Fr.app N4 N6q
  refine g_at 39 rfl rfl rfl ?_
  refine g_iload X6 hx hby d4_39 rfl ?_
  refine g_iconst X6 hx hby (1 : Int32) d4_41 rfl ?_
  refine g_iadd X6 hx hby d4_42 ?_
  refine g_topI (2 : Int32) (by decide) ?_
  refine g_istore X6 hx hby d4_43 (l' := #[.val (.ref a), .val (.ref ln), .val (.int (1 : Int32)), .val (.int (4 : Int32)), .val (.int (2 : Int32)), .val (.int (1 : Int32))]) rfl ?_
  refine g_iinc X6 hx hby (2 : Int32) d4_45 rfl (by decide) (l' := #[.val (.ref a), .val (.ref ln), .val (.int (1 : Int32)), .val (.int (4 : Int32)), .val (.int (2 : Int32)), .val (.int (2 : Int32))]) rfl ?_
  refine g_goto X6 hx hby 16 d4_48 (by decide) (by decide) ?_
  refine g_iload X6 hx hby d4_16 rfl ?_
  refine g_iloadN X6 hx hby d4_18 rfl ?_
  refine g_icN X6 hx hby d4_19 (tlt (by decide : (2 : Int32) < (4 : Int32))).2.1 ?_
  refine g_aloadN X6 hx hby d4_22 rfl rfl ?_
  refine g_iload X6 hx hby d4_23 rfl ?_
  have f14 := (f5.keep K6 (ninS na (ninS ns (ninS nn nin0))))
  refine g_baload X6 hx hby hZ rfl f14 (.int bv2) ⟨by decide, by decide⟩ rfl d4_25 ?_
  refine g_bipush X6 hx hby (44 : Int32) d4_26 rfl ?_
  refine g_icY X6 hx hby 45 d4_28 (feq (hb2 : ¬ (bv2 = (44 : Int32)))).2 (by decide) (by decide) ?_
  refine g_iinc X6 hx hby (3 : Int32) d4_45 rfl (by decide) (l' := #[.val (.ref a), .val (.ref ln), .val (.int (1 : Int32)), .val (.int (4 : Int32)), .val (.int (2 : Int32)), .val (.int (3 : Int32))]) rfl ?_
  refine g_goto X6 hx hby 16 d4_48 (by decide) (by decide) ?_
  refine g_iload X6 hx hby d4_16 rfl ?_
  refine g_iloadN X6 hx hby d4_18 rfl ?_
  refine g_icN X6 hx hby d4_19 (tlt (by decide : (3 : Int32) < (4 : Int32))).2.1 ?_
  refine g_aloadN X6 hx hby d4_22 rfl rfl ?_
  refine g_iload X6 hx hby d4_23 rfl ?_
  refine g_baload X6 hx hby hZ rfl f14 (.int bv3) ⟨by decide, by decide⟩ rfl d4_25 ?_
  refine g_bipush X6 hx hby (44 : Int32) d4_26 rfl ?_
  refine g_icY X6 hx hby 45 d4_28 (feq (hb3 : ¬ (bv3 = (44 : Int32)))).2 (by decide) (by decide) ?_
  refine g_iinc X6 hx hby (4 : Int32) d4_45 rfl (by decide) (l' := #[.val (.ref a), .val (.ref ln), .val (.int (1 : Int32)), .val (.int (4 : Int32)), .val (.int (2 : Int32)), .val (.int (4 : Int32))]) rfl ?_
  refine g_goto X6 hx hby 16 d4_48 (by decide) (by decide) ?_
  refine g_iload X6 hx hby d4_16 rfl ?_
  refine g_iloadN X6 hx hby d4_18 rfl ?_
  refine g_icY X6 hx hby 51 d4_19 (flt (by decide : ¬ ((4 : Int32) < (4 : Int32)))).2.1 (by decide) (by decide) ?_
  refine g_aloadN X6 hx hby d4_51 rfl rfl ?_
  refine g_iload X6 hx hby d4_52 rfl ?_
  refine g_iloadN X6 hx hby d4_54 rfl ?_
  have z16 := (Nat.le_trans z13 K6.1)
  refine g_private X6 hx hby hZ hown (rm_add1 l Z a0 hw [] a ln st en kS kE (2 : Int32) (4 : Int32) (1 : Int32) (1 : Int32) T6.heap n0 z16 ⟨lE6, lB6, lW6, lS6, lN6, lVS6, lVE6, ln1, ln2, ln3⟩ ga gs ge) w28_ w29_ w6_ w30_ w7_ w31_ (by decide) rfl lE6 (by rw [hml]; rfl) [(.int (2 : Int32)), (.int (4 : Int32))] (lenOf own_pd0 rfl) rfl rfl (Nat.le_of_ble_eq_true rfl) (Nat.le_of_ble_eq_true rfl) (Nat.le_of_ble_eq_true rfl) (Nat.le_of_ble_eq_true rfl) d4_55 (fun v15 T15 L15 X15 hQ15 => ?_)
  obtain ⟨rfl, N15q, K15, lE15, lB15, lW15, lS15, lN15, lVS15, lVE15, -, -, -⟩ := hQ15
  have N15 := Fr.app N6 N15q
  refine g_ret X15 hx hby Bd.returns Bd.notSynchronized d4_58 rfl (by decide) (by decide) ?_
  show (Q_split02 Z a bb st en kS kE ln kL bv0 bv2 bv3 bv4 bv5 h0 n0) none _ _
  exact ⟨rfl, N15, (((((Keep.refl h0 [a, st, en]).wr W1 (Or.inl (List.mem_of_getElem? (i := 0) rfl))).wr W4 (Or.inl (List.mem_of_getElem? (i := 0) rfl))).trans K6 (allS (Or.inl (List.mem_of_getElem? (i := 0) rfl)) (allS (Or.inl (List.mem_of_getElem? (i := 1) rfl)) (allS (Or.inl (List.mem_of_getElem? (i := 2) rfl)) all0)))).trans K15 (allS (Or.inl (List.mem_of_getElem? (i := 0) rfl)) (allS (Or.inl (List.mem_of_getElem? (i := 1) rfl)) (allS (Or.inl (List.mem_of_getElem? (i := 2) rfl)) all0)))), lE15, lB15, lW15, lS15, lN15, lVS15, lVE15, ln1, ln2, ln3⟩

def Q_split10 (Z : State) (a : Addr) (bb : Addr) (st : Addr) (en : Addr) (kS : ClassId) (kE : ClassId) (ln : Addr) (kL : ClassId) (bv0 : Int32) (bv1 : Int32) (bv3 : Int32) (bv4 : Int32) (bv5 : Int32) (h0 : Heap) (n0 : Nat) (v : Option Value) (h : Heap) (L : List Loc) : Prop := v = none ∧ Fr n0 L ∧ Keep h0 h [a, st, en] ∧ own_LF Z h a ln 2 st en kS kE [(.int (1 : Int32)), (.int (3 : Int32)), (.int (0 : Int32)), (.int (0 : Int32)), (.int (0 : Int32)), (.int (0 : Int32)), (.int (0 : Int32)), (.int (0 : Int32))] [(.int (2 : Int32)), (.int (3 : Int32)), (.int (0 : Int32)), (.int (0 : Int32)), (.int (0 : Int32)), (.int (0 : Int32)), (.int (0 : Int32)), (.int (0 : Int32))]
set_option maxRecDepth 65536 in
set_option maxHeartbeats 40000000 in
theorem rm_split10 (l : Launch) (Z : State) (a0 : Array Value) (hw : ∀ d ∈ tables_1, d.before a0 Z = true) (ws : List Jvm.Cond) (a : Addr) (bb : Addr) (st : Addr) (en : Addr) (kS : ClassId) (kE : ClassId) (ln : Addr) (kL : ClassId) (bv0 : Int32) (bv1 : Int32) (bv3 : Int32) (bv4 : Int32) (bv5 : Int32) (h0 : Heap) (n0 : Nat) (Z0 : n0 ≤ h0.size) (LFp : own_LF Z h0 a bb 1 st en kS kE [(.int (0 : Int32)), (.int (0 : Int32)), (.int (0 : Int32)), (.int (0 : Int32)), (.int (0 : Int32)), (.int (0 : Int32)), (.int (0 : Int32)), (.int (0 : Int32))] [(.int (0 : Int32)), (.int (0 : Int32)), (.int (0 : Int32)), (.int (0 : Int32)), (.int (0 : Int32)), (.int (0 : Int32)), (.int (0 : Int32)), (.int (0 : Int32))]) (ga : n0 ≤ a) (gs : n0 ≤ st) (ge : n0 ≤ en) (VL : Arv Z h0 ln kL .byte (6 : Int32) [(.int bv0), (.int bv1), (.int (44 : Int32)), (.int bv3), (.int bv4), (.int bv5)] (.int (0 : Int32))) (na : ln ≠ a) (ns : ln ≠ st) (nn : ln ≠ en) (hb1 : ¬ bv1 = (44 : Int32)) :
    MetFree l (⟨"com/example/tidegate/tidegate/venue/LineFields", "split", "([BII)V"⟩ : MethodName) (head1 (Jvm.Cond.code (⟨"com/example/tidegate/tidegate/venue/LineFields", "split", "([BII)V"⟩ : MethodName) prog_65_method_2_code 6 none :: ws) ({ frames := 1, cells := 0, slots := 0, locals := 14 } : Room)) (fun aa_ U => aa_ = #[(.ref a), (.ref ln), (.int (1 : Int32)), (.int (3 : Int32))] ∧ Z.Warmed39 U.vm ∧ U.heap = h0) (fun _ _ _ _ _ => True) (fun _ U o_ U' => RetG U (Q_split10 Z a bb st en kS kE ln kL bv0 bv1 bv3 bv4 bv5 h0 n0) 0 0 U' o_) := by
  refine MetFree.of_bodySF (plainFor_of_name own_pn1) hisR ?_
  intro p e s m args below meth c_ s₁ Bd hml0 hP hK
  obtain ⟨rfl, hZ, hh⟩ := hP
  have hx := Bd.exec
  have hby := Bd.bytes
  have hml : c_.maxLocals = 6 := hml0
  have hown : s.vm.findClass "com/example/tidegate/tidegate/venue/LineFields" = some m.cls := findClass_of_methodNamed Bd.named
  have hnm := (name_of_methodNamed Bd.named Bd.method).1
  have X0 : Stand p l e ({ frames := 1, cells := 0, slots := 0, locals := 14 } : Room) s m #[(.ref a), (.ref ln), (.int (1 : Int32)), (.int (3 : Int32))] below meth c_ s₁ [] 0 0 := Stand.of_body Bd
  have e0 : s₁.heap = h0 := by rw [← hh, Bd.state]; rfl
  have N0 := Fr.nil n0
  have w6_ := hw _ (List.mem_of_getElem? (i := 6) rfl)
  have w7_ := hw _ (List.mem_of_getElem? (i := 7) rfl)
  have w14_ := hw _ (List.mem_of_getElem? (i := 14) rfl)
  have w15_ := hw _ (List.mem_of_getElem? (i := 15) rfl)
  have w16_ := hw _ (List.mem_of_getElem? (i := 16) rfl)
  have w17_ := hw _ (List.mem_of_getElem? (i := 17) rfl)
  have w20_ := hw _ (List.mem_of_getElem? (i := 20) rfl)
  have w22_ := hw _ (List.mem_of_getElem? (i := 22) rfl)
  have w28_ := hw _ (List.mem_of_getElem? (i := 28) rfl)
  have w29_ := hw _ (List.mem_of_getElem? (i := 29) rfl)
  have w30_ := hw _ (List.mem_of_getElem? (i := 30) rfl)
  have w31_ := hw _ (List.mem_of_getElem? (i := 31) rfl)
  obtain ⟨lE, lB, lW, lS, lN, lVS, lVE, ln1, ln2, ln3⟩ := LFp
  show Go p e below (RetG s (Q_split10 Z a bb st en kS kE ln kL bv0 bv1 bv3 bv4 bv5 h0 n0) 0 0) (s₁.setTop (entryFrame m #[(.ref a), (.ref ln), (.int (1 : Int32)), (.int (3 : Int32))] 6))
  rw [show entryFrame m #[(.ref a), (.ref ln), (.int (1 : Int32)), (.int (3 : Int32))] 6 = mkF m 0 #[.val (.ref a), .val (.ref ln), .val (.int (1 : Int32)), .val (.int (3 : Int32)), .unset, .unset] [] from by first | (simp [entryFrame, mkF, argsToLocals, Value.category]; done) | rfl]
  refine g_aloadN X0 hx hby d4_0 rfl rfl ?_
  refine g_aloadN X0 hx hby d4_1 rfl rfl ?_
  refine g_putF X0 hx hby hZ hown (host := "") (Or.inl w14_) Via.refl e0 lB lE (Or.inl w15_) w6_ (.array .byte) (by decide) rfl rfl N0 ga d4_2 (fun T1 h1 X1 e1 W1 F1 N1 => ?_)
  refine g_aloadN X1 hx hby d4_5 rfl rfl ?_
  refine g_iconst X1 hx hby (0 : Int32) d4_6 rfl ?_
  have f2 := (lE.wr W1)
  have f3 := (lW.other W1 (Or.inr (slot_ne (Or.inl w17_) (Or.inl w15_) (by decide) (t := .int) (t' := (.array .byte)) (by decide) (by decide))))
  refine g_putF X1 hx hby hZ hown (host := "") (Or.inl w16_) Via.refl e1 f3 f2 (Or.inl w17_) w6_ .int (by decide) rfl rfl N1 ga d4_7 (fun T4 h4 X4 e4 W4 F4 N4 => ?_)
  refine g_iloadN X4 hx hby d4_10 rfl ?_
  refine g_istore X4 hx hby d4_11 (l' := #[.val (.ref a), .val (.ref ln), .val (.int (1 : Int32)), .val (.int (3 : Int32)), .val (.int (1 : Int32)), .unset]) rfl ?_
  refine g_iloadN X4 hx hby d4_13 rfl ?_
  refine g_istore X4 hx hby d4_14 (l' := #[.val (.ref a), .val (.ref ln), .val (.int (1 : Int32)), .val (.int (3 : Int32)), .val (.int (1 : Int32)), .val (.int (1 : Int32))]) rfl ?_
  refine g_iload X4 hx hby d4_16 rfl ?_
  refine g_iloadN X4 hx hby d4_18 rfl ?_
  refine g_icN X4 hx hby d4_19 (tlt (by decide : (1 : Int32) < (3 : Int32))).2.1 ?_
  refine g_aloadN X4 hx hby d4_22 rfl rfl ?_
  refine g_iload X4 hx hby d4_23 rfl ?_
  have f5 := ((VL.other W1 na).other W4 na)
  refine g_baload X4 hx hby hZ e4 f5 (.int bv1) ⟨by decide, by decide⟩ rfl d4_25 ?_
  refine g_bipush X4 hx hby (44 : Int32) d4_26 rfl ?_
  refine g_icY X4 hx hby 45 d4_28 (feq (hb1 : ¬ (bv1 = (44 : Int32)))).2 (by decide) (by decide) ?_
  refine g_iinc X4 hx hby (2 : Int32) d4_45 rfl (by decide) (l' := #[.val (.ref a), .val (.ref ln), .val (.int (1 : Int32)), .val (.int (3 : Int32)), .val (.int (1 : Int32)), .val (.int (2 : Int32))]) rfl ?_
  refine g_goto X4 hx hby 16 d4_48 (by decide) (by decide) ?_
  refine g_iload X4 hx hby d4_16 rfl ?_
  refine g_iloadN X4 hx hby d4_18 rfl ?_
  refine g_icN X4 hx hby d4_19 (tlt (by decide : (2 : Int32) < (3 : Int32))).2.1 ?_
  refine g_aloadN X4 hx hby d4_22 rfl rfl ?_
  refine g_iload X4 hx hby d4_23 rfl ?_
  refine g_baload X4 hx hby hZ e4 f5 (.int (44 : Int32)) ⟨by decide, by decide⟩ rfl d4_25 ?_
  refine g_bipush X4 hx hby (44 : Int32) d4_26 rfl ?_
  refine g_icN X4 hx hby d4_28 (teq (by decide : (44 : Int32) = (44 : Int32))).2 ?_
  refine g_aloadN X4 hx hby d4_31 rfl rfl ?_
  refine g_iload X4 hx hby d4_32 rfl ?_
  refine g_iload X4 hx hby d4_34 rfl ?_
  have f7 := (f2.wr W4)
  have f8 := (F1.other W4 (Or.inr (slot_ne (Or.inl w15_) (Or.inl w17_) (by decide) (t := (.array .byte)) (t' := .int) (by decide) (by decide))))
  have f9 := ((lS.other W1 (Or.inr (slot_ne (Or.inl w20_) (Or.inl w15_) (by decide) (t := (.array .int)) (t' := (.array .byte)) (by decide) (by decide)))).other W4 (Or.inr (slot_ne (Or.inl w20_) (Or.inl w17_) (by decide) (t := (.array .int)) (t' := .int) (by decide) (by decide))))
  have f10 := ((lN.other W1 (Or.inr (slot_ne (Or.inl w22_) (Or.inl w15_) (by decide) (t := (.array .int)) (t' := (.array .byte)) (by decide) (by decide)))).other W4 (Or.inr (slot_ne (Or.inl w22_) (Or.inl w17_) (by decide) (t := (.array .int)) (t' := .int) (by decide) (by decide))))
  have f11 := ((lVS.other W1 (Ne.symm ln1)).other W4 (Ne.symm ln1))
  have f12 := ((lVE.other W1 (Ne.symm ln2)).other W4 (Ne.symm ln2))
  have z13 := (Nat.le_trans Z0 (Nat.le_trans (Keep.of_wr W1).1 (Keep.of_wr W4).1))
  refine g_private X4 hx hby hZ hown (rm_add0 l Z a0 hw [] a ln st en kS kE (1 : Int32) (2 : Int32) h4 n0 z13 ⟨f7, f8, F4, f9, f10, f11, f12, ln1, ln2, ln3⟩ ga gs ge) w28_ w29_ w6_ w30_ w7_ w31_ (by decide) e4 f7 (by rw [hml]; rfl) [(.int (1 : Int32)), (.int (2 : Int32))] (lenOf own_pd0 rfl) rfl rfl (Nat.le_of_ble_eq_true rfl) (Nat.le_of_ble_eq_true rfl) (Nat.le_of_ble_eq_true rfl) (Nat.le_of_ble_eq_true rfl) d4_36 (fun v6 T6 L6 X6 hQ6 => ?_)
  obtain ⟨rfl, N6q, K6, lE6, lB6, lW6, lS6, lN6, lVS6, lVE6, -, -, -⟩ := hQ6
  have N6 := Fr.app N4 N6q
  refine g_iload X6 hx hby d4_39 rfl ?_
  refine g_iconst X6 hx hby (1 : Int32) d4_41 rfl ?_
  refine g_iadd X6 hx hby d4_42 ?_
  refine g_topI (3 : Int32) (by decide) ?_
  refine g_istore X6 hx hby d4_43 (l' := #[.val (.ref a), .val (.ref ln), .val (.int (1 : Int32)), .val (.int (3 : Int32)), .val (.int (3 : Int32)), .val (.int (2 : Int32))]) rfl ?_
  refine g_iinc X6 hx hby (3 : Int32) d4_45 rfl (by decide) (l' := #[.val (.ref a), .val (.ref ln), .val (.int (1 : Int32)), .val (.int (3 : Int32)), .val (.int (3 : Int32)), .val (.int (3 : Int32))]) rfl ?_
  refine g_goto X6 hx hby 16 d4_48 (by decide) (by decide) ?_
  refine g_iload X6 hx hby d4_16 rfl ?_
  refine g_iloadN X6 hx hby d4_18 rfl ?_
  refine g_icY X6 hx hby 51 d4_19 (flt (by decide : ¬ ((3 : Int32) < (3 : Int32)))).2.1 (by decide) (by decide) ?_
  refine g_aloadN X6 hx hby d4_51 rfl rfl ?_
  refine g_iload X6 hx hby d4_52 rfl ?_
  refine g_iloadN X6 hx hby d4_54 rfl ?_
  have z15 := (Nat.le_trans z13 K6.1)
  refine g_private X6 hx hby hZ hown (rm_add1 l Z a0 hw [] a ln st en kS kE (3 : Int32) (3 : Int32) (1 : Int32) (2 : Int32) T6.heap n0 z15 ⟨lE6, lB6, lW6, lS6, lN6, lVS6, lVE6, ln1, ln2, ln3⟩ ga gs ge) w28_ w29_ w6_ w30_ w7_ w31_ (by decide) rfl lE6 (by rw [hml]; rfl) [(.int (3 : Int32)), (.int (3 : Int32))] (lenOf own_pd0 rfl) rfl rfl (Nat.le_of_ble_eq_true rfl) (Nat.le_of_ble_eq_true rfl) (Nat.le_of_ble_eq_true rfl) (Nat.le_of_ble_eq_true rfl) d4_55 (fun v14 T14 L14 X14 hQ14 => ?_)
  obtain ⟨rfl, N14q, K14, lE14, lB14, lW14, lS14, lN14, lVS14, lVE14, -, -, -⟩ := hQ14
  have N14 := Fr.app N6 N14q
  refine g_ret X14 hx hby Bd.returns Bd.notSynchronized d4_58 rfl (by decide) (by decide) ?_
  show (Q_split10 Z a bb st en kS kE ln kL bv0 bv1 bv3 bv4 bv5 h0 n0) none _ _
  exact ⟨rfl, N14, (((((Keep.refl h0 [a, st, en]).wr W1 (Or.inl (List.mem_of_getElem? (i := 0) rfl))).wr W4 (Or.inl (List.mem_of_getElem? (i := 0) rfl))).trans K6 (allS (Or.inl (List.mem_of_getElem? (i := 0) rfl)) (allS (Or.inl (List.mem_of_getElem? (i := 1) rfl)) (allS (Or.inl (List.mem_of_getElem? (i := 2) rfl)) all0)))).trans K14 (allS (Or.inl (List.mem_of_getElem? (i := 0) rfl)) (allS (Or.inl (List.mem_of_getElem? (i := 1) rfl)) (allS (Or.inl (List.mem_of_getElem? (i := 2) rfl)) all0)))), lE14, lB14, lW14, lS14, lN14, lVS14, lVE14, ln1, ln2, ln3⟩

def Q_split11 (Z : State) (a : Addr) (bb : Addr) (st : Addr) (en : Addr) (kS : ClassId) (kE : ClassId) (ln : Addr) (kL : ClassId) (bv0 : Int32) (bv1 : Int32) (bv3 : Int32) (bv4 : Int32) (bv5 : Int32) (h0 : Heap) (n0 : Nat) (v : Option Value) (h : Heap) (L : List Loc) : Prop := v = none ∧ Fr n0 L ∧ Keep h0 h [a, st, en] ∧ own_LF Z h a ln 2 st en kS kE [(.int (1 : Int32)), (.int (3 : Int32)), (.int (0 : Int32)), (.int (0 : Int32)), (.int (0 : Int32)), (.int (0 : Int32)), (.int (0 : Int32)), (.int (0 : Int32))] [(.int (2 : Int32)), (.int (4 : Int32)), (.int (0 : Int32)), (.int (0 : Int32)), (.int (0 : Int32)), (.int (0 : Int32)), (.int (0 : Int32)), (.int (0 : Int32))]
set_option maxRecDepth 65536 in
set_option maxHeartbeats 40000000 in
theorem rm_split11 (l : Launch) (Z : State) (a0 : Array Value) (hw : ∀ d ∈ tables_1, d.before a0 Z = true) (ws : List Jvm.Cond) (a : Addr) (bb : Addr) (st : Addr) (en : Addr) (kS : ClassId) (kE : ClassId) (ln : Addr) (kL : ClassId) (bv0 : Int32) (bv1 : Int32) (bv3 : Int32) (bv4 : Int32) (bv5 : Int32) (h0 : Heap) (n0 : Nat) (Z0 : n0 ≤ h0.size) (LFp : own_LF Z h0 a bb 1 st en kS kE [(.int (0 : Int32)), (.int (0 : Int32)), (.int (0 : Int32)), (.int (0 : Int32)), (.int (0 : Int32)), (.int (0 : Int32)), (.int (0 : Int32)), (.int (0 : Int32))] [(.int (0 : Int32)), (.int (0 : Int32)), (.int (0 : Int32)), (.int (0 : Int32)), (.int (0 : Int32)), (.int (0 : Int32)), (.int (0 : Int32)), (.int (0 : Int32))]) (ga : n0 ≤ a) (gs : n0 ≤ st) (ge : n0 ≤ en) (VL : Arv Z h0 ln kL .byte (6 : Int32) [(.int bv0), (.int bv1), (.int (44 : Int32)), (.int bv3), (.int bv4), (.int bv5)] (.int (0 : Int32))) (na : ln ≠ a) (ns : ln ≠ st) (nn : ln ≠ en) (hb1 : ¬ bv1 = (44 : Int32)) (hb3 : ¬ bv3 = (44 : Int32)) :
    MetFree l (⟨"com/example/tidegate/tidegate/venue/LineFields", "split", "([BII)V"⟩ : MethodName) (head1 (Jvm.Cond.code (⟨"com/example/tidegate/tidegate/venue/LineFields", "split", "([BII)V"⟩ : MethodName) prog_65_method_2_code 6 none :: ws) ({ frames := 1, cells := 0, slots := 0, locals := 14 } : Room)) (fun aa_ U => aa_ = #[(.ref a), (.ref ln), (.int (1 : Int32)), (.int (4 : Int32))] ∧ Z.Warmed39 U.vm ∧ U.heap = h0) (fun _ _ _ _ _ => True) (fun _ U o_ U' => RetG U (Q_split11 Z a bb st en kS kE ln kL bv0 bv1 bv3 bv4 bv5 h0 n0) 0 0 U' o_) := by
  refine MetFree.of_bodySF (plainFor_of_name own_pn1) hisR ?_
  intro p e s m args below meth c_ s₁ Bd hml0 hP hK
  obtain ⟨rfl, hZ, hh⟩ := hP
  have hx := Bd.exec
  have hby := Bd.bytes
  have hml : c_.maxLocals = 6 := hml0
  have hown : s.vm.findClass "com/example/tidegate/tidegate/venue/LineFields" = some m.cls := findClass_of_methodNamed Bd.named
  have hnm := (name_of_methodNamed Bd.named Bd.method).1
  have X0 : Stand p l e ({ frames := 1, cells := 0, slots := 0, locals := 14 } : Room) s m #[(.ref a), (.ref ln), (.int (1 : Int32)), (.int (4 : Int32))] below meth c_ s₁ [] 0 0 := Stand.of_body Bd
  have e0 : s₁.heap = h0 := by rw [← hh, Bd.state]; rfl
  have N0 := Fr.nil n0
  have w6_ := hw _ (List.mem_of_getElem? (i := 6) rfl)
  have w7_ := hw _ (List.mem_of_getElem? (i := 7) rfl)
  have w14_ := hw _ (List.mem_of_getElem? (i := 14) rfl)
  have w15_ := hw _ (List.mem_of_getElem? (i := 15) rfl)
  have w16_ := hw _ (List.mem_of_getElem? (i := 16) rfl)
  have w17_ := hw _ (List.mem_of_getElem? (i := 17) rfl)
  have w20_ := hw _ (List.mem_of_getElem? (i := 20) rfl)
  have w22_ := hw _ (List.mem_of_getElem? (i := 22) rfl)
  have w28_ := hw _ (List.mem_of_getElem? (i := 28) rfl)
  have w29_ := hw _ (List.mem_of_getElem? (i := 29) rfl)
  have w30_ := hw _ (List.mem_of_getElem? (i := 30) rfl)
  have w31_ := hw _ (List.mem_of_getElem? (i := 31) rfl)
  obtain ⟨lE, lB, lW, lS, lN, lVS, lVE, ln1, ln2, ln3⟩ := LFp
  show Go p e below (RetG s (Q_split11 Z a bb st en kS kE ln kL bv0 bv1 bv3 bv4 bv5 h0 n0) 0 0) (s₁.setTop (entryFrame m #[(.ref a), (.ref ln), (.int (1 : Int32)), (.int (4 : Int32))] 6))
  rw [show entryFrame m #[(.ref a), (.ref ln), (.int (1 : Int32)), (.int (4 : Int32))] 6 = mkF m 0 #[.val (.ref a), .val (.ref ln), .val (.int (1 : Int32)), .val (.int (4 : Int32)), .unset, .unset] [] from by first | (simp [entryFrame, mkF, argsToLocals, Value.category]; done) | rfl]
  refine g_aloadN X0 hx hby d4_0 rfl rfl ?_
  refine g_aloadN X0 hx hby d4_1 rfl rfl ?_
  refine g_putF X0 hx hby hZ hown (host := "") (Or.inl w14_) Via.refl e0 lB lE (Or.inl w15_) w6_ (.array .byte) (by decide) rfl rfl N0 ga d4_2 (fun T1 h1 X1 e1 W1 F1 N1 => ?_)
  refine g_aloadN X1 hx hby d4_5 rfl rfl ?_
  refine g_iconst X1 hx hby (0 : Int32) d4_6 rfl ?_
  have f2 := (lE.wr W1)
  have f3 := (lW.other W1 (Or.inr (slot_ne (Or.inl w17_) (Or.inl w15_) (by decide) (t := .int) (t' := (.array .byte)) (by decide) (by decide))))
  refine g_putF X1 hx hby hZ hown (host := "") (Or.inl w16_) Via.refl e1 f3 f2 (Or.inl w17_) w6_ .int (by decide) rfl rfl N1 ga d4_7 (fun T4 h4 X4 e4 W4 F4 N4 => ?_)
  refine g_iloadN X4 hx hby d4_10 rfl ?_
  refine g_istore X4 hx hby d4_11 (l' := #[.val (.ref a), .val (.ref ln), .val (.int (1 : Int32)), .val (.int (4 : Int32)), .val (.int (1 : Int32)), .unset]) rfl ?_
  refine g_iloadN X4 hx hby d4_13 rfl ?_
  refine g_istore X4 hx hby d4_14 (l' := #[.val (.ref a), .val (.ref ln), .val (.int (1 : Int32)), .val (.int (4 : Int32)), .val (.int (1 : Int32)), .val (.int (1 : Int32))]) rfl ?_
  refine g_iload X4 hx hby d4_16 rfl ?_
  refine g_iloadN X4 hx hby d4_18 rfl ?_
  refine g_icN X4 hx hby d4_19 (tlt (by decide : (1 : Int32) < (4 : Int32))).2.1 ?_
  refine g_aloadN X4 hx hby d4_22 rfl rfl ?_
  refine g_iload X4 hx hby d4_23 rfl ?_
  have f5 := ((VL.other W1 na).other W4 na)
  refine g_baload X4 hx hby hZ e4 f5 (.int bv1) ⟨by decide, by decide⟩ rfl d4_25 ?_
  refine g_bipush X4 hx hby (44 : Int32) d4_26 rfl ?_
  refine g_icY X4 hx hby 45 d4_28 (feq (hb1 : ¬ (bv1 = (44 : Int32)))).2 (by decide) (by decide) ?_
  refine g_iinc X4 hx hby (2 : Int32) d4_45 rfl (by decide) (l' := #[.val (.ref a), .val (.ref ln), .val (.int (1 : Int32)), .val (.int (4 : Int32)), .val (.int (1 : Int32)), .val (.int (2 : Int32))]) rfl ?_
  refine g_goto X4 hx hby 16 d4_48 (by decide) (by decide) ?_
  refine g_iload X4 hx hby d4_16 rfl ?_
  refine g_iloadN X4 hx hby d4_18 rfl ?_
  refine g_icN X4 hx hby d4_19 (tlt (by decide : (2 : Int32) < (4 : Int32))).2.1 ?_
  refine g_aloadN X4 hx hby d4_22 rfl rfl ?_
  refine g_iload X4 hx hby d4_23 rfl ?_
  refine g_baload X4 hx hby hZ e4 f5 (.int (44 : Int32)) ⟨by decide, by decide⟩ rfl d4_25 ?_
  refine g_bipush X4 hx hby (44 : Int32) d4_26 rfl ?_
  refine g_icN X4 hx hby d4_28 (teq (by decide : (44 : Int32) = (44 : Int32))).2 ?_
  refine g_aloadN X4 hx hby d4_31 rfl rfl ?_
  refine g_iload X4 hx hby d4_32 rfl ?_
  refine g_iload X4 hx hby d4_34 rfl ?_
  have f7 := (f2.wr W4)
  have f8 := (F1.other W4 (Or.inr (slot_ne (Or.inl w15_) (Or.inl w17_) (by decide) (t := (.array .byte)) (t' := .int) (by decide) (by decide))))
  have f9 := ((lS.other W1 (Or.inr (slot_ne (Or.inl w20_) (Or.inl w15_) (by decide) (t := (.array .int)) (t' := (.array .byte)) (by decide) (by decide)))).other W4 (Or.inr (slot_ne (Or.inl w20_) (Or.inl w17_) (by decide) (t := (.array .int)) (t' := .int) (by decide) (by decide))))
  have f10 := ((lN.other W1 (Or.inr (slot_ne (Or.inl w22_) (Or.inl w15_) (by decide) (t := (.array .int)) (t' := (.array .byte)) (by decide) (by decide)))).other W4 (Or.inr (slot_ne (Or.inl w22_) (Or.inl w17_) (by decide) (t := (.array .int)) (t' := .int) (by decide) (by decide))))
  have f11 := ((lVS.other W1 (Ne.symm ln1)).other W4 (Ne.symm ln1))
  have f12 := ((lVE.other W1 (Ne.symm ln2)).other W4 (Ne.symm ln2))
  have z13 := (Nat.le_trans Z0 (Nat.le_trans (Keep.of_wr W1).1 (Keep.of_wr W4).1))
  refine g_private X4 hx hby hZ hown (rm_add0 l Z a0 hw [] a ln st en kS kE (1 : Int32) (2 : Int32) h4 n0 z13 ⟨f7, f8, F4, f9, f10, f11, f12, ln1, ln2, ln3⟩ ga gs ge) w28_ w29_ w6_ w30_ w7_ w31_ (by decide) e4 f7 (by rw [hml]; rfl) [(.int (1 : Int32)), (.int (2 : Int32))] (lenOf own_pd0 rfl) rfl rfl (Nat.le_of_ble_eq_true rfl) (Nat.le_of_ble_eq_true rfl) (Nat.le_of_ble_eq_true rfl) (Nat.le_of_ble_eq_true rfl) d4_36 (fun v6 T6 L6 X6 hQ6 => ?_)
  obtain ⟨rfl, N6q, K6, lE6, lB6, lW6, lS6, lN6, lVS6, lVE6, -, -, -⟩ := hQ6
  have N6 := Fr.app N4 N6q
  refine g_iload X6 hx hby d4_39 rfl ?_
  refine g_iconst X6 hx hby (1 : Int32) d4_41 rfl ?_
  refine g_iadd X6 hx hby d4_42 ?_
  refine g_topI (3 : Int32) (by decide) ?_
  refine g_istore X6 hx hby d4_43 (l' := #[.val (.ref a), .val (.ref ln), .val (.int (1 : Int32)), .val (.int (4 : Int32)), .val (.int (3 : Int32)), .val (.int (2 : Int32))]) rfl ?_
  refine g_iinc X6 hx hby (3 : Int32) d4_45 rfl (by decide) (l' := #[.val (.ref a), .val (.ref ln), .val (.int (1 : Int32)), .val (.int (4 : Int32)), .val (.int (3 : Int32)), .val (.int (3 : Int32))]) rfl ?_
  refine g_goto X6 hx hby 16 d4_48 (by decide) (by decide) ?_
  refine g_iload X6 hx hby d4_16 rfl ?_
  refine g_iloadN X6 hx hby d4_18 rfl ?_
  refine g_icN X6 hx hby d4_19 (tlt (by decide : (3 : Int32) < (4 : Int32))).2.1 ?_
  refine g_aloadN X6 hx hby d4_22 rfl rfl ?_
  refine g_iload X6 hx hby d4_23 rfl ?_
  have f14 := (f5.keep K6 (ninS na (ninS ns (ninS nn nin0))))
  refine g_baload X6 hx hby hZ rfl f14 (.int bv3) ⟨by decide, by decide⟩ rfl d4_25 ?_
  refine g_bipush X6 hx hby (44 : Int32) d4_26 rfl ?_
  refine g_icY X6 hx hby 45 d4_28 (feq (hb3 : ¬ (bv3 = (44 : Int32)))).2 (by decide) (by decide) ?_
  refine g_iinc X6 hx hby (4 : Int32) d4_45 rfl (by decide) (l' := #[.val (.ref a), .val (.ref ln), .val (.int (1 : Int32)), .val (.int (4 : Int32)), .val (.int (3 : Int32)), .val (.int (4 : Int32))]) rfl ?_
  refine g_goto X6 hx hby 16 d4_48 (by decide) (by decide) ?_
  refine g_iload X6 hx hby d4_16 rfl ?_
  refine g_iloadN X6 hx hby d4_18 rfl ?_
  refine g_icY X6 hx hby 51 d4_19 (flt (by decide : ¬ ((4 : Int32) < (4 : Int32)))).2.1 (by decide) (by decide) ?_
  refine g_aloadN X6 hx hby d4_51 rfl rfl ?_
  refine g_iload X6 hx hby d4_52 rfl ?_
  refine g_iloadN X6 hx hby d4_54 rfl ?_
  have z16 := (Nat.le_trans z13 K6.1)
  refine g_private X6 hx hby hZ hown (rm_add1 l Z a0 hw [] a ln st en kS kE (3 : Int32) (4 : Int32) (1 : Int32) (2 : Int32) T6.heap n0 z16 ⟨lE6, lB6, lW6, lS6, lN6, lVS6, lVE6, ln1, ln2, ln3⟩ ga gs ge) w28_ w29_ w6_ w30_ w7_ w31_ (by decide) rfl lE6 (by rw [hml]; rfl) [(.int (3 : Int32)), (.int (4 : Int32))] (lenOf own_pd0 rfl) rfl rfl (Nat.le_of_ble_eq_true rfl) (Nat.le_of_ble_eq_true rfl) (Nat.le_of_ble_eq_true rfl) (Nat.le_of_ble_eq_true rfl) d4_55 (fun v15 T15 L15 X15 hQ15 => ?_)
  obtain ⟨rfl, N15q, K15, lE15, lB15, lW15, lS15, lN15, lVS15, lVE15, -, -, -⟩ := hQ15
  have N15 := Fr.app N6 N15q
  refine g_ret X15 hx hby Bd.returns Bd.notSynchronized d4_58 rfl (by decide) (by decide) ?_
  show (Q_split11 Z a bb st en kS kE ln kL bv0 bv1 bv3 bv4 bv5 h0 n0) none _ _
  exact ⟨rfl, N15, (((((Keep.refl h0 [a, st, en]).wr W1 (Or.inl (List.mem_of_getElem? (i := 0) rfl))).wr W4 (Or.inl (List.mem_of_getElem? (i := 0) rfl))).trans K6 (allS (Or.inl (List.mem_of_getElem? (i := 0) rfl)) (allS (Or.inl (List.mem_of_getElem? (i := 1) rfl)) (allS (Or.inl (List.mem_of_getElem? (i := 2) rfl)) all0)))).trans K15 (allS (Or.inl (List.mem_of_getElem? (i := 0) rfl)) (allS (Or.inl (List.mem_of_getElem? (i := 1) rfl)) (allS (Or.inl (List.mem_of_getElem? (i := 2) rfl)) all0)))), lE15, lB15, lW15, lS15, lN15, lVS15, lVE15, ln1, ln2, ln3⟩

def Q_split12 (Z : State) (a : Addr) (bb : Addr) (st : Addr) (en : Addr) (kS : ClassId) (kE : ClassId) (ln : Addr) (kL : ClassId) (bv0 : Int32) (bv1 : Int32) (bv3 : Int32) (bv4 : Int32) (bv5 : Int32) (h0 : Heap) (n0 : Nat) (v : Option Value) (h : Heap) (L : List Loc) : Prop := v = none ∧ Fr n0 L ∧ Keep h0 h [a, st, en] ∧ own_LF Z h a ln 2 st en kS kE [(.int (1 : Int32)), (.int (3 : Int32)), (.int (0 : Int32)), (.int (0 : Int32)), (.int (0 : Int32)), (.int (0 : Int32)), (.int (0 : Int32)), (.int (0 : Int32))] [(.int (2 : Int32)), (.int (5 : Int32)), (.int (0 : Int32)), (.int (0 : Int32)), (.int (0 : Int32)), (.int (0 : Int32)), (.int (0 : Int32)), (.int (0 : Int32))]
set_option maxRecDepth 65536 in
set_option maxHeartbeats 40000000 in
theorem rm_split12 (l : Launch) (Z : State) (a0 : Array Value) (hw : ∀ d ∈ tables_1, d.before a0 Z = true) (ws : List Jvm.Cond) (a : Addr) (bb : Addr) (st : Addr) (en : Addr) (kS : ClassId) (kE : ClassId) (ln : Addr) (kL : ClassId) (bv0 : Int32) (bv1 : Int32) (bv3 : Int32) (bv4 : Int32) (bv5 : Int32) (h0 : Heap) (n0 : Nat) (Z0 : n0 ≤ h0.size) (LFp : own_LF Z h0 a bb 1 st en kS kE [(.int (0 : Int32)), (.int (0 : Int32)), (.int (0 : Int32)), (.int (0 : Int32)), (.int (0 : Int32)), (.int (0 : Int32)), (.int (0 : Int32)), (.int (0 : Int32))] [(.int (0 : Int32)), (.int (0 : Int32)), (.int (0 : Int32)), (.int (0 : Int32)), (.int (0 : Int32)), (.int (0 : Int32)), (.int (0 : Int32)), (.int (0 : Int32))]) (ga : n0 ≤ a) (gs : n0 ≤ st) (ge : n0 ≤ en) (VL : Arv Z h0 ln kL .byte (6 : Int32) [(.int bv0), (.int bv1), (.int (44 : Int32)), (.int bv3), (.int bv4), (.int bv5)] (.int (0 : Int32))) (na : ln ≠ a) (ns : ln ≠ st) (nn : ln ≠ en) (hb1 : ¬ bv1 = (44 : Int32)) (hb3 : ¬ bv3 = (44 : Int32)) (hb4 : ¬ bv4 = (44 : Int32)) :
    MetFree l (⟨"com/example/tidegate/tidegate/venue/LineFields", "split", "([BII)V"⟩ : MethodName) (head1 (Jvm.Cond.code (⟨"com/example/tidegate/tidegate/venue/LineFields", "split", "([BII)V"⟩ : MethodName) prog_65_method_2_code 6 none :: ws) ({ frames := 1, cells := 0, slots := 0, locals := 14 } : Room)) (fun aa_ U => aa_ = #[(.ref a), (.ref ln), (.int (1 : Int32)), (.int (5 : Int32))] ∧ Z.Warmed39 U.vm ∧ U.heap = h0) (fun _ _ _ _ _ => True) (fun _ U o_ U' => RetG U (Q_split12 Z a bb st en kS kE ln kL bv0 bv1 bv3 bv4 bv5 h0 n0) 0 0 U' o_) := by
  refine MetFree.of_bodySF (plainFor_of_name own_pn1) hisR ?_
  intro p e s m args below meth c_ s₁ Bd hml0 hP hK
  obtain ⟨rfl, hZ, hh⟩ := hP
  have hx := Bd.exec
  have hby := Bd.bytes
  have hml : c_.maxLocals = 6 := hml0
  have hown : s.vm.findClass "com/example/tidegate/tidegate/venue/LineFields" = some m.cls := findClass_of_methodNamed Bd.named
  have hnm := (name_of_methodNamed Bd.named Bd.method).1
  have X0 : Stand p l e ({ frames := 1, cells := 0, slots := 0, locals := 14 } : Room) s m #[(.ref a), (.ref ln), (.int (1 : Int32)), (.int (5 : Int32))] below meth c_ s₁ [] 0 0 := Stand.of_body Bd
  have e0 : s₁.heap = h0 := by rw [← hh, Bd.state]; rfl
  have N0 := Fr.nil n0
  have w6_ := hw _ (List.mem_of_getElem? (i := 6) rfl)
  have w7_ := hw _ (List.mem_of_getElem? (i := 7) rfl)
  have w14_ := hw _ (List.mem_of_getElem? (i := 14) rfl)
  have w15_ := hw _ (List.mem_of_getElem? (i := 15) rfl)
  have w16_ := hw _ (List.mem_of_getElem? (i := 16) rfl)
  have w17_ := hw _ (List.mem_of_getElem? (i := 17) rfl)
  have w20_ := hw _ (List.mem_of_getElem? (i := 20) rfl)
  have w22_ := hw _ (List.mem_of_getElem? (i := 22) rfl)
  have w28_ := hw _ (List.mem_of_getElem? (i := 28) rfl)
  have w29_ := hw _ (List.mem_of_getElem? (i := 29) rfl)
  have w30_ := hw _ (List.mem_of_getElem? (i := 30) rfl)
  have w31_ := hw _ (List.mem_of_getElem? (i := 31) rfl)
  obtain ⟨lE, lB, lW, lS, lN, lVS, lVE, ln1, ln2, ln3⟩ := LFp
  show Go p e below (RetG s (Q_split12 Z a bb st en kS kE ln kL bv0 bv1 bv3 bv4 bv5 h0 n0) 0 0) (s₁.setTop (entryFrame m #[(.ref a), (.ref ln), (.int (1 : Int32)), (.int (5 : Int32))] 6))
  rw [show entryFrame m #[(.ref a), (.ref ln), (.int (1 : Int32)), (.int (5 : Int32))] 6 = mkF m 0 #[.val (.ref a), .val (.ref ln), .val (.int (1 : Int32)), .val (.int (5 : Int32)), .unset, .unset] [] from by first | (simp [entryFrame, mkF, argsToLocals, Value.category]; done) | rfl]
  refine g_aloadN X0 hx hby d4_0 rfl rfl ?_
  refine g_aloadN X0 hx hby d4_1 rfl rfl ?_
  refine g_putF X0 hx hby hZ hown (host := "") (Or.inl w14_) Via.refl e0 lB lE (Or.inl w15_) w6_ (.array .byte) (by decide) rfl rfl N0 ga d4_2 (fun T1 h1 X1 e1 W1 F1 N1 => ?_)
  refine g_aloadN X1 hx hby d4_5 rfl rfl ?_
  refine g_iconst X1 hx hby (0 : Int32) d4_6 rfl ?_
  have f2 := (lE.wr W1)
  have f3 := (lW.other W1 (Or.inr (slot_ne (Or.inl w17_) (Or.inl w15_) (by decide) (t := .int) (t' := (.array .byte)) (by decide) (by decide))))
  refine g_putF X1 hx hby hZ hown (host := "") (Or.inl w16_) Via.refl e1 f3 f2 (Or.inl w17_) w6_ .int (by decide) rfl rfl N1 ga d4_7 (fun T4 h4 X4 e4 W4 F4 N4 => ?_)
  refine g_iloadN X4 hx hby d4_10 rfl ?_
  refine g_istore X4 hx hby d4_11 (l' := #[.val (.ref a), .val (.ref ln), .val (.int (1 : Int32)), .val (.int (5 : Int32)), .val (.int (1 : Int32)), .unset]) rfl ?_
  refine g_iloadN X4 hx hby d4_13 rfl ?_
  refine g_istore X4 hx hby d4_14 (l' := #[.val (.ref a), .val (.ref ln), .val (.int (1 : Int32)), .val (.int (5 : Int32)), .val (.int (1 : Int32)), .val (.int (1 : Int32))]) rfl ?_
  refine g_iload X4 hx hby d4_16 rfl ?_
  refine g_iloadN X4 hx hby d4_18 rfl ?_
  refine g_icN X4 hx hby d4_19 (tlt (by decide : (1 : Int32) < (5 : Int32))).2.1 ?_
  refine g_aloadN X4 hx hby d4_22 rfl rfl ?_
  refine g_iload X4 hx hby d4_23 rfl ?_
  have f5 := ((VL.other W1 na).other W4 na)
  refine g_baload X4 hx hby hZ e4 f5 (.int bv1) ⟨by decide, by decide⟩ rfl d4_25 ?_
  refine g_bipush X4 hx hby (44 : Int32) d4_26 rfl ?_
  refine g_icY X4 hx hby 45 d4_28 (feq (hb1 : ¬ (bv1 = (44 : Int32)))).2 (by decide) (by decide) ?_
  refine g_iinc X4 hx hby (2 : Int32) d4_45 rfl (by decide) (l' := #[.val (.ref a), .val (.ref ln), .val (.int (1 : Int32)), .val (.int (5 : Int32)), .val (.int (1 : Int32)), .val (.int (2 : Int32))]) rfl ?_
  refine g_goto X4 hx hby 16 d4_48 (by decide) (by decide) ?_
  refine g_iload X4 hx hby d4_16 rfl ?_
  refine g_iloadN X4 hx hby d4_18 rfl ?_
  refine g_icN X4 hx hby d4_19 (tlt (by decide : (2 : Int32) < (5 : Int32))).2.1 ?_
  refine g_aloadN X4 hx hby d4_22 rfl rfl ?_
  refine g_iload X4 hx hby d4_23 rfl ?_
  refine g_baload X4 hx hby hZ e4 f5 (.int (44 : Int32)) ⟨by decide, by decide⟩ rfl d4_25 ?_
  refine g_bipush X4 hx hby (44 : Int32) d4_26 rfl ?_
  refine g_icN X4 hx hby d4_28 (teq (by decide : (44 : Int32) = (44 : Int32))).2 ?_
  refine g_aloadN X4 hx hby d4_31 rfl rfl ?_
  refine g_iload X4 hx hby d4_32 rfl ?_
  refine g_iload X4 hx hby d4_34 rfl ?_
  have f7 := (f2.wr W4)
  have f8 := (F1.other W4 (Or.inr (slot_ne (Or.inl w15_) (Or.inl w17_) (by decide) (t := (.array .byte)) (t' := .int) (by decide) (by decide))))
  have f9 := ((lS.other W1 (Or.inr (slot_ne (Or.inl w20_) (Or.inl w15_) (by decide) (t := (.array .int)) (t' := (.array .byte)) (by decide) (by decide)))).other W4 (Or.inr (slot_ne (Or.inl w20_) (Or.inl w17_) (by decide) (t := (.array .int)) (t' := .int) (by decide) (by decide))))
  have f10 := ((lN.other W1 (Or.inr (slot_ne (Or.inl w22_) (Or.inl w15_) (by decide) (t := (.array .int)) (t' := (.array .byte)) (by decide) (by decide)))).other W4 (Or.inr (slot_ne (Or.inl w22_) (Or.inl w17_) (by decide) (t := (.array .int)) (t' := .int) (by decide) (by decide))))
  have f11 := ((lVS.other W1 (Ne.symm ln1)).other W4 (Ne.symm ln1))
  have f12 := ((lVE.other W1 (Ne.symm ln2)).other W4 (Ne.symm ln2))
  have z13 := (Nat.le_trans Z0 (Nat.le_trans (Keep.of_wr W1).1 (Keep.of_wr W4).1))
  refine g_private X4 hx hby hZ hown (rm_add0 l Z a0 hw [] a ln st en kS kE (1 : Int32) (2 : Int32) h4 n0 z13 ⟨f7, f8, F4, f9, f10, f11, f12, ln1, ln2, ln3⟩ ga gs ge) w28_ w29_ w6_ w30_ w7_ w31_ (by decide) e4 f7 (by rw [hml]; rfl) [(.int (1 : Int32)), (.int (2 : Int32))] (lenOf own_pd0 rfl) rfl rfl (Nat.le_of_ble_eq_true rfl) (Nat.le_of_ble_eq_true rfl) (Nat.le_of_ble_eq_true rfl) (Nat.le_of_ble_eq_true rfl) d4_36 (fun v6 T6 L6 X6 hQ6 => ?_)
  obtain ⟨rfl, N6q, K6, lE6, lB6, lW6, lS6, lN6, lVS6, lVE6, -, -, -⟩ := hQ6
  have N6 := Fr.app N4 N6q
  refine g_iload X6 hx hby d4_39 rfl ?_
  refine g_iconst X6 hx hby (1 : Int32) d4_41 rfl ?_
  refine g_iadd X6 hx hby d4_42 ?_
  refine g_topI (3 : Int32) (by decide) ?_
  refine g_istore X6 hx hby d4_43 (l' := #[.val (.ref a), .val (.ref ln), .val (.int (1 : Int32)), .val (.int (5 : Int32)), .val (.int (3 : Int32)), .val (.int (2 : Int32))]) rfl ?_
  refine g_iinc X6 hx hby (3 : Int32) d4_45 rfl (by decide) (l' := #[.val (.ref a), .val (.ref ln), .val (.int (1 : Int32)), .val (.int (5 : Int32)), .val (.int (3 : Int32)), .val (.int (3 : Int32))]) rfl ?_
  refine g_goto X6 hx hby 16 d4_48 (by decide) (by decide) ?_
  refine g_iload X6 hx hby d4_16 rfl ?_
  refine g_iloadN X6 hx hby d4_18 rfl ?_
  refine g_icN X6 hx hby d4_19 (tlt (by decide : (3 : Int32) < (5 : Int32))).2.1 ?_
  refine g_aloadN X6 hx hby d4_22 rfl rfl ?_
  refine g_iload X6 hx hby d4_23 rfl ?_
  have f14 := (f5.keep K6 (ninS na (ninS ns (ninS nn nin0))))
  refine g_baload X6 hx hby hZ rfl f14 (.int bv3) ⟨by decide, by decide⟩ rfl d4_25 ?_
  refine g_bipush X6 hx hby (44 : Int32) d4_26 rfl ?_
  refine g_icY X6 hx hby 45 d4_28 (feq (hb3 : ¬ (bv3 = (44 : Int32)))).2 (by decide) (by decide) ?_
  refine g_iinc X6 hx hby (4 : Int32) d4_45 rfl (by decide) (l' := #[.val (.ref a), .val (.ref ln), .val (.int (1 : Int32)), .val (.int (5 : Int32)), .val (.int (3 : Int32)), .val (.int (4 : Int32))]) rfl ?_
  refine g_goto X6 hx hby 16 d4_48 (by decide) (by decide) ?_
  refine g_iload X6 hx hby d4_16 rfl ?_
  refine g_iloadN X6 hx hby d4_18 rfl ?_
  refine g_icN X6 hx hby d4_19 (tlt (by decide : (4 : Int32) < (5 : Int32))).2.1 ?_
  refine g_aloadN X6 hx hby d4_22 rfl rfl ?_
  refine g_iload X6 hx hby d4_23 rfl ?_
  refine g_baload X6 hx hby hZ rfl f14 (.int bv4) ⟨by decide, by decide⟩ rfl d4_25 ?_
  refine g_bipush X6 hx hby (44 : Int32) d4_26 rfl ?_
  refine g_icY X6 hx hby 45 d4_28 (feq (hb4 : ¬ (bv4 = (44 : Int32)))).2 (by decide) (by decide) ?_
  refine g_iinc X6 hx hby (5 : Int32) d4_45 rfl (by decide) (l' := #[.val (.ref a), .val (.ref ln), .val (.int (1 : Int32)), .val (.int (5 : Int32)), .val (.int (3 : Int32)), .val (.int (5 : Int32))]) rfl ?_
  refine g_goto X6 hx hby 16 d4_48 (by decide) (by decide) ?_
  refine g_iload X6 hx hby d4_16 rfl ?_
  refine g_iloadN X6 hx hby d4_18 rfl ?_
  refine g_icY X6 hx hby 51 d4_19 (flt (by decide : ¬ ((5 : Int32) < (5 : Int32)))).2.1 (by decide) (by decide) ?_
  refine g_aloadN X6 hx hby d4_51 rfl rfl ?_
  refine g_iload X6 hx hby d4_52 rfl ?_
  refine g_iloadN X6 hx hby d4_54 rfl ?_
  have z16 := (Nat.le_trans z13 K6.1)
  refine g_private X6 hx hby hZ hown (rm_add1 l Z a0 hw [] a ln st en kS kE (3 : Int32) (5 : Int32) (1 : Int32) (2 : Int32) T6.heap n0 z16 ⟨lE6, lB6, lW6, lS6, lN6, lVS6, lVE6, ln1, ln2, ln3⟩ ga gs ge) w28_ w29_ w6_ w30_ w7_ w31_ (by decide) rfl lE6 (by rw [hml]; rfl) [(.int (3 : Int32)), (.int (5 : Int32))] (lenOf own_pd0 rfl) rfl rfl (Nat.le_of_ble_eq_true rfl) (Nat.le_of_ble_eq_true rfl) (Nat.le_of_ble_eq_true rfl) (Nat.le_of_ble_eq_true rfl) d4_55 (fun v15 T15 L15 X15 hQ15 => ?_)
  obtain ⟨rfl, N15q, K15, lE15, lB15, lW15, lS15, lN15, lVS15, lVE15, -, -, -⟩ := hQ15
  have N15 := Fr.app N6 N15q
  refine g_ret X15 hx hby Bd.returns Bd.notSynchronized d4_58 rfl (by decide) (by decide) ?_
  show (Q_split12 Z a bb st en kS kE ln kL bv0 bv1 bv3 bv4 bv5 h0 n0) none _ _
  exact ⟨rfl, N15, (((((Keep.refl h0 [a, st, en]).wr W1 (Or.inl (List.mem_of_getElem? (i := 0) rfl))).wr W4 (Or.inl (List.mem_of_getElem? (i := 0) rfl))).trans K6 (allS (Or.inl (List.mem_of_getElem? (i := 0) rfl)) (allS (Or.inl (List.mem_of_getElem? (i := 1) rfl)) (allS (Or.inl (List.mem_of_getElem? (i := 2) rfl)) all0)))).trans K15 (allS (Or.inl (List.mem_of_getElem? (i := 0) rfl)) (allS (Or.inl (List.mem_of_getElem? (i := 1) rfl)) (allS (Or.inl (List.mem_of_getElem? (i := 2) rfl)) all0)))), lE15, lB15, lW15, lS15, lN15, lVS15, lVE15, ln1, ln2, ln3⟩

def Q_split20 (Z : State) (a : Addr) (bb : Addr) (st : Addr) (en : Addr) (kS : ClassId) (kE : ClassId) (ln : Addr) (kL : ClassId) (bv0 : Int32) (bv1 : Int32) (bv2 : Int32) (bv4 : Int32) (bv5 : Int32) (h0 : Heap) (n0 : Nat) (v : Option Value) (h : Heap) (L : List Loc) : Prop := v = none ∧ Fr n0 L ∧ Keep h0 h [a, st, en] ∧ own_LF Z h a ln 2 st en kS kE [(.int (1 : Int32)), (.int (4 : Int32)), (.int (0 : Int32)), (.int (0 : Int32)), (.int (0 : Int32)), (.int (0 : Int32)), (.int (0 : Int32)), (.int (0 : Int32))] [(.int (3 : Int32)), (.int (4 : Int32)), (.int (0 : Int32)), (.int (0 : Int32)), (.int (0 : Int32)), (.int (0 : Int32)), (.int (0 : Int32)), (.int (0 : Int32))]
set_option maxRecDepth 65536 in
set_option maxHeartbeats 40000000 in
theorem rm_split20 (l : Launch) (Z : State) (a0 : Array Value) (hw : ∀ d ∈ tables_1, d.before a0 Z = true) (ws : List Jvm.Cond) (a : Addr) (bb : Addr) (st : Addr) (en : Addr) (kS : ClassId) (kE : ClassId) (ln : Addr) (kL : ClassId) (bv0 : Int32) (bv1 : Int32) (bv2 : Int32) (bv4 : Int32) (bv5 : Int32) (h0 : Heap) (n0 : Nat) (Z0 : n0 ≤ h0.size) (LFp : own_LF Z h0 a bb 1 st en kS kE [(.int (0 : Int32)), (.int (0 : Int32)), (.int (0 : Int32)), (.int (0 : Int32)), (.int (0 : Int32)), (.int (0 : Int32)), (.int (0 : Int32)), (.int (0 : Int32))] [(.int (0 : Int32)), (.int (0 : Int32)), (.int (0 : Int32)), (.int (0 : Int32)), (.int (0 : Int32)), (.int (0 : Int32)), (.int (0 : Int32)), (.int (0 : Int32))]) (ga : n0 ≤ a) (gs : n0 ≤ st) (ge : n0 ≤ en) (VL : Arv Z h0 ln kL .byte (6 : Int32) [(.int bv0), (.int bv1), (.int bv2), (.int (44 : Int32)), (.int bv4), (.int bv5)] (.int (0 : Int32))) (na : ln ≠ a) (ns : ln ≠ st) (nn : ln ≠ en) (hb1 : ¬ bv1 = (44 : Int32)) (hb2 : ¬ bv2 = (44 : Int32)) :
    MetFree l (⟨"com/example/tidegate/tidegate/venue/LineFields", "split", "([BII)V"⟩ : MethodName) (head1 (Jvm.Cond.code (⟨"com/example/tidegate/tidegate/venue/LineFields", "split", "([BII)V"⟩ : MethodName) prog_65_method_2_code 6 none :: ws) ({ frames := 1, cells := 0, slots := 0, locals := 14 } : Room)) (fun aa_ U => aa_ = #[(.ref a), (.ref ln), (.int (1 : Int32)), (.int (4 : Int32))] ∧ Z.Warmed39 U.vm ∧ U.heap = h0) (fun _ _ _ _ _ => True) (fun _ U o_ U' => RetG U (Q_split20 Z a bb st en kS kE ln kL bv0 bv1 bv2 bv4 bv5 h0 n0) 0 0 U' o_) := by
  refine MetFree.of_bodySF (plainFor_of_name own_pn1) hisR ?_
  intro p e s m args below meth c_ s₁ Bd hml0 hP hK
  obtain ⟨rfl, hZ, hh⟩ := hP
  have hx := Bd.exec
  have hby := Bd.bytes
  have hml : c_.maxLocals = 6 := hml0
  have hown : s.vm.findClass "com/example/tidegate/tidegate/venue/LineFields" = some m.cls := findClass_of_methodNamed Bd.named
  have hnm := (name_of_methodNamed Bd.named Bd.method).1
  have X0 : Stand p l e ({ frames := 1, cells := 0, slots := 0, locals := 14 } : Room) s m #[(.ref a), (.ref ln), (.int (1 : Int32)), (.int (4 : Int32))] below meth c_ s₁ [] 0 0 := Stand.of_body Bd
  have e0 : s₁.heap = h0 := by rw [← hh, Bd.state]; rfl
  have N0 := Fr.nil n0
  have w6_ := hw _ (List.mem_of_getElem? (i := 6) rfl)
  have w7_ := hw _ (List.mem_of_getElem? (i := 7) rfl)
  have w14_ := hw _ (List.mem_of_getElem? (i := 14) rfl)
  have w15_ := hw _ (List.mem_of_getElem? (i := 15) rfl)
  have w16_ := hw _ (List.mem_of_getElem? (i := 16) rfl)
  have w17_ := hw _ (List.mem_of_getElem? (i := 17) rfl)
  have w20_ := hw _ (List.mem_of_getElem? (i := 20) rfl)
  have w22_ := hw _ (List.mem_of_getElem? (i := 22) rfl)
  have w28_ := hw _ (List.mem_of_getElem? (i := 28) rfl)
  have w29_ := hw _ (List.mem_of_getElem? (i := 29) rfl)
  have w30_ := hw _ (List.mem_of_getElem? (i := 30) rfl)
  have w31_ := hw _ (List.mem_of_getElem? (i := 31) rfl)
  obtain ⟨lE, lB, lW, lS, lN, lVS, lVE, ln1, ln2, ln3⟩ := LFp
  show Go p e below (RetG s (Q_split20 Z a bb st en kS kE ln kL bv0 bv1 bv2 bv4 bv5 h0 n0) 0 0) (s₁.setTop (entryFrame m #[(.ref a), (.ref ln), (.int (1 : Int32)), (.int (4 : Int32))] 6))
  rw [show entryFrame m #[(.ref a), (.ref ln), (.int (1 : Int32)), (.int (4 : Int32))] 6 = mkF m 0 #[.val (.ref a), .val (.ref ln), .val (.int (1 : Int32)), .val (.int (4 : Int32)), .unset, .unset] [] from by first | (simp [entryFrame, mkF, argsToLocals, Value.category]; done) | rfl]
  refine g_aloadN X0 hx hby d4_0 rfl rfl ?_
  refine g_aloadN X0 hx hby d4_1 rfl rfl ?_
  refine g_putF X0 hx hby hZ hown (host := "") (Or.inl w14_) Via.refl e0 lB lE (Or.inl w15_) w6_ (.array .byte) (by decide) rfl rfl N0 ga d4_2 (fun T1 h1 X1 e1 W1 F1 N1 => ?_)
  refine g_aloadN X1 hx hby d4_5 rfl rfl ?_
  refine g_iconst X1 hx hby (0 : Int32) d4_6 rfl ?_
  have f2 := (lE.wr W1)
  have f3 := (lW.other W1 (Or.inr (slot_ne (Or.inl w17_) (Or.inl w15_) (by decide) (t := .int) (t' := (.array .byte)) (by decide) (by decide))))
  refine g_putF X1 hx hby hZ hown (host := "") (Or.inl w16_) Via.refl e1 f3 f2 (Or.inl w17_) w6_ .int (by decide) rfl rfl N1 ga d4_7 (fun T4 h4 X4 e4 W4 F4 N4 => ?_)
  refine g_iloadN X4 hx hby d4_10 rfl ?_
  refine g_istore X4 hx hby d4_11 (l' := #[.val (.ref a), .val (.ref ln), .val (.int (1 : Int32)), .val (.int (4 : Int32)), .val (.int (1 : Int32)), .unset]) rfl ?_
  refine g_iloadN X4 hx hby d4_13 rfl ?_
  refine g_istore X4 hx hby d4_14 (l' := #[.val (.ref a), .val (.ref ln), .val (.int (1 : Int32)), .val (.int (4 : Int32)), .val (.int (1 : Int32)), .val (.int (1 : Int32))]) rfl ?_
  refine g_iload X4 hx hby d4_16 rfl ?_
  refine g_iloadN X4 hx hby d4_18 rfl ?_
  refine g_icN X4 hx hby d4_19 (tlt (by decide : (1 : Int32) < (4 : Int32))).2.1 ?_
  refine g_aloadN X4 hx hby d4_22 rfl rfl ?_
  refine g_iload X4 hx hby d4_23 rfl ?_
  have f5 := ((VL.other W1 na).other W4 na)
  refine g_baload X4 hx hby hZ e4 f5 (.int bv1) ⟨by decide, by decide⟩ rfl d4_25 ?_
  refine g_bipush X4 hx hby (44 : Int32) d4_26 rfl ?_
  refine g_icY X4 hx hby 45 d4_28 (feq (hb1 : ¬ (bv1 = (44 : Int32)))).2 (by decide) (by decide) ?_
  refine g_iinc X4 hx hby (2 : Int32) d4_45 rfl (by decide) (l' := #[.val (.ref a), .val (.ref ln), .val (.int (1 : Int32)), .val (.int (4 : Int32)), .val (.int (1 : Int32)), .val (.int (2 : Int32))]) rfl ?_
  refine g_goto X4 hx hby 16 d4_48 (by decide) (by decide) ?_
  refine g_iload X4 hx hby d4_16 rfl ?_
  refine g_iloadN X4 hx hby d4_18 rfl ?_
  refine g_icN X4 hx hby d4_19 (tlt (by decide : (2 : Int32) < (4 : Int32))).2.1 ?_
  refine g_aloadN X4 hx hby d4_22 rfl rfl ?_
  refine g_iload X4 hx hby d4_23 rfl ?_
  refine g_baload X4 hx hby hZ e4 f5 (.int bv2) ⟨by decide, by decide⟩ rfl d4_25 ?_
  refine g_bipush X4 hx hby (44 : Int32) d4_26 rfl ?_
  refine g_icY X4 hx hby 45 d4_28 (feq (hb2 : ¬ (bv2 = (44 : Int32)))).2 (by decide) (by decide) ?_
  refine g_iinc X4 hx hby (3 : Int32) d4_45 rfl (by decide) (l' := #[.val (.ref a), .val (.ref ln), .val (.int (1 : Int32)), .val (.int (4 : Int32)), .val (.int (1 : Int32)), .val (.int (3 : Int32))]) rfl ?_
  refine g_goto X4 hx hby 16 d4_48 (by decide) (by decide) ?_
  refine g_iload X4 hx hby d4_16 rfl ?_
  refine g_iloadN X4 hx hby d4_18 rfl ?_
  refine g_icN X4 hx hby d4_19 (tlt (by decide : (3 : Int32) < (4 : Int32))).2.1 ?_
  refine g_aloadN X4 hx hby d4_22 rfl rfl ?_
  refine g_iload X4 hx hby d4_23 rfl ?_
  refine g_baload X4 hx hby hZ e4 f5 (.int (44 : Int32)) ⟨by decide, by decide⟩ rfl d4_25 ?_
  refine g_bipush X4 hx hby (44 : Int32) d4_26 rfl ?_
  refine g_icN X4 hx hby d4_28 (teq (by decide : (44 : Int32) = (44 : Int32))).2 ?_
  refine g_aloadN X4 hx hby d4_31 rfl rfl ?_
  refine g_iload X4 hx hby d4_32 rfl ?_
  refine g_iload X4 hx hby d4_34 rfl ?_
  have f7 := (f2.wr W4)
  have f8 := (F1.other W4 (Or.inr (slot_ne (Or.inl w15_) (Or.inl w17_) (by decide) (t := (.array .byte)) (t' := .int) (by decide) (by decide))))
  have f9 := ((lS.other W1 (Or.inr (slot_ne (Or.inl w20_) (Or.inl w15_) (by decide) (t := (.array .int)) (t' := (.array .byte)) (by decide) (by decide)))).other W4 (Or.inr (slot_ne (Or.inl w20_) (Or.inl w17_) (by decide) (t := (.array .int)) (t' := .int) (by decide) (by decide))))
  have f10 := ((lN.other W1 (Or.inr (slot_ne (Or.inl w22_) (Or.inl w15_) (by decide) (t := (.array .int)) (t' := (.array .byte)) (by decide) (by decide)))).other W4 (Or.inr (slot_ne (Or.inl w22_) (Or.inl w17_) (by decide) (t := (.array .int)) (t' := .int) (by decide) (by decide))))
  have f11 := ((lVS.other W1 (Ne.symm ln1)).other W4 (Ne.symm ln1))
  have f12 := ((lVE.other W1 (Ne.symm ln2)).other W4 (Ne.symm ln2))
  have z13 := (Nat.le_trans Z0 (Nat.le_trans (Keep.of_wr W1).1 (Keep.of_wr W4).1))
  refine g_private X4 hx hby hZ hown (rm_add0 l Z a0 hw [] a ln st en kS kE (1 : Int32) (3 : Int32) h4 n0 z13 ⟨f7, f8, F4, f9, f10, f11, f12, ln1, ln2, ln3⟩ ga gs ge) w28_ w29_ w6_ w30_ w7_ w31_ (by decide) e4 f7 (by rw [hml]; rfl) [(.int (1 : Int32)), (.int (3 : Int32))] (lenOf own_pd0 rfl) rfl rfl (Nat.le_of_ble_eq_true rfl) (Nat.le_of_ble_eq_true rfl) (Nat.le_of_ble_eq_true rfl) (Nat.le_of_ble_eq_true rfl) d4_36 (fun v6 T6 L6 X6 hQ6 => ?_)
  obtain ⟨rfl, N6q, K6, lE6, lB6, lW6, lS6, lN6, lVS6, lVE6, -, -, -⟩ := hQ6
  have N6 := Fr.app N4 N6q
  refine g_iload X6 hx hby d4_39 rfl ?_
  refine g_iconst X6 hx hby (1 : Int32) d4_41 rfl ?_
  refine g_iadd X6 hx hby d4_42 ?_
  refine g_topI (4 : Int32) (by decide) ?_
  refine g_istore X6 hx hby d4_43 (l' := #[.val (.ref a), .val (.ref ln), .val (.int (1 : Int32)), .val (.int (4 : Int32)), .val (.int (4 : Int32)), .val (.int (3 : Int32))]) rfl ?_
  refine g_iinc X6 hx hby (4 : Int32) d4_45 rfl (by decide) (l' := #[.val (.ref a), .val (.ref ln), .val (.int (1 : Int32)), .val (.int (4 : Int32)), .val (.int (4 : Int32)), .val (.int (4 : Int32))]) rfl ?_
  refine g_goto X6 hx hby 16 d4_48 (by decide) (by decide) ?_
  refine g_iload X6 hx hby d4_16 rfl ?_
  refine g_iloadN X6 hx hby d4_18 rfl ?_
  refine g_icY X6 hx hby 51 d4_19 (flt (by decide : ¬ ((4 : Int32) < (4 : Int32)))).2.1 (by decide) (by decide) ?_
  refine g_aloadN X6 hx hby d4_51 rfl rfl ?_
  refine g_iload X6 hx hby d4_52 rfl ?_
  refine g_iloadN X6 hx hby d4_54 rfl ?_
  have z15 := (Nat.le_trans z13 K6.1)
  refine g_private X6 hx hby hZ hown (rm_add1 l Z a0 hw [] a ln st en kS kE (4 : Int32) (4 : Int32) (1 : Int32) (3 : Int32) T6.heap n0 z15 ⟨lE6, lB6, lW6, lS6, lN6, lVS6, lVE6, ln1, ln2, ln3⟩ ga gs ge) w28_ w29_ w6_ w30_ w7_ w31_ (by decide) rfl lE6 (by rw [hml]; rfl) [(.int (4 : Int32)), (.int (4 : Int32))] (lenOf own_pd0 rfl) rfl rfl (Nat.le_of_ble_eq_true rfl) (Nat.le_of_ble_eq_true rfl) (Nat.le_of_ble_eq_true rfl) (Nat.le_of_ble_eq_true rfl) d4_55 (fun v14 T14 L14 X14 hQ14 => ?_)
  obtain ⟨rfl, N14q, K14, lE14, lB14, lW14, lS14, lN14, lVS14, lVE14, -, -, -⟩ := hQ14
  have N14 := Fr.app N6 N14q
  refine g_ret X14 hx hby Bd.returns Bd.notSynchronized d4_58 rfl (by decide) (by decide) ?_
  show (Q_split20 Z a bb st en kS kE ln kL bv0 bv1 bv2 bv4 bv5 h0 n0) none _ _
  exact ⟨rfl, N14, (((((Keep.refl h0 [a, st, en]).wr W1 (Or.inl (List.mem_of_getElem? (i := 0) rfl))).wr W4 (Or.inl (List.mem_of_getElem? (i := 0) rfl))).trans K6 (allS (Or.inl (List.mem_of_getElem? (i := 0) rfl)) (allS (Or.inl (List.mem_of_getElem? (i := 1) rfl)) (allS (Or.inl (List.mem_of_getElem? (i := 2) rfl)) all0)))).trans K14 (allS (Or.inl (List.mem_of_getElem? (i := 0) rfl)) (allS (Or.inl (List.mem_of_getElem? (i := 1) rfl)) (allS (Or.inl (List.mem_of_getElem? (i := 2) rfl)) all0)))), lE14, lB14, lW14, lS14, lN14, lVS14, lVE14, ln1, ln2, ln3⟩

def Q_split21 (Z : State) (a : Addr) (bb : Addr) (st : Addr) (en : Addr) (kS : ClassId) (kE : ClassId) (ln : Addr) (kL : ClassId) (bv0 : Int32) (bv1 : Int32) (bv2 : Int32) (bv4 : Int32) (bv5 : Int32) (h0 : Heap) (n0 : Nat) (v : Option Value) (h : Heap) (L : List Loc) : Prop := v = none ∧ Fr n0 L ∧ Keep h0 h [a, st, en] ∧ own_LF Z h a ln 2 st en kS kE [(.int (1 : Int32)), (.int (4 : Int32)), (.int (0 : Int32)), (.int (0 : Int32)), (.int (0 : Int32)), (.int (0 : Int32)), (.int (0 : Int32)), (.int (0 : Int32))] [(.int (3 : Int32)), (.int (5 : Int32)), (.int (0 : Int32)), (.int (0 : Int32)), (.int (0 : Int32)), (.int (0 : Int32)), (.int (0 : Int32)), (.int (0 : Int32))]
set_option maxRecDepth 65536 in
set_option maxHeartbeats 40000000 in
theorem rm_split21 (l : Launch) (Z : State) (a0 : Array Value) (hw : ∀ d ∈ tables_1, d.before a0 Z = true) (ws : List Jvm.Cond) (a : Addr) (bb : Addr) (st : Addr) (en : Addr) (kS : ClassId) (kE : ClassId) (ln : Addr) (kL : ClassId) (bv0 : Int32) (bv1 : Int32) (bv2 : Int32) (bv4 : Int32) (bv5 : Int32) (h0 : Heap) (n0 : Nat) (Z0 : n0 ≤ h0.size) (LFp : own_LF Z h0 a bb 1 st en kS kE [(.int (0 : Int32)), (.int (0 : Int32)), (.int (0 : Int32)), (.int (0 : Int32)), (.int (0 : Int32)), (.int (0 : Int32)), (.int (0 : Int32)), (.int (0 : Int32))] [(.int (0 : Int32)), (.int (0 : Int32)), (.int (0 : Int32)), (.int (0 : Int32)), (.int (0 : Int32)), (.int (0 : Int32)), (.int (0 : Int32)), (.int (0 : Int32))]) (ga : n0 ≤ a) (gs : n0 ≤ st) (ge : n0 ≤ en) (VL : Arv Z h0 ln kL .byte (6 : Int32) [(.int bv0), (.int bv1), (.int bv2), (.int (44 : Int32)), (.int bv4), (.int bv5)] (.int (0 : Int32))) (na : ln ≠ a) (ns : ln ≠ st) (nn : ln ≠ en) (hb1 : ¬ bv1 = (44 : Int32)) (hb2 : ¬ bv2 = (44 : Int32)) (hb4 : ¬ bv4 = (44 : Int32)) :
    MetFree l (⟨"com/example/tidegate/tidegate/venue/LineFields", "split", "([BII)V"⟩ : MethodName) (head1 (Jvm.Cond.code (⟨"com/example/tidegate/tidegate/venue/LineFields", "split", "([BII)V"⟩ : MethodName) prog_65_method_2_code 6 none :: ws) ({ frames := 1, cells := 0, slots := 0, locals := 14 } : Room)) (fun aa_ U => aa_ = #[(.ref a), (.ref ln), (.int (1 : Int32)), (.int (5 : Int32))] ∧ Z.Warmed39 U.vm ∧ U.heap = h0) (fun _ _ _ _ _ => True) (fun _ U o_ U' => RetG U (Q_split21 Z a bb st en kS kE ln kL bv0 bv1 bv2 bv4 bv5 h0 n0) 0 0 U' o_) := by
  refine MetFree.of_bodySF (plainFor_of_name own_pn1) hisR ?_
  intro p e s m args below meth c_ s₁ Bd hml0 hP hK
  obtain ⟨rfl, hZ, hh⟩ := hP
  have hx := Bd.exec
  have hby := Bd.bytes
  have hml : c_.maxLocals = 6 := hml0
  have hown : s.vm.findClass "com/example/tidegate/tidegate/venue/LineFields" = some m.cls := findClass_of_methodNamed Bd.named
  have hnm := (name_of_methodNamed Bd.named Bd.method).1
  have X0 : Stand p l e ({ frames := 1, cells := 0, slots := 0, locals := 14 } : Room) s m #[(.ref a), (.ref ln), (.int (1 : Int32)), (.int (5 : Int32))] below meth c_ s₁ [] 0 0 := Stand.of_body Bd
  have e0 : s₁.heap = h0 := by rw [← hh, Bd.state]; rfl
  have N0 := Fr.nil n0
  have w6_ := hw _ (List.mem_of_getElem? (i := 6) rfl)
  have w7_ := hw _ (List.mem_of_getElem? (i := 7) rfl)
  have w14_ := hw _ (List.mem_of_getElem? (i := 14) rfl)
  have w15_ := hw _ (List.mem_of_getElem? (i := 15) rfl)
  have w16_ := hw _ (List.mem_of_getElem? (i := 16) rfl)
  have w17_ := hw _ (List.mem_of_getElem? (i := 17) rfl)
  have w20_ := hw _ (List.mem_of_getElem? (i := 20) rfl)
  have w22_ := hw _ (List.mem_of_getElem? (i := 22) rfl)
  have w28_ := hw _ (List.mem_of_getElem? (i := 28) rfl)
  have w29_ := hw _ (List.mem_of_getElem? (i := 29) rfl)
  have w30_ := hw _ (List.mem_of_getElem? (i := 30) rfl)
  have w31_ := hw _ (List.mem_of_getElem? (i := 31) rfl)
  obtain ⟨lE, lB, lW, lS, lN, lVS, lVE, ln1, ln2, ln3⟩ := LFp
  show Go p e below (RetG s (Q_split21 Z a bb st en kS kE ln kL bv0 bv1 bv2 bv4 bv5 h0 n0) 0 0) (s₁.setTop (entryFrame m #[(.ref a), (.ref ln), (.int (1 : Int32)), (.int (5 : Int32))] 6))
  rw [show entryFrame m #[(.ref a), (.ref ln), (.int (1 : Int32)), (.int (5 : Int32))] 6 = mkF m 0 #[.val (.ref a), .val (.ref ln), .val (.int (1 : Int32)), .val (.int (5 : Int32)), .unset, .unset] [] from by first | (simp [entryFrame, mkF, argsToLocals, Value.category]; done) | rfl]
  refine g_aloadN X0 hx hby d4_0 rfl rfl ?_
  refine g_aloadN X0 hx hby d4_1 rfl rfl ?_
  refine g_putF X0 hx hby hZ hown (host := "") (Or.inl w14_) Via.refl e0 lB lE (Or.inl w15_) w6_ (.array .byte) (by decide) rfl rfl N0 ga d4_2 (fun T1 h1 X1 e1 W1 F1 N1 => ?_)
  refine g_aloadN X1 hx hby d4_5 rfl rfl ?_
  refine g_iconst X1 hx hby (0 : Int32) d4_6 rfl ?_
  have f2 := (lE.wr W1)
  have f3 := (lW.other W1 (Or.inr (slot_ne (Or.inl w17_) (Or.inl w15_) (by decide) (t := .int) (t' := (.array .byte)) (by decide) (by decide))))
  refine g_putF X1 hx hby hZ hown (host := "") (Or.inl w16_) Via.refl e1 f3 f2 (Or.inl w17_) w6_ .int (by decide) rfl rfl N1 ga d4_7 (fun T4 h4 X4 e4 W4 F4 N4 => ?_)
  refine g_iloadN X4 hx hby d4_10 rfl ?_
  refine g_istore X4 hx hby d4_11 (l' := #[.val (.ref a), .val (.ref ln), .val (.int (1 : Int32)), .val (.int (5 : Int32)), .val (.int (1 : Int32)), .unset]) rfl ?_
  refine g_iloadN X4 hx hby d4_13 rfl ?_
  refine g_istore X4 hx hby d4_14 (l' := #[.val (.ref a), .val (.ref ln), .val (.int (1 : Int32)), .val (.int (5 : Int32)), .val (.int (1 : Int32)), .val (.int (1 : Int32))]) rfl ?_
  refine g_iload X4 hx hby d4_16 rfl ?_
  refine g_iloadN X4 hx hby d4_18 rfl ?_
  refine g_icN X4 hx hby d4_19 (tlt (by decide : (1 : Int32) < (5 : Int32))).2.1 ?_
  refine g_aloadN X4 hx hby d4_22 rfl rfl ?_
  refine g_iload X4 hx hby d4_23 rfl ?_
  have f5 := ((VL.other W1 na).other W4 na)
  refine g_baload X4 hx hby hZ e4 f5 (.int bv1) ⟨by decide, by decide⟩ rfl d4_25 ?_
  refine g_bipush X4 hx hby (44 : Int32) d4_26 rfl ?_
  refine g_icY X4 hx hby 45 d4_28 (feq (hb1 : ¬ (bv1 = (44 : Int32)))).2 (by decide) (by decide) ?_
  refine g_iinc X4 hx hby (2 : Int32) d4_45 rfl (by decide) (l' := #[.val (.ref a), .val (.ref ln), .val (.int (1 : Int32)), .val (.int (5 : Int32)), .val (.int (1 : Int32)), .val (.int (2 : Int32))]) rfl ?_
  refine g_goto X4 hx hby 16 d4_48 (by decide) (by decide) ?_
  refine g_iload X4 hx hby d4_16 rfl ?_
  refine g_iloadN X4 hx hby d4_18 rfl ?_
  refine g_icN X4 hx hby d4_19 (tlt (by decide : (2 : Int32) < (5 : Int32))).2.1 ?_
  refine g_aloadN X4 hx hby d4_22 rfl rfl ?_
  refine g_iload X4 hx hby d4_23 rfl ?_
  refine g_baload X4 hx hby hZ e4 f5 (.int bv2) ⟨by decide, by decide⟩ rfl d4_25 ?_
  refine g_bipush X4 hx hby (44 : Int32) d4_26 rfl ?_
  refine g_icY X4 hx hby 45 d4_28 (feq (hb2 : ¬ (bv2 = (44 : Int32)))).2 (by decide) (by decide) ?_
  refine g_iinc X4 hx hby (3 : Int32) d4_45 rfl (by decide) (l' := #[.val (.ref a), .val (.ref ln), .val (.int (1 : Int32)), .val (.int (5 : Int32)), .val (.int (1 : Int32)), .val (.int (3 : Int32))]) rfl ?_
  refine g_goto X4 hx hby 16 d4_48 (by decide) (by decide) ?_
  refine g_iload X4 hx hby d4_16 rfl ?_
  refine g_iloadN X4 hx hby d4_18 rfl ?_
  refine g_icN X4 hx hby d4_19 (tlt (by decide : (3 : Int32) < (5 : Int32))).2.1 ?_
  refine g_aloadN X4 hx hby d4_22 rfl rfl ?_
  refine g_iload X4 hx hby d4_23 rfl ?_
  refine g_baload X4 hx hby hZ e4 f5 (.int (44 : Int32)) ⟨by decide, by decide⟩ rfl d4_25 ?_
  refine g_bipush X4 hx hby (44 : Int32) d4_26 rfl ?_
  refine g_icN X4 hx hby d4_28 (teq (by decide : (44 : Int32) = (44 : Int32))).2 ?_
  refine g_aloadN X4 hx hby d4_31 rfl rfl ?_
  refine g_iload X4 hx hby d4_32 rfl ?_
  refine g_iload X4 hx hby d4_34 rfl ?_
  have f7 := (f2.wr W4)
  have f8 := (F1.other W4 (Or.inr (slot_ne (Or.inl w15_) (Or.inl w17_) (by decide) (t := (.array .byte)) (t' := .int) (by decide) (by decide))))
  have f9 := ((lS.other W1 (Or.inr (slot_ne (Or.inl w20_) (Or.inl w15_) (by decide) (t := (.array .int)) (t' := (.array .byte)) (by decide) (by decide)))).other W4 (Or.inr (slot_ne (Or.inl w20_) (Or.inl w17_) (by decide) (t := (.array .int)) (t' := .int) (by decide) (by decide))))
  have f10 := ((lN.other W1 (Or.inr (slot_ne (Or.inl w22_) (Or.inl w15_) (by decide) (t := (.array .int)) (t' := (.array .byte)) (by decide) (by decide)))).other W4 (Or.inr (slot_ne (Or.inl w22_) (Or.inl w17_) (by decide) (t := (.array .int)) (t' := .int) (by decide) (by decide))))
  have f11 := ((lVS.other W1 (Ne.symm ln1)).other W4 (Ne.symm ln1))
  have f12 := ((lVE.other W1 (Ne.symm ln2)).other W4 (Ne.symm ln2))
  have z13 := (Nat.le_trans Z0 (Nat.le_trans (Keep.of_wr W1).1 (Keep.of_wr W4).1))
  refine g_private X4 hx hby hZ hown (rm_add0 l Z a0 hw [] a ln st en kS kE (1 : Int32) (3 : Int32) h4 n0 z13 ⟨f7, f8, F4, f9, f10, f11, f12, ln1, ln2, ln3⟩ ga gs ge) w28_ w29_ w6_ w30_ w7_ w31_ (by decide) e4 f7 (by rw [hml]; rfl) [(.int (1 : Int32)), (.int (3 : Int32))] (lenOf own_pd0 rfl) rfl rfl (Nat.le_of_ble_eq_true rfl) (Nat.le_of_ble_eq_true rfl) (Nat.le_of_ble_eq_true rfl) (Nat.le_of_ble_eq_true rfl) d4_36 (fun v6 T6 L6 X6 hQ6 => ?_)
  obtain ⟨rfl, N6q, K6, lE6, lB6, lW6, lS6, lN6, lVS6, lVE6, -, -, -⟩ := hQ6
  have N6 := Fr.app N4 N6q
  refine g_iload X6 hx hby d4_39 rfl ?_
  refine g_iconst X6 hx hby (1 : Int32) d4_41 rfl ?_
  refine g_iadd X6 hx hby d4_42 ?_
  refine g_topI (4 : Int32) (by decide) ?_
  refine g_istore X6 hx hby d4_43 (l' := #[.val (.ref a), .val (.ref ln), .val (.int (1 : Int32)), .val (.int (5 : Int32)), .val (.int (4 : Int32)), .val (.int (3 : Int32))]) rfl ?_
  refine g_iinc X6 hx hby (4 : Int32) d4_45 rfl (by decide) (l' := #[.val (.ref a), .val (.ref ln), .val (.int (1 : Int32)), .val (.int (5 : Int32)), .val (.int (4 : Int32)), .val (.int (4 : Int32))]) rfl ?_
  refine g_goto X6 hx hby 16 d4_48 (by decide) (by decide) ?_
  refine g_iload X6 hx hby d4_16 rfl ?_
  refine g_iloadN X6 hx hby d4_18 rfl ?_
  refine g_icN X6 hx hby d4_19 (tlt (by decide : (4 : Int32) < (5 : Int32))).2.1 ?_
  refine g_aloadN X6 hx hby d4_22 rfl rfl ?_
  refine g_iload X6 hx hby d4_23 rfl ?_
  have f14 := (f5.keep K6 (ninS na (ninS ns (ninS nn nin0))))
  refine g_baload X6 hx hby hZ rfl f14 (.int bv4) ⟨by decide, by decide⟩ rfl d4_25 ?_
  refine g_bipush X6 hx hby (44 : Int32) d4_26 rfl ?_
  refine g_icY X6 hx hby 45 d4_28 (feq (hb4 : ¬ (bv4 = (44 : Int32)))).2 (by decide) (by decide) ?_
  refine g_iinc X6 hx hby (5 : Int32) d4_45 rfl (by decide) (l' := #[.val (.ref a), .val (.ref ln), .val (.int (1 : Int32)), .val (.int (5 : Int32)), .val (.int (4 : Int32)), .val (.int (5 : Int32))]) rfl ?_
  refine g_goto X6 hx hby 16 d4_48 (by decide) (by decide) ?_
  refine g_iload X6 hx hby d4_16 rfl ?_
  refine g_iloadN X6 hx hby d4_18 rfl ?_
  refine g_icY X6 hx hby 51 d4_19 (flt (by decide : ¬ ((5 : Int32) < (5 : Int32)))).2.1 (by decide) (by decide) ?_
  refine g_aloadN X6 hx hby d4_51 rfl rfl ?_
  refine g_iload X6 hx hby d4_52 rfl ?_
  refine g_iloadN X6 hx hby d4_54 rfl ?_
  have z16 := (Nat.le_trans z13 K6.1)
  refine g_private X6 hx hby hZ hown (rm_add1 l Z a0 hw [] a ln st en kS kE (4 : Int32) (5 : Int32) (1 : Int32) (3 : Int32) T6.heap n0 z16 ⟨lE6, lB6, lW6, lS6, lN6, lVS6, lVE6, ln1, ln2, ln3⟩ ga gs ge) w28_ w29_ w6_ w30_ w7_ w31_ (by decide) rfl lE6 (by rw [hml]; rfl) [(.int (4 : Int32)), (.int (5 : Int32))] (lenOf own_pd0 rfl) rfl rfl (Nat.le_of_ble_eq_true rfl) (Nat.le_of_ble_eq_true rfl) (Nat.le_of_ble_eq_true rfl) (Nat.le_of_ble_eq_true rfl) d4_55 (fun v15 T15 L15 X15 hQ15 => ?_)
  obtain ⟨rfl, N15q, K15, lE15, lB15, lW15, lS15, lN15, lVS15, lVE15, -, -, -⟩ := hQ15
  have N15 := Fr.app N6 N15q
  refine g_ret X15 hx hby Bd.returns Bd.notSynchronized d4_58 rfl (by decide) (by decide) ?_
  show (Q_split21 Z a bb st en kS kE ln kL bv0 bv1 bv2 bv4 bv5 h0 n0) none _ _
  exact ⟨rfl, N15, (((((Keep.refl h0 [a, st, en]).wr W1 (Or.inl (List.mem_of_getElem? (i := 0) rfl))).wr W4 (Or.inl (List.mem_of_getElem? (i := 0) rfl))).trans K6 (allS (Or.inl (List.mem_of_getElem? (i := 0) rfl)) (allS (Or.inl (List.mem_of_getElem? (i := 1) rfl)) (allS (Or.inl (List.mem_of_getElem? (i := 2) rfl)) all0)))).trans K15 (allS (Or.inl (List.mem_of_getElem? (i := 0) rfl)) (allS (Or.inl (List.mem_of_getElem? (i := 1) rfl)) (allS (Or.inl (List.mem_of_getElem? (i := 2) rfl)) all0)))), lE15, lB15, lW15, lS15, lN15, lVS15, lVE15, ln1, ln2, ln3⟩

def Q_split22 (Z : State) (a : Addr) (bb : Addr) (st : Addr) (en : Addr) (kS : ClassId) (kE : ClassId) (ln : Addr) (kL : ClassId) (bv0 : Int32) (bv1 : Int32) (bv2 : Int32) (bv4 : Int32) (bv5 : Int32) (h0 : Heap) (n0 : Nat) (v : Option Value) (h : Heap) (L : List Loc) : Prop := v = none ∧ Fr n0 L ∧ Keep h0 h [a, st, en] ∧ own_LF Z h a ln 2 st en kS kE [(.int (1 : Int32)), (.int (4 : Int32)), (.int (0 : Int32)), (.int (0 : Int32)), (.int (0 : Int32)), (.int (0 : Int32)), (.int (0 : Int32)), (.int (0 : Int32))] [(.int (3 : Int32)), (.int (6 : Int32)), (.int (0 : Int32)), (.int (0 : Int32)), (.int (0 : Int32)), (.int (0 : Int32)), (.int (0 : Int32)), (.int (0 : Int32))]
set_option maxRecDepth 65536 in
set_option maxHeartbeats 40000000 in
theorem rm_split22 (l : Launch) (Z : State) (a0 : Array Value) (hw : ∀ d ∈ tables_1, d.before a0 Z = true) (ws : List Jvm.Cond) (a : Addr) (bb : Addr) (st : Addr) (en : Addr) (kS : ClassId) (kE : ClassId) (ln : Addr) (kL : ClassId) (bv0 : Int32) (bv1 : Int32) (bv2 : Int32) (bv4 : Int32) (bv5 : Int32) (h0 : Heap) (n0 : Nat) (Z0 : n0 ≤ h0.size) (LFp : own_LF Z h0 a bb 1 st en kS kE [(.int (0 : Int32)), (.int (0 : Int32)), (.int (0 : Int32)), (.int (0 : Int32)), (.int (0 : Int32)), (.int (0 : Int32)), (.int (0 : Int32)), (.int (0 : Int32))] [(.int (0 : Int32)), (.int (0 : Int32)), (.int (0 : Int32)), (.int (0 : Int32)), (.int (0 : Int32)), (.int (0 : Int32)), (.int (0 : Int32)), (.int (0 : Int32))]) (ga : n0 ≤ a) (gs : n0 ≤ st) (ge : n0 ≤ en) (VL : Arv Z h0 ln kL .byte (6 : Int32) [(.int bv0), (.int bv1), (.int bv2), (.int (44 : Int32)), (.int bv4), (.int bv5)] (.int (0 : Int32))) (na : ln ≠ a) (ns : ln ≠ st) (nn : ln ≠ en) (hb1 : ¬ bv1 = (44 : Int32)) (hb2 : ¬ bv2 = (44 : Int32)) (hb4 : ¬ bv4 = (44 : Int32)) (hb5 : ¬ bv5 = (44 : Int32)) :
    MetFree l (⟨"com/example/tidegate/tidegate/venue/LineFields", "split", "([BII)V"⟩ : MethodName) (head1 (Jvm.Cond.code (⟨"com/example/tidegate/tidegate/venue/LineFields", "split", "([BII)V"⟩ : MethodName) prog_65_method_2_code 6 none :: ws) ({ frames := 1, cells := 0, slots := 0, locals := 14 } : Room)) (fun aa_ U => aa_ = #[(.ref a), (.ref ln), (.int (1 : Int32)), (.int (6 : Int32))] ∧ Z.Warmed39 U.vm ∧ U.heap = h0) (fun _ _ _ _ _ => True) (fun _ U o_ U' => RetG U (Q_split22 Z a bb st en kS kE ln kL bv0 bv1 bv2 bv4 bv5 h0 n0) 0 0 U' o_) := by
  refine MetFree.of_bodySF (plainFor_of_name own_pn1) hisR ?_
  intro p e s m args below meth c_ s₁ Bd hml0 hP hK
  obtain ⟨rfl, hZ, hh⟩ := hP
  have hx := Bd.exec
  have hby := Bd.bytes
  have hml : c_.maxLocals = 6 := hml0
  have hown : s.vm.findClass "com/example/tidegate/tidegate/venue/LineFields" = some m.cls := findClass_of_methodNamed Bd.named
  have hnm := (name_of_methodNamed Bd.named Bd.method).1
  have X0 : Stand p l e ({ frames := 1, cells := 0, slots := 0, locals := 14 } : Room) s m #[(.ref a), (.ref ln), (.int (1 : Int32)), (.int (6 : Int32))] below meth c_ s₁ [] 0 0 := Stand.of_body Bd
  have e0 : s₁.heap = h0 := by rw [← hh, Bd.state]; rfl
  have N0 := Fr.nil n0
  have w6_ := hw _ (List.mem_of_getElem? (i := 6) rfl)
  have w7_ := hw _ (List.mem_of_getElem? (i := 7) rfl)
  have w14_ := hw _ (List.mem_of_getElem? (i := 14) rfl)
  have w15_ := hw _ (List.mem_of_getElem? (i := 15) rfl)
  have w16_ := hw _ (List.mem_of_getElem? (i := 16) rfl)
  have w17_ := hw _ (List.mem_of_getElem? (i := 17) rfl)
  have w20_ := hw _ (List.mem_of_getElem? (i := 20) rfl)
  have w22_ := hw _ (List.mem_of_getElem? (i := 22) rfl)
  have w28_ := hw _ (List.mem_of_getElem? (i := 28) rfl)
  have w29_ := hw _ (List.mem_of_getElem? (i := 29) rfl)
  have w30_ := hw _ (List.mem_of_getElem? (i := 30) rfl)
  have w31_ := hw _ (List.mem_of_getElem? (i := 31) rfl)
  obtain ⟨lE, lB, lW, lS, lN, lVS, lVE, ln1, ln2, ln3⟩ := LFp
  show Go p e below (RetG s (Q_split22 Z a bb st en kS kE ln kL bv0 bv1 bv2 bv4 bv5 h0 n0) 0 0) (s₁.setTop (entryFrame m #[(.ref a), (.ref ln), (.int (1 : Int32)), (.int (6 : Int32))] 6))
  rw [show entryFrame m #[(.ref a), (.ref ln), (.int (1 : Int32)), (.int (6 : Int32))] 6 = mkF m 0 #[.val (.ref a), .val (.ref ln), .val (.int (1 : Int32)), .val (.int (6 : Int32)), .unset, .unset] [] from by first | (simp [entryFrame, mkF, argsToLocals, Value.category]; done) | rfl]
  refine g_aloadN X0 hx hby d4_0 rfl rfl ?_
  refine g_aloadN X0 hx hby d4_1 rfl rfl ?_
  refine g_putF X0 hx hby hZ hown (host := "") (Or.inl w14_) Via.refl e0 lB lE (Or.inl w15_) w6_ (.array .byte) (by decide) rfl rfl N0 ga d4_2 (fun T1 h1 X1 e1 W1 F1 N1 => ?_)
  refine g_aloadN X1 hx hby d4_5 rfl rfl ?_
  refine g_iconst X1 hx hby (0 : Int32) d4_6 rfl ?_
  have f2 := (lE.wr W1)
  have f3 := (lW.other W1 (Or.inr (slot_ne (Or.inl w17_) (Or.inl w15_) (by decide) (t := .int) (t' := (.array .byte)) (by decide) (by decide))))
  refine g_putF X1 hx hby hZ hown (host := "") (Or.inl w16_) Via.refl e1 f3 f2 (Or.inl w17_) w6_ .int (by decide) rfl rfl N1 ga d4_7 (fun T4 h4 X4 e4 W4 F4 N4 => ?_)
  refine g_iloadN X4 hx hby d4_10 rfl ?_
  refine g_istore X4 hx hby d4_11 (l' := #[.val (.ref a), .val (.ref ln), .val (.int (1 : Int32)), .val (.int (6 : Int32)), .val (.int (1 : Int32)), .unset]) rfl ?_
  refine g_iloadN X4 hx hby d4_13 rfl ?_
  refine g_istore X4 hx hby d4_14 (l' := #[.val (.ref a), .val (.ref ln), .val (.int (1 : Int32)), .val (.int (6 : Int32)), .val (.int (1 : Int32)), .val (.int (1 : Int32))]) rfl ?_
  refine g_iload X4 hx hby d4_16 rfl ?_
  refine g_iloadN X4 hx hby d4_18 rfl ?_
  refine g_icN X4 hx hby d4_19 (tlt (by decide : (1 : Int32) < (6 : Int32))).2.1 ?_
  refine g_aloadN X4 hx hby d4_22 rfl rfl ?_
  refine g_iload X4 hx hby d4_23 rfl ?_
  have f5 := ((VL.other W1 na).other W4 na)
  refine g_baload X4 hx hby hZ e4 f5 (.int bv1) ⟨by decide, by decide⟩ rfl d4_25 ?_
  refine g_bipush X4 hx hby (44 : Int32) d4_26 rfl ?_
  refine g_icY X4 hx hby 45 d4_28 (feq (hb1 : ¬ (bv1 = (44 : Int32)))).2 (by decide) (by decide) ?_
  refine g_iinc X4 hx hby (2 : Int32) d4_45 rfl (by decide) (l' := #[.val (.ref a), .val (.ref ln), .val (.int (1 : Int32)), .val (.int (6 : Int32)), .val (.int (1 : Int32)), .val (.int (2 : Int32))]) rfl ?_
  refine g_goto X4 hx hby 16 d4_48 (by decide) (by decide) ?_
  refine g_iload X4 hx hby d4_16 rfl ?_
  refine g_iloadN X4 hx hby d4_18 rfl ?_
  refine g_icN X4 hx hby d4_19 (tlt (by decide : (2 : Int32) < (6 : Int32))).2.1 ?_
  refine g_aloadN X4 hx hby d4_22 rfl rfl ?_
  refine g_iload X4 hx hby d4_23 rfl ?_
  refine g_baload X4 hx hby hZ e4 f5 (.int bv2) ⟨by decide, by decide⟩ rfl d4_25 ?_
  refine g_bipush X4 hx hby (44 : Int32) d4_26 rfl ?_
  refine g_icY X4 hx hby 45 d4_28 (feq (hb2 : ¬ (bv2 = (44 : Int32)))).2 (by decide) (by decide) ?_
  refine g_iinc X4 hx hby (3 : Int32) d4_45 rfl (by decide) (l' := #[.val (.ref a), .val (.ref ln), .val (.int (1 : Int32)), .val (.int (6 : Int32)), .val (.int (1 : Int32)), .val (.int (3 : Int32))]) rfl ?_
  refine g_goto X4 hx hby 16 d4_48 (by decide) (by decide) ?_
  refine g_iload X4 hx hby d4_16 rfl ?_
  refine g_iloadN X4 hx hby d4_18 rfl ?_
  refine g_icN X4 hx hby d4_19 (tlt (by decide : (3 : Int32) < (6 : Int32))).2.1 ?_
  refine g_aloadN X4 hx hby d4_22 rfl rfl ?_
  refine g_iload X4 hx hby d4_23 rfl ?_
  refine g_baload X4 hx hby hZ e4 f5 (.int (44 : Int32)) ⟨by decide, by decide⟩ rfl d4_25 ?_
  refine g_bipush X4 hx hby (44 : Int32) d4_26 rfl ?_
  refine g_icN X4 hx hby d4_28 (teq (by decide : (44 : Int32) = (44 : Int32))).2 ?_
  refine g_aloadN X4 hx hby d4_31 rfl rfl ?_
  refine g_iload X4 hx hby d4_32 rfl ?_
  refine g_iload X4 hx hby d4_34 rfl ?_
  have f7 := (f2.wr W4)
  have f8 := (F1.other W4 (Or.inr (slot_ne (Or.inl w15_) (Or.inl w17_) (by decide) (t := (.array .byte)) (t' := .int) (by decide) (by decide))))
  have f9 := ((lS.other W1 (Or.inr (slot_ne (Or.inl w20_) (Or.inl w15_) (by decide) (t := (.array .int)) (t' := (.array .byte)) (by decide) (by decide)))).other W4 (Or.inr (slot_ne (Or.inl w20_) (Or.inl w17_) (by decide) (t := (.array .int)) (t' := .int) (by decide) (by decide))))
  have f10 := ((lN.other W1 (Or.inr (slot_ne (Or.inl w22_) (Or.inl w15_) (by decide) (t := (.array .int)) (t' := (.array .byte)) (by decide) (by decide)))).other W4 (Or.inr (slot_ne (Or.inl w22_) (Or.inl w17_) (by decide) (t := (.array .int)) (t' := .int) (by decide) (by decide))))
  have f11 := ((lVS.other W1 (Ne.symm ln1)).other W4 (Ne.symm ln1))
  have f12 := ((lVE.other W1 (Ne.symm ln2)).other W4 (Ne.symm ln2))
  have z13 := (Nat.le_trans Z0 (Nat.le_trans (Keep.of_wr W1).1 (Keep.of_wr W4).1))
  refine g_private X4 hx hby hZ hown (rm_add0 l Z a0 hw [] a ln st en kS kE (1 : Int32) (3 : Int32) h4 n0 z13 ⟨f7, f8, F4, f9, f10, f11, f12, ln1, ln2, ln3⟩ ga gs ge) w28_ w29_ w6_ w30_ w7_ w31_ (by decide) e4 f7 (by rw [hml]; rfl) [(.int (1 : Int32)), (.int (3 : Int32))] (lenOf own_pd0 rfl) rfl rfl (Nat.le_of_ble_eq_true rfl) (Nat.le_of_ble_eq_true rfl) (Nat.le_of_ble_eq_true rfl) (Nat.le_of_ble_eq_true rfl) d4_36 (fun v6 T6 L6 X6 hQ6 => ?_)
  obtain ⟨rfl, N6q, K6, lE6, lB6, lW6, lS6, lN6, lVS6, lVE6, -, -, -⟩ := hQ6
  have N6 := Fr.app N4 N6q
  refine g_iload X6 hx hby d4_39 rfl ?_
  refine g_iconst X6 hx hby (1 : Int32) d4_41 rfl ?_
  refine g_iadd X6 hx hby d4_42 ?_
  refine g_topI (4 : Int32) (by decide) ?_
  refine g_istore X6 hx hby d4_43 (l' := #[.val (.ref a), .val (.ref ln), .val (.int (1 : Int32)), .val (.int (6 : Int32)), .val (.int (4 : Int32)), .val (.int (3 : Int32))]) rfl ?_
  refine g_iinc X6 hx hby (4 : Int32) d4_45 rfl (by decide) (l' := #[.val (.ref a), .val (.ref ln), .val (.int (1 : Int32)), .val (.int (6 : Int32)), .val (.int (4 : Int32)), .val (.int (4 : Int32))]) rfl ?_
  refine g_goto X6 hx hby 16 d4_48 (by decide) (by decide) ?_
  refine g_iload X6 hx hby d4_16 rfl ?_
  refine g_iloadN X6 hx hby d4_18 rfl ?_
  refine g_icN X6 hx hby d4_19 (tlt (by decide : (4 : Int32) < (6 : Int32))).2.1 ?_
  refine g_aloadN X6 hx hby d4_22 rfl rfl ?_
  refine g_iload X6 hx hby d4_23 rfl ?_
  have f14 := (f5.keep K6 (ninS na (ninS ns (ninS nn nin0))))
  refine g_baload X6 hx hby hZ rfl f14 (.int bv4) ⟨by decide, by decide⟩ rfl d4_25 ?_
  refine g_bipush X6 hx hby (44 : Int32) d4_26 rfl ?_
  refine g_icY X6 hx hby 45 d4_28 (feq (hb4 : ¬ (bv4 = (44 : Int32)))).2 (by decide) (by decide) ?_
  refine g_iinc X6 hx hby (5 : Int32) d4_45 rfl (by decide) (l' := #[.val (.ref a), .val (.ref ln), .val (.int (1 : Int32)), .val (.int (6 : Int32)), .val (.int (4 : Int32)), .val (.int (5 : Int32))]) rfl ?_
  refine g_goto X6 hx hby 16 d4_48 (by decide) (by decide) ?_
  refine g_iload X6 hx hby d4_16 rfl ?_
  refine g_iloadN X6 hx hby d4_18 rfl ?_
  refine g_icN X6 hx hby d4_19 (tlt (by decide : (5 : Int32) < (6 : Int32))).2.1 ?_
  refine g_aloadN X6 hx hby d4_22 rfl rfl ?_
  refine g_iload X6 hx hby d4_23 rfl ?_
  refine g_baload X6 hx hby hZ rfl f14 (.int bv5) ⟨by decide, by decide⟩ rfl d4_25 ?_
  refine g_bipush X6 hx hby (44 : Int32) d4_26 rfl ?_
  refine g_icY X6 hx hby 45 d4_28 (feq (hb5 : ¬ (bv5 = (44 : Int32)))).2 (by decide) (by decide) ?_
  refine g_iinc X6 hx hby (6 : Int32) d4_45 rfl (by decide) (l' := #[.val (.ref a), .val (.ref ln), .val (.int (1 : Int32)), .val (.int (6 : Int32)), .val (.int (4 : Int32)), .val (.int (6 : Int32))]) rfl ?_
  refine g_goto X6 hx hby 16 d4_48 (by decide) (by decide) ?_
  refine g_iload X6 hx hby d4_16 rfl ?_
  refine g_iloadN X6 hx hby d4_18 rfl ?_
  refine g_icY X6 hx hby 51 d4_19 (flt (by decide : ¬ ((6 : Int32) < (6 : Int32)))).2.1 (by decide) (by decide) ?_
  refine g_aloadN X6 hx hby d4_51 rfl rfl ?_
  refine g_iload X6 hx hby d4_52 rfl ?_
  refine g_iloadN X6 hx hby d4_54 rfl ?_
  have z16 := (Nat.le_trans z13 K6.1)
  refine g_private X6 hx hby hZ hown (rm_add1 l Z a0 hw [] a ln st en kS kE (4 : Int32) (6 : Int32) (1 : Int32) (3 : Int32) T6.heap n0 z16 ⟨lE6, lB6, lW6, lS6, lN6, lVS6, lVE6, ln1, ln2, ln3⟩ ga gs ge) w28_ w29_ w6_ w30_ w7_ w31_ (by decide) rfl lE6 (by rw [hml]; rfl) [(.int (4 : Int32)), (.int (6 : Int32))] (lenOf own_pd0 rfl) rfl rfl (Nat.le_of_ble_eq_true rfl) (Nat.le_of_ble_eq_true rfl) (Nat.le_of_ble_eq_true rfl) (Nat.le_of_ble_eq_true rfl) d4_55 (fun v15 T15 L15 X15 hQ15 => ?_)
  obtain ⟨rfl, N15q, K15, lE15, lB15, lW15, lS15, lN15, lVS15, lVE15, -, -, -⟩ := hQ15
  have N15 := Fr.app N6 N15q
  refine g_ret X15 hx hby Bd.returns Bd.notSynchronized d4_58 rfl (by decide) (by decide) ?_
  show (Q_split22 Z a bb st en kS kE ln kL bv0 bv1 bv2 bv4 bv5 h0 n0) none _ _
  exact ⟨rfl, N15, (((((Keep.refl h0 [a, st, en]).wr W1 (Or.inl (List.mem_of_getElem? (i := 0) rfl))).wr W4 (Or.inl (List.mem_of_getElem? (i := 0) rfl))).trans K6 (allS (Or.inl (List.mem_of_getElem? (i := 0) rfl)) (allS (Or.inl (List.mem_of_getElem? (i := 1) rfl)) (allS (Or.inl (List.mem_of_getElem? (i := 2) rfl)) all0)))).trans K15 (allS (Or.inl (List.mem_of_getElem? (i := 0) rfl)) (allS (Or.inl (List.mem_of_getElem? (i := 1) rfl)) (allS (Or.inl (List.mem_of_getElem? (i := 2) rfl)) all0)))), lE15, lB15, lW15, lS15, lN15, lVS15, lVE15, ln1, ln2, ln3⟩

theorem d7_0 : decode prog_65_method_14_code 0 = .ok (.aload_n 0, 1) := by decide +kernel
theorem d7_1 : decode prog_65_method_14_code 1 = .ok (.getfield 21, 3) := by decide +kernel
theorem d7_4 : decode prog_65_method_14_code 4 = .ok (.iload_n 1, 1) := by decide +kernel
theorem d7_5 : decode prog_65_method_14_code 5 = .ok (.iaload, 1) := by decide +kernel
theorem d7_6 : decode prog_65_method_14_code 6 = .ok (.aload_n 0, 1) := by decide +kernel
theorem d7_7 : decode prog_65_method_14_code 7 = .ok (.getfield 17, 3) := by decide +kernel
theorem d7_10 : decode prog_65_method_14_code 10 = .ok (.iload_n 1, 1) := by decide +kernel
theorem d7_11 : decode prog_65_method_14_code 11 = .ok (.iaload, 1) := by decide +kernel
theorem d7_12 : decode prog_65_method_14_code 12 = .ok (.isub, 1) := by decide +kernel
theorem d7_13 : decode prog_65_method_14_code 13 = .ok (.iconst 1, 1) := by decide +kernel
theorem d7_14 : decode prog_65_method_14_code 14 = .ok (.if_icmp .ne 20, 3) := by decide +kernel
theorem d7_17 : decode prog_65_method_14_code 17 = .ok (.aload_n 0, 1) := by decide +kernel
theorem d7_18 : decode prog_65_method_14_code 18 = .ok (.getfield 7, 3) := by decide +kernel
theorem d7_21 : decode prog_65_method_14_code 21 = .ok (.aload_n 0, 1) := by decide +kernel
theorem d7_22 : decode prog_65_method_14_code 22 = .ok (.getfield 17, 3) := by decide +kernel
theorem d7_25 : decode prog_65_method_14_code 25 = .ok (.iload_n 1, 1) := by decide +kernel
theorem d7_26 : decode prog_65_method_14_code 26 = .ok (.iaload, 1) := by decide +kernel
theorem d7_27 : decode prog_65_method_14_code 27 = .ok (.baload, 1) := by decide +kernel
theorem d7_28 : decode prog_65_method_14_code 28 = .ok (.bipush 48, 2) := by decide +kernel
theorem d7_30 : decode prog_65_method_14_code 30 = .ok (.isub, 1) := by decide +kernel
theorem d7_31 : decode prog_65_method_14_code 31 = .ok (.goto 4, 3) := by decide +kernel
theorem d7_35 : decode prog_65_method_14_code 35 = .ok (.istore_n 2, 1) := by decide +kernel
theorem d7_36 : decode prog_65_method_14_code 36 = .ok (.iload_n 2, 1) := by decide +kernel
theorem d7_37 : decode prog_65_method_14_code 37 = .ok (.ifCond .lt 13, 3) := by decide +kernel
theorem d7_50 : decode prog_65_method_14_code 50 = .ok (.iconst (-1), 1) := by decide +kernel
theorem d7_51 : decode prog_65_method_14_code 51 = .ok (.ireturn, 1) := by decide +kernel
theorem d7_40 : decode prog_65_method_14_code 40 = .ok (.iload_n 2, 1) := by decide +kernel
theorem d7_41 : decode prog_65_method_14_code 41 = .ok (.bipush 9, 2) := by decide +kernel
theorem d7_43 : decode prog_65_method_14_code 43 = .ok (.if_icmp .gt 7, 3) := by decide +kernel
theorem d7_46 : decode prog_65_method_14_code 46 = .ok (.iload_n 2, 1) := by decide +kernel
theorem d7_47 : decode prog_65_method_14_code 47 = .ok (.goto 4, 3) := by decide +kernel
theorem d7_34 : decode prog_65_method_14_code 34 = .ok (.iconst (-1), 1) := by decide +kernel
def Q_dig0 (Z : State) (a : Addr) (ln : Addr) (st : Addr) (en : Addr) (kS : ClassId) (kE : ClassId) (s0 : Int32) (s1 : Int32) (ee0 : Int32) (ee1 : Int32) (kL : ClassId) (bv0 : Int32) (bv1 : Int32) (bv2 : Int32) (bv3 : Int32) (bv4 : Int32) (bv5 : Int32) (bv : Int32) (d : Int32) (h0 : Heap) (n0 : Nat) (v : Option Value) (h : Heap) (L : List Loc) : Prop := v = some (.int (own_dig d bv)) ∧ Fr n0 L ∧ h = h0
set_option maxRecDepth 65536 in
set_option maxHeartbeats 40000000 in
theorem rm_dig0 (l : Launch) (Z : State) (a0 : Array Value) (hw : ∀ d ∈ tables_1, d.before a0 Z = true) (ws : List Jvm.Cond) (a : Addr) (ln : Addr) (st : Addr) (en : Addr) (kS : ClassId) (kE : ClassId) (s0 : Int32) (s1 : Int32) (ee0 : Int32) (ee1 : Int32) (kL : ClassId) (bv0 : Int32) (bv1 : Int32) (bv2 : Int32) (bv3 : Int32) (bv4 : Int32) (bv5 : Int32) (bv : Int32) (d : Int32) (h0 : Heap) (n0 : Nat) (Z0 : n0 ≤ h0.size) (LFp : own_LF Z h0 a ln 2 st en kS kE [(.int s0), (.int s1), (.int (0 : Int32)), (.int (0 : Int32)), (.int (0 : Int32)), (.int (0 : Int32)), (.int (0 : Int32)), (.int (0 : Int32))] [(.int ee0), (.int ee1), (.int (0 : Int32)), (.int (0 : Int32)), (.int (0 : Int32)), (.int (0 : Int32)), (.int (0 : Int32)), (.int (0 : Int32))]) (VL : Arv Z h0 ln kL .byte (6 : Int32) [(.int bv0), (.int bv1), (.int bv2), (.int bv3), (.int bv4), (.int bv5)] (.int (0 : Int32))) (hde : ee0 - s0 = d) (hbv : d = (1 : Int32) → (¬ s0 < 0 ∧ s0 < (6 : Int32)) ∧ ([(.int bv0), (.int bv1), (.int bv2), (.int bv3), (.int bv4), (.int bv5)] : List Value).getD (s0).toNatClampNeg (.int (0 : Int32)) = .int bv) :
    MetFree l (⟨"com/example/tidegate/tidegate/venue/LineFields", "digit", "(I)I"⟩ : MethodName) (head1 (Jvm.Cond.code (⟨"com/example/tidegate/tidegate/venue/LineFields", "digit", "(I)I"⟩ : MethodName) prog_65_method_14_code 3 (some .int) :: ws) ({ frames := 0, cells := 0, slots := 0, locals := 0 } : Room)) (fun aa_ U => aa_ = #[(.ref a), (.int (0 : Int32))] ∧ Z.Warmed39 U.vm ∧ U.heap = h0) (fun _ _ _ _ _ => True) (fun _ U o_ U' => RetG U (Q_dig0 Z a ln st en kS kE s0 s1 ee0 ee1 kL bv0 bv1 bv2 bv3 bv4 bv5 bv d h0 n0) 0 0 U' o_) := by
  refine MetFree.of_bodySF (plainFor_of_name own_pn1) hisR ?_
  intro p e s m args below meth c_ s₁ Bd hml0 hP hK
  obtain ⟨rfl, hZ, hh⟩ := hP
  have hx := Bd.exec
  have hby := Bd.bytes
  have hml : c_.maxLocals = 3 := hml0
  have hown : s.vm.findClass "com/example/tidegate/tidegate/venue/LineFields" = some m.cls := findClass_of_methodNamed Bd.named
  have hnm := (name_of_methodNamed Bd.named Bd.method).1
  have X0 : Stand p l e ({ frames := 0, cells := 0, slots := 0, locals := 0 } : Room) s m #[(.ref a), (.int (0 : Int32))] below meth c_ s₁ [] 0 0 := Stand.of_body Bd
  have e0 : s₁.heap = h0 := by rw [← hh, Bd.state]; rfl
  have N0 := Fr.nil n0
  have w14_ := hw _ (List.mem_of_getElem? (i := 14) rfl)
  have w19_ := hw _ (List.mem_of_getElem? (i := 19) rfl)
  have w21_ := hw _ (List.mem_of_getElem? (i := 21) rfl)
  obtain ⟨lE, lB, lW, lS, lN, lVS, lVE, ln1, ln2, ln3⟩ := LFp
  show Go p e below (RetG s (Q_dig0 Z a ln st en kS kE s0 s1 ee0 ee1 kL bv0 bv1 bv2 bv3 bv4 bv5 bv d h0 n0) 0 0) (s₁.setTop (entryFrame m #[(.ref a), (.int (0 : Int32))] 3))
  rw [show entryFrame m #[(.ref a), (.int (0 : Int32))] 3 = mkF m 0 #[.val (.ref a), .val (.int (0 : Int32)), .unset] [] from by first | (simp [entryFrame, mkF, argsToLocals, Value.category]; done) | rfl]
  refine g_aloadN X0 hx hby d7_0 rfl rfl ?_
  refine g_getF X0 hx hby hZ hown (host := "") (Or.inl w21_) Via.refl e0 lN d7_1 (fun T1 X1 e1 => ?_)
  refine g_iloadN X1 hx hby d7_4 rfl ?_
  refine g_iaload X1 hx hby hZ e1 lVE (.int ee0) ⟨by decide, by decide⟩ rfl d7_5 ?_
  refine g_aloadN X1 hx hby d7_6 rfl rfl ?_
  refine g_getF X1 hx hby hZ hown (host := "") (Or.inl w19_) Via.refl e1 lS d7_7 (fun T2 X2 e2 => ?_)
  refine g_iloadN X2 hx hby d7_10 rfl ?_
  refine g_iaload X2 hx hby hZ e2 lVS (.int s0) ⟨by decide, by decide⟩ rfl d7_11 ?_
  refine g_isub X2 hx hby d7_12 ?_
  refine g_iconst X2 hx hby (1 : Int32) d7_13 rfl ?_
  rw [hde]
  by_cases hc14_3 : d = (1 : Int32)
  · skip
    refine g_icN X2 hx hby d7_14 (teq hc14_3).2 ?_
    refine g_aloadN X2 hx hby d7_17 rfl rfl ?_
    refine g_getF X2 hx hby hZ hown (host := "") (Or.inl w14_) Via.refl e2 lB d7_18 (fun T4 X4 e4 => ?_)
    refine g_aloadN X4 hx hby d7_21 rfl rfl ?_
    refine g_getF X4 hx hby hZ hown (host := "") (Or.inl w19_) Via.refl e4 lS d7_22 (fun T5 X5 e5 => ?_)
    refine g_iloadN X5 hx hby d7_25 rfl ?_
    refine g_iaload X5 hx hby hZ e5 lVS (.int s0) ⟨by decide, by decide⟩ rfl d7_26 ?_
    refine g_baload X5 hx hby hZ e5 VL (.int bv) (hbv hc14_3).1 (hbv hc14_3).2 d7_27 ?_
    refine g_bipush X5 hx hby (48 : Int32) d7_28 rfl ?_
    refine g_isub X5 hx hby d7_30 ?_
    refine g_goto X5 hx hby 35 d7_31 (by decide) (by decide) ?_
    refine g_istoreN X5 hx hby d7_35 (l' := #[.val (.ref a), .val (.int (0 : Int32)), .val (.int (bv - (48 : Int32)))]) rfl ?_
    refine g_iloadN X5 hx hby d7_36 rfl ?_
    by_cases hc37_6 : (bv - (48 : Int32)) < (0 : Int32)
    · skip
      refine g_ifY X5 hx hby 50 d7_37 (tlt hc37_6).1 (by decide) (by decide) ?_
      refine g_iconst X5 hx hby (-1 : Int32) d7_50 rfl ?_
      refine g_iret X5 hx hby Bd.returns Bd.notSynchronized d7_51 e5 (by decide) (by decide) ?_
      show (Q_dig0 Z a ln st en kS kE s0 s1 ee0 ee1 kL bv0 bv1 bv2 bv3 bv4 bv5 bv d h0 n0) (some (.int (-1 : Int32))) _ _
      exact ⟨by simp [own_dig, hc14_3, hc37_6], N0, rfl⟩
    · skip
      refine g_ifN X5 hx hby d7_37 (flt hc37_6).1 ?_
      refine g_iloadN X5 hx hby d7_40 rfl ?_
      refine g_bipush X5 hx hby (9 : Int32) d7_41 rfl ?_
      by_cases hc43_7 : (9 : Int32) < (bv - (48 : Int32))
      · skip
        refine g_icY X5 hx hby 50 d7_43 (tlt hc43_7).2.2.1 (by decide) (by decide) ?_
        refine g_iconst X5 hx hby (-1 : Int32) d7_50 rfl ?_
        refine g_iret X5 hx hby Bd.returns Bd.notSynchronized d7_51 e5 (by decide) (by decide) ?_
        show (Q_dig0 Z a ln st en kS kE s0 s1 ee0 ee1 kL bv0 bv1 bv2 bv3 bv4 bv5 bv d h0 n0) (some (.int (-1 : Int32))) _ _
        exact ⟨by simp [own_dig, hc14_3, hc37_6, hc43_7], N0, rfl⟩
      · skip
        refine g_icN X5 hx hby d7_43 (flt hc43_7).2.2.1 ?_
        refine g_iloadN X5 hx hby d7_46 rfl ?_
        refine g_goto X5 hx hby 51 d7_47 (by decide) (by decide) ?_
        refine g_iret X5 hx hby Bd.returns Bd.notSynchronized d7_51 e5 (by decide) (by decide) ?_
        show (Q_dig0 Z a ln st en kS kE s0 s1 ee0 ee1 kL bv0 bv1 bv2 bv3 bv4 bv5 bv d h0 n0) (some (.int (bv - (48 : Int32)))) _ _
        exact ⟨by simp [own_dig, hc14_3, hc37_6, hc43_7], N0, rfl⟩
  · skip
    refine g_icY X2 hx hby 34 d7_14 (feq hc14_3).2 (by decide) (by decide) ?_
    refine g_iconst X2 hx hby (-1 : Int32) d7_34 rfl ?_
    refine g_istoreN X2 hx hby d7_35 (l' := #[.val (.ref a), .val (.int (0 : Int32)), .val (.int (-1 : Int32))]) rfl ?_
    refine g_iloadN X2 hx hby d7_36 rfl ?_
    refine g_ifY X2 hx hby 50 d7_37 (tlt (by decide : (-1 : Int32) < (0 : Int32))).1 (by decide) (by decide) ?_
    refine g_iconst X2 hx hby (-1 : Int32) d7_50 rfl ?_
    refine g_iret X2 hx hby Bd.returns Bd.notSynchronized d7_51 e2 (by decide) (by decide) ?_
    show (Q_dig0 Z a ln st en kS kE s0 s1 ee0 ee1 kL bv0 bv1 bv2 bv3 bv4 bv5 bv d h0 n0) (some (.int (-1 : Int32))) _ _
    exact ⟨by simp [own_dig, hc14_3], N0, rfl⟩

def Q_dig1 (Z : State) (a : Addr) (ln : Addr) (st : Addr) (en : Addr) (kS : ClassId) (kE : ClassId) (s0 : Int32) (s1 : Int32) (ee0 : Int32) (ee1 : Int32) (kL : ClassId) (bv0 : Int32) (bv1 : Int32) (bv2 : Int32) (bv3 : Int32) (bv4 : Int32) (bv5 : Int32) (bv : Int32) (d : Int32) (h0 : Heap) (n0 : Nat) (v : Option Value) (h : Heap) (L : List Loc) : Prop := v = some (.int (own_dig d bv)) ∧ Fr n0 L ∧ h = h0
set_option maxRecDepth 65536 in
set_option maxHeartbeats 40000000 in
theorem rm_dig1 (l : Launch) (Z : State) (a0 : Array Value) (hw : ∀ d ∈ tables_1, d.before a0 Z = true) (ws : List Jvm.Cond) (a : Addr) (ln : Addr) (st : Addr) (en : Addr) (kS : ClassId) (kE : ClassId) (s0 : Int32) (s1 : Int32) (ee0 : Int32) (ee1 : Int32) (kL : ClassId) (bv0 : Int32) (bv1 : Int32) (bv2 : Int32) (bv3 : Int32) (bv4 : Int32) (bv5 : Int32) (bv : Int32) (d : Int32) (h0 : Heap) (n0 : Nat) (Z0 : n0 ≤ h0.size) (LFp : own_LF Z h0 a ln 2 st en kS kE [(.int s0), (.int s1), (.int (0 : Int32)), (.int (0 : Int32)), (.int (0 : Int32)), (.int (0 : Int32)), (.int (0 : Int32)), (.int (0 : Int32))] [(.int ee0), (.int ee1), (.int (0 : Int32)), (.int (0 : Int32)), (.int (0 : Int32)), (.int (0 : Int32)), (.int (0 : Int32)), (.int (0 : Int32))]) (VL : Arv Z h0 ln kL .byte (6 : Int32) [(.int bv0), (.int bv1), (.int bv2), (.int bv3), (.int bv4), (.int bv5)] (.int (0 : Int32))) (hde : ee1 - s1 = d) (hbv : d = (1 : Int32) → (¬ s1 < 0 ∧ s1 < (6 : Int32)) ∧ ([(.int bv0), (.int bv1), (.int bv2), (.int bv3), (.int bv4), (.int bv5)] : List Value).getD (s1).toNatClampNeg (.int (0 : Int32)) = .int bv) :
    MetFree l (⟨"com/example/tidegate/tidegate/venue/LineFields", "digit", "(I)I"⟩ : MethodName) (head1 (Jvm.Cond.code (⟨"com/example/tidegate/tidegate/venue/LineFields", "digit", "(I)I"⟩ : MethodName) prog_65_method_14_code 3 (some .int) :: ws) ({ frames := 0, cells := 0, slots := 0, locals := 0 } : Room)) (fun aa_ U => aa_ = #[(.ref a), (.int (1 : Int32))] ∧ Z.Warmed39 U.vm ∧ U.heap = h0) (fun _ _ _ _ _ => True) (fun _ U o_ U' => RetG U (Q_dig1 Z a ln st en kS kE s0 s1 ee0 ee1 kL bv0 bv1 bv2 bv3 bv4 bv5 bv d h0 n0) 0 0 U' o_) := by
  refine MetFree.of_bodySF (plainFor_of_name own_pn1) hisR ?_
  intro p e s m args below meth c_ s₁ Bd hml0 hP hK
  obtain ⟨rfl, hZ, hh⟩ := hP
  have hx := Bd.exec
  have hby := Bd.bytes
  have hml : c_.maxLocals = 3 := hml0
  have hown : s.vm.findClass "com/example/tidegate/tidegate/venue/LineFields" = some m.cls := findClass_of_methodNamed Bd.named
  have hnm := (name_of_methodNamed Bd.named Bd.method).1
  have X0 : Stand p l e ({ frames := 0, cells := 0, slots := 0, locals := 0 } : Room) s m #[(.ref a), (.int (1 : Int32))] below meth c_ s₁ [] 0 0 := Stand.of_body Bd
  have e0 : s₁.heap = h0 := by rw [← hh, Bd.state]; rfl
  have N0 := Fr.nil n0
  have w14_ := hw _ (List.mem_of_getElem? (i := 14) rfl)
  have w19_ := hw _ (List.mem_of_getElem? (i := 19) rfl)
  have w21_ := hw _ (List.mem_of_getElem? (i := 21) rfl)
  obtain ⟨lE, lB, lW, lS, lN, lVS, lVE, ln1, ln2, ln3⟩ := LFp
  show Go p e below (RetG s (Q_dig1 Z a ln st en kS kE s0 s1 ee0 ee1 kL bv0 bv1 bv2 bv3 bv4 bv5 bv d h0 n0) 0 0) (s₁.setTop (entryFrame m #[(.ref a), (.int (1 : Int32))] 3))
  rw [show entryFrame m #[(.ref a), (.int (1 : Int32))] 3 = mkF m 0 #[.val (.ref a), .val (.int (1 : Int32)), .unset] [] from by first | (simp [entryFrame, mkF, argsToLocals, Value.category]; done) | rfl]
  refine g_aloadN X0 hx hby d7_0 rfl rfl ?_
  refine g_getF X0 hx hby hZ hown (host := "") (Or.inl w21_) Via.refl e0 lN d7_1 (fun T1 X1 e1 => ?_)
  refine g_iloadN X1 hx hby d7_4 rfl ?_
  refine g_iaload X1 hx hby hZ e1 lVE (.int ee1) ⟨by decide, by decide⟩ rfl d7_5 ?_
  refine g_aloadN X1 hx hby d7_6 rfl rfl ?_
  refine g_getF X1 hx hby hZ hown (host := "") (Or.inl w19_) Via.refl e1 lS d7_7 (fun T2 X2 e2 => ?_)
  refine g_iloadN X2 hx hby d7_10 rfl ?_
  refine g_iaload X2 hx hby hZ e2 lVS (.int s1) ⟨by decide, by decide⟩ rfl d7_11 ?_
  refine g_isub X2 hx hby d7_12 ?_
  refine g_iconst X2 hx hby (1 : Int32) d7_13 rfl ?_
  rw [hde]
  by_cases hc14_3 : d = (1 : Int32)
  · skip
    refine g_icN X2 hx hby d7_14 (teq hc14_3).2 ?_
    refine g_aloadN X2 hx hby d7_17 rfl rfl ?_
    refine g_getF X2 hx hby hZ hown (host := "") (Or.inl w14_) Via.refl e2 lB d7_18 (fun T4 X4 e4 => ?_)
    refine g_aloadN X4 hx hby d7_21 rfl rfl ?_
    refine g_getF X4 hx hby hZ hown (host := "") (Or.inl w19_) Via.refl e4 lS d7_22 (fun T5 X5 e5 => ?_)
    refine g_iloadN X5 hx hby d7_25 rfl ?_
    refine g_iaload X5 hx hby hZ e5 lVS (.int s1) ⟨by decide, by decide⟩ rfl d7_26 ?_
    refine g_baload X5 hx hby hZ e5 VL (.int bv) (hbv hc14_3).1 (hbv hc14_3).2 d7_27 ?_
    refine g_bipush X5 hx hby (48 : Int32) d7_28 rfl ?_
    refine g_isub X5 hx hby d7_30 ?_
    refine g_goto X5 hx hby 35 d7_31 (by decide) (by decide) ?_
    refine g_istoreN X5 hx hby d7_35 (l' := #[.val (.ref a), .val (.int (1 : Int32)), .val (.int (bv - (48 : Int32)))]) rfl ?_
    refine g_iloadN X5 hx hby d7_36 rfl ?_
    by_cases hc37_6 : (bv - (48 : Int32)) < (0 : Int32)
    · skip
      refine g_ifY X5 hx hby 50 d7_37 (tlt hc37_6).1 (by decide) (by decide) ?_
      refine g_iconst X5 hx hby (-1 : Int32) d7_50 rfl ?_
      refine g_iret X5 hx hby Bd.returns Bd.notSynchronized d7_51 e5 (by decide) (by decide) ?_
      show (Q_dig1 Z a ln st en kS kE s0 s1 ee0 ee1 kL bv0 bv1 bv2 bv3 bv4 bv5 bv d h0 n0) (some (.int (-1 : Int32))) _ _
      exact ⟨by simp [own_dig, hc14_3, hc37_6], N0, rfl⟩
    · skip
      refine g_ifN X5 hx hby d7_37 (flt hc37_6).1 ?_
      refine g_iloadN X5 hx hby d7_40 rfl ?_
      refine g_bipush X5 hx hby (9 : Int32) d7_41 rfl ?_
      by_cases hc43_7 : (9 : Int32) < (bv - (48 : Int32))
      · skip
        refine g_icY X5 hx hby 50 d7_43 (tlt hc43_7).2.2.1 (by decide) (by decide) ?_
        refine g_iconst X5 hx hby (-1 : Int32) d7_50 rfl ?_
        refine g_iret X5 hx hby Bd.returns Bd.notSynchronized d7_51 e5 (by decide) (by decide) ?_
        show (Q_dig1 Z a ln st en kS kE s0 s1 ee0 ee1 kL bv0 bv1 bv2 bv3 bv4 bv5 bv d h0 n0) (some (.int (-1 : Int32))) _ _
        exact ⟨by simp [own_dig, hc14_3, hc37_6, hc43_7], N0, rfl⟩
      · skip
        refine g_icN X5 hx hby d7_43 (flt hc43_7).2.2.1 ?_
        refine g_iloadN X5 hx hby d7_46 rfl ?_
        refine g_goto X5 hx hby 51 d7_47 (by decide) (by decide) ?_
        refine g_iret X5 hx hby Bd.returns Bd.notSynchronized d7_51 e5 (by decide) (by decide) ?_
        show (Q_dig1 Z a ln st en kS kE s0 s1 ee0 ee1 kL bv0 bv1 bv2 bv3 bv4 bv5 bv d h0 n0) (some (.int (bv - (48 : Int32)))) _ _
        exact ⟨by simp [own_dig, hc14_3, hc37_6, hc43_7], N0, rfl⟩
  · skip
    refine g_icY X2 hx hby 34 d7_14 (feq hc14_3).2 (by decide) (by decide) ?_
    refine g_iconst X2 hx hby (-1 : Int32) d7_34 rfl ?_
    refine g_istoreN X2 hx hby d7_35 (l' := #[.val (.ref a), .val (.int (1 : Int32)), .val (.int (-1 : Int32))]) rfl ?_
    refine g_iloadN X2 hx hby d7_36 rfl ?_
    refine g_ifY X2 hx hby 50 d7_37 (tlt (by decide : (-1 : Int32) < (0 : Int32))).1 (by decide) (by decide) ?_
    refine g_iconst X2 hx hby (-1 : Int32) d7_50 rfl ?_
    refine g_iret X2 hx hby Bd.returns Bd.notSynchronized d7_51 e2 (by decide) (by decide) ?_
    show (Q_dig1 Z a ln st en kS kE s0 s1 ee0 ee1 kL bv0 bv1 bv2 bv3 bv4 bv5 bv d h0 n0) (some (.int (-1 : Int32))) _ _
    exact ⟨by simp [own_dig, hc14_3], N0, rfl⟩

theorem own_pd1 : parseMethodDescriptor "(I)B" = some ⟨[.int], some .byte⟩ := by decide +kernel
theorem own_pd2 : parseMethodDescriptor "()V" = some ⟨[], none⟩ := by decide +kernel
theorem own_pd3 : parseMethodDescriptor "([BII)V" = some ⟨[(.array .byte), .int, .int], none⟩ := by decide +kernel
theorem own_pd4 : parseMethodDescriptor "(IB)I" = some ⟨[.int, .byte], some .int⟩ := by decide +kernel
theorem own_pd5 : parseMethodDescriptor "(I)I" = some ⟨[.int], some .int⟩ := by decide +kernel
def Q_law (Z : State) (p0 : Int32) (p1 : Int32) (p2 : Int32) (p3 : Int32) (p4 : Int32) (p5 : Int32) (h0 : Heap) (n0 : Nat) (v : Option Value) (h : Heap) (L : List Loc) : Prop := v = some (.int 1) ∧ Fr n0 L
set_option maxRecDepth 65536 in
set_option maxHeartbeats 40000000 in
theorem rm_law (l : Launch) (Z : State) (a0 : Array Value) (hw : ∀ d ∈ tables_1, d.before a0 Z = true) (ws : List Jvm.Cond) (p0 : Int32) (p1 : Int32) (p2 : Int32) (p3 : Int32) (p4 : Int32) (p5 : Int32) (h0 : Heap) (n0 : Nat) (Z0 : n0 ≤ h0.size) :
    MetFree l Jvm.Pilot.@@N@@.x (head1 (Jvm.Cond.code Jvm.Pilot.@@N@@.x Jvm.Pilot.@@N@@.code Jvm.Pilot.@@N@@.maxLocals Jvm.Pilot.@@N@@.ret :: ws) room_1) (fun aa_ U => aa_ = #[(.int p0), (.int p1), (.int p2), (.int p3), (.int p4), (.int p5)] ∧ Z.Warmed39 U.vm ∧ U.heap = h0) (fun _ _ _ _ _ => True) (fun _ U o_ U' => RetG U (Q_law Z p0 p1 p2 p3 p4 p5 h0 n0) 24 128 U' o_) := by
  refine MetFree.of_bodySF (plainFor_of_name own_pn0) hisR ?_
  intro p e s m args below meth c_ s₁ Bd hml0 hP hK
  obtain ⟨rfl, hZ, hh⟩ := hP
  have hx := Bd.exec
  have hby := Bd.bytes
  have hml : c_.maxLocals = 18 := hml0
  have hown : s.vm.findClass "com/example/tidegate/tidegate/venue/LineFieldsDigitPinLaw" = some m.cls := findClass_of_methodNamed Bd.named
  have hnm := (name_of_methodNamed Bd.named Bd.method).1
  have X0 : Stand p l e room_1 s m #[(.int p0), (.int p1), (.int p2), (.int p3), (.int p4), (.int p5)] below meth c_ s₁ [] 0 0 := Stand.of_body Bd
  have e0 : s₁.heap = h0 := by rw [← hh, Bd.state]; rfl
  have N0 := Fr.nil n0
  have w0_ := hw _ (List.mem_of_getElem? (i := 0) rfl)
  have w1_ := hw _ (List.mem_of_getElem? (i := 1) rfl)
  have w2_ := hw _ (List.mem_of_getElem? (i := 2) rfl)
  have w3_ := hw _ (List.mem_of_getElem? (i := 3) rfl)
  have w4_ := hw _ (List.mem_of_getElem? (i := 4) rfl)
  have w5_ := hw _ (List.mem_of_getElem? (i := 5) rfl)
  have w6_ := hw _ (List.mem_of_getElem? (i := 6) rfl)
  have w7_ := hw _ (List.mem_of_getElem? (i := 7) rfl)
  have w8_ := hw _ (List.mem_of_getElem? (i := 8) rfl)
  have w9_ := hw _ (List.mem_of_getElem? (i := 9) rfl)
  have w10_ := hw _ (List.mem_of_getElem? (i := 10) rfl)
  have w15_ := hw _ (List.mem_of_getElem? (i := 15) rfl)
  have w17_ := hw _ (List.mem_of_getElem? (i := 17) rfl)
  have w20_ := hw _ (List.mem_of_getElem? (i := 20) rfl)
  have w22_ := hw _ (List.mem_of_getElem? (i := 22) rfl)
  have w23_ := hw _ (List.mem_of_getElem? (i := 23) rfl)
  have w24_ := hw _ (List.mem_of_getElem? (i := 24) rfl)
  have w25_ := hw _ (List.mem_of_getElem? (i := 25) rfl)
  have w26_ := hw _ (List.mem_of_getElem? (i := 26) rfl)
  have w27_ := hw _ (List.mem_of_getElem? (i := 27) rfl)
  have w32_ := hw _ (List.mem_of_getElem? (i := 32) rfl)
  have w33_ := hw _ (List.mem_of_getElem? (i := 33) rfl)
  have w34_ := hw _ (List.mem_of_getElem? (i := 34) rfl)
  have w35_ := hw _ (List.mem_of_getElem? (i := 35) rfl)
  have w36_ := hw _ (List.mem_of_getElem? (i := 36) rfl)
  have w37_ := hw _ (List.mem_of_getElem? (i := 37) rfl)
  have w38_ := hw _ (List.mem_of_getElem? (i := 38) rfl)
  have w39_ := hw _ (List.mem_of_getElem? (i := 39) rfl)
  show Go p e below (RetG s (Q_law Z p0 p1 p2 p3 p4 p5 h0 n0) 24 128) (s₁.setTop (entryFrame m #[(.int p0), (.int p1), (.int p2), (.int p3), (.int p4), (.int p5)] maxLocals))
  rw [show entryFrame m #[(.int p0), (.int p1), (.int p2), (.int p3), (.int p4), (.int p5)] maxLocals = mkF m 0 #[.val (.int p0), .val (.int p1), .val (.int p2), .val (.int p3), .val (.int p4), .val (.int p5), .unset, .unset, .unset, .unset, .unset, .unset, .unset, .unset, .unset, .unset, .unset, .unset] [] from by first | (simp [entryFrame, mkF, argsToLocals, Value.category, maxLocals]; done) | rfl]
  refine g_iloadN X0 hx hby at_0 rfl ?_
  refine g_iconst X0 hx hby (3 : Int32) at_1 rfl ?_
  refine g_iand X0 hx hby at_2 ?_
  refine g_iconst X0 hx hby (3 : Int32) at_3 rfl ?_
  refine g_irem X0 hx hby at_4 (by decide) ?_
  refine g_istore X0 hx hby at_5 (l' := #[.val (.int p0), .val (.int p1), .val (.int p2), .val (.int p3), .val (.int p4), .val (.int p5), .val (.int ((p0 &&& (3 : Int32)) % (3 : Int32))), .unset, .unset, .unset, .unset, .unset, .unset, .unset, .unset, .unset, .unset, .unset]) rfl ?_
  obtain ⟨m0, e_m0⟩ : ∃ z, z = ((p0 &&& (3 : Int32)) % (3 : Int32)) := ⟨_, rfl⟩
  rw [← e_m0]
  refine g_iloadN X0 hx hby at_7 rfl ?_
  refine g_iconst X0 hx hby (2 : Int32) at_8 rfl ?_
  refine g_iushr X0 hx hby at_9 ?_
  refine g_iconst X0 hx hby (3 : Int32) at_10 rfl ?_
  refine g_iand X0 hx hby at_11 ?_
  refine g_iconst X0 hx hby (3 : Int32) at_12 rfl ?_
  refine g_irem X0 hx hby at_13 (by decide) ?_
  refine g_istore X0 hx hby at_14 (l' := #[.val (.int p0), .val (.int p1), .val (.int p2), .val (.int p3), .val (.int p4), .val (.int p5), .val (.int m0), .val (.int ((((p0.toUInt32 >>> ((2 : Int32) &&& 31).toUInt32).toInt32) &&& (3 : Int32)) % (3 : Int32))), .unset, .unset, .unset, .unset, .unset, .unset, .unset, .unset, .unset, .unset]) rfl ?_
  obtain ⟨m1, e_m1⟩ : ∃ z, z = ((((p0.toUInt32 >>> ((2 : Int32) &&& 31).toUInt32).toInt32) &&& (3 : Int32)) % (3 : Int32)) := ⟨_, rfl⟩
  rw [← e_m1]
  refine g_iloadN X0 hx hby at_16 rfl ?_
  refine g_iconst X0 hx hby (4 : Int32) at_17 rfl ?_
  refine g_iushr X0 hx hby at_18 ?_
  refine g_iconst X0 hx hby (1 : Int32) at_19 rfl ?_
  refine g_iand X0 hx hby at_20 ?_
  refine g_istore X0 hx hby at_21 (l' := #[.val (.int p0), .val (.int p1), .val (.int p2), .val (.int p3), .val (.int p4), .val (.int p5), .val (.int m0), .val (.int m1), .val (.int (((p0.toUInt32 >>> ((4 : Int32) &&& 31).toUInt32).toInt32) &&& (1 : Int32))), .unset, .unset, .unset, .unset, .unset, .unset, .unset, .unset, .unset]) rfl ?_
  obtain ⟨fd, e_fd⟩ : ∃ z, z = (((p0.toUInt32 >>> ((4 : Int32) &&& 31).toUInt32).toInt32) &&& (1 : Int32)) := ⟨_, rfl⟩
  rw [← e_fd]
  refine g_iloadN X0 hx hby at_23 rfl ?_
  refine g_static X0 hx hby hZ hown (rm_draw l Z a0 hw [] p1 h0 n0 Z0 ) w0_ w1_ w2_ w3_ (by decide) e0 (by rw [hml]; rfl) [(.int p1)] (lenOf own_pd1 rfl) rfl rfl (Nat.le_of_ble_eq_true rfl) (Nat.le_of_ble_eq_true rfl) (Nat.le_of_ble_eq_true rfl) (Nat.le_of_ble_eq_true rfl) at_24 (fun v1 T1 L1 X1 hQ1 => ?_)
  obtain ⟨rfl, N1q, eh1⟩ := hQ1
  have N1 := Fr.app N0 N1q
  refine g_at 27 rfl rfl rfl ?_
  refine g_istore X1 hx hby at_27 (l' := #[.val (.int p0), .val (.int p1), .val (.int p2), .val (.int p3), .val (.int p4), .val (.int p5), .val (.int m0), .val (.int m1), .val (.int fd), .val (.int (own_draw p1)), .unset, .unset, .unset, .unset, .unset, .unset, .unset, .unset]) rfl ?_
  refine g_iloadN X1 hx hby at_29 rfl ?_
  refine g_static X1 hx hby hZ hown (rm_draw l Z a0 hw [] p2 h0 n0 Z0 ) w0_ w1_ w2_ w3_ (by decide) eh1 (by rw [hml]; rfl) [(.int p2)] (lenOf own_pd1 rfl) rfl rfl (Nat.le_of_ble_eq_true rfl) (Nat.le_of_ble_eq_true rfl) (Nat.le_of_ble_eq_true rfl) (Nat.le_of_ble_eq_true rfl) at_30 (fun v2 T2 L2 X2 hQ2 => ?_)
  obtain ⟨rfl, N2q, eh2⟩ := hQ2
  have N2 := Fr.app N1 N2q
  refine g_istore X2 hx hby at_33 (l' := #[.val (.int p0), .val (.int p1), .val (.int p2), .val (.int p3), .val (.int p4), .val (.int p5), .val (.int m0), .val (.int m1), .val (.int fd), .val (.int (own_draw p1)), .val (.int (own_draw p2)), .unset, .unset, .unset, .unset, .unset, .unset, .unset]) rfl ?_
  refine g_iloadN X2 hx hby at_35 rfl ?_
  refine g_static X2 hx hby hZ hown (rm_draw l Z a0 hw [] p3 h0 n0 Z0 ) w0_ w1_ w2_ w3_ (by decide) eh2 (by rw [hml]; rfl) [(.int p3)] (lenOf own_pd1 rfl) rfl rfl (Nat.le_of_ble_eq_true rfl) (Nat.le_of_ble_eq_true rfl) (Nat.le_of_ble_eq_true rfl) (Nat.le_of_ble_eq_true rfl) at_36 (fun v3 T3 L3 X3 hQ3 => ?_)
  obtain ⟨rfl, N3q, eh3⟩ := hQ3
  have N3 := Fr.app N2 N3q
  refine g_istore X3 hx hby at_39 (l' := #[.val (.int p0), .val (.int p1), .val (.int p2), .val (.int p3), .val (.int p4), .val (.int p5), .val (.int m0), .val (.int m1), .val (.int fd), .val (.int (own_draw p1)), .val (.int (own_draw p2)), .val (.int (own_draw p3)), .unset, .unset, .unset, .unset, .unset, .unset]) rfl ?_
  refine g_iload X3 hx hby at_41 rfl ?_
  refine g_static X3 hx hby hZ hown (rm_draw l Z a0 hw [] p4 h0 n0 Z0 ) w0_ w1_ w2_ w3_ (by decide) eh3 (by rw [hml]; rfl) [(.int p4)] (lenOf own_pd1 rfl) rfl rfl (Nat.le_of_ble_eq_true rfl) (Nat.le_of_ble_eq_true rfl) (Nat.le_of_ble_eq_true rfl) (Nat.le_of_ble_eq_true rfl) at_43 (fun v4 T4 L4 X4 hQ4 => ?_)
  obtain ⟨rfl, N4q, eh4⟩ := hQ4
  have N4 := Fr.app N3 N4q
  refine g_istore X4 hx hby at_46 (l' := #[.val (.int p0), .val (.int p1), .val (.int p2), .val (.int p3), .val (.int p4), .val (.int p5), .val (.int m0), .val (.int m1), .val (.int fd), .val (.int (own_draw p1)), .val (.int (own_draw p2)), .val (.int (own_draw p3)), .val (.int (own_draw p4)), .unset, .unset, .unset, .unset, .unset]) rfl ?_
  refine g_iload X4 hx hby at_48 rfl ?_
  refine g_at 50 rfl rfl rfl ?_
  refine g_bipush X4 hx hby (8 : Int32) at_50 rfl ?_
  refine g_iushr X4 hx hby at_52 ?_
  refine g_i2b X4 hx hby at_53 ?_
  refine g_istore X4 hx hby at_54 (l' := #[.val (.int p0), .val (.int p1), .val (.int p2), .val (.int p3), .val (.int p4), .val (.int p5), .val (.int m0), .val (.int m1), .val (.int fd), .val (.int (own_draw p1)), .val (.int (own_draw p2)), .val (.int (own_draw p3)), .val (.int (own_draw p4)), .val (.int (((p5.toUInt32 >>> ((8 : Int32) &&& 31).toUInt32).toInt32).toInt8.toInt32)), .unset, .unset, .unset, .unset]) rfl ?_
  refine g_bipush X4 hx hby (6 : Int32) at_56 rfl ?_
  refine g_newarray X4 hx hby hZ .byte .byte (.int (0 : Int32)) [(.int (0 : Int32)), (.int (0 : Int32)), (.int (0 : Int32)), (.int (0 : Int32)), (.int (0 : Int32)), (.int (0 : Int32))] rfl rfl w4_ eh4 (by decide) 6 rfl (by decide) (by decide) (by decide) (by decide) at_58 (fun T5 h5 k5 b5 g5 X5 e5 E5 V5 => ?_)
  refine g_astore X5 hx hby at_60 rfl (l' := #[.val (.int p0), .val (.int p1), .val (.int p2), .val (.int p3), .val (.int p4), .val (.int p5), .val (.int m0), .val (.int m1), .val (.int fd), .val (.int (own_draw p1)), .val (.int (own_draw p2)), .val (.int (own_draw p3)), .val (.int (own_draw p4)), .val (.int (((p5.toUInt32 >>> ((8 : Int32) &&& 31).toUInt32).toInt32).toInt8.toInt32)), .val (.ref b5), .unset, .unset, .unset]) rfl ?_
  refine g_aload X5 hx hby at_62 rfl rfl ?_
  refine g_iconst X5 hx hby (0 : Int32) at_64 rfl ?_
  refine g_iload X5 hx hby at_65 rfl ?_
  refine g_i2b X5 hx hby at_67 ?_
  have g_b5 : n0 ≤ b5 := Nat.le_trans Z0 (Nat.le_of_eq g5)
  refine g_bastore X5 hx hby hZ e5 V5 0 [(.int (nar .byte (p5.toInt8.toInt32))), (.int (0 : Int32)), (.int (0 : Int32)), (.int (0 : Int32)), (.int (0 : Int32)), (.int (0 : Int32))] rfl ⟨by decide, by decide⟩ rfl (Nat.le_of_ble_eq_true rfl) N4 g_b5 at_68 (fun T6 h6 X6 e6 W6 V6 N6 => ?_)
  refine g_aload X6 hx hby at_69 rfl rfl ?_
  refine g_iconst X6 hx hby (1 : Int32) at_71 rfl ?_
  refine g_iload X6 hx hby at_72 rfl ?_
  refine g_bastore X6 hx hby hZ e6 V6 1 [(.int (nar .byte (p5.toInt8.toInt32))), (.int (nar .byte (((p5.toUInt32 >>> ((8 : Int32) &&& 31).toUInt32).toInt32).toInt8.toInt32))), (.int (0 : Int32)), (.int (0 : Int32)), (.int (0 : Int32)), (.int (0 : Int32))] rfl ⟨by decide, by decide⟩ rfl (Nat.le_of_ble_eq_true rfl) N6 g_b5 at_74 (fun T7 h7 X7 e7 W7 V7 N7 => ?_)
  refine g_aload X7 hx hby at_75 rfl rfl ?_
  refine g_iconst X7 hx hby (2 : Int32) at_77 rfl ?_
  refine g_iload X7 hx hby at_78 rfl ?_
  refine g_bastore X7 hx hby hZ e7 V7 2 [(.int (nar .byte (p5.toInt8.toInt32))), (.int (nar .byte (((p5.toUInt32 >>> ((8 : Int32) &&& 31).toUInt32).toInt32).toInt8.toInt32))), (.int (nar .byte (((p5.toUInt32 >>> ((8 : Int32) &&& 31).toUInt32).toInt32).toInt8.toInt32))), (.int (0 : Int32)), (.int (0 : Int32)), (.int (0 : Int32))] rfl ⟨by decide, by decide⟩ rfl (Nat.le_of_ble_eq_true rfl) N7 g_b5 at_80 (fun T8 h8 X8 e8 W8 V8 N8 => ?_)
  refine g_aload X8 hx hby at_81 rfl rfl ?_
  refine g_iconst X8 hx hby (3 : Int32) at_83 rfl ?_
  refine g_iload X8 hx hby at_84 rfl ?_
  refine g_bastore X8 hx hby hZ e8 V8 3 [(.int (nar .byte (p5.toInt8.toInt32))), (.int (nar .byte (((p5.toUInt32 >>> ((8 : Int32) &&& 31).toUInt32).toInt32).toInt8.toInt32))), (.int (nar .byte (((p5.toUInt32 >>> ((8 : Int32) &&& 31).toUInt32).toInt32).toInt8.toInt32))), (.int (nar .byte (((p5.toUInt32 >>> ((8 : Int32) &&& 31).toUInt32).toInt32).toInt8.toInt32))), (.int (0 : Int32)), (.int (0 : Int32))] rfl ⟨by decide, by decide⟩ rfl (Nat.le_of_ble_eq_true rfl) N8 g_b5 at_86 (fun T9 h9 X9 e9 W9 V9 N9 => ?_)
  refine g_aload X9 hx hby at_87 rfl rfl ?_
  refine g_iconst X9 hx hby (4 : Int32) at_89 rfl ?_
  refine g_at 90 rfl rfl rfl ?_
  refine g_iload X9 hx hby at_90 rfl ?_
  refine g_bastore X9 hx hby hZ e9 V9 4 [(.int (nar .byte (p5.toInt8.toInt32))), (.int (nar .byte (((p5.toUInt32 >>> ((8 : Int32) &&& 31).toUInt32).toInt32).toInt8.toInt32))), (.int (nar .byte (((p5.toUInt32 >>> ((8 : Int32) &&& 31).toUInt32).toInt32).toInt8.toInt32))), (.int (nar .byte (((p5.toUInt32 >>> ((8 : Int32) &&& 31).toUInt32).toInt32).toInt8.toInt32))), (.int (nar .byte (((p5.toUInt32 >>> ((8 : Int32) &&& 31).toUInt32).toInt32).toInt8.toInt32))), (.int (0 : Int32))] rfl ⟨by decide, by decide⟩ rfl (Nat.le_of_ble_eq_true rfl) N9 g_b5 at_92 (fun T10 h10 X10 e10 W10 V10 N10 => ?_)
  refine g_aload X10 hx hby at_93 rfl rfl ?_
  refine g_iconst X10 hx hby (5 : Int32) at_95 rfl ?_
  refine g_iload X10 hx hby at_96 rfl ?_
  refine g_bastore X10 hx hby hZ e10 V10 5 [(.int (nar .byte (p5.toInt8.toInt32))), (.int (nar .byte (((p5.toUInt32 >>> ((8 : Int32) &&& 31).toUInt32).toInt32).toInt8.toInt32))), (.int (nar .byte (((p5.toUInt32 >>> ((8 : Int32) &&& 31).toUInt32).toInt32).toInt8.toInt32))), (.int (nar .byte (((p5.toUInt32 >>> ((8 : Int32) &&& 31).toUInt32).toInt32).toInt8.toInt32))), (.int (nar .byte (((p5.toUInt32 >>> ((8 : Int32) &&& 31).toUInt32).toInt32).toInt8.toInt32))), (.int (nar .byte (((p5.toUInt32 >>> ((8 : Int32) &&& 31).toUInt32).toInt32).toInt8.toInt32)))] rfl ⟨by decide, by decide⟩ rfl (Nat.le_of_ble_eq_true rfl) N10 g_b5 at_98 (fun T11 h11 X11 e11 W11 V11 N11 => ?_)
  have c_m0 : m0 = (0 : Int32) ∨ m0 = (1 : Int32) ∨ m0 = (2 : Int32) := by rw [e_m0]; exact own_mod3 _
  have c_m1 : m1 = (0 : Int32) ∨ m1 = (1 : Int32) ∨ m1 = (2 : Int32) := by rw [e_m1]; exact own_mod3 _
  have c_fd : fd = (0 : Int32) ∨ fd = (1 : Int32) := by rw [e_fd]; exact own_bit _
  clear e_m0 e_m1 e_fd
  rcases c_m0 with rfl | rfl | rfl <;> rcases c_m1 with rfl | rfl | rfl
  · -- lengths 0, 0
    refine g_iload X11 hx hby at_99 rfl ?_
    refine g_iconst X11 hx hby (1 : Int32) at_101 rfl ?_
    refine g_icY X11 hx hby 111 at_102 (tlt (by decide : (0 : Int32) < (1 : Int32))).1 (by decide) (by decide) ?_
    refine g_iload X11 hx hby at_111 rfl ?_
    refine g_iconst X11 hx hby (2 : Int32) at_113 rfl ?_
    refine g_icY X11 hx hby 123 at_114 (feq (by decide : ¬ ((0 : Int32) = (2 : Int32)))).2 (by decide) (by decide) ?_
    refine g_aload X11 hx hby at_123 rfl rfl ?_
    refine g_iconst X11 hx hby (1 : Int32) at_125 rfl ?_
    refine g_iload X11 hx hby at_126 rfl ?_
    refine g_iadd X11 hx hby at_128 ?_
    refine g_topI (1 : Int32) (by decide) ?_
    refine g_bipush X11 hx hby (44 : Int32) at_129 rfl ?_
    refine g_bastore X11 hx hby hZ e11 V11 1 [(.int (nar .byte (p5.toInt8.toInt32))), (.int (44 : Int32)), (.int (nar .byte (((p5.toUInt32 >>> ((8 : Int32) &&& 31).toUInt32).toInt32).toInt8.toInt32))), (.int (nar .byte (((p5.toUInt32 >>> ((8 : Int32) &&& 31).toUInt32).toInt32).toInt8.toInt32))), (.int (nar .byte (((p5.toUInt32 >>> ((8 : Int32) &&& 31).toUInt32).toInt32).toInt8.toInt32))), (.int (nar .byte (((p5.toUInt32 >>> ((8 : Int32) &&& 31).toUInt32).toInt32).toInt8.toInt32)))] rfl ⟨by decide, by decide⟩ rfl (Nat.le_of_ble_eq_true rfl) N11 g_b5 at_131 (fun T12 h12 X12 e12 W12 V12 N12 => ?_)
    refine g_iload X12 hx hby at_132 rfl ?_
    refine g_iconst X12 hx hby (1 : Int32) at_134 rfl ?_
    refine g_icY X12 hx hby 147 at_135 (tlt (by decide : (0 : Int32) < (1 : Int32))).1 (by decide) (by decide) ?_
    refine g_iload X12 hx hby at_147 rfl ?_
    refine g_iconst X12 hx hby (2 : Int32) at_149 rfl ?_
    refine g_icY X12 hx hby 162 at_150 (feq (by decide : ¬ ((0 : Int32) = (2 : Int32)))).2 (by decide) (by decide) ?_
    refine g_iconst X12 hx hby (2 : Int32) at_162 rfl ?_
    refine g_iload X12 hx hby at_163 rfl ?_
    refine g_iadd X12 hx hby at_165 ?_
    refine g_topI (2 : Int32) (by decide) ?_
    refine g_iload X12 hx hby at_166 rfl ?_
    refine g_iadd X12 hx hby at_168 ?_
    refine g_topI (2 : Int32) (by decide) ?_
    refine g_istore X12 hx hby at_169 (l' := #[.val (.int p0), .val (.int p1), .val (.int p2), .val (.int p3), .val (.int p4), .val (.int p5), .val (.int (0 : Int32)), .val (.int (0 : Int32)), .val (.int fd), .val (.int (own_draw p1)), .val (.int (own_draw p2)), .val (.int (own_draw p3)), .val (.int (own_draw p4)), .val (.int (((p5.toUInt32 >>> ((8 : Int32) &&& 31).toUInt32).toInt32).toInt8.toInt32)), .val (.ref b5), .val (.int (2 : Int32)), .unset, .unset]) rfl ?_
    refine g_new X12 hx hby hZ hown w5_ w6_ w7_ e12 (by decide) (by decide) at_171 (fun T13 h13 b13 g13 X13 e13 E13 A13 D13 => ?_)
    have F_bytes_b13 : Fld Z h13 b13 "com/example/tidegate/tidegate/venue/LineFields" "bytes" "[B" .null := D13 (Or.inl w15_) (ty := (.array .byte)) (by decide)
    have F_width_b13 : Fld Z h13 b13 "com/example/tidegate/tidegate/venue/LineFields" "width" "I" (.int (0 : Int32)) := D13 (Or.inl w17_) (ty := .int) (by decide)
    have F_starts_b13 : Fld Z h13 b13 "com/example/tidegate/tidegate/venue/LineFields" "starts" "[I" .null := D13 (Or.inl w20_) (ty := (.array .int)) (by decide)
    have F_ends_b13 : Fld Z h13 b13 "com/example/tidegate/tidegate/venue/LineFields" "ends" "[I" .null := D13 (Or.inl w22_) (ty := (.array .int)) (by decide)
    refine g_dup X13 hx hby at_174 rfl ?_
    have g_b13 : n0 ≤ b13 := Nat.le_trans (Nat.le_trans Z0 (Nat.le_trans (Nat.le_trans (Nat.le_trans (Nat.le_trans (Nat.le_trans (Nat.le_trans (Nat.le_trans E5.1 (Keep.of_wr W6).1) (Keep.of_wr W7).1) (Keep.of_wr W8).1) (Keep.of_wr W9).1) (Keep.of_wr W10).1) (Keep.of_wr W11).1) (Keep.of_wr W12).1)) (Nat.le_of_eq g13)
    have z15 := (Nat.le_trans Z0 (Nat.le_trans (Nat.le_trans (Nat.le_trans (Nat.le_trans (Nat.le_trans (Nat.le_trans (Nat.le_trans (Nat.le_trans E5.1 (Keep.of_wr W6).1) (Keep.of_wr W7).1) (Keep.of_wr W8).1) (Keep.of_wr W9).1) (Keep.of_wr W10).1) (Keep.of_wr W11).1) (Keep.of_wr W12).1) E13.1))
    refine g_special X13 hx hby hZ hown (rm_ini l Z a0 hw [] b13 h13 n0 z15 A13 F_bytes_b13 F_width_b13 F_starts_b13 F_ends_b13 g_b13) rfl rfl w8_ w9_ w7_ w10_ (by decide) e13 (by rw [hml]; rfl) [] (lenOf own_pd2 rfl) rfl rfl (Nat.le_of_ble_eq_true rfl) (Nat.le_of_ble_eq_true rfl) (Nat.le_of_ble_eq_true rfl) (Nat.le_of_ble_eq_true rfl) at_175 (fun v14 T14 L14 X14 hQ14 => ?_)
    obtain ⟨rfl, N14q, K14, bb, as, ae, kS, kE, los, loe, LF1⟩ := hQ14
    have N14 := Fr.app N12 N14q
    refine g_astore X14 hx hby at_178 rfl (l' := #[.val (.int p0), .val (.int p1), .val (.int p2), .val (.int p3), .val (.int p4), .val (.int p5), .val (.int (0 : Int32)), .val (.int (0 : Int32)), .val (.int fd), .val (.int (own_draw p1)), .val (.int (own_draw p2)), .val (.int (own_draw p3)), .val (.int (own_draw p4)), .val (.int (((p5.toUInt32 >>> ((8 : Int32) &&& 31).toUInt32).toInt32).toInt8.toInt32)), .val (.ref b5), .val (.int (2 : Int32)), .val (.ref b13), .unset]) rfl ?_
    refine g_aload X14 hx hby at_180 rfl rfl ?_
    refine g_aload X14 hx hby at_182 rfl rfl ?_
    refine g_iconst X14 hx hby (1 : Int32) at_184 rfl ?_
    refine g_iload X14 hx hby at_185 rfl ?_
    have g_as : n0 ≤ as := Nat.le_trans z15 los
    have g_ae : n0 ≤ ae := Nat.le_trans z15 loe
    have ne17 : b5 ≠ b13 := (Nat.ne_of_lt (Nat.lt_of_lt_of_le V5.lt (Nat.le_trans (Nat.le_trans (Nat.le_trans (Nat.le_trans (Nat.le_trans (Nat.le_trans (Nat.le_trans (Keep.of_wr W6).1 (Keep.of_wr W7).1) (Keep.of_wr W8).1) (Keep.of_wr W9).1) (Keep.of_wr W10).1) (Keep.of_wr W11).1) (Keep.of_wr W12).1) (Nat.le_of_eq g13))))
    have f18 := ((V12.ext E13).keep K14 (ninS ne17 nin0))
    have ne19 : b5 ≠ as := (Nat.ne_of_lt (Nat.lt_of_lt_of_le V5.lt (Nat.le_trans (Nat.le_trans (Nat.le_trans (Nat.le_trans (Nat.le_trans (Nat.le_trans (Nat.le_trans (Nat.le_trans (Keep.of_wr W6).1 (Keep.of_wr W7).1) (Keep.of_wr W8).1) (Keep.of_wr W9).1) (Keep.of_wr W10).1) (Keep.of_wr W11).1) (Keep.of_wr W12).1) E13.1) los)))
    have ne20 : b5 ≠ ae := (Nat.ne_of_lt (Nat.lt_of_lt_of_le V5.lt (Nat.le_trans (Nat.le_trans (Nat.le_trans (Nat.le_trans (Nat.le_trans (Nat.le_trans (Nat.le_trans (Nat.le_trans (Keep.of_wr W6).1 (Keep.of_wr W7).1) (Keep.of_wr W8).1) (Keep.of_wr W9).1) (Keep.of_wr W10).1) (Keep.of_wr W11).1) (Keep.of_wr W12).1) E13.1) loe)))
    have z21 := (Nat.le_trans z15 K14.1)
    have f22 := (A13.keep K14)
    refine g_virtual X14 hx hby hZ hown (rm_split00 l Z a0 hw [] b13 bb as ae kS kE b5 k5 (nar .byte (p5.toInt8.toInt32)) (nar .byte (((p5.toUInt32 >>> ((8 : Int32) &&& 31).toUInt32).toInt32).toInt8.toInt32)) (nar .byte (((p5.toUInt32 >>> ((8 : Int32) &&& 31).toUInt32).toInt32).toInt8.toInt32)) (nar .byte (((p5.toUInt32 >>> ((8 : Int32) &&& 31).toUInt32).toInt32).toInt8.toInt32)) (nar .byte (((p5.toUInt32 >>> ((8 : Int32) &&& 31).toUInt32).toInt32).toInt8.toInt32)) T14.heap n0 z21 LF1 g_b13 g_as g_ae f18 ne17 ne19 ne20) w23_ w24_ (notFace_of_selects (args := #[]) (mvT hZ w26_)) w26_ w25_ w7_ w27_ (by decide) rfl f22 (by rw [hml]; rfl) [(.ref b5), (.int (1 : Int32)), (.int (2 : Int32))] (lenOf own_pd3 rfl) rfl rfl (Nat.le_of_ble_eq_true rfl) (Nat.le_of_ble_eq_true rfl) (Nat.le_of_ble_eq_true rfl) (Nat.le_of_ble_eq_true rfl) at_187 (fun v16 T16 L16 X16 hQ16 => ?_)
    obtain ⟨rfl, N16q, K16, LF2⟩ := hQ16
    have N16 := Fr.app N14 N16q
    refine g_at 190 rfl rfl rfl ?_
    refine g_iload X16 hx hby at_190 rfl ?_
    rcases c_fd with rfl | rfl
    · -- field 0
      refine g_ifN X16 hx hby at_192 (teq (by decide : (0 : Int32) = (0 : Int32))).2 ?_
      refine g_iload X16 hx hby at_195 rfl ?_
      refine g_iload X16 hx hby at_197 rfl ?_
      have z24 := (Nat.le_trans z21 K16.1)
      refine g_static X16 hx hby hZ hown (rm_expd l Z a0 hw [] (0 : Int32) (own_draw p1) T16.heap n0 z24 ) w32_ w33_ w2_ w34_ (by decide) rfl (by rw [hml]; rfl) [(.int (0 : Int32)), (.int (own_draw p1))] (lenOf own_pd4 rfl) rfl rfl (Nat.le_of_ble_eq_true rfl) (Nat.le_of_ble_eq_true rfl) (Nat.le_of_ble_eq_true rfl) (Nat.le_of_ble_eq_true rfl) at_199 (fun v23 T23 L23 X23 hQ23 => ?_)
      obtain ⟨rfl, N23q, eh23⟩ := hQ23
      have N23 := Fr.app N16 N23q
      refine g_goto X23 hx hby 212 at_202 (by decide) (by decide) ?_
      refine g_istore X23 hx hby at_212 (l' := #[.val (.int p0), .val (.int p1), .val (.int p2), .val (.int p3), .val (.int p4), .val (.int p5), .val (.int (0 : Int32)), .val (.int (0 : Int32)), .val (.int (0 : Int32)), .val (.int (own_draw p1)), .val (.int (own_draw p2)), .val (.int (own_draw p3)), .val (.int (own_draw p4)), .val (.int (((p5.toUInt32 >>> ((8 : Int32) &&& 31).toUInt32).toInt32).toInt8.toInt32)), .val (.ref b5), .val (.int (2 : Int32)), .val (.ref b13), .val (.int (own_expct (0 : Int32) (own_draw p1)))]) rfl ?_
      refine g_aload X23 hx hby at_214 rfl rfl ?_
      refine g_iload X23 hx hby at_216 rfl ?_
      have f26 := (f18.keep K16 (ninS ne17 (ninS ne19 (ninS ne20 nin0))))
      have f27 := (f22.keep K16)
      refine g_virtual X23 hx hby hZ hown (rm_dig0 l Z a0 hw [] b13 b5 as ae kS kE (1 : Int32) (2 : Int32) (1 : Int32) (2 : Int32) k5 (nar .byte (p5.toInt8.toInt32)) (44 : Int32) (nar .byte (((p5.toUInt32 >>> ((8 : Int32) &&& 31).toUInt32).toInt32).toInt8.toInt32)) (nar .byte (((p5.toUInt32 >>> ((8 : Int32) &&& 31).toUInt32).toInt32).toInt8.toInt32)) (nar .byte (((p5.toUInt32 >>> ((8 : Int32) &&& 31).toUInt32).toInt32).toInt8.toInt32)) (nar .byte (((p5.toUInt32 >>> ((8 : Int32) &&& 31).toUInt32).toInt32).toInt8.toInt32)) (0 : Int32) (0 : Int32) T16.heap n0 z24 LF2 f26 (by decide) (fun q => absurd q (by decide))) w35_ w36_ (notFace_of_selects (args := #[]) (mvT hZ w38_)) w38_ w37_ w7_ w39_ (by decide) eh23 f27 (by rw [hml]; rfl) [(.int (0 : Int32))] (lenOf own_pd5 rfl) rfl rfl (Nat.le_of_ble_eq_true rfl) (Nat.le_of_ble_eq_true rfl) (Nat.le_of_ble_eq_true rfl) (Nat.le_of_ble_eq_true rfl) at_218 (fun v25 T25 L25 X25 hQ25 => ?_)
      obtain ⟨rfl, N25q, eh25⟩ := hQ25
      have N25 := Fr.app N23 N25q
      refine g_iload X25 hx hby at_221 rfl ?_
      refine g_icN X25 hx hby at_223 (teq ((own_fin0 (by decide) (by decide)) : (own_dig (0 : Int32) (0 : Int32)) = (own_expct (0 : Int32) (own_draw p1)))).2 ?_
      refine g_iconst X25 hx hby (1 : Int32) at_226 rfl ?_
      refine g_goto X25 hx hby 231 at_227 (by decide) (by decide) ?_
      refine g_nret X25 hx hby (t := .boolean) (by simp) Bd.returns Bd.notSynchronized at_231 eh25 (by decide) (by decide) ?_
      show (Q_law Z p0 p1 p2 p3 p4 p5 h0 n0) (some (.int (1 : Int32))) _ _
      exact ⟨rfl, N25⟩
    · -- field 1
      refine g_ifY X16 hx hby 205 at_192 (feq (by decide : ¬ ((1 : Int32) = (0 : Int32)))).2 (by decide) (by decide) ?_
      refine g_iload X16 hx hby at_205 rfl ?_
      refine g_iload X16 hx hby at_207 rfl ?_
      have z29 := (Nat.le_trans z21 K16.1)
      refine g_static X16 hx hby hZ hown (rm_expd l Z a0 hw [] (0 : Int32) (own_draw p3) T16.heap n0 z29 ) w32_ w33_ w2_ w34_ (by decide) rfl (by rw [hml]; rfl) [(.int (0 : Int32)), (.int (own_draw p3))] (lenOf own_pd4 rfl) rfl rfl (Nat.le_of_ble_eq_true rfl) (Nat.le_of_ble_eq_true rfl) (Nat.le_of_ble_eq_true rfl) (Nat.le_of_ble_eq_true rfl) at_209 (fun v28 T28 L28 X28 hQ28 => ?_)
      obtain ⟨rfl, N28q, eh28⟩ := hQ28
      have N28 := Fr.app N16 N28q
      refine g_istore X28 hx hby at_212 (l' := #[.val (.int p0), .val (.int p1), .val (.int p2), .val (.int p3), .val (.int p4), .val (.int p5), .val (.int (0 : Int32)), .val (.int (0 : Int32)), .val (.int (1 : Int32)), .val (.int (own_draw p1)), .val (.int (own_draw p2)), .val (.int (own_draw p3)), .val (.int (own_draw p4)), .val (.int (((p5.toUInt32 >>> ((8 : Int32) &&& 31).toUInt32).toInt32).toInt8.toInt32)), .val (.ref b5), .val (.int (2 : Int32)), .val (.ref b13), .val (.int (own_expct (0 : Int32) (own_draw p3)))]) rfl ?_
      refine g_aload X28 hx hby at_214 rfl rfl ?_
      refine g_iload X28 hx hby at_216 rfl ?_
      have f31 := (f18.keep K16 (ninS ne17 (ninS ne19 (ninS ne20 nin0))))
      have f32 := (f22.keep K16)
      refine g_virtual X28 hx hby hZ hown (rm_dig1 l Z a0 hw [] b13 b5 as ae kS kE (1 : Int32) (2 : Int32) (1 : Int32) (2 : Int32) k5 (nar .byte (p5.toInt8.toInt32)) (44 : Int32) (nar .byte (((p5.toUInt32 >>> ((8 : Int32) &&& 31).toUInt32).toInt32).toInt8.toInt32)) (nar .byte (((p5.toUInt32 >>> ((8 : Int32) &&& 31).toUInt32).toInt32).toInt8.toInt32)) (nar .byte (((p5.toUInt32 >>> ((8 : Int32) &&& 31).toUInt32).toInt32).toInt8.toInt32)) (nar .byte (((p5.toUInt32 >>> ((8 : Int32) &&& 31).toUInt32).toInt32).toInt8.toInt32)) (0 : Int32) (0 : Int32) T16.heap n0 z29 LF2 f31 (by decide) (fun q => absurd q (by decide))) w35_ w36_ (notFace_of_selects (args := #[]) (mvT hZ w38_)) w38_ w37_ w7_ w39_ (by decide) eh28 f32 (by rw [hml]; rfl) [(.int (1 : Int32))] (lenOf own_pd5 rfl) rfl rfl (Nat.le_of_ble_eq_true rfl) (Nat.le_of_ble_eq_true rfl) (Nat.le_of_ble_eq_true rfl) (Nat.le_of_ble_eq_true rfl) at_218 (fun v30 T30 L30 X30 hQ30 => ?_)
      obtain ⟨rfl, N30q, eh30⟩ := hQ30
      have N30 := Fr.app N28 N30q
      refine g_iload X30 hx hby at_221 rfl ?_
      refine g_icN X30 hx hby at_223 (teq ((own_fin0 (by decide) (by decide)) : (own_dig (0 : Int32) (0 : Int32)) = (own_expct (0 : Int32) (own_draw p3)))).2 ?_
      refine g_iconst X30 hx hby (1 : Int32) at_226 rfl ?_
      refine g_goto X30 hx hby 231 at_227 (by decide) (by decide) ?_
      refine g_nret X30 hx hby (t := .boolean) (by simp) Bd.returns Bd.notSynchronized at_231 eh30 (by decide) (by decide) ?_
      show (Q_law Z p0 p1 p2 p3 p4 p5 h0 n0) (some (.int (1 : Int32))) _ _
      exact ⟨rfl, N30⟩
  · -- lengths 0, 1
    refine g_iload X11 hx hby at_99 rfl ?_
    refine g_iconst X11 hx hby (1 : Int32) at_101 rfl ?_
    refine g_icY X11 hx hby 111 at_102 (tlt (by decide : (0 : Int32) < (1 : Int32))).1 (by decide) (by decide) ?_
    refine g_iload X11 hx hby at_111 rfl ?_
    refine g_iconst X11 hx hby (2 : Int32) at_113 rfl ?_
    refine g_icY X11 hx hby 123 at_114 (feq (by decide : ¬ ((0 : Int32) = (2 : Int32)))).2 (by decide) (by decide) ?_
    refine g_aload X11 hx hby at_123 rfl rfl ?_
    refine g_iconst X11 hx hby (1 : Int32) at_125 rfl ?_
    refine g_iload X11 hx hby at_126 rfl ?_
    refine g_iadd X11 hx hby at_128 ?_
    refine g_topI (1 : Int32) (by decide) ?_
    refine g_bipush X11 hx hby (44 : Int32) at_129 rfl ?_
    refine g_bastore X11 hx hby hZ e11 V11 1 [(.int (nar .byte (p5.toInt8.toInt32))), (.int (44 : Int32)), (.int (nar .byte (((p5.toUInt32 >>> ((8 : Int32) &&& 31).toUInt32).toInt32).toInt8.toInt32))), (.int (nar .byte (((p5.toUInt32 >>> ((8 : Int32) &&& 31).toUInt32).toInt32).toInt8.toInt32))), (.int (nar .byte (((p5.toUInt32 >>> ((8 : Int32) &&& 31).toUInt32).toInt32).toInt8.toInt32))), (.int (nar .byte (((p5.toUInt32 >>> ((8 : Int32) &&& 31).toUInt32).toInt32).toInt8.toInt32)))] rfl ⟨by decide, by decide⟩ rfl (Nat.le_of_ble_eq_true rfl) N11 g_b5 at_131 (fun T33 h33 X33 e33 W33 V33 N33 => ?_)
    refine g_iload X33 hx hby at_132 rfl ?_
    refine g_iconst X33 hx hby (1 : Int32) at_134 rfl ?_
    refine g_icN X33 hx hby at_135 (flt (by decide : ¬ ((1 : Int32) < (1 : Int32)))).1 ?_
    refine g_aload X33 hx hby at_138 rfl rfl ?_
    refine g_iconst X33 hx hby (2 : Int32) at_140 rfl ?_
    refine g_iload X33 hx hby at_141 rfl ?_
    refine g_iadd X33 hx hby at_143 ?_
    refine g_topI (2 : Int32) (by decide) ?_
    refine g_iload X33 hx hby at_144 rfl ?_
    refine g_bastore X33 hx hby hZ e33 V33 2 [(.int (nar .byte (p5.toInt8.toInt32))), (.int (44 : Int32)), (.int (nar .byte (own_draw p3))), (.int (nar .byte (((p5.toUInt32 >>> ((8 : Int32) &&& 31).toUInt32).toInt32).toInt8.toInt32))), (.int (nar .byte (((p5.toUInt32 >>> ((8 : Int32) &&& 31).toUInt32).toInt32).toInt8.toInt32))), (.int (nar .byte (((p5.toUInt32 >>> ((8 : Int32) &&& 31).toUInt32).toInt32).toInt8.toInt32)))] rfl ⟨by decide, by decide⟩ rfl (Nat.le_of_ble_eq_true rfl) N33 g_b5 at_146 (fun T34 h34 X34 e34 W34 V34 N34 => ?_)
    refine g_iload X34 hx hby at_147 rfl ?_
    refine g_iconst X34 hx hby (2 : Int32) at_149 rfl ?_
    refine g_icY X34 hx hby 162 at_150 (feq (by decide : ¬ ((1 : Int32) = (2 : Int32)))).2 (by decide) (by decide) ?_
    refine g_iconst X34 hx hby (2 : Int32) at_162 rfl ?_
    refine g_iload X34 hx hby at_163 rfl ?_
    refine g_iadd X34 hx hby at_165 ?_
    refine g_topI (2 : Int32) (by decide) ?_
    refine g_iload X34 hx hby at_166 rfl ?_
    refine g_iadd X34 hx hby at_168 ?_
    refine g_topI (3 : Int32) (by decide) ?_
    refine g_istore X34 hx hby at_169 (l' := #[.val (.int p0), .val (.int p1), .val (.int p2), .val (.int p3), .val (.int p4), .val (.int p5), .val (.int (0 : Int32)), .val (.int (1 : Int32)), .val (.int fd), .val (.int (own_draw p1)), .val (.int (own_draw p2)), .val (.int (own_draw p3)), .val (.int (own_draw p4)), .val (.int (((p5.toUInt32 >>> ((8 : Int32) &&& 31).toUInt32).toInt32).toInt8.toInt32)), .val (.ref b5), .val (.int (3 : Int32)), .unset, .unset]) rfl ?_
    refine g_new X34 hx hby hZ hown w5_ w6_ w7_ e34 (by decide) (by decide) at_171 (fun T35 h35 b35 g35 X35 e35 E35 A35 D35 => ?_)
    have F_bytes_b35 : Fld Z h35 b35 "com/example/tidegate/tidegate/venue/LineFields" "bytes" "[B" .null := D35 (Or.inl w15_) (ty := (.array .byte)) (by decide)
    have F_width_b35 : Fld Z h35 b35 "com/example/tidegate/tidegate/venue/LineFields" "width" "I" (.int (0 : Int32)) := D35 (Or.inl w17_) (ty := .int) (by decide)
    have F_starts_b35 : Fld Z h35 b35 "com/example/tidegate/tidegate/venue/LineFields" "starts" "[I" .null := D35 (Or.inl w20_) (ty := (.array .int)) (by decide)
    have F_ends_b35 : Fld Z h35 b35 "com/example/tidegate/tidegate/venue/LineFields" "ends" "[I" .null := D35 (Or.inl w22_) (ty := (.array .int)) (by decide)
    refine g_dup X35 hx hby at_174 rfl ?_
    have g_b35 : n0 ≤ b35 := Nat.le_trans (Nat.le_trans Z0 (Nat.le_trans (Nat.le_trans (Nat.le_trans (Nat.le_trans (Nat.le_trans (Nat.le_trans (Nat.le_trans (Nat.le_trans E5.1 (Keep.of_wr W6).1) (Keep.of_wr W7).1) (Keep.of_wr W8).1) (Keep.of_wr W9).1) (Keep.of_wr W10).1) (Keep.of_wr W11).1) (Keep.of_wr W33).1) (Keep.of_wr W34).1)) (Nat.le_of_eq g35)
    have z37 := (Nat.le_trans Z0 (Nat.le_trans (Nat.le_trans (Nat.le_trans (Nat.le_trans (Nat.le_trans (Nat.le_trans (Nat.le_trans (Nat.le_trans (Nat.le_trans E5.1 (Keep.of_wr W6).1) (Keep.of_wr W7).1) (Keep.of_wr W8).1) (Keep.of_wr W9).1) (Keep.of_wr W10).1) (Keep.of_wr W11).1) (Keep.of_wr W33).1) (Keep.of_wr W34).1) E35.1))
    refine g_special X35 hx hby hZ hown (rm_ini l Z a0 hw [] b35 h35 n0 z37 A35 F_bytes_b35 F_width_b35 F_starts_b35 F_ends_b35 g_b35) rfl rfl w8_ w9_ w7_ w10_ (by decide) e35 (by rw [hml]; rfl) [] (lenOf own_pd2 rfl) rfl rfl (Nat.le_of_ble_eq_true rfl) (Nat.le_of_ble_eq_true rfl) (Nat.le_of_ble_eq_true rfl) (Nat.le_of_ble_eq_true rfl) at_175 (fun v36 T36 L36 X36 hQ36 => ?_)
    obtain ⟨rfl, N36q, K36, bb, as, ae, kS, kE, los, loe, LF1⟩ := hQ36
    have N36 := Fr.app N34 N36q
    refine g_astore X36 hx hby at_178 rfl (l' := #[.val (.int p0), .val (.int p1), .val (.int p2), .val (.int p3), .val (.int p4), .val (.int p5), .val (.int (0 : Int32)), .val (.int (1 : Int32)), .val (.int fd), .val (.int (own_draw p1)), .val (.int (own_draw p2)), .val (.int (own_draw p3)), .val (.int (own_draw p4)), .val (.int (((p5.toUInt32 >>> ((8 : Int32) &&& 31).toUInt32).toInt32).toInt8.toInt32)), .val (.ref b5), .val (.int (3 : Int32)), .val (.ref b35), .unset]) rfl ?_
    refine g_aload X36 hx hby at_180 rfl rfl ?_
    refine g_aload X36 hx hby at_182 rfl rfl ?_
    refine g_iconst X36 hx hby (1 : Int32) at_184 rfl ?_
    refine g_iload X36 hx hby at_185 rfl ?_
    have g_as : n0 ≤ as := Nat.le_trans z37 los
    have g_ae : n0 ≤ ae := Nat.le_trans z37 loe
    have ne39 : b5 ≠ b35 := (Nat.ne_of_lt (Nat.lt_of_lt_of_le V5.lt (Nat.le_trans (Nat.le_trans (Nat.le_trans (Nat.le_trans (Nat.le_trans (Nat.le_trans (Nat.le_trans (Nat.le_trans (Keep.of_wr W6).1 (Keep.of_wr W7).1) (Keep.of_wr W8).1) (Keep.of_wr W9).1) (Keep.of_wr W10).1) (Keep.of_wr W11).1) (Keep.of_wr W33).1) (Keep.of_wr W34).1) (Nat.le_of_eq g35))))
    have f40 := ((V34.ext E35).keep K36 (ninS ne39 nin0))
    have ne41 : b5 ≠ as := (Nat.ne_of_lt (Nat.lt_of_lt_of_le V5.lt (Nat.le_trans (Nat.le_trans (Nat.le_trans (Nat.le_trans (Nat.le_trans (Nat.le_trans (Nat.le_trans (Nat.le_trans (Nat.le_trans (Keep.of_wr W6).1 (Keep.of_wr W7).1) (Keep.of_wr W8).1) (Keep.of_wr W9).1) (Keep.of_wr W10).1) (Keep.of_wr W11).1) (Keep.of_wr W33).1) (Keep.of_wr W34).1) E35.1) los)))
    have ne42 : b5 ≠ ae := (Nat.ne_of_lt (Nat.lt_of_lt_of_le V5.lt (Nat.le_trans (Nat.le_trans (Nat.le_trans (Nat.le_trans (Nat.le_trans (Nat.le_trans (Nat.le_trans (Nat.le_trans (Nat.le_trans (Keep.of_wr W6).1 (Keep.of_wr W7).1) (Keep.of_wr W8).1) (Keep.of_wr W9).1) (Keep.of_wr W10).1) (Keep.of_wr W11).1) (Keep.of_wr W33).1) (Keep.of_wr W34).1) E35.1) loe)))
    have z43 := (Nat.le_trans z37 K36.1)
    have f44 := (A35.keep K36)
    refine g_virtual X36 hx hby hZ hown (rm_split01 l Z a0 hw [] b35 bb as ae kS kE b5 k5 (nar .byte (p5.toInt8.toInt32)) (nar .byte (own_draw p3)) (nar .byte (((p5.toUInt32 >>> ((8 : Int32) &&& 31).toUInt32).toInt32).toInt8.toInt32)) (nar .byte (((p5.toUInt32 >>> ((8 : Int32) &&& 31).toUInt32).toInt32).toInt8.toInt32)) (nar .byte (((p5.toUInt32 >>> ((8 : Int32) &&& 31).toUInt32).toInt32).toInt8.toInt32)) T36.heap n0 z43 LF1 g_b35 g_as g_ae f40 ne39 ne41 ne42 (own_draw_ne _)) w23_ w24_ (notFace_of_selects (args := #[]) (mvT hZ w26_)) w26_ w25_ w7_ w27_ (by decide) rfl f44 (by rw [hml]; rfl) [(.ref b5), (.int (1 : Int32)), (.int (3 : Int32))] (lenOf own_pd3 rfl) rfl rfl (Nat.le_of_ble_eq_true rfl) (Nat.le_of_ble_eq_true rfl) (Nat.le_of_ble_eq_true rfl) (Nat.le_of_ble_eq_true rfl) at_187 (fun v38 T38 L38 X38 hQ38 => ?_)
    obtain ⟨rfl, N38q, K38, LF2⟩ := hQ38
    have N38 := Fr.app N36 N38q
    refine g_at 190 rfl rfl rfl ?_
    refine g_iload X38 hx hby at_190 rfl ?_
    rcases c_fd with rfl | rfl
    · -- field 0
      refine g_ifN X38 hx hby at_192 (teq (by decide : (0 : Int32) = (0 : Int32))).2 ?_
      refine g_iload X38 hx hby at_195 rfl ?_
      refine g_iload X38 hx hby at_197 rfl ?_
      have z46 := (Nat.le_trans z43 K38.1)
      refine g_static X38 hx hby hZ hown (rm_expd l Z a0 hw [] (0 : Int32) (own_draw p1) T38.heap n0 z46 ) w32_ w33_ w2_ w34_ (by decide) rfl (by rw [hml]; rfl) [(.int (0 : Int32)), (.int (own_draw p1))] (lenOf own_pd4 rfl) rfl rfl (Nat.le_of_ble_eq_true rfl) (Nat.le_of_ble_eq_true rfl) (Nat.le_of_ble_eq_true rfl) (Nat.le_of_ble_eq_true rfl) at_199 (fun v45 T45 L45 X45 hQ45 => ?_)
      obtain ⟨rfl, N45q, eh45⟩ := hQ45
      have N45 := Fr.app N38 N45q
      refine g_goto X45 hx hby 212 at_202 (by decide) (by decide) ?_
      refine g_istore X45 hx hby at_212 (l' := #[.val (.int p0), .val (.int p1), .val (.int p2), .val (.int p3), .val (.int p4), .val (.int p5), .val (.int (0 : Int32)), .val (.int (1 : Int32)), .val (.int (0 : Int32)), .val (.int (own_draw p1)), .val (.int (own_draw p2)), .val (.int (own_draw p3)), .val (.int (own_draw p4)), .val (.int (((p5.toUInt32 >>> ((8 : Int32) &&& 31).toUInt32).toInt32).toInt8.toInt32)), .val (.ref b5), .val (.int (3 : Int32)), .val (.ref b35), .val (.int (own_expct (0 : Int32) (own_draw p1)))]) rfl ?_
      refine g_aload X45 hx hby at_214 rfl rfl ?_
      refine g_iload X45 hx hby at_216 rfl ?_
      have f48 := (f40.keep K38 (ninS ne39 (ninS ne41 (ninS ne42 nin0))))
      have f49 := (f44.keep K38)
      refine g_virtual X45 hx hby hZ hown (rm_dig0 l Z a0 hw [] b35 b5 as ae kS kE (1 : Int32) (2 : Int32) (1 : Int32) (3 : Int32) k5 (nar .byte (p5.toInt8.toInt32)) (44 : Int32) (nar .byte (own_draw p3)) (nar .byte (((p5.toUInt32 >>> ((8 : Int32) &&& 31).toUInt32).toInt32).toInt8.toInt32)) (nar .byte (((p5.toUInt32 >>> ((8 : Int32) &&& 31).toUInt32).toInt32).toInt8.toInt32)) (nar .byte (((p5.toUInt32 >>> ((8 : Int32) &&& 31).toUInt32).toInt32).toInt8.toInt32)) (0 : Int32) (0 : Int32) T38.heap n0 z46 LF2 f48 (by decide) (fun q => absurd q (by decide))) w35_ w36_ (notFace_of_selects (args := #[]) (mvT hZ w38_)) w38_ w37_ w7_ w39_ (by decide) eh45 f49 (by rw [hml]; rfl) [(.int (0 : Int32))] (lenOf own_pd5 rfl) rfl rfl (Nat.le_of_ble_eq_true rfl) (Nat.le_of_ble_eq_true rfl) (Nat.le_of_ble_eq_true rfl) (Nat.le_of_ble_eq_true rfl) at_218 (fun v47 T47 L47 X47 hQ47 => ?_)
      obtain ⟨rfl, N47q, eh47⟩ := hQ47
      have N47 := Fr.app N45 N47q
      refine g_iload X47 hx hby at_221 rfl ?_
      refine g_icN X47 hx hby at_223 (teq ((own_fin0 (by decide) (by decide)) : (own_dig (0 : Int32) (0 : Int32)) = (own_expct (0 : Int32) (own_draw p1)))).2 ?_
      refine g_iconst X47 hx hby (1 : Int32) at_226 rfl ?_
      refine g_goto X47 hx hby 231 at_227 (by decide) (by decide) ?_
      refine g_nret X47 hx hby (t := .boolean) (by simp) Bd.returns Bd.notSynchronized at_231 eh47 (by decide) (by decide) ?_
      show (Q_law Z p0 p1 p2 p3 p4 p5 h0 n0) (some (.int (1 : Int32))) _ _
      exact ⟨rfl, N47⟩
    · -- field 1
      refine g_ifY X38 hx hby 205 at_192 (feq (by decide : ¬ ((1 : Int32) = (0 : Int32)))).2 (by decide) (by decide) ?_
      refine g_iload X38 hx hby at_205 rfl ?_
      refine g_iload X38 hx hby at_207 rfl ?_
      have z51 := (Nat.le_trans z43 K38.1)
      refine g_static X38 hx hby hZ hown (rm_expd l Z a0 hw [] (1 : Int32) (own_draw p3) T38.heap n0 z51 ) w32_ w33_ w2_ w34_ (by decide) rfl (by rw [hml]; rfl) [(.int (1 : Int32)), (.int (own_draw p3))] (lenOf own_pd4 rfl) rfl rfl (Nat.le_of_ble_eq_true rfl) (Nat.le_of_ble_eq_true rfl) (Nat.le_of_ble_eq_true rfl) (Nat.le_of_ble_eq_true rfl) at_209 (fun v50 T50 L50 X50 hQ50 => ?_)
      obtain ⟨rfl, N50q, eh50⟩ := hQ50
      have N50 := Fr.app N38 N50q
      refine g_istore X50 hx hby at_212 (l' := #[.val (.int p0), .val (.int p1), .val (.int p2), .val (.int p3), .val (.int p4), .val (.int p5), .val (.int (0 : Int32)), .val (.int (1 : Int32)), .val (.int (1 : Int32)), .val (.int (own_draw p1)), .val (.int (own_draw p2)), .val (.int (own_draw p3)), .val (.int (own_draw p4)), .val (.int (((p5.toUInt32 >>> ((8 : Int32) &&& 31).toUInt32).toInt32).toInt8.toInt32)), .val (.ref b5), .val (.int (3 : Int32)), .val (.ref b35), .val (.int (own_expct (1 : Int32) (own_draw p3)))]) rfl ?_
      refine g_aload X50 hx hby at_214 rfl rfl ?_
      refine g_iload X50 hx hby at_216 rfl ?_
      have f53 := (f40.keep K38 (ninS ne39 (ninS ne41 (ninS ne42 nin0))))
      have f54 := (f44.keep K38)
      refine g_virtual X50 hx hby hZ hown (rm_dig1 l Z a0 hw [] b35 b5 as ae kS kE (1 : Int32) (2 : Int32) (1 : Int32) (3 : Int32) k5 (nar .byte (p5.toInt8.toInt32)) (44 : Int32) (nar .byte (own_draw p3)) (nar .byte (((p5.toUInt32 >>> ((8 : Int32) &&& 31).toUInt32).toInt32).toInt8.toInt32)) (nar .byte (((p5.toUInt32 >>> ((8 : Int32) &&& 31).toUInt32).toInt32).toInt8.toInt32)) (nar .byte (((p5.toUInt32 >>> ((8 : Int32) &&& 31).toUInt32).toInt32).toInt8.toInt32)) (nar .byte (own_draw p3)) (1 : Int32) T38.heap n0 z51 LF2 f53 (by decide) (fun _ => ⟨⟨by decide, by decide⟩, rfl⟩)) w35_ w36_ (notFace_of_selects (args := #[]) (mvT hZ w38_)) w38_ w37_ w7_ w39_ (by decide) eh50 f54 (by rw [hml]; rfl) [(.int (1 : Int32))] (lenOf own_pd5 rfl) rfl rfl (Nat.le_of_ble_eq_true rfl) (Nat.le_of_ble_eq_true rfl) (Nat.le_of_ble_eq_true rfl) (Nat.le_of_ble_eq_true rfl) at_218 (fun v52 T52 L52 X52 hQ52 => ?_)
      obtain ⟨rfl, N52q, eh52⟩ := hQ52
      have N52 := Fr.app N50 N52q
      refine g_iload X52 hx hby at_221 rfl ?_
      refine g_icN X52 hx hby at_223 (teq ((own_fin1 _) : (own_dig (1 : Int32) (nar .byte (own_draw p3))) = (own_expct (1 : Int32) (own_draw p3)))).2 ?_
      refine g_iconst X52 hx hby (1 : Int32) at_226 rfl ?_
      refine g_goto X52 hx hby 231 at_227 (by decide) (by decide) ?_
      refine g_nret X52 hx hby (t := .boolean) (by simp) Bd.returns Bd.notSynchronized at_231 eh52 (by decide) (by decide) ?_
      show (Q_law Z p0 p1 p2 p3 p4 p5 h0 n0) (some (.int (1 : Int32))) _ _
      exact ⟨rfl, N52⟩
  · -- lengths 0, 2
    refine g_iload X11 hx hby at_99 rfl ?_
    refine g_iconst X11 hx hby (1 : Int32) at_101 rfl ?_
    refine g_icY X11 hx hby 111 at_102 (tlt (by decide : (0 : Int32) < (1 : Int32))).1 (by decide) (by decide) ?_
    refine g_iload X11 hx hby at_111 rfl ?_
    refine g_iconst X11 hx hby (2 : Int32) at_113 rfl ?_
    refine g_icY X11 hx hby 123 at_114 (feq (by decide : ¬ ((0 : Int32) = (2 : Int32)))).2 (by decide) (by decide) ?_
    refine g_aload X11 hx hby at_123 rfl rfl ?_
    refine g_iconst X11 hx hby (1 : Int32) at_125 rfl ?_
    refine g_iload X11 hx hby at_126 rfl ?_
    refine g_iadd X11 hx hby at_128 ?_
    refine g_topI (1 : Int32) (by decide) ?_
    refine g_bipush X11 hx hby (44 : Int32) at_129 rfl ?_
    refine g_bastore X11 hx hby hZ e11 V11 1 [(.int (nar .byte (p5.toInt8.toInt32))), (.int (44 : Int32)), (.int (nar .byte (((p5.toUInt32 >>> ((8 : Int32) &&& 31).toUInt32).toInt32).toInt8.toInt32))), (.int (nar .byte (((p5.toUInt32 >>> ((8 : Int32) &&& 31).toUInt32).toInt32).toInt8.toInt32))), (.int (nar .byte (((p5.toUInt32 >>> ((8 : Int32) &&& 31).toUInt32).toInt32).toInt8.toInt32))), (.int (nar .byte (((p5.toUInt32 >>> ((8 : Int32) &&& 31).toUInt32).toInt32).toInt8.toInt32)))] rfl ⟨by decide, by decide⟩ rfl (Nat.le_of_ble_eq_true rfl) N11 g_b5 at_131 (fun T55 h55 X55 e55 W55 V55 N55 => ?_)
    refine g_iload X55 hx hby at_132 rfl ?_
    refine g_iconst X55 hx hby (1 : Int32) at_134 rfl ?_
    refine g_icN X55 hx hby at_135 (flt (by decide : ¬ ((2 : Int32) < (1 : Int32)))).1 ?_
    refine g_aload X55 hx hby at_138 rfl rfl ?_
    refine g_iconst X55 hx hby (2 : Int32) at_140 rfl ?_
    refine g_iload X55 hx hby at_141 rfl ?_
    refine g_iadd X55 hx hby at_143 ?_
    refine g_topI (2 : Int32) (by decide) ?_
    refine g_iload X55 hx hby at_144 rfl ?_
    refine g_bastore X55 hx hby hZ e55 V55 2 [(.int (nar .byte (p5.toInt8.toInt32))), (.int (44 : Int32)), (.int (nar .byte (own_draw p3))), (.int (nar .byte (((p5.toUInt32 >>> ((8 : Int32) &&& 31).toUInt32).toInt32).toInt8.toInt32))), (.int (nar .byte (((p5.toUInt32 >>> ((8 : Int32) &&& 31).toUInt32).toInt32).toInt8.toInt32))), (.int (nar .byte (((p5.toUInt32 >>> ((8 : Int32) &&& 31).toUInt32).toInt32).toInt8.toInt32)))] rfl ⟨by decide, by decide⟩ rfl (Nat.le_of_ble_eq_true rfl) N55 g_b5 at_146 (fun T56 h56 X56 e56 W56 V56 N56 => ?_)
    refine g_iload X56 hx hby at_147 rfl ?_
    refine g_iconst X56 hx hby (2 : Int32) at_149 rfl ?_
    refine g_icN X56 hx hby at_150 (teq (by decide : (2 : Int32) = (2 : Int32))).2 ?_
    refine g_aload X56 hx hby at_153 rfl rfl ?_
    refine g_iconst X56 hx hby (3 : Int32) at_155 rfl ?_
    refine g_iload X56 hx hby at_156 rfl ?_
    refine g_iadd X56 hx hby at_158 ?_
    refine g_topI (3 : Int32) (by decide) ?_
    refine g_iload X56 hx hby at_159 rfl ?_
    refine g_bastore X56 hx hby hZ e56 V56 3 [(.int (nar .byte (p5.toInt8.toInt32))), (.int (44 : Int32)), (.int (nar .byte (own_draw p3))), (.int (nar .byte (own_draw p4))), (.int (nar .byte (((p5.toUInt32 >>> ((8 : Int32) &&& 31).toUInt32).toInt32).toInt8.toInt32))), (.int (nar .byte (((p5.toUInt32 >>> ((8 : Int32) &&& 31).toUInt32).toInt32).toInt8.toInt32)))] rfl ⟨by decide, by decide⟩ rfl (Nat.le_of_ble_eq_true rfl) N56 g_b5 at_161 (fun T57 h57 X57 e57 W57 V57 N57 => ?_)
    refine g_iconst X57 hx hby (2 : Int32) at_162 rfl ?_
    refine g_at 163 rfl rfl rfl ?_
    refine g_iload X57 hx hby at_163 rfl ?_
    refine g_iadd X57 hx hby at_165 ?_
    refine g_topI (2 : Int32) (by decide) ?_
    refine g_iload X57 hx hby at_166 rfl ?_
    refine g_iadd X57 hx hby at_168 ?_
    refine g_topI (4 : Int32) (by decide) ?_
    refine g_istore X57 hx hby at_169 (l' := #[.val (.int p0), .val (.int p1), .val (.int p2), .val (.int p3), .val (.int p4), .val (.int p5), .val (.int (0 : Int32)), .val (.int (2 : Int32)), .val (.int fd), .val (.int (own_draw p1)), .val (.int (own_draw p2)), .val (.int (own_draw p3)), .val (.int (own_draw p4)), .val (.int (((p5.toUInt32 >>> ((8 : Int32) &&& 31).toUInt32).toInt32).toInt8.toInt32)), .val (.ref b5), .val (.int (4 : Int32)), .unset, .unset]) rfl ?_
    refine g_new X57 hx hby hZ hown w5_ w6_ w7_ e57 (by decide) (by decide) at_171 (fun T58 h58 b58 g58 X58 e58 E58 A58 D58 => ?_)
    have F_bytes_b58 : Fld Z h58 b58 "com/example/tidegate/tidegate/venue/LineFields" "bytes" "[B" .null := D58 (Or.inl w15_) (ty := (.array .byte)) (by decide)
    have F_width_b58 : Fld Z h58 b58 "com/example/tidegate/tidegate/venue/LineFields" "width" "I" (.int (0 : Int32)) := D58 (Or.inl w17_) (ty := .int) (by decide)
    have F_starts_b58 : Fld Z h58 b58 "com/example/tidegate/tidegate/venue/LineFields" "starts" "[I" .null := D58 (Or.inl w20_) (ty := (.array .int)) (by decide)
    have F_ends_b58 : Fld Z h58 b58 "com/example/tidegate/tidegate/venue/LineFields" "ends" "[I" .null := D58 (Or.inl w22_) (ty := (.array .int)) (by decide)
    refine g_dup X58 hx hby at_174 rfl ?_
    have g_b58 : n0 ≤ b58 := Nat.le_trans (Nat.le_trans Z0 (Nat.le_trans (Nat.le_trans (Nat.le_trans (Nat.le_trans (Nat.le_trans (Nat.le_trans (Nat.le_trans (Nat.le_trans (Nat.le_trans E5.1 (Keep.of_wr W6).1) (Keep.of_wr W7).1) (Keep.of_wr W8).1) (Keep.of_wr W9).1) (Keep.of_wr W10).1) (Keep.of_wr W11).1) (Keep.of_wr W55).1) (Keep.of_wr W56).1) (Keep.of_wr W57).1)) (Nat.le_of_eq g58)
    have z60 := (Nat.le_trans Z0 (Nat.le_trans (Nat.le_trans (Nat.le_trans (Nat.le_trans (Nat.le_trans (Nat.le_trans (Nat.le_trans (Nat.le_trans (Nat.le_trans (Nat.le_trans E5.1 (Keep.of_wr W6).1) (Keep.of_wr W7).1) (Keep.of_wr W8).1) (Keep.of_wr W9).1) (Keep.of_wr W10).1) (Keep.of_wr W11).1) (Keep.of_wr W55).1) (Keep.of_wr W56).1) (Keep.of_wr W57).1) E58.1))
    refine g_special X58 hx hby hZ hown (rm_ini l Z a0 hw [] b58 h58 n0 z60 A58 F_bytes_b58 F_width_b58 F_starts_b58 F_ends_b58 g_b58) rfl rfl w8_ w9_ w7_ w10_ (by decide) e58 (by rw [hml]; rfl) [] (lenOf own_pd2 rfl) rfl rfl (Nat.le_of_ble_eq_true rfl) (Nat.le_of_ble_eq_true rfl) (Nat.le_of_ble_eq_true rfl) (Nat.le_of_ble_eq_true rfl) at_175 (fun v59 T59 L59 X59 hQ59 => ?_)
    obtain ⟨rfl, N59q, K59, bb, as, ae, kS, kE, los, loe, LF1⟩ := hQ59
    have N59 := Fr.app N57 N59q
    refine g_astore X59 hx hby at_178 rfl (l' := #[.val (.int p0), .val (.int p1), .val (.int p2), .val (.int p3), .val (.int p4), .val (.int p5), .val (.int (0 : Int32)), .val (.int (2 : Int32)), .val (.int fd), .val (.int (own_draw p1)), .val (.int (own_draw p2)), .val (.int (own_draw p3)), .val (.int (own_draw p4)), .val (.int (((p5.toUInt32 >>> ((8 : Int32) &&& 31).toUInt32).toInt32).toInt8.toInt32)), .val (.ref b5), .val (.int (4 : Int32)), .val (.ref b58), .unset]) rfl ?_
    refine g_aload X59 hx hby at_180 rfl rfl ?_
    refine g_aload X59 hx hby at_182 rfl rfl ?_
    refine g_iconst X59 hx hby (1 : Int32) at_184 rfl ?_
    refine g_iload X59 hx hby at_185 rfl ?_
    have g_as : n0 ≤ as := Nat.le_trans z60 los
    have g_ae : n0 ≤ ae := Nat.le_trans z60 loe
    have ne62 : b5 ≠ b58 := (Nat.ne_of_lt (Nat.lt_of_lt_of_le V5.lt (Nat.le_trans (Nat.le_trans (Nat.le_trans (Nat.le_trans (Nat.le_trans (Nat.le_trans (Nat.le_trans (Nat.le_trans (Nat.le_trans (Keep.of_wr W6).1 (Keep.of_wr W7).1) (Keep.of_wr W8).1) (Keep.of_wr W9).1) (Keep.of_wr W10).1) (Keep.of_wr W11).1) (Keep.of_wr W55).1) (Keep.of_wr W56).1) (Keep.of_wr W57).1) (Nat.le_of_eq g58))))
    have f63 := ((V57.ext E58).keep K59 (ninS ne62 nin0))
    have ne64 : b5 ≠ as := (Nat.ne_of_lt (Nat.lt_of_lt_of_le V5.lt (Nat.le_trans (Nat.le_trans (Nat.le_trans (Nat.le_trans (Nat.le_trans (Nat.le_trans (Nat.le_trans (Nat.le_trans (Nat.le_trans (Nat.le_trans (Keep.of_wr W6).1 (Keep.of_wr W7).1) (Keep.of_wr W8).1) (Keep.of_wr W9).1) (Keep.of_wr W10).1) (Keep.of_wr W11).1) (Keep.of_wr W55).1) (Keep.of_wr W56).1) (Keep.of_wr W57).1) E58.1) los)))
    have ne65 : b5 ≠ ae := (Nat.ne_of_lt (Nat.lt_of_lt_of_le V5.lt (Nat.le_trans (Nat.le_trans (Nat.le_trans (Nat.le_trans (Nat.le_trans (Nat.le_trans (Nat.le_trans (Nat.le_trans (Nat.le_trans (Nat.le_trans (Keep.of_wr W6).1 (Keep.of_wr W7).1) (Keep.of_wr W8).1) (Keep.of_wr W9).1) (Keep.of_wr W10).1) (Keep.of_wr W11).1) (Keep.of_wr W55).1) (Keep.of_wr W56).1) (Keep.of_wr W57).1) E58.1) loe)))
    have z66 := (Nat.le_trans z60 K59.1)
    have f67 := (A58.keep K59)
    refine g_virtual X59 hx hby hZ hown (rm_split02 l Z a0 hw [] b58 bb as ae kS kE b5 k5 (nar .byte (p5.toInt8.toInt32)) (nar .byte (own_draw p3)) (nar .byte (own_draw p4)) (nar .byte (((p5.toUInt32 >>> ((8 : Int32) &&& 31).toUInt32).toInt32).toInt8.toInt32)) (nar .byte (((p5.toUInt32 >>> ((8 : Int32) &&& 31).toUInt32).toInt32).toInt8.toInt32)) T59.heap n0 z66 LF1 g_b58 g_as g_ae f63 ne62 ne64 ne65 (own_draw_ne _) (own_draw_ne _)) w23_ w24_ (notFace_of_selects (args := #[]) (mvT hZ w26_)) w26_ w25_ w7_ w27_ (by decide) rfl f67 (by rw [hml]; rfl) [(.ref b5), (.int (1 : Int32)), (.int (4 : Int32))] (lenOf own_pd3 rfl) rfl rfl (Nat.le_of_ble_eq_true rfl) (Nat.le_of_ble_eq_true rfl) (Nat.le_of_ble_eq_true rfl) (Nat.le_of_ble_eq_true rfl) at_187 (fun v61 T61 L61 X61 hQ61 => ?_)
    obtain ⟨rfl, N61q, K61, LF2⟩ := hQ61
    have N61 := Fr.app N59 N61q
    refine g_iload X61 hx hby at_190 rfl ?_
    rcases c_fd with rfl | rfl
    · -- field 0
      refine g_ifN X61 hx hby at_192 (teq (by decide : (0 : Int32) = (0 : Int32))).2 ?_
      refine g_at 195 rfl rfl rfl ?_
      refine g_iload X61 hx hby at_195 rfl ?_
      refine g_iload X61 hx hby at_197 rfl ?_
      have z69 := (Nat.le_trans z66 K61.1)
      refine g_static X61 hx hby hZ hown (rm_expd l Z a0 hw [] (0 : Int32) (own_draw p1) T61.heap n0 z69 ) w32_ w33_ w2_ w34_ (by decide) rfl (by rw [hml]; rfl) [(.int (0 : Int32)), (.int (own_draw p1))] (lenOf own_pd4 rfl) rfl rfl (Nat.le_of_ble_eq_true rfl) (Nat.le_of_ble_eq_true rfl) (Nat.le_of_ble_eq_true rfl) (Nat.le_of_ble_eq_true rfl) at_199 (fun v68 T68 L68 X68 hQ68 => ?_)
      obtain ⟨rfl, N68q, eh68⟩ := hQ68
      have N68 := Fr.app N61 N68q
      refine g_goto X68 hx hby 212 at_202 (by decide) (by decide) ?_
      refine g_istore X68 hx hby at_212 (l' := #[.val (.int p0), .val (.int p1), .val (.int p2), .val (.int p3), .val (.int p4), .val (.int p5), .val (.int (0 : Int32)), .val (.int (2 : Int32)), .val (.int (0 : Int32)), .val (.int (own_draw p1)), .val (.int (own_draw p2)), .val (.int (own_draw p3)), .val (.int (own_draw p4)), .val (.int (((p5.toUInt32 >>> ((8 : Int32) &&& 31).toUInt32).toInt32).toInt8.toInt32)), .val (.ref b5), .val (.int (4 : Int32)), .val (.ref b58), .val (.int (own_expct (0 : Int32) (own_draw p1)))]) rfl ?_
      refine g_aload X68 hx hby at_214 rfl rfl ?_
      refine g_iload X68 hx hby at_216 rfl ?_
      have f71 := (f63.keep K61 (ninS ne62 (ninS ne64 (ninS ne65 nin0))))
      have f72 := (f67.keep K61)
      refine g_virtual X68 hx hby hZ hown (rm_dig0 l Z a0 hw [] b58 b5 as ae kS kE (1 : Int32) (2 : Int32) (1 : Int32) (4 : Int32) k5 (nar .byte (p5.toInt8.toInt32)) (44 : Int32) (nar .byte (own_draw p3)) (nar .byte (own_draw p4)) (nar .byte (((p5.toUInt32 >>> ((8 : Int32) &&& 31).toUInt32).toInt32).toInt8.toInt32)) (nar .byte (((p5.toUInt32 >>> ((8 : Int32) &&& 31).toUInt32).toInt32).toInt8.toInt32)) (0 : Int32) (0 : Int32) T61.heap n0 z69 LF2 f71 (by decide) (fun q => absurd q (by decide))) w35_ w36_ (notFace_of_selects (args := #[]) (mvT hZ w38_)) w38_ w37_ w7_ w39_ (by decide) eh68 f72 (by rw [hml]; rfl) [(.int (0 : Int32))] (lenOf own_pd5 rfl) rfl rfl (Nat.le_of_ble_eq_true rfl) (Nat.le_of_ble_eq_true rfl) (Nat.le_of_ble_eq_true rfl) (Nat.le_of_ble_eq_true rfl) at_218 (fun v70 T70 L70 X70 hQ70 => ?_)
      obtain ⟨rfl, N70q, eh70⟩ := hQ70
      have N70 := Fr.app N68 N70q
      refine g_iload X70 hx hby at_221 rfl ?_
      refine g_icN X70 hx hby at_223 (teq ((own_fin0 (by decide) (by decide)) : (own_dig (0 : Int32) (0 : Int32)) = (own_expct (0 : Int32) (own_draw p1)))).2 ?_
      refine g_iconst X70 hx hby (1 : Int32) at_226 rfl ?_
      refine g_goto X70 hx hby 231 at_227 (by decide) (by decide) ?_
      refine g_nret X70 hx hby (t := .boolean) (by simp) Bd.returns Bd.notSynchronized at_231 eh70 (by decide) (by decide) ?_
      show (Q_law Z p0 p1 p2 p3 p4 p5 h0 n0) (some (.int (1 : Int32))) _ _
      exact ⟨rfl, N70⟩
    · -- field 1
      refine g_ifY X61 hx hby 205 at_192 (feq (by decide : ¬ ((1 : Int32) = (0 : Int32)))).2 (by decide) (by decide) ?_
      refine g_iload X61 hx hby at_205 rfl ?_
      refine g_iload X61 hx hby at_207 rfl ?_
      have z74 := (Nat.le_trans z66 K61.1)
      refine g_static X61 hx hby hZ hown (rm_expd l Z a0 hw [] (2 : Int32) (own_draw p3) T61.heap n0 z74 ) w32_ w33_ w2_ w34_ (by decide) rfl (by rw [hml]; rfl) [(.int (2 : Int32)), (.int (own_draw p3))] (lenOf own_pd4 rfl) rfl rfl (Nat.le_of_ble_eq_true rfl) (Nat.le_of_ble_eq_true rfl) (Nat.le_of_ble_eq_true rfl) (Nat.le_of_ble_eq_true rfl) at_209 (fun v73 T73 L73 X73 hQ73 => ?_)
      obtain ⟨rfl, N73q, eh73⟩ := hQ73
      have N73 := Fr.app N61 N73q
      refine g_istore X73 hx hby at_212 (l' := #[.val (.int p0), .val (.int p1), .val (.int p2), .val (.int p3), .val (.int p4), .val (.int p5), .val (.int (0 : Int32)), .val (.int (2 : Int32)), .val (.int (1 : Int32)), .val (.int (own_draw p1)), .val (.int (own_draw p2)), .val (.int (own_draw p3)), .val (.int (own_draw p4)), .val (.int (((p5.toUInt32 >>> ((8 : Int32) &&& 31).toUInt32).toInt32).toInt8.toInt32)), .val (.ref b5), .val (.int (4 : Int32)), .val (.ref b58), .val (.int (own_expct (2 : Int32) (own_draw p3)))]) rfl ?_
      refine g_aload X73 hx hby at_214 rfl rfl ?_
      refine g_iload X73 hx hby at_216 rfl ?_
      have f76 := (f63.keep K61 (ninS ne62 (ninS ne64 (ninS ne65 nin0))))
      have f77 := (f67.keep K61)
      refine g_virtual X73 hx hby hZ hown (rm_dig1 l Z a0 hw [] b58 b5 as ae kS kE (1 : Int32) (2 : Int32) (1 : Int32) (4 : Int32) k5 (nar .byte (p5.toInt8.toInt32)) (44 : Int32) (nar .byte (own_draw p3)) (nar .byte (own_draw p4)) (nar .byte (((p5.toUInt32 >>> ((8 : Int32) &&& 31).toUInt32).toInt32).toInt8.toInt32)) (nar .byte (((p5.toUInt32 >>> ((8 : Int32) &&& 31).toUInt32).toInt32).toInt8.toInt32)) (0 : Int32) (2 : Int32) T61.heap n0 z74 LF2 f76 (by decide) (fun q => absurd q (by decide))) w35_ w36_ (notFace_of_selects (args := #[]) (mvT hZ w38_)) w38_ w37_ w7_ w39_ (by decide) eh73 f77 (by rw [hml]; rfl) [(.int (1 : Int32))] (lenOf own_pd5 rfl) rfl rfl (Nat.le_of_ble_eq_true rfl) (Nat.le_of_ble_eq_true rfl) (Nat.le_of_ble_eq_true rfl) (Nat.le_of_ble_eq_true rfl) at_218 (fun v75 T75 L75 X75 hQ75 => ?_)
      obtain ⟨rfl, N75q, eh75⟩ := hQ75
      have N75 := Fr.app N73 N75q
      refine g_iload X75 hx hby at_221 rfl ?_
      refine g_icN X75 hx hby at_223 (teq ((own_fin0 (by decide) (by decide)) : (own_dig (2 : Int32) (0 : Int32)) = (own_expct (2 : Int32) (own_draw p3)))).2 ?_
      refine g_iconst X75 hx hby (1 : Int32) at_226 rfl ?_
      refine g_goto X75 hx hby 231 at_227 (by decide) (by decide) ?_
      refine g_nret X75 hx hby (t := .boolean) (by simp) Bd.returns Bd.notSynchronized at_231 eh75 (by decide) (by decide) ?_
      show (Q_law Z p0 p1 p2 p3 p4 p5 h0 n0) (some (.int (1 : Int32))) _ _
      exact ⟨rfl, N75⟩
  · -- lengths 1, 0
    refine g_iload X11 hx hby at_99 rfl ?_
    refine g_iconst X11 hx hby (1 : Int32) at_101 rfl ?_
    refine g_icN X11 hx hby at_102 (flt (by decide : ¬ ((1 : Int32) < (1 : Int32)))).1 ?_
    refine g_aload X11 hx hby at_105 rfl rfl ?_
    refine g_iconst X11 hx hby (1 : Int32) at_107 rfl ?_
    refine g_iload X11 hx hby at_108 rfl ?_
    refine g_bastore X11 hx hby hZ e11 V11 1 [(.int (nar .byte (p5.toInt8.toInt32))), (.int (nar .byte (own_draw p1))), (.int (nar .byte (((p5.toUInt32 >>> ((8 : Int32) &&& 31).toUInt32).toInt32).toInt8.toInt32))), (.int (nar .byte (((p5.toUInt32 >>> ((8 : Int32) &&& 31).toUInt32).toInt32).toInt8.toInt32))), (.int (nar .byte (((p5.toUInt32 >>> ((8 : Int32) &&& 31).toUInt32).toInt32).toInt8.toInt32))), (.int (nar .byte (((p5.toUInt32 >>> ((8 : Int32) &&& 31).toUInt32).toInt32).toInt8.toInt32)))] rfl ⟨by decide, by decide⟩ rfl (Nat.le_of_ble_eq_true rfl) N11 g_b5 at_110 (fun T78 h78 X78 e78 W78 V78 N78 => ?_)
    refine g_iload X78 hx hby at_111 rfl ?_
    refine g_iconst X78 hx hby (2 : Int32) at_113 rfl ?_
    refine g_icY X78 hx hby 123 at_114 (feq (by decide : ¬ ((1 : Int32) = (2 : Int32)))).2 (by decide) (by decide) ?_
    refine g_aload X78 hx hby at_123 rfl rfl ?_
    refine g_iconst X78 hx hby (1 : Int32) at_125 rfl ?_
    refine g_iload X78 hx hby at_126 rfl ?_
    refine g_iadd X78 hx hby at_128 ?_
    refine g_topI (2 : Int32) (by decide) ?_
    refine g_bipush X78 hx hby (44 : Int32) at_129 rfl ?_
    refine g_bastore X78 hx hby hZ e78 V78 2 [(.int (nar .byte (p5.toInt8.toInt32))), (.int (nar .byte (own_draw p1))), (.int (44 : Int32)), (.int (nar .byte (((p5.toUInt32 >>> ((8 : Int32) &&& 31).toUInt32).toInt32).toInt8.toInt32))), (.int (nar .byte (((p5.toUInt32 >>> ((8 : Int32) &&& 31).toUInt32).toInt32).toInt8.toInt32))), (.int (nar .byte (((p5.toUInt32 >>> ((8 : Int32) &&& 31).toUInt32).toInt32).toInt8.toInt32)))] rfl ⟨by decide, by decide⟩ rfl (Nat.le_of_ble_eq_true rfl) N78 g_b5 at_131 (fun T79 h79 X79 e79 W79 V79 N79 => ?_)
    refine g_iload X79 hx hby at_132 rfl ?_
    refine g_iconst X79 hx hby (1 : Int32) at_134 rfl ?_
    refine g_icY X79 hx hby 147 at_135 (tlt (by decide : (0 : Int32) < (1 : Int32))).1 (by decide) (by decide) ?_
    refine g_iload X79 hx hby at_147 rfl ?_
    refine g_iconst X79 hx hby (2 : Int32) at_149 rfl ?_
    refine g_icY X79 hx hby 162 at_150 (feq (by decide : ¬ ((0 : Int32) = (2 : Int32)))).2 (by decide) (by decide) ?_
    refine g_iconst X79 hx hby (2 : Int32) at_162 rfl ?_
    refine g_iload X79 hx hby at_163 rfl ?_
    refine g_iadd X79 hx hby at_165 ?_
    refine g_topI (3 : Int32) (by decide) ?_
    refine g_iload X79 hx hby at_166 rfl ?_
    refine g_iadd X79 hx hby at_168 ?_
    refine g_topI (3 : Int32) (by decide) ?_
    refine g_istore X79 hx hby at_169 (l' := #[.val (.int p0), .val (.int p1), .val (.int p2), .val (.int p3), .val (.int p4), .val (.int p5), .val (.int (1 : Int32)), .val (.int (0 : Int32)), .val (.int fd), .val (.int (own_draw p1)), .val (.int (own_draw p2)), .val (.int (own_draw p3)), .val (.int (own_draw p4)), .val (.int (((p5.toUInt32 >>> ((8 : Int32) &&& 31).toUInt32).toInt32).toInt8.toInt32)), .val (.ref b5), .val (.int (3 : Int32)), .unset, .unset]) rfl ?_
    refine g_new X79 hx hby hZ hown w5_ w6_ w7_ e79 (by decide) (by decide) at_171 (fun T80 h80 b80 g80 X80 e80 E80 A80 D80 => ?_)
    have F_bytes_b80 : Fld Z h80 b80 "com/example/tidegate/tidegate/venue/LineFields" "bytes" "[B" .null := D80 (Or.inl w15_) (ty := (.array .byte)) (by decide)
    have F_width_b80 : Fld Z h80 b80 "com/example/tidegate/tidegate/venue/LineFields" "width" "I" (.int (0 : Int32)) := D80 (Or.inl w17_) (ty := .int) (by decide)
    have F_starts_b80 : Fld Z h80 b80 "com/example/tidegate/tidegate/venue/LineFields" "starts" "[I" .null := D80 (Or.inl w20_) (ty := (.array .int)) (by decide)
    have F_ends_b80 : Fld Z h80 b80 "com/example/tidegate/tidegate/venue/LineFields" "ends" "[I" .null := D80 (Or.inl w22_) (ty := (.array .int)) (by decide)
    refine g_dup X80 hx hby at_174 rfl ?_
    have g_b80 : n0 ≤ b80 := Nat.le_trans (Nat.le_trans Z0 (Nat.le_trans (Nat.le_trans (Nat.le_trans (Nat.le_trans (Nat.le_trans (Nat.le_trans (Nat.le_trans (Nat.le_trans E5.1 (Keep.of_wr W6).1) (Keep.of_wr W7).1) (Keep.of_wr W8).1) (Keep.of_wr W9).1) (Keep.of_wr W10).1) (Keep.of_wr W11).1) (Keep.of_wr W78).1) (Keep.of_wr W79).1)) (Nat.le_of_eq g80)
    have z82 := (Nat.le_trans Z0 (Nat.le_trans (Nat.le_trans (Nat.le_trans (Nat.le_trans (Nat.le_trans (Nat.le_trans (Nat.le_trans (Nat.le_trans (Nat.le_trans E5.1 (Keep.of_wr W6).1) (Keep.of_wr W7).1) (Keep.of_wr W8).1) (Keep.of_wr W9).1) (Keep.of_wr W10).1) (Keep.of_wr W11).1) (Keep.of_wr W78).1) (Keep.of_wr W79).1) E80.1))
    refine g_special X80 hx hby hZ hown (rm_ini l Z a0 hw [] b80 h80 n0 z82 A80 F_bytes_b80 F_width_b80 F_starts_b80 F_ends_b80 g_b80) rfl rfl w8_ w9_ w7_ w10_ (by decide) e80 (by rw [hml]; rfl) [] (lenOf own_pd2 rfl) rfl rfl (Nat.le_of_ble_eq_true rfl) (Nat.le_of_ble_eq_true rfl) (Nat.le_of_ble_eq_true rfl) (Nat.le_of_ble_eq_true rfl) at_175 (fun v81 T81 L81 X81 hQ81 => ?_)
    obtain ⟨rfl, N81q, K81, bb, as, ae, kS, kE, los, loe, LF1⟩ := hQ81
    have N81 := Fr.app N79 N81q
    refine g_astore X81 hx hby at_178 rfl (l' := #[.val (.int p0), .val (.int p1), .val (.int p2), .val (.int p3), .val (.int p4), .val (.int p5), .val (.int (1 : Int32)), .val (.int (0 : Int32)), .val (.int fd), .val (.int (own_draw p1)), .val (.int (own_draw p2)), .val (.int (own_draw p3)), .val (.int (own_draw p4)), .val (.int (((p5.toUInt32 >>> ((8 : Int32) &&& 31).toUInt32).toInt32).toInt8.toInt32)), .val (.ref b5), .val (.int (3 : Int32)), .val (.ref b80), .unset]) rfl ?_
    refine g_aload X81 hx hby at_180 rfl rfl ?_
    refine g_aload X81 hx hby at_182 rfl rfl ?_
    refine g_iconst X81 hx hby (1 : Int32) at_184 rfl ?_
    refine g_iload X81 hx hby at_185 rfl ?_
    have g_as : n0 ≤ as := Nat.le_trans z82 los
    have g_ae : n0 ≤ ae := Nat.le_trans z82 loe
    have ne84 : b5 ≠ b80 := (Nat.ne_of_lt (Nat.lt_of_lt_of_le V5.lt (Nat.le_trans (Nat.le_trans (Nat.le_trans (Nat.le_trans (Nat.le_trans (Nat.le_trans (Nat.le_trans (Nat.le_trans (Keep.of_wr W6).1 (Keep.of_wr W7).1) (Keep.of_wr W8).1) (Keep.of_wr W9).1) (Keep.of_wr W10).1) (Keep.of_wr W11).1) (Keep.of_wr W78).1) (Keep.of_wr W79).1) (Nat.le_of_eq g80))))
    have f85 := ((V79.ext E80).keep K81 (ninS ne84 nin0))
    have ne86 : b5 ≠ as := (Nat.ne_of_lt (Nat.lt_of_lt_of_le V5.lt (Nat.le_trans (Nat.le_trans (Nat.le_trans (Nat.le_trans (Nat.le_trans (Nat.le_trans (Nat.le_trans (Nat.le_trans (Nat.le_trans (Keep.of_wr W6).1 (Keep.of_wr W7).1) (Keep.of_wr W8).1) (Keep.of_wr W9).1) (Keep.of_wr W10).1) (Keep.of_wr W11).1) (Keep.of_wr W78).1) (Keep.of_wr W79).1) E80.1) los)))
    have ne87 : b5 ≠ ae := (Nat.ne_of_lt (Nat.lt_of_lt_of_le V5.lt (Nat.le_trans (Nat.le_trans (Nat.le_trans (Nat.le_trans (Nat.le_trans (Nat.le_trans (Nat.le_trans (Nat.le_trans (Nat.le_trans (Keep.of_wr W6).1 (Keep.of_wr W7).1) (Keep.of_wr W8).1) (Keep.of_wr W9).1) (Keep.of_wr W10).1) (Keep.of_wr W11).1) (Keep.of_wr W78).1) (Keep.of_wr W79).1) E80.1) loe)))
    have z88 := (Nat.le_trans z82 K81.1)
    have f89 := (A80.keep K81)
    refine g_virtual X81 hx hby hZ hown (rm_split10 l Z a0 hw [] b80 bb as ae kS kE b5 k5 (nar .byte (p5.toInt8.toInt32)) (nar .byte (own_draw p1)) (nar .byte (((p5.toUInt32 >>> ((8 : Int32) &&& 31).toUInt32).toInt32).toInt8.toInt32)) (nar .byte (((p5.toUInt32 >>> ((8 : Int32) &&& 31).toUInt32).toInt32).toInt8.toInt32)) (nar .byte (((p5.toUInt32 >>> ((8 : Int32) &&& 31).toUInt32).toInt32).toInt8.toInt32)) T81.heap n0 z88 LF1 g_b80 g_as g_ae f85 ne84 ne86 ne87 (own_draw_ne _)) w23_ w24_ (notFace_of_selects (args := #[]) (mvT hZ w26_)) w26_ w25_ w7_ w27_ (by decide) rfl f89 (by rw [hml]; rfl) [(.ref b5), (.int (1 : Int32)), (.int (3 : Int32))] (lenOf own_pd3 rfl) rfl rfl (Nat.le_of_ble_eq_true rfl) (Nat.le_of_ble_eq_true rfl) (Nat.le_of_ble_eq_true rfl) (Nat.le_of_ble_eq_true rfl) at_187 (fun v83 T83 L83 X83 hQ83 => ?_)
    obtain ⟨rfl, N83q, K83, LF2⟩ := hQ83
    have N83 := Fr.app N81 N83q
    refine g_at 190 rfl rfl rfl ?_
    refine g_iload X83 hx hby at_190 rfl ?_
    rcases c_fd with rfl | rfl
    · -- field 0
      refine g_ifN X83 hx hby at_192 (teq (by decide : (0 : Int32) = (0 : Int32))).2 ?_
      refine g_iload X83 hx hby at_195 rfl ?_
      refine g_iload X83 hx hby at_197 rfl ?_
      have z91 := (Nat.le_trans z88 K83.1)
      refine g_static X83 hx hby hZ hown (rm_expd l Z a0 hw [] (1 : Int32) (own_draw p1) T83.heap n0 z91 ) w32_ w33_ w2_ w34_ (by decide) rfl (by rw [hml]; rfl) [(.int (1 : Int32)), (.int (own_draw p1))] (lenOf own_pd4 rfl) rfl rfl (Nat.le_of_ble_eq_true rfl) (Nat.le_of_ble_eq_true rfl) (Nat.le_of_ble_eq_true rfl) (Nat.le_of_ble_eq_true rfl) at_199 (fun v90 T90 L90 X90 hQ90 => ?_)
      obtain ⟨rfl, N90q, eh90⟩ := hQ90
      have N90 := Fr.app N83 N90q
      refine g_goto X90 hx hby 212 at_202 (by decide) (by decide) ?_
      refine g_istore X90 hx hby at_212 (l' := #[.val (.int p0), .val (.int p1), .val (.int p2), .val (.int p3), .val (.int p4), .val (.int p5), .val (.int (1 : Int32)), .val (.int (0 : Int32)), .val (.int (0 : Int32)), .val (.int (own_draw p1)), .val (.int (own_draw p2)), .val (.int (own_draw p3)), .val (.int (own_draw p4)), .val (.int (((p5.toUInt32 >>> ((8 : Int32) &&& 31).toUInt32).toInt32).toInt8.toInt32)), .val (.ref b5), .val (.int (3 : Int32)), .val (.ref b80), .val (.int (own_expct (1 : Int32) (own_draw p1)))]) rfl ?_
      refine g_aload X90 hx hby at_214 rfl rfl ?_
      refine g_iload X90 hx hby at_216 rfl ?_
      have f93 := (f85.keep K83 (ninS ne84 (ninS ne86 (ninS ne87 nin0))))
      have f94 := (f89.keep K83)
      refine g_virtual X90 hx hby hZ hown (rm_dig0 l Z a0 hw [] b80 b5 as ae kS kE (1 : Int32) (3 : Int32) (2 : Int32) (3 : Int32) k5 (nar .byte (p5.toInt8.toInt32)) (nar .byte (own_draw p1)) (44 : Int32) (nar .byte (((p5.toUInt32 >>> ((8 : Int32) &&& 31).toUInt32).toInt32).toInt8.toInt32)) (nar .byte (((p5.toUInt32 >>> ((8 : Int32) &&& 31).toUInt32).toInt32).toInt8.toInt32)) (nar .byte (((p5.toUInt32 >>> ((8 : Int32) &&& 31).toUInt32).toInt32).toInt8.toInt32)) (nar .byte (own_draw p1)) (1 : Int32) T83.heap n0 z91 LF2 f93 (by decide) (fun _ => ⟨⟨by decide, by decide⟩, rfl⟩)) w35_ w36_ (notFace_of_selects (args := #[]) (mvT hZ w38_)) w38_ w37_ w7_ w39_ (by decide) eh90 f94 (by rw [hml]; rfl) [(.int (0 : Int32))] (lenOf own_pd5 rfl) rfl rfl (Nat.le_of_ble_eq_true rfl) (Nat.le_of_ble_eq_true rfl) (Nat.le_of_ble_eq_true rfl) (Nat.le_of_ble_eq_true rfl) at_218 (fun v92 T92 L92 X92 hQ92 => ?_)
      obtain ⟨rfl, N92q, eh92⟩ := hQ92
      have N92 := Fr.app N90 N92q
      refine g_iload X92 hx hby at_221 rfl ?_
      refine g_icN X92 hx hby at_223 (teq ((own_fin1 _) : (own_dig (1 : Int32) (nar .byte (own_draw p1))) = (own_expct (1 : Int32) (own_draw p1)))).2 ?_
      refine g_iconst X92 hx hby (1 : Int32) at_226 rfl ?_
      refine g_goto X92 hx hby 231 at_227 (by decide) (by decide) ?_
      refine g_nret X92 hx hby (t := .boolean) (by simp) Bd.returns Bd.notSynchronized at_231 eh92 (by decide) (by decide) ?_
      show (Q_law Z p0 p1 p2 p3 p4 p5 h0 n0) (some (.int (1 : Int32))) _ _
      exact ⟨rfl, N92⟩
    · -- field 1
      refine g_ifY X83 hx hby 205 at_192 (feq (by decide : ¬ ((1 : Int32) = (0 : Int32)))).2 (by decide) (by decide) ?_
      refine g_iload X83 hx hby at_205 rfl ?_
      refine g_iload X83 hx hby at_207 rfl ?_
      have z96 := (Nat.le_trans z88 K83.1)
      refine g_static X83 hx hby hZ hown (rm_expd l Z a0 hw [] (0 : Int32) (own_draw p3) T83.heap n0 z96 ) w32_ w33_ w2_ w34_ (by decide) rfl (by rw [hml]; rfl) [(.int (0 : Int32)), (.int (own_draw p3))] (lenOf own_pd4 rfl) rfl rfl (Nat.le_of_ble_eq_true rfl) (Nat.le_of_ble_eq_true rfl) (Nat.le_of_ble_eq_true rfl) (Nat.le_of_ble_eq_true rfl) at_209 (fun v95 T95 L95 X95 hQ95 => ?_)
      obtain ⟨rfl, N95q, eh95⟩ := hQ95
      have N95 := Fr.app N83 N95q
      refine g_istore X95 hx hby at_212 (l' := #[.val (.int p0), .val (.int p1), .val (.int p2), .val (.int p3), .val (.int p4), .val (.int p5), .val (.int (1 : Int32)), .val (.int (0 : Int32)), .val (.int (1 : Int32)), .val (.int (own_draw p1)), .val (.int (own_draw p2)), .val (.int (own_draw p3)), .val (.int (own_draw p4)), .val (.int (((p5.toUInt32 >>> ((8 : Int32) &&& 31).toUInt32).toInt32).toInt8.toInt32)), .val (.ref b5), .val (.int (3 : Int32)), .val (.ref b80), .val (.int (own_expct (0 : Int32) (own_draw p3)))]) rfl ?_
      refine g_aload X95 hx hby at_214 rfl rfl ?_
      refine g_iload X95 hx hby at_216 rfl ?_
      have f98 := (f85.keep K83 (ninS ne84 (ninS ne86 (ninS ne87 nin0))))
      have f99 := (f89.keep K83)
      refine g_virtual X95 hx hby hZ hown (rm_dig1 l Z a0 hw [] b80 b5 as ae kS kE (1 : Int32) (3 : Int32) (2 : Int32) (3 : Int32) k5 (nar .byte (p5.toInt8.toInt32)) (nar .byte (own_draw p1)) (44 : Int32) (nar .byte (((p5.toUInt32 >>> ((8 : Int32) &&& 31).toUInt32).toInt32).toInt8.toInt32)) (nar .byte (((p5.toUInt32 >>> ((8 : Int32) &&& 31).toUInt32).toInt32).toInt8.toInt32)) (nar .byte (((p5.toUInt32 >>> ((8 : Int32) &&& 31).toUInt32).toInt32).toInt8.toInt32)) (0 : Int32) (0 : Int32) T83.heap n0 z96 LF2 f98 (by decide) (fun q => absurd q (by decide))) w35_ w36_ (notFace_of_selects (args := #[]) (mvT hZ w38_)) w38_ w37_ w7_ w39_ (by decide) eh95 f99 (by rw [hml]; rfl) [(.int (1 : Int32))] (lenOf own_pd5 rfl) rfl rfl (Nat.le_of_ble_eq_true rfl) (Nat.le_of_ble_eq_true rfl) (Nat.le_of_ble_eq_true rfl) (Nat.le_of_ble_eq_true rfl) at_218 (fun v97 T97 L97 X97 hQ97 => ?_)
      obtain ⟨rfl, N97q, eh97⟩ := hQ97
      have N97 := Fr.app N95 N97q
      refine g_iload X97 hx hby at_221 rfl ?_
      refine g_icN X97 hx hby at_223 (teq ((own_fin0 (by decide) (by decide)) : (own_dig (0 : Int32) (0 : Int32)) = (own_expct (0 : Int32) (own_draw p3)))).2 ?_
      refine g_iconst X97 hx hby (1 : Int32) at_226 rfl ?_
      refine g_goto X97 hx hby 231 at_227 (by decide) (by decide) ?_
      refine g_nret X97 hx hby (t := .boolean) (by simp) Bd.returns Bd.notSynchronized at_231 eh97 (by decide) (by decide) ?_
      show (Q_law Z p0 p1 p2 p3 p4 p5 h0 n0) (some (.int (1 : Int32))) _ _
      exact ⟨rfl, N97⟩
  · -- lengths 1, 1
    refine g_iload X11 hx hby at_99 rfl ?_
    refine g_iconst X11 hx hby (1 : Int32) at_101 rfl ?_
    refine g_icN X11 hx hby at_102 (flt (by decide : ¬ ((1 : Int32) < (1 : Int32)))).1 ?_
    refine g_aload X11 hx hby at_105 rfl rfl ?_
    refine g_iconst X11 hx hby (1 : Int32) at_107 rfl ?_
    refine g_iload X11 hx hby at_108 rfl ?_
    refine g_bastore X11 hx hby hZ e11 V11 1 [(.int (nar .byte (p5.toInt8.toInt32))), (.int (nar .byte (own_draw p1))), (.int (nar .byte (((p5.toUInt32 >>> ((8 : Int32) &&& 31).toUInt32).toInt32).toInt8.toInt32))), (.int (nar .byte (((p5.toUInt32 >>> ((8 : Int32) &&& 31).toUInt32).toInt32).toInt8.toInt32))), (.int (nar .byte (((p5.toUInt32 >>> ((8 : Int32) &&& 31).toUInt32).toInt32).toInt8.toInt32))), (.int (nar .byte (((p5.toUInt32 >>> ((8 : Int32) &&& 31).toUInt32).toInt32).toInt8.toInt32)))] rfl ⟨by decide, by decide⟩ rfl (Nat.le_of_ble_eq_true rfl) N11 g_b5 at_110 (fun T100 h100 X100 e100 W100 V100 N100 => ?_)
    refine g_iload X100 hx hby at_111 rfl ?_
    refine g_iconst X100 hx hby (2 : Int32) at_113 rfl ?_
    refine g_icY X100 hx hby 123 at_114 (feq (by decide : ¬ ((1 : Int32) = (2 : Int32)))).2 (by decide) (by decide) ?_
    refine g_aload X100 hx hby at_123 rfl rfl ?_
    refine g_iconst X100 hx hby (1 : Int32) at_125 rfl ?_
    refine g_iload X100 hx hby at_126 rfl ?_
    refine g_iadd X100 hx hby at_128 ?_
    refine g_topI (2 : Int32) (by decide) ?_
    refine g_bipush X100 hx hby (44 : Int32) at_129 rfl ?_
    refine g_bastore X100 hx hby hZ e100 V100 2 [(.int (nar .byte (p5.toInt8.toInt32))), (.int (nar .byte (own_draw p1))), (.int (44 : Int32)), (.int (nar .byte (((p5.toUInt32 >>> ((8 : Int32) &&& 31).toUInt32).toInt32).toInt8.toInt32))), (.int (nar .byte (((p5.toUInt32 >>> ((8 : Int32) &&& 31).toUInt32).toInt32).toInt8.toInt32))), (.int (nar .byte (((p5.toUInt32 >>> ((8 : Int32) &&& 31).toUInt32).toInt32).toInt8.toInt32)))] rfl ⟨by decide, by decide⟩ rfl (Nat.le_of_ble_eq_true rfl) N100 g_b5 at_131 (fun T101 h101 X101 e101 W101 V101 N101 => ?_)
    refine g_iload X101 hx hby at_132 rfl ?_
    refine g_iconst X101 hx hby (1 : Int32) at_134 rfl ?_
    refine g_icN X101 hx hby at_135 (flt (by decide : ¬ ((1 : Int32) < (1 : Int32)))).1 ?_
    refine g_aload X101 hx hby at_138 rfl rfl ?_
    refine g_iconst X101 hx hby (2 : Int32) at_140 rfl ?_
    refine g_iload X101 hx hby at_141 rfl ?_
    refine g_iadd X101 hx hby at_143 ?_
    refine g_topI (3 : Int32) (by decide) ?_
    refine g_iload X101 hx hby at_144 rfl ?_
    refine g_bastore X101 hx hby hZ e101 V101 3 [(.int (nar .byte (p5.toInt8.toInt32))), (.int (nar .byte (own_draw p1))), (.int (44 : Int32)), (.int (nar .byte (own_draw p3))), (.int (nar .byte (((p5.toUInt32 >>> ((8 : Int32) &&& 31).toUInt32).toInt32).toInt8.toInt32))), (.int (nar .byte (((p5.toUInt32 >>> ((8 : Int32) &&& 31).toUInt32).toInt32).toInt8.toInt32)))] rfl ⟨by decide, by decide⟩ rfl (Nat.le_of_ble_eq_true rfl) N101 g_b5 at_146 (fun T102 h102 X102 e102 W102 V102 N102 => ?_)
    refine g_iload X102 hx hby at_147 rfl ?_
    refine g_iconst X102 hx hby (2 : Int32) at_149 rfl ?_
    refine g_icY X102 hx hby 162 at_150 (feq (by decide : ¬ ((1 : Int32) = (2 : Int32)))).2 (by decide) (by decide) ?_
    refine g_iconst X102 hx hby (2 : Int32) at_162 rfl ?_
    refine g_iload X102 hx hby at_163 rfl ?_
    refine g_iadd X102 hx hby at_165 ?_
    refine g_topI (3 : Int32) (by decide) ?_
    refine g_iload X102 hx hby at_166 rfl ?_
    refine g_iadd X102 hx hby at_168 ?_
    refine g_topI (4 : Int32) (by decide) ?_
    refine g_istore X102 hx hby at_169 (l' := #[.val (.int p0), .val (.int p1), .val (.int p2), .val (.int p3), .val (.int p4), .val (.int p5), .val (.int (1 : Int32)), .val (.int (1 : Int32)), .val (.int fd), .val (.int (own_draw p1)), .val (.int (own_draw p2)), .val (.int (own_draw p3)), .val (.int (own_draw p4)), .val (.int (((p5.toUInt32 >>> ((8 : Int32) &&& 31).toUInt32).toInt32).toInt8.toInt32)), .val (.ref b5), .val (.int (4 : Int32)), .unset, .unset]) rfl ?_
    refine g_new X102 hx hby hZ hown w5_ w6_ w7_ e102 (by decide) (by decide) at_171 (fun T103 h103 b103 g103 X103 e103 E103 A103 D103 => ?_)
    have F_bytes_b103 : Fld Z h103 b103 "com/example/tidegate/tidegate/venue/LineFields" "bytes" "[B" .null := D103 (Or.inl w15_) (ty := (.array .byte)) (by decide)
    have F_width_b103 : Fld Z h103 b103 "com/example/tidegate/tidegate/venue/LineFields" "width" "I" (.int (0 : Int32)) := D103 (Or.inl w17_) (ty := .int) (by decide)
    have F_starts_b103 : Fld Z h103 b103 "com/example/tidegate/tidegate/venue/LineFields" "starts" "[I" .null := D103 (Or.inl w20_) (ty := (.array .int)) (by decide)
    have F_ends_b103 : Fld Z h103 b103 "com/example/tidegate/tidegate/venue/LineFields" "ends" "[I" .null := D103 (Or.inl w22_) (ty := (.array .int)) (by decide)
    refine g_dup X103 hx hby at_174 rfl ?_
    have g_b103 : n0 ≤ b103 := Nat.le_trans (Nat.le_trans Z0 (Nat.le_trans (Nat.le_trans (Nat.le_trans (Nat.le_trans (Nat.le_trans (Nat.le_trans (Nat.le_trans (Nat.le_trans (Nat.le_trans E5.1 (Keep.of_wr W6).1) (Keep.of_wr W7).1) (Keep.of_wr W8).1) (Keep.of_wr W9).1) (Keep.of_wr W10).1) (Keep.of_wr W11).1) (Keep.of_wr W100).1) (Keep.of_wr W101).1) (Keep.of_wr W102).1)) (Nat.le_of_eq g103)
    have z105 := (Nat.le_trans Z0 (Nat.le_trans (Nat.le_trans (Nat.le_trans (Nat.le_trans (Nat.le_trans (Nat.le_trans (Nat.le_trans (Nat.le_trans (Nat.le_trans (Nat.le_trans E5.1 (Keep.of_wr W6).1) (Keep.of_wr W7).1) (Keep.of_wr W8).1) (Keep.of_wr W9).1) (Keep.of_wr W10).1) (Keep.of_wr W11).1) (Keep.of_wr W100).1) (Keep.of_wr W101).1) (Keep.of_wr W102).1) E103.1))
    refine g_special X103 hx hby hZ hown (rm_ini l Z a0 hw [] b103 h103 n0 z105 A103 F_bytes_b103 F_width_b103 F_starts_b103 F_ends_b103 g_b103) rfl rfl w8_ w9_ w7_ w10_ (by decide) e103 (by rw [hml]; rfl) [] (lenOf own_pd2 rfl) rfl rfl (Nat.le_of_ble_eq_true rfl) (Nat.le_of_ble_eq_true rfl) (Nat.le_of_ble_eq_true rfl) (Nat.le_of_ble_eq_true rfl) at_175 (fun v104 T104 L104 X104 hQ104 => ?_)
    obtain ⟨rfl, N104q, K104, bb, as, ae, kS, kE, los, loe, LF1⟩ := hQ104
    have N104 := Fr.app N102 N104q
    refine g_astore X104 hx hby at_178 rfl (l' := #[.val (.int p0), .val (.int p1), .val (.int p2), .val (.int p3), .val (.int p4), .val (.int p5), .val (.int (1 : Int32)), .val (.int (1 : Int32)), .val (.int fd), .val (.int (own_draw p1)), .val (.int (own_draw p2)), .val (.int (own_draw p3)), .val (.int (own_draw p4)), .val (.int (((p5.toUInt32 >>> ((8 : Int32) &&& 31).toUInt32).toInt32).toInt8.toInt32)), .val (.ref b5), .val (.int (4 : Int32)), .val (.ref b103), .unset]) rfl ?_
    refine g_aload X104 hx hby at_180 rfl rfl ?_
    refine g_aload X104 hx hby at_182 rfl rfl ?_
    refine g_iconst X104 hx hby (1 : Int32) at_184 rfl ?_
    refine g_iload X104 hx hby at_185 rfl ?_
    have g_as : n0 ≤ as := Nat.le_trans z105 los
    have g_ae : n0 ≤ ae := Nat.le_trans z105 loe
    have ne107 : b5 ≠ b103 := (Nat.ne_of_lt (Nat.lt_of_lt_of_le V5.lt (Nat.le_trans (Nat.le_trans (Nat.le_trans (Nat.le_trans (Nat.le_trans (Nat.le_trans (Nat.le_trans (Nat.le_trans (Nat.le_trans (Keep.of_wr W6).1 (Keep.of_wr W7).1) (Keep.of_wr W8).1) (Keep.of_wr W9).1) (Keep.of_wr W10).1) (Keep.of_wr W11).1) (Keep.of_wr W100).1) (Keep.of_wr W101).1) (Keep.of_wr W102).1) (Nat.le_of_eq g103))))
    have f108 := ((V102.ext E103).keep K104 (ninS ne107 nin0))
    have ne109 : b5 ≠ as := (Nat.ne_of_lt (Nat.lt_of_lt_of_le V5.lt (Nat.le_trans (Nat.le_trans (Nat.le_trans (Nat.le_trans (Nat.le_trans (Nat.le_trans (Nat.le_trans (Nat.le_trans (Nat.le_trans (Nat.le_trans (Keep.of_wr W6).1 (Keep.of_wr W7).1) (Keep.of_wr W8).1) (Keep.of_wr W9).1) (Keep.of_wr W10).1) (Keep.of_wr W11).1) (Keep.of_wr W100).1) (Keep.of_wr W101).1) (Keep.of_wr W102).1) E103.1) los)))
    have ne110 : b5 ≠ ae := (Nat.ne_of_lt (Nat.lt_of_lt_of_le V5.lt (Nat.le_trans (Nat.le_trans (Nat.le_trans (Nat.le_trans (Nat.le_trans (Nat.le_trans (Nat.le_trans (Nat.le_trans (Nat.le_trans (Nat.le_trans (Keep.of_wr W6).1 (Keep.of_wr W7).1) (Keep.of_wr W8).1) (Keep.of_wr W9).1) (Keep.of_wr W10).1) (Keep.of_wr W11).1) (Keep.of_wr W100).1) (Keep.of_wr W101).1) (Keep.of_wr W102).1) E103.1) loe)))
    have z111 := (Nat.le_trans z105 K104.1)
    have f112 := (A103.keep K104)
    refine g_virtual X104 hx hby hZ hown (rm_split11 l Z a0 hw [] b103 bb as ae kS kE b5 k5 (nar .byte (p5.toInt8.toInt32)) (nar .byte (own_draw p1)) (nar .byte (own_draw p3)) (nar .byte (((p5.toUInt32 >>> ((8 : Int32) &&& 31).toUInt32).toInt32).toInt8.toInt32)) (nar .byte (((p5.toUInt32 >>> ((8 : Int32) &&& 31).toUInt32).toInt32).toInt8.toInt32)) T104.heap n0 z111 LF1 g_b103 g_as g_ae f108 ne107 ne109 ne110 (own_draw_ne _) (own_draw_ne _)) w23_ w24_ (notFace_of_selects (args := #[]) (mvT hZ w26_)) w26_ w25_ w7_ w27_ (by decide) rfl f112 (by rw [hml]; rfl) [(.ref b5), (.int (1 : Int32)), (.int (4 : Int32))] (lenOf own_pd3 rfl) rfl rfl (Nat.le_of_ble_eq_true rfl) (Nat.le_of_ble_eq_true rfl) (Nat.le_of_ble_eq_true rfl) (Nat.le_of_ble_eq_true rfl) at_187 (fun v106 T106 L106 X106 hQ106 => ?_)
    obtain ⟨rfl, N106q, K106, LF2⟩ := hQ106
    have N106 := Fr.app N104 N106q
    refine g_at 190 rfl rfl rfl ?_
    refine g_iload X106 hx hby at_190 rfl ?_
    rcases c_fd with rfl | rfl
    · -- field 0
      refine g_ifN X106 hx hby at_192 (teq (by decide : (0 : Int32) = (0 : Int32))).2 ?_
      refine g_iload X106 hx hby at_195 rfl ?_
      refine g_iload X106 hx hby at_197 rfl ?_
      have z114 := (Nat.le_trans z111 K106.1)
      refine g_static X106 hx hby hZ hown (rm_expd l Z a0 hw [] (1 : Int32) (own_draw p1) T106.heap n0 z114 ) w32_ w33_ w2_ w34_ (by decide) rfl (by rw [hml]; rfl) [(.int (1 : Int32)), (.int (own_draw p1))] (lenOf own_pd4 rfl) rfl rfl (Nat.le_of_ble_eq_true rfl) (Nat.le_of_ble_eq_true rfl) (Nat.le_of_ble_eq_true rfl) (Nat.le_of_ble_eq_true rfl) at_199 (fun v113 T113 L113 X113 hQ113 => ?_)
      obtain ⟨rfl, N113q, eh113⟩ := hQ113
      have N113 := Fr.app N106 N113q
      refine g_goto X113 hx hby 212 at_202 (by decide) (by decide) ?_
      refine g_istore X113 hx hby at_212 (l' := #[.val (.int p0), .val (.int p1), .val (.int p2), .val (.int p3), .val (.int p4), .val (.int p5), .val (.int (1 : Int32)), .val (.int (1 : Int32)), .val (.int (0 : Int32)), .val (.int (own_draw p1)), .val (.int (own_draw p2)), .val (.int (own_draw p3)), .val (.int (own_draw p4)), .val (.int (((p5.toUInt32 >>> ((8 : Int32) &&& 31).toUInt32).toInt32).toInt8.toInt32)), .val (.ref b5), .val (.int (4 : Int32)), .val (.ref b103), .val (.int (own_expct (1 : Int32) (own_draw p1)))]) rfl ?_
      refine g_aload X113 hx hby at_214 rfl rfl ?_
      refine g_iload X113 hx hby at_216 rfl ?_
      have f116 := (f108.keep K106 (ninS ne107 (ninS ne109 (ninS ne110 nin0))))
      have f117 := (f112.keep K106)
      refine g_virtual X113 hx hby hZ hown (rm_dig0 l Z a0 hw [] b103 b5 as ae kS kE (1 : Int32) (3 : Int32) (2 : Int32) (4 : Int32) k5 (nar .byte (p5.toInt8.toInt32)) (nar .byte (own_draw p1)) (44 : Int32) (nar .byte (own_draw p3)) (nar .byte (((p5.toUInt32 >>> ((8 : Int32) &&& 31).toUInt32).toInt32).toInt8.toInt32)) (nar .byte (((p5.toUInt32 >>> ((8 : Int32) &&& 31).toUInt32).toInt32).toInt8.toInt32)) (nar .byte (own_draw p1)) (1 : Int32) T106.heap n0 z114 LF2 f116 (by decide) (fun _ => ⟨⟨by decide, by decide⟩, rfl⟩)) w35_ w36_ (notFace_of_selects (args := #[]) (mvT hZ w38_)) w38_ w37_ w7_ w39_ (by decide) eh113 f117 (by rw [hml]; rfl) [(.int (0 : Int32))] (lenOf own_pd5 rfl) rfl rfl (Nat.le_of_ble_eq_true rfl) (Nat.le_of_ble_eq_true rfl) (Nat.le_of_ble_eq_true rfl) (Nat.le_of_ble_eq_true rfl) at_218 (fun v115 T115 L115 X115 hQ115 => ?_)
      obtain ⟨rfl, N115q, eh115⟩ := hQ115
      have N115 := Fr.app N113 N115q
      refine g_iload X115 hx hby at_221 rfl ?_
      refine g_icN X115 hx hby at_223 (teq ((own_fin1 _) : (own_dig (1 : Int32) (nar .byte (own_draw p1))) = (own_expct (1 : Int32) (own_draw p1)))).2 ?_
      refine g_iconst X115 hx hby (1 : Int32) at_226 rfl ?_
      refine g_goto X115 hx hby 231 at_227 (by decide) (by decide) ?_
      refine g_nret X115 hx hby (t := .boolean) (by simp) Bd.returns Bd.notSynchronized at_231 eh115 (by decide) (by decide) ?_
      show (Q_law Z p0 p1 p2 p3 p4 p5 h0 n0) (some (.int (1 : Int32))) _ _
      exact ⟨rfl, N115⟩
    · -- field 1
      refine g_ifY X106 hx hby 205 at_192 (feq (by decide : ¬ ((1 : Int32) = (0 : Int32)))).2 (by decide) (by decide) ?_
      refine g_iload X106 hx hby at_205 rfl ?_
      refine g_iload X106 hx hby at_207 rfl ?_
      have z119 := (Nat.le_trans z111 K106.1)
      refine g_static X106 hx hby hZ hown (rm_expd l Z a0 hw [] (1 : Int32) (own_draw p3) T106.heap n0 z119 ) w32_ w33_ w2_ w34_ (by decide) rfl (by rw [hml]; rfl) [(.int (1 : Int32)), (.int (own_draw p3))] (lenOf own_pd4 rfl) rfl rfl (Nat.le_of_ble_eq_true rfl) (Nat.le_of_ble_eq_true rfl) (Nat.le_of_ble_eq_true rfl) (Nat.le_of_ble_eq_true rfl) at_209 (fun v118 T118 L118 X118 hQ118 => ?_)
      obtain ⟨rfl, N118q, eh118⟩ := hQ118
      have N118 := Fr.app N106 N118q
      refine g_istore X118 hx hby at_212 (l' := #[.val (.int p0), .val (.int p1), .val (.int p2), .val (.int p3), .val (.int p4), .val (.int p5), .val (.int (1 : Int32)), .val (.int (1 : Int32)), .val (.int (1 : Int32)), .val (.int (own_draw p1)), .val (.int (own_draw p2)), .val (.int (own_draw p3)), .val (.int (own_draw p4)), .val (.int (((p5.toUInt32 >>> ((8 : Int32) &&& 31).toUInt32).toInt32).toInt8.toInt32)), .val (.ref b5), .val (.int (4 : Int32)), .val (.ref b103), .val (.int (own_expct (1 : Int32) (own_draw p3)))]) rfl ?_
      refine g_aload X118 hx hby at_214 rfl rfl ?_
      refine g_iload X118 hx hby at_216 rfl ?_
      have f121 := (f108.keep K106 (ninS ne107 (ninS ne109 (ninS ne110 nin0))))
      have f122 := (f112.keep K106)
      refine g_virtual X118 hx hby hZ hown (rm_dig1 l Z a0 hw [] b103 b5 as ae kS kE (1 : Int32) (3 : Int32) (2 : Int32) (4 : Int32) k5 (nar .byte (p5.toInt8.toInt32)) (nar .byte (own_draw p1)) (44 : Int32) (nar .byte (own_draw p3)) (nar .byte (((p5.toUInt32 >>> ((8 : Int32) &&& 31).toUInt32).toInt32).toInt8.toInt32)) (nar .byte (((p5.toUInt32 >>> ((8 : Int32) &&& 31).toUInt32).toInt32).toInt8.toInt32)) (nar .byte (own_draw p3)) (1 : Int32) T106.heap n0 z119 LF2 f121 (by decide) (fun _ => ⟨⟨by decide, by decide⟩, rfl⟩)) w35_ w36_ (notFace_of_selects (args := #[]) (mvT hZ w38_)) w38_ w37_ w7_ w39_ (by decide) eh118 f122 (by rw [hml]; rfl) [(.int (1 : Int32))] (lenOf own_pd5 rfl) rfl rfl (Nat.le_of_ble_eq_true rfl) (Nat.le_of_ble_eq_true rfl) (Nat.le_of_ble_eq_true rfl) (Nat.le_of_ble_eq_true rfl) at_218 (fun v120 T120 L120 X120 hQ120 => ?_)
      obtain ⟨rfl, N120q, eh120⟩ := hQ120
      have N120 := Fr.app N118 N120q
      refine g_iload X120 hx hby at_221 rfl ?_
      refine g_icN X120 hx hby at_223 (teq ((own_fin1 _) : (own_dig (1 : Int32) (nar .byte (own_draw p3))) = (own_expct (1 : Int32) (own_draw p3)))).2 ?_
      refine g_iconst X120 hx hby (1 : Int32) at_226 rfl ?_
      refine g_goto X120 hx hby 231 at_227 (by decide) (by decide) ?_
      refine g_nret X120 hx hby (t := .boolean) (by simp) Bd.returns Bd.notSynchronized at_231 eh120 (by decide) (by decide) ?_
      show (Q_law Z p0 p1 p2 p3 p4 p5 h0 n0) (some (.int (1 : Int32))) _ _
      exact ⟨rfl, N120⟩
  · -- lengths 1, 2
    refine g_iload X11 hx hby at_99 rfl ?_
    refine g_iconst X11 hx hby (1 : Int32) at_101 rfl ?_
    refine g_icN X11 hx hby at_102 (flt (by decide : ¬ ((1 : Int32) < (1 : Int32)))).1 ?_
    refine g_aload X11 hx hby at_105 rfl rfl ?_
    refine g_iconst X11 hx hby (1 : Int32) at_107 rfl ?_
    refine g_iload X11 hx hby at_108 rfl ?_
    refine g_bastore X11 hx hby hZ e11 V11 1 [(.int (nar .byte (p5.toInt8.toInt32))), (.int (nar .byte (own_draw p1))), (.int (nar .byte (((p5.toUInt32 >>> ((8 : Int32) &&& 31).toUInt32).toInt32).toInt8.toInt32))), (.int (nar .byte (((p5.toUInt32 >>> ((8 : Int32) &&& 31).toUInt32).toInt32).toInt8.toInt32))), (.int (nar .byte (((p5.toUInt32 >>> ((8 : Int32) &&& 31).toUInt32).toInt32).toInt8.toInt32))), (.int (nar .byte (((p5.toUInt32 >>> ((8 : Int32) &&& 31).toUInt32).toInt32).toInt8.toInt32)))] rfl ⟨by decide, by decide⟩ rfl (Nat.le_of_ble_eq_true rfl) N11 g_b5 at_110 (fun T123 h123 X123 e123 W123 V123 N123 => ?_)
    refine g_iload X123 hx hby at_111 rfl ?_
    refine g_iconst X123 hx hby (2 : Int32) at_113 rfl ?_
    refine g_icY X123 hx hby 123 at_114 (feq (by decide : ¬ ((1 : Int32) = (2 : Int32)))).2 (by decide) (by decide) ?_
    refine g_aload X123 hx hby at_123 rfl rfl ?_
    refine g_iconst X123 hx hby (1 : Int32) at_125 rfl ?_
    refine g_iload X123 hx hby at_126 rfl ?_
    refine g_iadd X123 hx hby at_128 ?_
    refine g_topI (2 : Int32) (by decide) ?_
    refine g_bipush X123 hx hby (44 : Int32) at_129 rfl ?_
    refine g_bastore X123 hx hby hZ e123 V123 2 [(.int (nar .byte (p5.toInt8.toInt32))), (.int (nar .byte (own_draw p1))), (.int (44 : Int32)), (.int (nar .byte (((p5.toUInt32 >>> ((8 : Int32) &&& 31).toUInt32).toInt32).toInt8.toInt32))), (.int (nar .byte (((p5.toUInt32 >>> ((8 : Int32) &&& 31).toUInt32).toInt32).toInt8.toInt32))), (.int (nar .byte (((p5.toUInt32 >>> ((8 : Int32) &&& 31).toUInt32).toInt32).toInt8.toInt32)))] rfl ⟨by decide, by decide⟩ rfl (Nat.le_of_ble_eq_true rfl) N123 g_b5 at_131 (fun T124 h124 X124 e124 W124 V124 N124 => ?_)
    refine g_iload X124 hx hby at_132 rfl ?_
    refine g_iconst X124 hx hby (1 : Int32) at_134 rfl ?_
    refine g_icN X124 hx hby at_135 (flt (by decide : ¬ ((2 : Int32) < (1 : Int32)))).1 ?_
    refine g_aload X124 hx hby at_138 rfl rfl ?_
    refine g_iconst X124 hx hby (2 : Int32) at_140 rfl ?_
    refine g_iload X124 hx hby at_141 rfl ?_
    refine g_iadd X124 hx hby at_143 ?_
    refine g_topI (3 : Int32) (by decide) ?_
    refine g_iload X124 hx hby at_144 rfl ?_
    refine g_bastore X124 hx hby hZ e124 V124 3 [(.int (nar .byte (p5.toInt8.toInt32))), (.int (nar .byte (own_draw p1))), (.int (44 : Int32)), (.int (nar .byte (own_draw p3))), (.int (nar .byte (((p5.toUInt32 >>> ((8 : Int32) &&& 31).toUInt32).toInt32).toInt8.toInt32))), (.int (nar .byte (((p5.toUInt32 >>> ((8 : Int32) &&& 31).toUInt32).toInt32).toInt8.toInt32)))] rfl ⟨by decide, by decide⟩ rfl (Nat.le_of_ble_eq_true rfl) N124 g_b5 at_146 (fun T125 h125 X125 e125 W125 V125 N125 => ?_)
    refine g_iload X125 hx hby at_147 rfl ?_
    refine g_iconst X125 hx hby (2 : Int32) at_149 rfl ?_
    refine g_icN X125 hx hby at_150 (teq (by decide : (2 : Int32) = (2 : Int32))).2 ?_
    refine g_aload X125 hx hby at_153 rfl rfl ?_
    refine g_iconst X125 hx hby (3 : Int32) at_155 rfl ?_
    refine g_iload X125 hx hby at_156 rfl ?_
    refine g_iadd X125 hx hby at_158 ?_
    refine g_topI (4 : Int32) (by decide) ?_
    refine g_iload X125 hx hby at_159 rfl ?_
    refine g_bastore X125 hx hby hZ e125 V125 4 [(.int (nar .byte (p5.toInt8.toInt32))), (.int (nar .byte (own_draw p1))), (.int (44 : Int32)), (.int (nar .byte (own_draw p3))), (.int (nar .byte (own_draw p4))), (.int (nar .byte (((p5.toUInt32 >>> ((8 : Int32) &&& 31).toUInt32).toInt32).toInt8.toInt32)))] rfl ⟨by decide, by decide⟩ rfl (Nat.le_of_ble_eq_true rfl) N125 g_b5 at_161 (fun T126 h126 X126 e126 W126 V126 N126 => ?_)
    refine g_iconst X126 hx hby (2 : Int32) at_162 rfl ?_
    refine g_at 163 rfl rfl rfl ?_
    refine g_iload X126 hx hby at_163 rfl ?_
    refine g_iadd X126 hx hby at_165 ?_
    refine g_topI (3 : Int32) (by decide) ?_
    refine g_iload X126 hx hby at_166 rfl ?_
    refine g_iadd X126 hx hby at_168 ?_
    refine g_topI (5 : Int32) (by decide) ?_
    refine g_istore X126 hx hby at_169 (l' := #[.val (.int p0), .val (.int p1), .val (.int p2), .val (.int p3), .val (.int p4), .val (.int p5), .val (.int (1 : Int32)), .val (.int (2 : Int32)), .val (.int fd), .val (.int (own_draw p1)), .val (.int (own_draw p2)), .val (.int (own_draw p3)), .val (.int (own_draw p4)), .val (.int (((p5.toUInt32 >>> ((8 : Int32) &&& 31).toUInt32).toInt32).toInt8.toInt32)), .val (.ref b5), .val (.int (5 : Int32)), .unset, .unset]) rfl ?_
    refine g_new X126 hx hby hZ hown w5_ w6_ w7_ e126 (by decide) (by decide) at_171 (fun T127 h127 b127 g127 X127 e127 E127 A127 D127 => ?_)
    have F_bytes_b127 : Fld Z h127 b127 "com/example/tidegate/tidegate/venue/LineFields" "bytes" "[B" .null := D127 (Or.inl w15_) (ty := (.array .byte)) (by decide)
    have F_width_b127 : Fld Z h127 b127 "com/example/tidegate/tidegate/venue/LineFields" "width" "I" (.int (0 : Int32)) := D127 (Or.inl w17_) (ty := .int) (by decide)
    have F_starts_b127 : Fld Z h127 b127 "com/example/tidegate/tidegate/venue/LineFields" "starts" "[I" .null := D127 (Or.inl w20_) (ty := (.array .int)) (by decide)
    have F_ends_b127 : Fld Z h127 b127 "com/example/tidegate/tidegate/venue/LineFields" "ends" "[I" .null := D127 (Or.inl w22_) (ty := (.array .int)) (by decide)
    refine g_dup X127 hx hby at_174 rfl ?_
    have g_b127 : n0 ≤ b127 := Nat.le_trans (Nat.le_trans Z0 (Nat.le_trans (Nat.le_trans (Nat.le_trans (Nat.le_trans (Nat.le_trans (Nat.le_trans (Nat.le_trans (Nat.le_trans (Nat.le_trans (Nat.le_trans E5.1 (Keep.of_wr W6).1) (Keep.of_wr W7).1) (Keep.of_wr W8).1) (Keep.of_wr W9).1) (Keep.of_wr W10).1) (Keep.of_wr W11).1) (Keep.of_wr W123).1) (Keep.of_wr W124).1) (Keep.of_wr W125).1) (Keep.of_wr W126).1)) (Nat.le_of_eq g127)
    have z129 := (Nat.le_trans Z0 (Nat.le_trans (Nat.le_trans (Nat.le_trans (Nat.le_trans (Nat.le_trans (Nat.le_trans (Nat.le_trans (Nat.le_trans (Nat.le_trans (Nat.le_trans (Nat.le_trans E5.1 (Keep.of_wr W6).1) (Keep.of_wr W7).1) (Keep.of_wr W8).1) (Keep.of_wr W9).1) (Keep.of_wr W10).1) (Keep.of_wr W11).1) (Keep.of_wr W123).1) (Keep.of_wr W124).1) (Keep.of_wr W125).1) (Keep.of_wr W126).1) E127.1))
    refine g_special X127 hx hby hZ hown (rm_ini l Z a0 hw [] b127 h127 n0 z129 A127 F_bytes_b127 F_width_b127 F_starts_b127 F_ends_b127 g_b127) rfl rfl w8_ w9_ w7_ w10_ (by decide) e127 (by rw [hml]; rfl) [] (lenOf own_pd2 rfl) rfl rfl (Nat.le_of_ble_eq_true rfl) (Nat.le_of_ble_eq_true rfl) (Nat.le_of_ble_eq_true rfl) (Nat.le_of_ble_eq_true rfl) at_175 (fun v128 T128 L128 X128 hQ128 => ?_)
    obtain ⟨rfl, N128q, K128, bb, as, ae, kS, kE, los, loe, LF1⟩ := hQ128
    have N128 := Fr.app N126 N128q
    refine g_astore X128 hx hby at_178 rfl (l' := #[.val (.int p0), .val (.int p1), .val (.int p2), .val (.int p3), .val (.int p4), .val (.int p5), .val (.int (1 : Int32)), .val (.int (2 : Int32)), .val (.int fd), .val (.int (own_draw p1)), .val (.int (own_draw p2)), .val (.int (own_draw p3)), .val (.int (own_draw p4)), .val (.int (((p5.toUInt32 >>> ((8 : Int32) &&& 31).toUInt32).toInt32).toInt8.toInt32)), .val (.ref b5), .val (.int (5 : Int32)), .val (.ref b127), .unset]) rfl ?_
    refine g_aload X128 hx hby at_180 rfl rfl ?_
    refine g_aload X128 hx hby at_182 rfl rfl ?_
    refine g_iconst X128 hx hby (1 : Int32) at_184 rfl ?_
    refine g_iload X128 hx hby at_185 rfl ?_
    have g_as : n0 ≤ as := Nat.le_trans z129 los
    have g_ae : n0 ≤ ae := Nat.le_trans z129 loe
    have ne131 : b5 ≠ b127 := (Nat.ne_of_lt (Nat.lt_of_lt_of_le V5.lt (Nat.le_trans (Nat.le_trans (Nat.le_trans (Nat.le_trans (Nat.le_trans (Nat.le_trans (Nat.le_trans (Nat.le_trans (Nat.le_trans (Nat.le_trans (Keep.of_wr W6).1 (Keep.of_wr W7).1) (Keep.of_wr W8).1) (Keep.of_wr W9).1) (Keep.of_wr W10).1) (Keep.of_wr W11).1) (Keep.of_wr W123).1) (Keep.of_wr W124).1) (Keep.of_wr W125).1) (Keep.of_wr W126).1) (Nat.le_of_eq g127))))
    have f132 := ((V126.ext E127).keep K128 (ninS ne131 nin0))
    have ne133 : b5 ≠ as := (Nat.ne_of_lt (Nat.lt_of_lt_of_le V5.lt (Nat.le_trans (Nat.le_trans (Nat.le_trans (Nat.le_trans (Nat.le_trans (Nat.le_trans (Nat.le_trans (Nat.le_trans (Nat.le_trans (Nat.le_trans (Nat.le_trans (Keep.of_wr W6).1 (Keep.of_wr W7).1) (Keep.of_wr W8).1) (Keep.of_wr W9).1) (Keep.of_wr W10).1) (Keep.of_wr W11).1) (Keep.of_wr W123).1) (Keep.of_wr W124).1) (Keep.of_wr W125).1) (Keep.of_wr W126).1) E127.1) los)))
    have ne134 : b5 ≠ ae := (Nat.ne_of_lt (Nat.lt_of_lt_of_le V5.lt (Nat.le_trans (Nat.le_trans (Nat.le_trans (Nat.le_trans (Nat.le_trans (Nat.le_trans (Nat.le_trans (Nat.le_trans (Nat.le_trans (Nat.le_trans (Nat.le_trans (Keep.of_wr W6).1 (Keep.of_wr W7).1) (Keep.of_wr W8).1) (Keep.of_wr W9).1) (Keep.of_wr W10).1) (Keep.of_wr W11).1) (Keep.of_wr W123).1) (Keep.of_wr W124).1) (Keep.of_wr W125).1) (Keep.of_wr W126).1) E127.1) loe)))
    have z135 := (Nat.le_trans z129 K128.1)
    have f136 := (A127.keep K128)
    refine g_virtual X128 hx hby hZ hown (rm_split12 l Z a0 hw [] b127 bb as ae kS kE b5 k5 (nar .byte (p5.toInt8.toInt32)) (nar .byte (own_draw p1)) (nar .byte (own_draw p3)) (nar .byte (own_draw p4)) (nar .byte (((p5.toUInt32 >>> ((8 : Int32) &&& 31).toUInt32).toInt32).toInt8.toInt32)) T128.heap n0 z135 LF1 g_b127 g_as g_ae f132 ne131 ne133 ne134 (own_draw_ne _) (own_draw_ne _) (own_draw_ne _)) w23_ w24_ (notFace_of_selects (args := #[]) (mvT hZ w26_)) w26_ w25_ w7_ w27_ (by decide) rfl f136 (by rw [hml]; rfl) [(.ref b5), (.int (1 : Int32)), (.int (5 : Int32))] (lenOf own_pd3 rfl) rfl rfl (Nat.le_of_ble_eq_true rfl) (Nat.le_of_ble_eq_true rfl) (Nat.le_of_ble_eq_true rfl) (Nat.le_of_ble_eq_true rfl) at_187 (fun v130 T130 L130 X130 hQ130 => ?_)
    obtain ⟨rfl, N130q, K130, LF2⟩ := hQ130
    have N130 := Fr.app N128 N130q
    refine g_iload X130 hx hby at_190 rfl ?_
    rcases c_fd with rfl | rfl
    · -- field 0
      refine g_ifN X130 hx hby at_192 (teq (by decide : (0 : Int32) = (0 : Int32))).2 ?_
      refine g_at 195 rfl rfl rfl ?_
      refine g_iload X130 hx hby at_195 rfl ?_
      refine g_iload X130 hx hby at_197 rfl ?_
      have z138 := (Nat.le_trans z135 K130.1)
      refine g_static X130 hx hby hZ hown (rm_expd l Z a0 hw [] (1 : Int32) (own_draw p1) T130.heap n0 z138 ) w32_ w33_ w2_ w34_ (by decide) rfl (by rw [hml]; rfl) [(.int (1 : Int32)), (.int (own_draw p1))] (lenOf own_pd4 rfl) rfl rfl (Nat.le_of_ble_eq_true rfl) (Nat.le_of_ble_eq_true rfl) (Nat.le_of_ble_eq_true rfl) (Nat.le_of_ble_eq_true rfl) at_199 (fun v137 T137 L137 X137 hQ137 => ?_)
      obtain ⟨rfl, N137q, eh137⟩ := hQ137
      have N137 := Fr.app N130 N137q
      refine g_goto X137 hx hby 212 at_202 (by decide) (by decide) ?_
      refine g_istore X137 hx hby at_212 (l' := #[.val (.int p0), .val (.int p1), .val (.int p2), .val (.int p3), .val (.int p4), .val (.int p5), .val (.int (1 : Int32)), .val (.int (2 : Int32)), .val (.int (0 : Int32)), .val (.int (own_draw p1)), .val (.int (own_draw p2)), .val (.int (own_draw p3)), .val (.int (own_draw p4)), .val (.int (((p5.toUInt32 >>> ((8 : Int32) &&& 31).toUInt32).toInt32).toInt8.toInt32)), .val (.ref b5), .val (.int (5 : Int32)), .val (.ref b127), .val (.int (own_expct (1 : Int32) (own_draw p1)))]) rfl ?_
      refine g_aload X137 hx hby at_214 rfl rfl ?_
      refine g_iload X137 hx hby at_216 rfl ?_
      have f140 := (f132.keep K130 (ninS ne131 (ninS ne133 (ninS ne134 nin0))))
      have f141 := (f136.keep K130)
      refine g_virtual X137 hx hby hZ hown (rm_dig0 l Z a0 hw [] b127 b5 as ae kS kE (1 : Int32) (3 : Int32) (2 : Int32) (5 : Int32) k5 (nar .byte (p5.toInt8.toInt32)) (nar .byte (own_draw p1)) (44 : Int32) (nar .byte (own_draw p3)) (nar .byte (own_draw p4)) (nar .byte (((p5.toUInt32 >>> ((8 : Int32) &&& 31).toUInt32).toInt32).toInt8.toInt32)) (nar .byte (own_draw p1)) (1 : Int32) T130.heap n0 z138 LF2 f140 (by decide) (fun _ => ⟨⟨by decide, by decide⟩, rfl⟩)) w35_ w36_ (notFace_of_selects (args := #[]) (mvT hZ w38_)) w38_ w37_ w7_ w39_ (by decide) eh137 f141 (by rw [hml]; rfl) [(.int (0 : Int32))] (lenOf own_pd5 rfl) rfl rfl (Nat.le_of_ble_eq_true rfl) (Nat.le_of_ble_eq_true rfl) (Nat.le_of_ble_eq_true rfl) (Nat.le_of_ble_eq_true rfl) at_218 (fun v139 T139 L139 X139 hQ139 => ?_)
      obtain ⟨rfl, N139q, eh139⟩ := hQ139
      have N139 := Fr.app N137 N139q
      refine g_iload X139 hx hby at_221 rfl ?_
      refine g_icN X139 hx hby at_223 (teq ((own_fin1 _) : (own_dig (1 : Int32) (nar .byte (own_draw p1))) = (own_expct (1 : Int32) (own_draw p1)))).2 ?_
      refine g_iconst X139 hx hby (1 : Int32) at_226 rfl ?_
      refine g_goto X139 hx hby 231 at_227 (by decide) (by decide) ?_
      refine g_nret X139 hx hby (t := .boolean) (by simp) Bd.returns Bd.notSynchronized at_231 eh139 (by decide) (by decide) ?_
      show (Q_law Z p0 p1 p2 p3 p4 p5 h0 n0) (some (.int (1 : Int32))) _ _
      exact ⟨rfl, N139⟩
    · -- field 1
      refine g_ifY X130 hx hby 205 at_192 (feq (by decide : ¬ ((1 : Int32) = (0 : Int32)))).2 (by decide) (by decide) ?_
      refine g_iload X130 hx hby at_205 rfl ?_
      refine g_iload X130 hx hby at_207 rfl ?_
      have z143 := (Nat.le_trans z135 K130.1)
      refine g_static X130 hx hby hZ hown (rm_expd l Z a0 hw [] (2 : Int32) (own_draw p3) T130.heap n0 z143 ) w32_ w33_ w2_ w34_ (by decide) rfl (by rw [hml]; rfl) [(.int (2 : Int32)), (.int (own_draw p3))] (lenOf own_pd4 rfl) rfl rfl (Nat.le_of_ble_eq_true rfl) (Nat.le_of_ble_eq_true rfl) (Nat.le_of_ble_eq_true rfl) (Nat.le_of_ble_eq_true rfl) at_209 (fun v142 T142 L142 X142 hQ142 => ?_)
      obtain ⟨rfl, N142q, eh142⟩ := hQ142
      have N142 := Fr.app N130 N142q
      refine g_istore X142 hx hby at_212 (l' := #[.val (.int p0), .val (.int p1), .val (.int p2), .val (.int p3), .val (.int p4), .val (.int p5), .val (.int (1 : Int32)), .val (.int (2 : Int32)), .val (.int (1 : Int32)), .val (.int (own_draw p1)), .val (.int (own_draw p2)), .val (.int (own_draw p3)), .val (.int (own_draw p4)), .val (.int (((p5.toUInt32 >>> ((8 : Int32) &&& 31).toUInt32).toInt32).toInt8.toInt32)), .val (.ref b5), .val (.int (5 : Int32)), .val (.ref b127), .val (.int (own_expct (2 : Int32) (own_draw p3)))]) rfl ?_
      refine g_aload X142 hx hby at_214 rfl rfl ?_
      refine g_iload X142 hx hby at_216 rfl ?_
      have f145 := (f132.keep K130 (ninS ne131 (ninS ne133 (ninS ne134 nin0))))
      have f146 := (f136.keep K130)
      refine g_virtual X142 hx hby hZ hown (rm_dig1 l Z a0 hw [] b127 b5 as ae kS kE (1 : Int32) (3 : Int32) (2 : Int32) (5 : Int32) k5 (nar .byte (p5.toInt8.toInt32)) (nar .byte (own_draw p1)) (44 : Int32) (nar .byte (own_draw p3)) (nar .byte (own_draw p4)) (nar .byte (((p5.toUInt32 >>> ((8 : Int32) &&& 31).toUInt32).toInt32).toInt8.toInt32)) (0 : Int32) (2 : Int32) T130.heap n0 z143 LF2 f145 (by decide) (fun q => absurd q (by decide))) w35_ w36_ (notFace_of_selects (args := #[]) (mvT hZ w38_)) w38_ w37_ w7_ w39_ (by decide) eh142 f146 (by rw [hml]; rfl) [(.int (1 : Int32))] (lenOf own_pd5 rfl) rfl rfl (Nat.le_of_ble_eq_true rfl) (Nat.le_of_ble_eq_true rfl) (Nat.le_of_ble_eq_true rfl) (Nat.le_of_ble_eq_true rfl) at_218 (fun v144 T144 L144 X144 hQ144 => ?_)
      obtain ⟨rfl, N144q, eh144⟩ := hQ144
      have N144 := Fr.app N142 N144q
      refine g_iload X144 hx hby at_221 rfl ?_
      refine g_icN X144 hx hby at_223 (teq ((own_fin0 (by decide) (by decide)) : (own_dig (2 : Int32) (0 : Int32)) = (own_expct (2 : Int32) (own_draw p3)))).2 ?_
      refine g_iconst X144 hx hby (1 : Int32) at_226 rfl ?_
      refine g_goto X144 hx hby 231 at_227 (by decide) (by decide) ?_
      refine g_nret X144 hx hby (t := .boolean) (by simp) Bd.returns Bd.notSynchronized at_231 eh144 (by decide) (by decide) ?_
      show (Q_law Z p0 p1 p2 p3 p4 p5 h0 n0) (some (.int (1 : Int32))) _ _
      exact ⟨rfl, N144⟩
  · -- lengths 2, 0
    refine g_iload X11 hx hby at_99 rfl ?_
    refine g_iconst X11 hx hby (1 : Int32) at_101 rfl ?_
    refine g_icN X11 hx hby at_102 (flt (by decide : ¬ ((2 : Int32) < (1 : Int32)))).1 ?_
    refine g_aload X11 hx hby at_105 rfl rfl ?_
    refine g_iconst X11 hx hby (1 : Int32) at_107 rfl ?_
    refine g_iload X11 hx hby at_108 rfl ?_
    refine g_bastore X11 hx hby hZ e11 V11 1 [(.int (nar .byte (p5.toInt8.toInt32))), (.int (nar .byte (own_draw p1))), (.int (nar .byte (((p5.toUInt32 >>> ((8 : Int32) &&& 31).toUInt32).toInt32).toInt8.toInt32))), (.int (nar .byte (((p5.toUInt32 >>> ((8 : Int32) &&& 31).toUInt32).toInt32).toInt8.toInt32))), (.int (nar .byte (((p5.toUInt32 >>> ((8 : Int32) &&& 31).toUInt32).toInt32).toInt8.toInt32))), (.int (nar .byte (((p5.toUInt32 >>> ((8 : Int32) &&& 31).toUInt32).toInt32).toInt8.toInt32)))] rfl ⟨by decide, by decide⟩ rfl (Nat.le_of_ble_eq_true rfl) N11 g_b5 at_110 (fun T147 h147 X147 e147 W147 V147 N147 => ?_)
    refine g_iload X147 hx hby at_111 rfl ?_
    refine g_iconst X147 hx hby (2 : Int32) at_113 rfl ?_
    refine g_icN X147 hx hby at_114 (teq (by decide : (2 : Int32) = (2 : Int32))).2 ?_
    refine g_aload X147 hx hby at_117 rfl rfl ?_
    refine g_iconst X147 hx hby (2 : Int32) at_119 rfl ?_
    refine g_iload X147 hx hby at_120 rfl ?_
    refine g_bastore X147 hx hby hZ e147 V147 2 [(.int (nar .byte (p5.toInt8.toInt32))), (.int (nar .byte (own_draw p1))), (.int (nar .byte (own_draw p2))), (.int (nar .byte (((p5.toUInt32 >>> ((8 : Int32) &&& 31).toUInt32).toInt32).toInt8.toInt32))), (.int (nar .byte (((p5.toUInt32 >>> ((8 : Int32) &&& 31).toUInt32).toInt32).toInt8.toInt32))), (.int (nar .byte (((p5.toUInt32 >>> ((8 : Int32) &&& 31).toUInt32).toInt32).toInt8.toInt32)))] rfl ⟨by decide, by decide⟩ rfl (Nat.le_of_ble_eq_true rfl) N147 g_b5 at_122 (fun T148 h148 X148 e148 W148 V148 N148 => ?_)
    refine g_aload X148 hx hby at_123 rfl rfl ?_
    refine g_iconst X148 hx hby (1 : Int32) at_125 rfl ?_
    refine g_iload X148 hx hby at_126 rfl ?_
    refine g_iadd X148 hx hby at_128 ?_
    refine g_topI (3 : Int32) (by decide) ?_
    refine g_bipush X148 hx hby (44 : Int32) at_129 rfl ?_
    refine g_bastore X148 hx hby hZ e148 V148 3 [(.int (nar .byte (p5.toInt8.toInt32))), (.int (nar .byte (own_draw p1))), (.int (nar .byte (own_draw p2))), (.int (44 : Int32)), (.int (nar .byte (((p5.toUInt32 >>> ((8 : Int32) &&& 31).toUInt32).toInt32).toInt8.toInt32))), (.int (nar .byte (((p5.toUInt32 >>> ((8 : Int32) &&& 31).toUInt32).toInt32).toInt8.toInt32)))] rfl ⟨by decide, by decide⟩ rfl (Nat.le_of_ble_eq_true rfl) N148 g_b5 at_131 (fun T149 h149 X149 e149 W149 V149 N149 => ?_)
    refine g_at 132 rfl rfl rfl ?_
    refine g_iload X149 hx hby at_132 rfl ?_
    refine g_iconst X149 hx hby (1 : Int32) at_134 rfl ?_
    refine g_icY X149 hx hby 147 at_135 (tlt (by decide : (0 : Int32) < (1 : Int32))).1 (by decide) (by decide) ?_
    refine g_iload X149 hx hby at_147 rfl ?_
    refine g_iconst X149 hx hby (2 : Int32) at_149 rfl ?_
    refine g_icY X149 hx hby 162 at_150 (feq (by decide : ¬ ((0 : Int32) = (2 : Int32)))).2 (by decide) (by decide) ?_
    refine g_iconst X149 hx hby (2 : Int32) at_162 rfl ?_
    refine g_iload X149 hx hby at_163 rfl ?_
    refine g_iadd X149 hx hby at_165 ?_
    refine g_topI (4 : Int32) (by decide) ?_
    refine g_iload X149 hx hby at_166 rfl ?_
    refine g_iadd X149 hx hby at_168 ?_
    refine g_topI (4 : Int32) (by decide) ?_
    refine g_istore X149 hx hby at_169 (l' := #[.val (.int p0), .val (.int p1), .val (.int p2), .val (.int p3), .val (.int p4), .val (.int p5), .val (.int (2 : Int32)), .val (.int (0 : Int32)), .val (.int fd), .val (.int (own_draw p1)), .val (.int (own_draw p2)), .val (.int (own_draw p3)), .val (.int (own_draw p4)), .val (.int (((p5.toUInt32 >>> ((8 : Int32) &&& 31).toUInt32).toInt32).toInt8.toInt32)), .val (.ref b5), .val (.int (4 : Int32)), .unset, .unset]) rfl ?_
    refine g_new X149 hx hby hZ hown w5_ w6_ w7_ e149 (by decide) (by decide) at_171 (fun T150 h150 b150 g150 X150 e150 E150 A150 D150 => ?_)
    have F_bytes_b150 : Fld Z h150 b150 "com/example/tidegate/tidegate/venue/LineFields" "bytes" "[B" .null := D150 (Or.inl w15_) (ty := (.array .byte)) (by decide)
    have F_width_b150 : Fld Z h150 b150 "com/example/tidegate/tidegate/venue/LineFields" "width" "I" (.int (0 : Int32)) := D150 (Or.inl w17_) (ty := .int) (by decide)
    have F_starts_b150 : Fld Z h150 b150 "com/example/tidegate/tidegate/venue/LineFields" "starts" "[I" .null := D150 (Or.inl w20_) (ty := (.array .int)) (by decide)
    have F_ends_b150 : Fld Z h150 b150 "com/example/tidegate/tidegate/venue/LineFields" "ends" "[I" .null := D150 (Or.inl w22_) (ty := (.array .int)) (by decide)
    refine g_dup X150 hx hby at_174 rfl ?_
    have g_b150 : n0 ≤ b150 := Nat.le_trans (Nat.le_trans Z0 (Nat.le_trans (Nat.le_trans (Nat.le_trans (Nat.le_trans (Nat.le_trans (Nat.le_trans (Nat.le_trans (Nat.le_trans (Nat.le_trans E5.1 (Keep.of_wr W6).1) (Keep.of_wr W7).1) (Keep.of_wr W8).1) (Keep.of_wr W9).1) (Keep.of_wr W10).1) (Keep.of_wr W11).1) (Keep.of_wr W147).1) (Keep.of_wr W148).1) (Keep.of_wr W149).1)) (Nat.le_of_eq g150)
    have z152 := (Nat.le_trans Z0 (Nat.le_trans (Nat.le_trans (Nat.le_trans (Nat.le_trans (Nat.le_trans (Nat.le_trans (Nat.le_trans (Nat.le_trans (Nat.le_trans (Nat.le_trans E5.1 (Keep.of_wr W6).1) (Keep.of_wr W7).1) (Keep.of_wr W8).1) (Keep.of_wr W9).1) (Keep.of_wr W10).1) (Keep.of_wr W11).1) (Keep.of_wr W147).1) (Keep.of_wr W148).1) (Keep.of_wr W149).1) E150.1))
    refine g_special X150 hx hby hZ hown (rm_ini l Z a0 hw [] b150 h150 n0 z152 A150 F_bytes_b150 F_width_b150 F_starts_b150 F_ends_b150 g_b150) rfl rfl w8_ w9_ w7_ w10_ (by decide) e150 (by rw [hml]; rfl) [] (lenOf own_pd2 rfl) rfl rfl (Nat.le_of_ble_eq_true rfl) (Nat.le_of_ble_eq_true rfl) (Nat.le_of_ble_eq_true rfl) (Nat.le_of_ble_eq_true rfl) at_175 (fun v151 T151 L151 X151 hQ151 => ?_)
    obtain ⟨rfl, N151q, K151, bb, as, ae, kS, kE, los, loe, LF1⟩ := hQ151
    have N151 := Fr.app N149 N151q
    refine g_astore X151 hx hby at_178 rfl (l' := #[.val (.int p0), .val (.int p1), .val (.int p2), .val (.int p3), .val (.int p4), .val (.int p5), .val (.int (2 : Int32)), .val (.int (0 : Int32)), .val (.int fd), .val (.int (own_draw p1)), .val (.int (own_draw p2)), .val (.int (own_draw p3)), .val (.int (own_draw p4)), .val (.int (((p5.toUInt32 >>> ((8 : Int32) &&& 31).toUInt32).toInt32).toInt8.toInt32)), .val (.ref b5), .val (.int (4 : Int32)), .val (.ref b150), .unset]) rfl ?_
    refine g_aload X151 hx hby at_180 rfl rfl ?_
    refine g_aload X151 hx hby at_182 rfl rfl ?_
    refine g_iconst X151 hx hby (1 : Int32) at_184 rfl ?_
    refine g_iload X151 hx hby at_185 rfl ?_
    have g_as : n0 ≤ as := Nat.le_trans z152 los
    have g_ae : n0 ≤ ae := Nat.le_trans z152 loe
    have ne154 : b5 ≠ b150 := (Nat.ne_of_lt (Nat.lt_of_lt_of_le V5.lt (Nat.le_trans (Nat.le_trans (Nat.le_trans (Nat.le_trans (Nat.le_trans (Nat.le_trans (Nat.le_trans (Nat.le_trans (Nat.le_trans (Keep.of_wr W6).1 (Keep.of_wr W7).1) (Keep.of_wr W8).1) (Keep.of_wr W9).1) (Keep.of_wr W10).1) (Keep.of_wr W11).1) (Keep.of_wr W147).1) (Keep.of_wr W148).1) (Keep.of_wr W149).1) (Nat.le_of_eq g150))))
    have f155 := ((V149.ext E150).keep K151 (ninS ne154 nin0))
    have ne156 : b5 ≠ as := (Nat.ne_of_lt (Nat.lt_of_lt_of_le V5.lt (Nat.le_trans (Nat.le_trans (Nat.le_trans (Nat.le_trans (Nat.le_trans (Nat.le_trans (Nat.le_trans (Nat.le_trans (Nat.le_trans (Nat.le_trans (Keep.of_wr W6).1 (Keep.of_wr W7).1) (Keep.of_wr W8).1) (Keep.of_wr W9).1) (Keep.of_wr W10).1) (Keep.of_wr W11).1) (Keep.of_wr W147).1) (Keep.of_wr W148).1) (Keep.of_wr W149).1) E150.1) los)))
    have ne157 : b5 ≠ ae := (Nat.ne_of_lt (Nat.lt_of_lt_of_le V5.lt (Nat.le_trans (Nat.le_trans (Nat.le_trans (Nat.le_trans (Nat.le_trans (Nat.le_trans (Nat.le_trans (Nat.le_trans (Nat.le_trans (Nat.le_trans (Keep.of_wr W6).1 (Keep.of_wr W7).1) (Keep.of_wr W8).1) (Keep.of_wr W9).1) (Keep.of_wr W10).1) (Keep.of_wr W11).1) (Keep.of_wr W147).1) (Keep.of_wr W148).1) (Keep.of_wr W149).1) E150.1) loe)))
    have z158 := (Nat.le_trans z152 K151.1)
    have f159 := (A150.keep K151)
    refine g_virtual X151 hx hby hZ hown (rm_split20 l Z a0 hw [] b150 bb as ae kS kE b5 k5 (nar .byte (p5.toInt8.toInt32)) (nar .byte (own_draw p1)) (nar .byte (own_draw p2)) (nar .byte (((p5.toUInt32 >>> ((8 : Int32) &&& 31).toUInt32).toInt32).toInt8.toInt32)) (nar .byte (((p5.toUInt32 >>> ((8 : Int32) &&& 31).toUInt32).toInt32).toInt8.toInt32)) T151.heap n0 z158 LF1 g_b150 g_as g_ae f155 ne154 ne156 ne157 (own_draw_ne _) (own_draw_ne _)) w23_ w24_ (notFace_of_selects (args := #[]) (mvT hZ w26_)) w26_ w25_ w7_ w27_ (by decide) rfl f159 (by rw [hml]; rfl) [(.ref b5), (.int (1 : Int32)), (.int (4 : Int32))] (lenOf own_pd3 rfl) rfl rfl (Nat.le_of_ble_eq_true rfl) (Nat.le_of_ble_eq_true rfl) (Nat.le_of_ble_eq_true rfl) (Nat.le_of_ble_eq_true rfl) at_187 (fun v153 T153 L153 X153 hQ153 => ?_)
    obtain ⟨rfl, N153q, K153, LF2⟩ := hQ153
    have N153 := Fr.app N151 N153q
    refine g_at 190 rfl rfl rfl ?_
    refine g_iload X153 hx hby at_190 rfl ?_
    rcases c_fd with rfl | rfl
    · -- field 0
      refine g_ifN X153 hx hby at_192 (teq (by decide : (0 : Int32) = (0 : Int32))).2 ?_
      refine g_iload X153 hx hby at_195 rfl ?_
      refine g_iload X153 hx hby at_197 rfl ?_
      have z161 := (Nat.le_trans z158 K153.1)
      refine g_static X153 hx hby hZ hown (rm_expd l Z a0 hw [] (2 : Int32) (own_draw p1) T153.heap n0 z161 ) w32_ w33_ w2_ w34_ (by decide) rfl (by rw [hml]; rfl) [(.int (2 : Int32)), (.int (own_draw p1))] (lenOf own_pd4 rfl) rfl rfl (Nat.le_of_ble_eq_true rfl) (Nat.le_of_ble_eq_true rfl) (Nat.le_of_ble_eq_true rfl) (Nat.le_of_ble_eq_true rfl) at_199 (fun v160 T160 L160 X160 hQ160 => ?_)
      obtain ⟨rfl, N160q, eh160⟩ := hQ160
      have N160 := Fr.app N153 N160q
      refine g_goto X160 hx hby 212 at_202 (by decide) (by decide) ?_
      refine g_istore X160 hx hby at_212 (l' := #[.val (.int p0), .val (.int p1), .val (.int p2), .val (.int p3), .val (.int p4), .val (.int p5), .val (.int (2 : Int32)), .val (.int (0 : Int32)), .val (.int (0 : Int32)), .val (.int (own_draw p1)), .val (.int (own_draw p2)), .val (.int (own_draw p3)), .val (.int (own_draw p4)), .val (.int (((p5.toUInt32 >>> ((8 : Int32) &&& 31).toUInt32).toInt32).toInt8.toInt32)), .val (.ref b5), .val (.int (4 : Int32)), .val (.ref b150), .val (.int (own_expct (2 : Int32) (own_draw p1)))]) rfl ?_
      refine g_aload X160 hx hby at_214 rfl rfl ?_
      refine g_iload X160 hx hby at_216 rfl ?_
      have f163 := (f155.keep K153 (ninS ne154 (ninS ne156 (ninS ne157 nin0))))
      have f164 := (f159.keep K153)
      refine g_virtual X160 hx hby hZ hown (rm_dig0 l Z a0 hw [] b150 b5 as ae kS kE (1 : Int32) (4 : Int32) (3 : Int32) (4 : Int32) k5 (nar .byte (p5.toInt8.toInt32)) (nar .byte (own_draw p1)) (nar .byte (own_draw p2)) (44 : Int32) (nar .byte (((p5.toUInt32 >>> ((8 : Int32) &&& 31).toUInt32).toInt32).toInt8.toInt32)) (nar .byte (((p5.toUInt32 >>> ((8 : Int32) &&& 31).toUInt32).toInt32).toInt8.toInt32)) (0 : Int32) (2 : Int32) T153.heap n0 z161 LF2 f163 (by decide) (fun q => absurd q (by decide))) w35_ w36_ (notFace_of_selects (args := #[]) (mvT hZ w38_)) w38_ w37_ w7_ w39_ (by decide) eh160 f164 (by rw [hml]; rfl) [(.int (0 : Int32))] (lenOf own_pd5 rfl) rfl rfl (Nat.le_of_ble_eq_true rfl) (Nat.le_of_ble_eq_true rfl) (Nat.le_of_ble_eq_true rfl) (Nat.le_of_ble_eq_true rfl) at_218 (fun v162 T162 L162 X162 hQ162 => ?_)
      obtain ⟨rfl, N162q, eh162⟩ := hQ162
      have N162 := Fr.app N160 N162q
      refine g_iload X162 hx hby at_221 rfl ?_
      refine g_icN X162 hx hby at_223 (teq ((own_fin0 (by decide) (by decide)) : (own_dig (2 : Int32) (0 : Int32)) = (own_expct (2 : Int32) (own_draw p1)))).2 ?_
      refine g_iconst X162 hx hby (1 : Int32) at_226 rfl ?_
      refine g_goto X162 hx hby 231 at_227 (by decide) (by decide) ?_
      refine g_nret X162 hx hby (t := .boolean) (by simp) Bd.returns Bd.notSynchronized at_231 eh162 (by decide) (by decide) ?_
      show (Q_law Z p0 p1 p2 p3 p4 p5 h0 n0) (some (.int (1 : Int32))) _ _
      exact ⟨rfl, N162⟩
    · -- field 1
      refine g_ifY X153 hx hby 205 at_192 (feq (by decide : ¬ ((1 : Int32) = (0 : Int32)))).2 (by decide) (by decide) ?_
      refine g_iload X153 hx hby at_205 rfl ?_
      refine g_iload X153 hx hby at_207 rfl ?_
      have z166 := (Nat.le_trans z158 K153.1)
      refine g_static X153 hx hby hZ hown (rm_expd l Z a0 hw [] (0 : Int32) (own_draw p3) T153.heap n0 z166 ) w32_ w33_ w2_ w34_ (by decide) rfl (by rw [hml]; rfl) [(.int (0 : Int32)), (.int (own_draw p3))] (lenOf own_pd4 rfl) rfl rfl (Nat.le_of_ble_eq_true rfl) (Nat.le_of_ble_eq_true rfl) (Nat.le_of_ble_eq_true rfl) (Nat.le_of_ble_eq_true rfl) at_209 (fun v165 T165 L165 X165 hQ165 => ?_)
      obtain ⟨rfl, N165q, eh165⟩ := hQ165
      have N165 := Fr.app N153 N165q
      refine g_istore X165 hx hby at_212 (l' := #[.val (.int p0), .val (.int p1), .val (.int p2), .val (.int p3), .val (.int p4), .val (.int p5), .val (.int (2 : Int32)), .val (.int (0 : Int32)), .val (.int (1 : Int32)), .val (.int (own_draw p1)), .val (.int (own_draw p2)), .val (.int (own_draw p3)), .val (.int (own_draw p4)), .val (.int (((p5.toUInt32 >>> ((8 : Int32) &&& 31).toUInt32).toInt32).toInt8.toInt32)), .val (.ref b5), .val (.int (4 : Int32)), .val (.ref b150), .val (.int (own_expct (0 : Int32) (own_draw p3)))]) rfl ?_
      refine g_aload X165 hx hby at_214 rfl rfl ?_
      refine g_iload X165 hx hby at_216 rfl ?_
      have f168 := (f155.keep K153 (ninS ne154 (ninS ne156 (ninS ne157 nin0))))
      have f169 := (f159.keep K153)
      refine g_virtual X165 hx hby hZ hown (rm_dig1 l Z a0 hw [] b150 b5 as ae kS kE (1 : Int32) (4 : Int32) (3 : Int32) (4 : Int32) k5 (nar .byte (p5.toInt8.toInt32)) (nar .byte (own_draw p1)) (nar .byte (own_draw p2)) (44 : Int32) (nar .byte (((p5.toUInt32 >>> ((8 : Int32) &&& 31).toUInt32).toInt32).toInt8.toInt32)) (nar .byte (((p5.toUInt32 >>> ((8 : Int32) &&& 31).toUInt32).toInt32).toInt8.toInt32)) (0 : Int32) (0 : Int32) T153.heap n0 z166 LF2 f168 (by decide) (fun q => absurd q (by decide))) w35_ w36_ (notFace_of_selects (args := #[]) (mvT hZ w38_)) w38_ w37_ w7_ w39_ (by decide) eh165 f169 (by rw [hml]; rfl) [(.int (1 : Int32))] (lenOf own_pd5 rfl) rfl rfl (Nat.le_of_ble_eq_true rfl) (Nat.le_of_ble_eq_true rfl) (Nat.le_of_ble_eq_true rfl) (Nat.le_of_ble_eq_true rfl) at_218 (fun v167 T167 L167 X167 hQ167 => ?_)
      obtain ⟨rfl, N167q, eh167⟩ := hQ167
      have N167 := Fr.app N165 N167q
      refine g_iload X167 hx hby at_221 rfl ?_
      refine g_icN X167 hx hby at_223 (teq ((own_fin0 (by decide) (by decide)) : (own_dig (0 : Int32) (0 : Int32)) = (own_expct (0 : Int32) (own_draw p3)))).2 ?_
      refine g_iconst X167 hx hby (1 : Int32) at_226 rfl ?_
      refine g_goto X167 hx hby 231 at_227 (by decide) (by decide) ?_
      refine g_nret X167 hx hby (t := .boolean) (by simp) Bd.returns Bd.notSynchronized at_231 eh167 (by decide) (by decide) ?_
      show (Q_law Z p0 p1 p2 p3 p4 p5 h0 n0) (some (.int (1 : Int32))) _ _
      exact ⟨rfl, N167⟩
  · -- lengths 2, 1
    refine g_iload X11 hx hby at_99 rfl ?_
    refine g_iconst X11 hx hby (1 : Int32) at_101 rfl ?_
    refine g_icN X11 hx hby at_102 (flt (by decide : ¬ ((2 : Int32) < (1 : Int32)))).1 ?_
    refine g_aload X11 hx hby at_105 rfl rfl ?_
    refine g_iconst X11 hx hby (1 : Int32) at_107 rfl ?_
    refine g_iload X11 hx hby at_108 rfl ?_
    refine g_bastore X11 hx hby hZ e11 V11 1 [(.int (nar .byte (p5.toInt8.toInt32))), (.int (nar .byte (own_draw p1))), (.int (nar .byte (((p5.toUInt32 >>> ((8 : Int32) &&& 31).toUInt32).toInt32).toInt8.toInt32))), (.int (nar .byte (((p5.toUInt32 >>> ((8 : Int32) &&& 31).toUInt32).toInt32).toInt8.toInt32))), (.int (nar .byte (((p5.toUInt32 >>> ((8 : Int32) &&& 31).toUInt32).toInt32).toInt8.toInt32))), (.int (nar .byte (((p5.toUInt32 >>> ((8 : Int32) &&& 31).toUInt32).toInt32).toInt8.toInt32)))] rfl ⟨by decide, by decide⟩ rfl (Nat.le_of_ble_eq_true rfl) N11 g_b5 at_110 (fun T170 h170 X170 e170 W170 V170 N170 => ?_)
    refine g_iload X170 hx hby at_111 rfl ?_
    refine g_iconst X170 hx hby (2 : Int32) at_113 rfl ?_
    refine g_icN X170 hx hby at_114 (teq (by decide : (2 : Int32) = (2 : Int32))).2 ?_
    refine g_aload X170 hx hby at_117 rfl rfl ?_
    refine g_iconst X170 hx hby (2 : Int32) at_119 rfl ?_
    refine g_iload X170 hx hby at_120 rfl ?_
    refine g_bastore X170 hx hby hZ e170 V170 2 [(.int (nar .byte (p5.toInt8.toInt32))), (.int (nar .byte (own_draw p1))), (.int (nar .byte (own_draw p2))), (.int (nar .byte (((p5.toUInt32 >>> ((8 : Int32) &&& 31).toUInt32).toInt32).toInt8.toInt32))), (.int (nar .byte (((p5.toUInt32 >>> ((8 : Int32) &&& 31).toUInt32).toInt32).toInt8.toInt32))), (.int (nar .byte (((p5.toUInt32 >>> ((8 : Int32) &&& 31).toUInt32).toInt32).toInt8.toInt32)))] rfl ⟨by decide, by decide⟩ rfl (Nat.le_of_ble_eq_true rfl) N170 g_b5 at_122 (fun T171 h171 X171 e171 W171 V171 N171 => ?_)
    refine g_aload X171 hx hby at_123 rfl rfl ?_
    refine g_iconst X171 hx hby (1 : Int32) at_125 rfl ?_
    refine g_iload X171 hx hby at_126 rfl ?_
    refine g_iadd X171 hx hby at_128 ?_
    refine g_topI (3 : Int32) (by decide) ?_
    refine g_bipush X171 hx hby (44 : Int32) at_129 rfl ?_
    refine g_bastore X171 hx hby hZ e171 V171 3 [(.int (nar .byte (p5.toInt8.toInt32))), (.int (nar .byte (own_draw p1))), (.int (nar .byte (own_draw p2))), (.int (44 : Int32)), (.int (nar .byte (((p5.toUInt32 >>> ((8 : Int32) &&& 31).toUInt32).toInt32).toInt8.toInt32))), (.int (nar .byte (((p5.toUInt32 >>> ((8 : Int32) &&& 31).toUInt32).toInt32).toInt8.toInt32)))] rfl ⟨by decide, by decide⟩ rfl (Nat.le_of_ble_eq_true rfl) N171 g_b5 at_131 (fun T172 h172 X172 e172 W172 V172 N172 => ?_)
    refine g_at 132 rfl rfl rfl ?_
    refine g_iload X172 hx hby at_132 rfl ?_
    refine g_iconst X172 hx hby (1 : Int32) at_134 rfl ?_
    refine g_icN X172 hx hby at_135 (flt (by decide : ¬ ((1 : Int32) < (1 : Int32)))).1 ?_
    refine g_aload X172 hx hby at_138 rfl rfl ?_
    refine g_iconst X172 hx hby (2 : Int32) at_140 rfl ?_
    refine g_iload X172 hx hby at_141 rfl ?_
    refine g_iadd X172 hx hby at_143 ?_
    refine g_topI (4 : Int32) (by decide) ?_
    refine g_iload X172 hx hby at_144 rfl ?_
    refine g_bastore X172 hx hby hZ e172 V172 4 [(.int (nar .byte (p5.toInt8.toInt32))), (.int (nar .byte (own_draw p1))), (.int (nar .byte (own_draw p2))), (.int (44 : Int32)), (.int (nar .byte (own_draw p3))), (.int (nar .byte (((p5.toUInt32 >>> ((8 : Int32) &&& 31).toUInt32).toInt32).toInt8.toInt32)))] rfl ⟨by decide, by decide⟩ rfl (Nat.le_of_ble_eq_true rfl) N172 g_b5 at_146 (fun T173 h173 X173 e173 W173 V173 N173 => ?_)
    refine g_iload X173 hx hby at_147 rfl ?_
    refine g_iconst X173 hx hby (2 : Int32) at_149 rfl ?_
    refine g_icY X173 hx hby 162 at_150 (feq (by decide : ¬ ((1 : Int32) = (2 : Int32)))).2 (by decide) (by decide) ?_
    refine g_iconst X173 hx hby (2 : Int32) at_162 rfl ?_
    refine g_iload X173 hx hby at_163 rfl ?_
    refine g_iadd X173 hx hby at_165 ?_
    refine g_topI (4 : Int32) (by decide) ?_
    refine g_iload X173 hx hby at_166 rfl ?_
    refine g_iadd X173 hx hby at_168 ?_
    refine g_topI (5 : Int32) (by decide) ?_
    refine g_istore X173 hx hby at_169 (l' := #[.val (.int p0), .val (.int p1), .val (.int p2), .val (.int p3), .val (.int p4), .val (.int p5), .val (.int (2 : Int32)), .val (.int (1 : Int32)), .val (.int fd), .val (.int (own_draw p1)), .val (.int (own_draw p2)), .val (.int (own_draw p3)), .val (.int (own_draw p4)), .val (.int (((p5.toUInt32 >>> ((8 : Int32) &&& 31).toUInt32).toInt32).toInt8.toInt32)), .val (.ref b5), .val (.int (5 : Int32)), .unset, .unset]) rfl ?_
    refine g_new X173 hx hby hZ hown w5_ w6_ w7_ e173 (by decide) (by decide) at_171 (fun T174 h174 b174 g174 X174 e174 E174 A174 D174 => ?_)
    have F_bytes_b174 : Fld Z h174 b174 "com/example/tidegate/tidegate/venue/LineFields" "bytes" "[B" .null := D174 (Or.inl w15_) (ty := (.array .byte)) (by decide)
    have F_width_b174 : Fld Z h174 b174 "com/example/tidegate/tidegate/venue/LineFields" "width" "I" (.int (0 : Int32)) := D174 (Or.inl w17_) (ty := .int) (by decide)
    have F_starts_b174 : Fld Z h174 b174 "com/example/tidegate/tidegate/venue/LineFields" "starts" "[I" .null := D174 (Or.inl w20_) (ty := (.array .int)) (by decide)
    have F_ends_b174 : Fld Z h174 b174 "com/example/tidegate/tidegate/venue/LineFields" "ends" "[I" .null := D174 (Or.inl w22_) (ty := (.array .int)) (by decide)
    refine g_dup X174 hx hby at_174 rfl ?_
    have g_b174 : n0 ≤ b174 := Nat.le_trans (Nat.le_trans Z0 (Nat.le_trans (Nat.le_trans (Nat.le_trans (Nat.le_trans (Nat.le_trans (Nat.le_trans (Nat.le_trans (Nat.le_trans (Nat.le_trans (Nat.le_trans E5.1 (Keep.of_wr W6).1) (Keep.of_wr W7).1) (Keep.of_wr W8).1) (Keep.of_wr W9).1) (Keep.of_wr W10).1) (Keep.of_wr W11).1) (Keep.of_wr W170).1) (Keep.of_wr W171).1) (Keep.of_wr W172).1) (Keep.of_wr W173).1)) (Nat.le_of_eq g174)
    have z176 := (Nat.le_trans Z0 (Nat.le_trans (Nat.le_trans (Nat.le_trans (Nat.le_trans (Nat.le_trans (Nat.le_trans (Nat.le_trans (Nat.le_trans (Nat.le_trans (Nat.le_trans (Nat.le_trans E5.1 (Keep.of_wr W6).1) (Keep.of_wr W7).1) (Keep.of_wr W8).1) (Keep.of_wr W9).1) (Keep.of_wr W10).1) (Keep.of_wr W11).1) (Keep.of_wr W170).1) (Keep.of_wr W171).1) (Keep.of_wr W172).1) (Keep.of_wr W173).1) E174.1))
    refine g_special X174 hx hby hZ hown (rm_ini l Z a0 hw [] b174 h174 n0 z176 A174 F_bytes_b174 F_width_b174 F_starts_b174 F_ends_b174 g_b174) rfl rfl w8_ w9_ w7_ w10_ (by decide) e174 (by rw [hml]; rfl) [] (lenOf own_pd2 rfl) rfl rfl (Nat.le_of_ble_eq_true rfl) (Nat.le_of_ble_eq_true rfl) (Nat.le_of_ble_eq_true rfl) (Nat.le_of_ble_eq_true rfl) at_175 (fun v175 T175 L175 X175 hQ175 => ?_)
    obtain ⟨rfl, N175q, K175, bb, as, ae, kS, kE, los, loe, LF1⟩ := hQ175
    have N175 := Fr.app N173 N175q
    refine g_astore X175 hx hby at_178 rfl (l' := #[.val (.int p0), .val (.int p1), .val (.int p2), .val (.int p3), .val (.int p4), .val (.int p5), .val (.int (2 : Int32)), .val (.int (1 : Int32)), .val (.int fd), .val (.int (own_draw p1)), .val (.int (own_draw p2)), .val (.int (own_draw p3)), .val (.int (own_draw p4)), .val (.int (((p5.toUInt32 >>> ((8 : Int32) &&& 31).toUInt32).toInt32).toInt8.toInt32)), .val (.ref b5), .val (.int (5 : Int32)), .val (.ref b174), .unset]) rfl ?_
    refine g_aload X175 hx hby at_180 rfl rfl ?_
    refine g_aload X175 hx hby at_182 rfl rfl ?_
    refine g_iconst X175 hx hby (1 : Int32) at_184 rfl ?_
    refine g_iload X175 hx hby at_185 rfl ?_
    have g_as : n0 ≤ as := Nat.le_trans z176 los
    have g_ae : n0 ≤ ae := Nat.le_trans z176 loe
    have ne178 : b5 ≠ b174 := (Nat.ne_of_lt (Nat.lt_of_lt_of_le V5.lt (Nat.le_trans (Nat.le_trans (Nat.le_trans (Nat.le_trans (Nat.le_trans (Nat.le_trans (Nat.le_trans (Nat.le_trans (Nat.le_trans (Nat.le_trans (Keep.of_wr W6).1 (Keep.of_wr W7).1) (Keep.of_wr W8).1) (Keep.of_wr W9).1) (Keep.of_wr W10).1) (Keep.of_wr W11).1) (Keep.of_wr W170).1) (Keep.of_wr W171).1) (Keep.of_wr W172).1) (Keep.of_wr W173).1) (Nat.le_of_eq g174))))
    have f179 := ((V173.ext E174).keep K175 (ninS ne178 nin0))
    have ne180 : b5 ≠ as := (Nat.ne_of_lt (Nat.lt_of_lt_of_le V5.lt (Nat.le_trans (Nat.le_trans (Nat.le_trans (Nat.le_trans (Nat.le_trans (Nat.le_trans (Nat.le_trans (Nat.le_trans (Nat.le_trans (Nat.le_trans (Nat.le_trans (Keep.of_wr W6).1 (Keep.of_wr W7).1) (Keep.of_wr W8).1) (Keep.of_wr W9).1) (Keep.of_wr W10).1) (Keep.of_wr W11).1) (Keep.of_wr W170).1) (Keep.of_wr W171).1) (Keep.of_wr W172).1) (Keep.of_wr W173).1) E174.1) los)))
    have ne181 : b5 ≠ ae := (Nat.ne_of_lt (Nat.lt_of_lt_of_le V5.lt (Nat.le_trans (Nat.le_trans (Nat.le_trans (Nat.le_trans (Nat.le_trans (Nat.le_trans (Nat.le_trans (Nat.le_trans (Nat.le_trans (Nat.le_trans (Nat.le_trans (Keep.of_wr W6).1 (Keep.of_wr W7).1) (Keep.of_wr W8).1) (Keep.of_wr W9).1) (Keep.of_wr W10).1) (Keep.of_wr W11).1) (Keep.of_wr W170).1) (Keep.of_wr W171).1) (Keep.of_wr W172).1) (Keep.of_wr W173).1) E174.1) loe)))
    have z182 := (Nat.le_trans z176 K175.1)
    have f183 := (A174.keep K175)
    refine g_virtual X175 hx hby hZ hown (rm_split21 l Z a0 hw [] b174 bb as ae kS kE b5 k5 (nar .byte (p5.toInt8.toInt32)) (nar .byte (own_draw p1)) (nar .byte (own_draw p2)) (nar .byte (own_draw p3)) (nar .byte (((p5.toUInt32 >>> ((8 : Int32) &&& 31).toUInt32).toInt32).toInt8.toInt32)) T175.heap n0 z182 LF1 g_b174 g_as g_ae f179 ne178 ne180 ne181 (own_draw_ne _) (own_draw_ne _) (own_draw_ne _)) w23_ w24_ (notFace_of_selects (args := #[]) (mvT hZ w26_)) w26_ w25_ w7_ w27_ (by decide) rfl f183 (by rw [hml]; rfl) [(.ref b5), (.int (1 : Int32)), (.int (5 : Int32))] (lenOf own_pd3 rfl) rfl rfl (Nat.le_of_ble_eq_true rfl) (Nat.le_of_ble_eq_true rfl) (Nat.le_of_ble_eq_true rfl) (Nat.le_of_ble_eq_true rfl) at_187 (fun v177 T177 L177 X177 hQ177 => ?_)
    obtain ⟨rfl, N177q, K177, LF2⟩ := hQ177
    have N177 := Fr.app N175 N177q
    refine g_at 190 rfl rfl rfl ?_
    refine g_iload X177 hx hby at_190 rfl ?_
    rcases c_fd with rfl | rfl
    · -- field 0
      refine g_ifN X177 hx hby at_192 (teq (by decide : (0 : Int32) = (0 : Int32))).2 ?_
      refine g_iload X177 hx hby at_195 rfl ?_
      refine g_iload X177 hx hby at_197 rfl ?_
      have z185 := (Nat.le_trans z182 K177.1)
      refine g_static X177 hx hby hZ hown (rm_expd l Z a0 hw [] (2 : Int32) (own_draw p1) T177.heap n0 z185 ) w32_ w33_ w2_ w34_ (by decide) rfl (by rw [hml]; rfl) [(.int (2 : Int32)), (.int (own_draw p1))] (lenOf own_pd4 rfl) rfl rfl (Nat.le_of_ble_eq_true rfl) (Nat.le_of_ble_eq_true rfl) (Nat.le_of_ble_eq_true rfl) (Nat.le_of_ble_eq_true rfl) at_199 (fun v184 T184 L184 X184 hQ184 => ?_)
      obtain ⟨rfl, N184q, eh184⟩ := hQ184
      have N184 := Fr.app N177 N184q
      refine g_goto X184 hx hby 212 at_202 (by decide) (by decide) ?_
      refine g_istore X184 hx hby at_212 (l' := #[.val (.int p0), .val (.int p1), .val (.int p2), .val (.int p3), .val (.int p4), .val (.int p5), .val (.int (2 : Int32)), .val (.int (1 : Int32)), .val (.int (0 : Int32)), .val (.int (own_draw p1)), .val (.int (own_draw p2)), .val (.int (own_draw p3)), .val (.int (own_draw p4)), .val (.int (((p5.toUInt32 >>> ((8 : Int32) &&& 31).toUInt32).toInt32).toInt8.toInt32)), .val (.ref b5), .val (.int (5 : Int32)), .val (.ref b174), .val (.int (own_expct (2 : Int32) (own_draw p1)))]) rfl ?_
      refine g_aload X184 hx hby at_214 rfl rfl ?_
      refine g_iload X184 hx hby at_216 rfl ?_
      have f187 := (f179.keep K177 (ninS ne178 (ninS ne180 (ninS ne181 nin0))))
      have f188 := (f183.keep K177)
      refine g_virtual X184 hx hby hZ hown (rm_dig0 l Z a0 hw [] b174 b5 as ae kS kE (1 : Int32) (4 : Int32) (3 : Int32) (5 : Int32) k5 (nar .byte (p5.toInt8.toInt32)) (nar .byte (own_draw p1)) (nar .byte (own_draw p2)) (44 : Int32) (nar .byte (own_draw p3)) (nar .byte (((p5.toUInt32 >>> ((8 : Int32) &&& 31).toUInt32).toInt32).toInt8.toInt32)) (0 : Int32) (2 : Int32) T177.heap n0 z185 LF2 f187 (by decide) (fun q => absurd q (by decide))) w35_ w36_ (notFace_of_selects (args := #[]) (mvT hZ w38_)) w38_ w37_ w7_ w39_ (by decide) eh184 f188 (by rw [hml]; rfl) [(.int (0 : Int32))] (lenOf own_pd5 rfl) rfl rfl (Nat.le_of_ble_eq_true rfl) (Nat.le_of_ble_eq_true rfl) (Nat.le_of_ble_eq_true rfl) (Nat.le_of_ble_eq_true rfl) at_218 (fun v186 T186 L186 X186 hQ186 => ?_)
      obtain ⟨rfl, N186q, eh186⟩ := hQ186
      have N186 := Fr.app N184 N186q
      refine g_iload X186 hx hby at_221 rfl ?_
      refine g_icN X186 hx hby at_223 (teq ((own_fin0 (by decide) (by decide)) : (own_dig (2 : Int32) (0 : Int32)) = (own_expct (2 : Int32) (own_draw p1)))).2 ?_
      refine g_iconst X186 hx hby (1 : Int32) at_226 rfl ?_
      refine g_goto X186 hx hby 231 at_227 (by decide) (by decide) ?_
      refine g_nret X186 hx hby (t := .boolean) (by simp) Bd.returns Bd.notSynchronized at_231 eh186 (by decide) (by decide) ?_
      show (Q_law Z p0 p1 p2 p3 p4 p5 h0 n0) (some (.int (1 : Int32))) _ _
      exact ⟨rfl, N186⟩
    · -- field 1
      refine g_ifY X177 hx hby 205 at_192 (feq (by decide : ¬ ((1 : Int32) = (0 : Int32)))).2 (by decide) (by decide) ?_
      refine g_iload X177 hx hby at_205 rfl ?_
      refine g_iload X177 hx hby at_207 rfl ?_
      have z190 := (Nat.le_trans z182 K177.1)
      refine g_static X177 hx hby hZ hown (rm_expd l Z a0 hw [] (1 : Int32) (own_draw p3) T177.heap n0 z190 ) w32_ w33_ w2_ w34_ (by decide) rfl (by rw [hml]; rfl) [(.int (1 : Int32)), (.int (own_draw p3))] (lenOf own_pd4 rfl) rfl rfl (Nat.le_of_ble_eq_true rfl) (Nat.le_of_ble_eq_true rfl) (Nat.le_of_ble_eq_true rfl) (Nat.le_of_ble_eq_true rfl) at_209 (fun v189 T189 L189 X189 hQ189 => ?_)
      obtain ⟨rfl, N189q, eh189⟩ := hQ189
      have N189 := Fr.app N177 N189q
      refine g_istore X189 hx hby at_212 (l' := #[.val (.int p0), .val (.int p1), .val (.int p2), .val (.int p3), .val (.int p4), .val (.int p5), .val (.int (2 : Int32)), .val (.int (1 : Int32)), .val (.int (1 : Int32)), .val (.int (own_draw p1)), .val (.int (own_draw p2)), .val (.int (own_draw p3)), .val (.int (own_draw p4)), .val (.int (((p5.toUInt32 >>> ((8 : Int32) &&& 31).toUInt32).toInt32).toInt8.toInt32)), .val (.ref b5), .val (.int (5 : Int32)), .val (.ref b174), .val (.int (own_expct (1 : Int32) (own_draw p3)))]) rfl ?_
      refine g_aload X189 hx hby at_214 rfl rfl ?_
      refine g_iload X189 hx hby at_216 rfl ?_
      have f192 := (f179.keep K177 (ninS ne178 (ninS ne180 (ninS ne181 nin0))))
      have f193 := (f183.keep K177)
      refine g_virtual X189 hx hby hZ hown (rm_dig1 l Z a0 hw [] b174 b5 as ae kS kE (1 : Int32) (4 : Int32) (3 : Int32) (5 : Int32) k5 (nar .byte (p5.toInt8.toInt32)) (nar .byte (own_draw p1)) (nar .byte (own_draw p2)) (44 : Int32) (nar .byte (own_draw p3)) (nar .byte (((p5.toUInt32 >>> ((8 : Int32) &&& 31).toUInt32).toInt32).toInt8.toInt32)) (nar .byte (own_draw p3)) (1 : Int32) T177.heap n0 z190 LF2 f192 (by decide) (fun _ => ⟨⟨by decide, by decide⟩, rfl⟩)) w35_ w36_ (notFace_of_selects (args := #[]) (mvT hZ w38_)) w38_ w37_ w7_ w39_ (by decide) eh189 f193 (by rw [hml]; rfl) [(.int (1 : Int32))] (lenOf own_pd5 rfl) rfl rfl (Nat.le_of_ble_eq_true rfl) (Nat.le_of_ble_eq_true rfl) (Nat.le_of_ble_eq_true rfl) (Nat.le_of_ble_eq_true rfl) at_218 (fun v191 T191 L191 X191 hQ191 => ?_)
      obtain ⟨rfl, N191q, eh191⟩ := hQ191
      have N191 := Fr.app N189 N191q
      refine g_iload X191 hx hby at_221 rfl ?_
      refine g_icN X191 hx hby at_223 (teq ((own_fin1 _) : (own_dig (1 : Int32) (nar .byte (own_draw p3))) = (own_expct (1 : Int32) (own_draw p3)))).2 ?_
      refine g_iconst X191 hx hby (1 : Int32) at_226 rfl ?_
      refine g_goto X191 hx hby 231 at_227 (by decide) (by decide) ?_
      refine g_nret X191 hx hby (t := .boolean) (by simp) Bd.returns Bd.notSynchronized at_231 eh191 (by decide) (by decide) ?_
      show (Q_law Z p0 p1 p2 p3 p4 p5 h0 n0) (some (.int (1 : Int32))) _ _
      exact ⟨rfl, N191⟩
  · -- lengths 2, 2
    refine g_iload X11 hx hby at_99 rfl ?_
    refine g_iconst X11 hx hby (1 : Int32) at_101 rfl ?_
    refine g_icN X11 hx hby at_102 (flt (by decide : ¬ ((2 : Int32) < (1 : Int32)))).1 ?_
    refine g_aload X11 hx hby at_105 rfl rfl ?_
    refine g_iconst X11 hx hby (1 : Int32) at_107 rfl ?_
    refine g_iload X11 hx hby at_108 rfl ?_
    refine g_bastore X11 hx hby hZ e11 V11 1 [(.int (nar .byte (p5.toInt8.toInt32))), (.int (nar .byte (own_draw p1))), (.int (nar .byte (((p5.toUInt32 >>> ((8 : Int32) &&& 31).toUInt32).toInt32).toInt8.toInt32))), (.int (nar .byte (((p5.toUInt32 >>> ((8 : Int32) &&& 31).toUInt32).toInt32).toInt8.toInt32))), (.int (nar .byte (((p5.toUInt32 >>> ((8 : Int32) &&& 31).toUInt32).toInt32).toInt8.toInt32))), (.int (nar .byte (((p5.toUInt32 >>> ((8 : Int32) &&& 31).toUInt32).toInt32).toInt8.toInt32)))] rfl ⟨by decide, by decide⟩ rfl (Nat.le_of_ble_eq_true rfl) N11 g_b5 at_110 (fun T194 h194 X194 e194 W194 V194 N194 => ?_)
    refine g_iload X194 hx hby at_111 rfl ?_
    refine g_iconst X194 hx hby (2 : Int32) at_113 rfl ?_
    refine g_icN X194 hx hby at_114 (teq (by decide : (2 : Int32) = (2 : Int32))).2 ?_
    refine g_aload X194 hx hby at_117 rfl rfl ?_
    refine g_iconst X194 hx hby (2 : Int32) at_119 rfl ?_
    refine g_iload X194 hx hby at_120 rfl ?_
    refine g_bastore X194 hx hby hZ e194 V194 2 [(.int (nar .byte (p5.toInt8.toInt32))), (.int (nar .byte (own_draw p1))), (.int (nar .byte (own_draw p2))), (.int (nar .byte (((p5.toUInt32 >>> ((8 : Int32) &&& 31).toUInt32).toInt32).toInt8.toInt32))), (.int (nar .byte (((p5.toUInt32 >>> ((8 : Int32) &&& 31).toUInt32).toInt32).toInt8.toInt32))), (.int (nar .byte (((p5.toUInt32 >>> ((8 : Int32) &&& 31).toUInt32).toInt32).toInt8.toInt32)))] rfl ⟨by decide, by decide⟩ rfl (Nat.le_of_ble_eq_true rfl) N194 g_b5 at_122 (fun T195 h195 X195 e195 W195 V195 N195 => ?_)
    refine g_aload X195 hx hby at_123 rfl rfl ?_
    refine g_iconst X195 hx hby (1 : Int32) at_125 rfl ?_
    refine g_iload X195 hx hby at_126 rfl ?_
    refine g_iadd X195 hx hby at_128 ?_
    refine g_topI (3 : Int32) (by decide) ?_
    refine g_bipush X195 hx hby (44 : Int32) at_129 rfl ?_
    refine g_bastore X195 hx hby hZ e195 V195 3 [(.int (nar .byte (p5.toInt8.toInt32))), (.int (nar .byte (own_draw p1))), (.int (nar .byte (own_draw p2))), (.int (44 : Int32)), (.int (nar .byte (((p5.toUInt32 >>> ((8 : Int32) &&& 31).toUInt32).toInt32).toInt8.toInt32))), (.int (nar .byte (((p5.toUInt32 >>> ((8 : Int32) &&& 31).toUInt32).toInt32).toInt8.toInt32)))] rfl ⟨by decide, by decide⟩ rfl (Nat.le_of_ble_eq_true rfl) N195 g_b5 at_131 (fun T196 h196 X196 e196 W196 V196 N196 => ?_)
    refine g_at 132 rfl rfl rfl ?_
    refine g_iload X196 hx hby at_132 rfl ?_
    refine g_iconst X196 hx hby (1 : Int32) at_134 rfl ?_
    refine g_icN X196 hx hby at_135 (flt (by decide : ¬ ((2 : Int32) < (1 : Int32)))).1 ?_
    refine g_aload X196 hx hby at_138 rfl rfl ?_
    refine g_iconst X196 hx hby (2 : Int32) at_140 rfl ?_
    refine g_iload X196 hx hby at_141 rfl ?_
    refine g_iadd X196 hx hby at_143 ?_
    refine g_topI (4 : Int32) (by decide) ?_
    refine g_iload X196 hx hby at_144 rfl ?_
    refine g_bastore X196 hx hby hZ e196 V196 4 [(.int (nar .byte (p5.toInt8.toInt32))), (.int (nar .byte (own_draw p1))), (.int (nar .byte (own_draw p2))), (.int (44 : Int32)), (.int (nar .byte (own_draw p3))), (.int (nar .byte (((p5.toUInt32 >>> ((8 : Int32) &&& 31).toUInt32).toInt32).toInt8.toInt32)))] rfl ⟨by decide, by decide⟩ rfl (Nat.le_of_ble_eq_true rfl) N196 g_b5 at_146 (fun T197 h197 X197 e197 W197 V197 N197 => ?_)
    refine g_iload X197 hx hby at_147 rfl ?_
    refine g_iconst X197 hx hby (2 : Int32) at_149 rfl ?_
    refine g_icN X197 hx hby at_150 (teq (by decide : (2 : Int32) = (2 : Int32))).2 ?_
    refine g_aload X197 hx hby at_153 rfl rfl ?_
    refine g_iconst X197 hx hby (3 : Int32) at_155 rfl ?_
    refine g_iload X197 hx hby at_156 rfl ?_
    refine g_iadd X197 hx hby at_158 ?_
    refine g_topI (5 : Int32) (by decide) ?_
    refine g_iload X197 hx hby at_159 rfl ?_
    refine g_bastore X197 hx hby hZ e197 V197 5 [(.int (nar .byte (p5.toInt8.toInt32))), (.int (nar .byte (own_draw p1))), (.int (nar .byte (own_draw p2))), (.int (44 : Int32)), (.int (nar .byte (own_draw p3))), (.int (nar .byte (own_draw p4)))] rfl ⟨by decide, by decide⟩ rfl (Nat.le_of_ble_eq_true rfl) N197 g_b5 at_161 (fun T198 h198 X198 e198 W198 V198 N198 => ?_)
    refine g_iconst X198 hx hby (2 : Int32) at_162 rfl ?_
    refine g_iload X198 hx hby at_163 rfl ?_
    refine g_iadd X198 hx hby at_165 ?_
    refine g_topI (4 : Int32) (by decide) ?_
    refine g_iload X198 hx hby at_166 rfl ?_
    refine g_iadd X198 hx hby at_168 ?_
    refine g_topI (6 : Int32) (by decide) ?_
    refine g_istore X198 hx hby at_169 (l' := #[.val (.int p0), .val (.int p1), .val (.int p2), .val (.int p3), .val (.int p4), .val (.int p5), .val (.int (2 : Int32)), .val (.int (2 : Int32)), .val (.int fd), .val (.int (own_draw p1)), .val (.int (own_draw p2)), .val (.int (own_draw p3)), .val (.int (own_draw p4)), .val (.int (((p5.toUInt32 >>> ((8 : Int32) &&& 31).toUInt32).toInt32).toInt8.toInt32)), .val (.ref b5), .val (.int (6 : Int32)), .unset, .unset]) rfl ?_
    refine g_new X198 hx hby hZ hown w5_ w6_ w7_ e198 (by decide) (by decide) at_171 (fun T199 h199 b199 g199 X199 e199 E199 A199 D199 => ?_)
    have F_bytes_b199 : Fld Z h199 b199 "com/example/tidegate/tidegate/venue/LineFields" "bytes" "[B" .null := D199 (Or.inl w15_) (ty := (.array .byte)) (by decide)
    have F_width_b199 : Fld Z h199 b199 "com/example/tidegate/tidegate/venue/LineFields" "width" "I" (.int (0 : Int32)) := D199 (Or.inl w17_) (ty := .int) (by decide)
    have F_starts_b199 : Fld Z h199 b199 "com/example/tidegate/tidegate/venue/LineFields" "starts" "[I" .null := D199 (Or.inl w20_) (ty := (.array .int)) (by decide)
    have F_ends_b199 : Fld Z h199 b199 "com/example/tidegate/tidegate/venue/LineFields" "ends" "[I" .null := D199 (Or.inl w22_) (ty := (.array .int)) (by decide)
    refine g_dup X199 hx hby at_174 rfl ?_
    refine g_at 175 rfl rfl rfl ?_
    have g_b199 : n0 ≤ b199 := Nat.le_trans (Nat.le_trans Z0 (Nat.le_trans (Nat.le_trans (Nat.le_trans (Nat.le_trans (Nat.le_trans (Nat.le_trans (Nat.le_trans (Nat.le_trans (Nat.le_trans (Nat.le_trans (Nat.le_trans E5.1 (Keep.of_wr W6).1) (Keep.of_wr W7).1) (Keep.of_wr W8).1) (Keep.of_wr W9).1) (Keep.of_wr W10).1) (Keep.of_wr W11).1) (Keep.of_wr W194).1) (Keep.of_wr W195).1) (Keep.of_wr W196).1) (Keep.of_wr W197).1) (Keep.of_wr W198).1)) (Nat.le_of_eq g199)
    have z201 := (Nat.le_trans Z0 (Nat.le_trans (Nat.le_trans (Nat.le_trans (Nat.le_trans (Nat.le_trans (Nat.le_trans (Nat.le_trans (Nat.le_trans (Nat.le_trans (Nat.le_trans (Nat.le_trans (Nat.le_trans E5.1 (Keep.of_wr W6).1) (Keep.of_wr W7).1) (Keep.of_wr W8).1) (Keep.of_wr W9).1) (Keep.of_wr W10).1) (Keep.of_wr W11).1) (Keep.of_wr W194).1) (Keep.of_wr W195).1) (Keep.of_wr W196).1) (Keep.of_wr W197).1) (Keep.of_wr W198).1) E199.1))
    refine g_special X199 hx hby hZ hown (rm_ini l Z a0 hw [] b199 h199 n0 z201 A199 F_bytes_b199 F_width_b199 F_starts_b199 F_ends_b199 g_b199) rfl rfl w8_ w9_ w7_ w10_ (by decide) e199 (by rw [hml]; rfl) [] (lenOf own_pd2 rfl) rfl rfl (Nat.le_of_ble_eq_true rfl) (Nat.le_of_ble_eq_true rfl) (Nat.le_of_ble_eq_true rfl) (Nat.le_of_ble_eq_true rfl) at_175 (fun v200 T200 L200 X200 hQ200 => ?_)
    obtain ⟨rfl, N200q, K200, bb, as, ae, kS, kE, los, loe, LF1⟩ := hQ200
    have N200 := Fr.app N198 N200q
    refine g_astore X200 hx hby at_178 rfl (l' := #[.val (.int p0), .val (.int p1), .val (.int p2), .val (.int p3), .val (.int p4), .val (.int p5), .val (.int (2 : Int32)), .val (.int (2 : Int32)), .val (.int fd), .val (.int (own_draw p1)), .val (.int (own_draw p2)), .val (.int (own_draw p3)), .val (.int (own_draw p4)), .val (.int (((p5.toUInt32 >>> ((8 : Int32) &&& 31).toUInt32).toInt32).toInt8.toInt32)), .val (.ref b5), .val (.int (6 : Int32)), .val (.ref b199), .unset]) rfl ?_
    refine g_aload X200 hx hby at_180 rfl rfl ?_
    refine g_aload X200 hx hby at_182 rfl rfl ?_
    refine g_iconst X200 hx hby (1 : Int32) at_184 rfl ?_
    refine g_iload X200 hx hby at_185 rfl ?_
    have g_as : n0 ≤ as := Nat.le_trans z201 los
    have g_ae : n0 ≤ ae := Nat.le_trans z201 loe
    have ne203 : b5 ≠ b199 := (Nat.ne_of_lt (Nat.lt_of_lt_of_le V5.lt (Nat.le_trans (Nat.le_trans (Nat.le_trans (Nat.le_trans (Nat.le_trans (Nat.le_trans (Nat.le_trans (Nat.le_trans (Nat.le_trans (Nat.le_trans (Nat.le_trans (Keep.of_wr W6).1 (Keep.of_wr W7).1) (Keep.of_wr W8).1) (Keep.of_wr W9).1) (Keep.of_wr W10).1) (Keep.of_wr W11).1) (Keep.of_wr W194).1) (Keep.of_wr W195).1) (Keep.of_wr W196).1) (Keep.of_wr W197).1) (Keep.of_wr W198).1) (Nat.le_of_eq g199))))
    have f204 := ((V198.ext E199).keep K200 (ninS ne203 nin0))
    have ne205 : b5 ≠ as := (Nat.ne_of_lt (Nat.lt_of_lt_of_le V5.lt (Nat.le_trans (Nat.le_trans (Nat.le_trans (Nat.le_trans (Nat.le_trans (Nat.le_trans (Nat.le_trans (Nat.le_trans (Nat.le_trans (Nat.le_trans (Nat.le_trans (Nat.le_trans (Keep.of_wr W6).1 (Keep.of_wr W7).1) (Keep.of_wr W8).1) (Keep.of_wr W9).1) (Keep.of_wr W10).1) (Keep.of_wr W11).1) (Keep.of_wr W194).1) (Keep.of_wr W195).1) (Keep.of_wr W196).1) (Keep.of_wr W197).1) (Keep.of_wr W198).1) E199.1) los)))
    have ne206 : b5 ≠ ae := (Nat.ne_of_lt (Nat.lt_of_lt_of_le V5.lt (Nat.le_trans (Nat.le_trans (Nat.le_trans (Nat.le_trans (Nat.le_trans (Nat.le_trans (Nat.le_trans (Nat.le_trans (Nat.le_trans (Nat.le_trans (Nat.le_trans (Nat.le_trans (Keep.of_wr W6).1 (Keep.of_wr W7).1) (Keep.of_wr W8).1) (Keep.of_wr W9).1) (Keep.of_wr W10).1) (Keep.of_wr W11).1) (Keep.of_wr W194).1) (Keep.of_wr W195).1) (Keep.of_wr W196).1) (Keep.of_wr W197).1) (Keep.of_wr W198).1) E199.1) loe)))
    have z207 := (Nat.le_trans z201 K200.1)
    have f208 := (A199.keep K200)
    refine g_virtual X200 hx hby hZ hown (rm_split22 l Z a0 hw [] b199 bb as ae kS kE b5 k5 (nar .byte (p5.toInt8.toInt32)) (nar .byte (own_draw p1)) (nar .byte (own_draw p2)) (nar .byte (own_draw p3)) (nar .byte (own_draw p4)) T200.heap n0 z207 LF1 g_b199 g_as g_ae f204 ne203 ne205 ne206 (own_draw_ne _) (own_draw_ne _) (own_draw_ne _) (own_draw_ne _)) w23_ w24_ (notFace_of_selects (args := #[]) (mvT hZ w26_)) w26_ w25_ w7_ w27_ (by decide) rfl f208 (by rw [hml]; rfl) [(.ref b5), (.int (1 : Int32)), (.int (6 : Int32))] (lenOf own_pd3 rfl) rfl rfl (Nat.le_of_ble_eq_true rfl) (Nat.le_of_ble_eq_true rfl) (Nat.le_of_ble_eq_true rfl) (Nat.le_of_ble_eq_true rfl) at_187 (fun v202 T202 L202 X202 hQ202 => ?_)
    obtain ⟨rfl, N202q, K202, LF2⟩ := hQ202
    have N202 := Fr.app N200 N202q
    refine g_iload X202 hx hby at_190 rfl ?_
    rcases c_fd with rfl | rfl
    · -- field 0
      refine g_ifN X202 hx hby at_192 (teq (by decide : (0 : Int32) = (0 : Int32))).2 ?_
      refine g_iload X202 hx hby at_195 rfl ?_
      refine g_iload X202 hx hby at_197 rfl ?_
      have z210 := (Nat.le_trans z207 K202.1)
      refine g_static X202 hx hby hZ hown (rm_expd l Z a0 hw [] (2 : Int32) (own_draw p1) T202.heap n0 z210 ) w32_ w33_ w2_ w34_ (by decide) rfl (by rw [hml]; rfl) [(.int (2 : Int32)), (.int (own_draw p1))] (lenOf own_pd4 rfl) rfl rfl (Nat.le_of_ble_eq_true rfl) (Nat.le_of_ble_eq_true rfl) (Nat.le_of_ble_eq_true rfl) (Nat.le_of_ble_eq_true rfl) at_199 (fun v209 T209 L209 X209 hQ209 => ?_)
      obtain ⟨rfl, N209q, eh209⟩ := hQ209
      have N209 := Fr.app N202 N209q
      refine g_at 202 rfl rfl rfl ?_
      refine g_goto X209 hx hby 212 at_202 (by decide) (by decide) ?_
      refine g_istore X209 hx hby at_212 (l' := #[.val (.int p0), .val (.int p1), .val (.int p2), .val (.int p3), .val (.int p4), .val (.int p5), .val (.int (2 : Int32)), .val (.int (2 : Int32)), .val (.int (0 : Int32)), .val (.int (own_draw p1)), .val (.int (own_draw p2)), .val (.int (own_draw p3)), .val (.int (own_draw p4)), .val (.int (((p5.toUInt32 >>> ((8 : Int32) &&& 31).toUInt32).toInt32).toInt8.toInt32)), .val (.ref b5), .val (.int (6 : Int32)), .val (.ref b199), .val (.int (own_expct (2 : Int32) (own_draw p1)))]) rfl ?_
      refine g_aload X209 hx hby at_214 rfl rfl ?_
      refine g_iload X209 hx hby at_216 rfl ?_
      have f212 := (f204.keep K202 (ninS ne203 (ninS ne205 (ninS ne206 nin0))))
      have f213 := (f208.keep K202)
      refine g_virtual X209 hx hby hZ hown (rm_dig0 l Z a0 hw [] b199 b5 as ae kS kE (1 : Int32) (4 : Int32) (3 : Int32) (6 : Int32) k5 (nar .byte (p5.toInt8.toInt32)) (nar .byte (own_draw p1)) (nar .byte (own_draw p2)) (44 : Int32) (nar .byte (own_draw p3)) (nar .byte (own_draw p4)) (0 : Int32) (2 : Int32) T202.heap n0 z210 LF2 f212 (by decide) (fun q => absurd q (by decide))) w35_ w36_ (notFace_of_selects (args := #[]) (mvT hZ w38_)) w38_ w37_ w7_ w39_ (by decide) eh209 f213 (by rw [hml]; rfl) [(.int (0 : Int32))] (lenOf own_pd5 rfl) rfl rfl (Nat.le_of_ble_eq_true rfl) (Nat.le_of_ble_eq_true rfl) (Nat.le_of_ble_eq_true rfl) (Nat.le_of_ble_eq_true rfl) at_218 (fun v211 T211 L211 X211 hQ211 => ?_)
      obtain ⟨rfl, N211q, eh211⟩ := hQ211
      have N211 := Fr.app N209 N211q
      refine g_iload X211 hx hby at_221 rfl ?_
      refine g_icN X211 hx hby at_223 (teq ((own_fin0 (by decide) (by decide)) : (own_dig (2 : Int32) (0 : Int32)) = (own_expct (2 : Int32) (own_draw p1)))).2 ?_
      refine g_iconst X211 hx hby (1 : Int32) at_226 rfl ?_
      refine g_goto X211 hx hby 231 at_227 (by decide) (by decide) ?_
      refine g_nret X211 hx hby (t := .boolean) (by simp) Bd.returns Bd.notSynchronized at_231 eh211 (by decide) (by decide) ?_
      show (Q_law Z p0 p1 p2 p3 p4 p5 h0 n0) (some (.int (1 : Int32))) _ _
      exact ⟨rfl, N211⟩
    · -- field 1
      refine g_ifY X202 hx hby 205 at_192 (feq (by decide : ¬ ((1 : Int32) = (0 : Int32)))).2 (by decide) (by decide) ?_
      refine g_iload X202 hx hby at_205 rfl ?_
      refine g_iload X202 hx hby at_207 rfl ?_
      have z215 := (Nat.le_trans z207 K202.1)
      refine g_static X202 hx hby hZ hown (rm_expd l Z a0 hw [] (2 : Int32) (own_draw p3) T202.heap n0 z215 ) w32_ w33_ w2_ w34_ (by decide) rfl (by rw [hml]; rfl) [(.int (2 : Int32)), (.int (own_draw p3))] (lenOf own_pd4 rfl) rfl rfl (Nat.le_of_ble_eq_true rfl) (Nat.le_of_ble_eq_true rfl) (Nat.le_of_ble_eq_true rfl) (Nat.le_of_ble_eq_true rfl) at_209 (fun v214 T214 L214 X214 hQ214 => ?_)
      obtain ⟨rfl, N214q, eh214⟩ := hQ214
      have N214 := Fr.app N202 N214q
      refine g_istore X214 hx hby at_212 (l' := #[.val (.int p0), .val (.int p1), .val (.int p2), .val (.int p3), .val (.int p4), .val (.int p5), .val (.int (2 : Int32)), .val (.int (2 : Int32)), .val (.int (1 : Int32)), .val (.int (own_draw p1)), .val (.int (own_draw p2)), .val (.int (own_draw p3)), .val (.int (own_draw p4)), .val (.int (((p5.toUInt32 >>> ((8 : Int32) &&& 31).toUInt32).toInt32).toInt8.toInt32)), .val (.ref b5), .val (.int (6 : Int32)), .val (.ref b199), .val (.int (own_expct (2 : Int32) (own_draw p3)))]) rfl ?_
      refine g_aload X214 hx hby at_214 rfl rfl ?_
      refine g_iload X214 hx hby at_216 rfl ?_
      have f217 := (f204.keep K202 (ninS ne203 (ninS ne205 (ninS ne206 nin0))))
      have f218 := (f208.keep K202)
      refine g_virtual X214 hx hby hZ hown (rm_dig1 l Z a0 hw [] b199 b5 as ae kS kE (1 : Int32) (4 : Int32) (3 : Int32) (6 : Int32) k5 (nar .byte (p5.toInt8.toInt32)) (nar .byte (own_draw p1)) (nar .byte (own_draw p2)) (44 : Int32) (nar .byte (own_draw p3)) (nar .byte (own_draw p4)) (0 : Int32) (2 : Int32) T202.heap n0 z215 LF2 f217 (by decide) (fun q => absurd q (by decide))) w35_ w36_ (notFace_of_selects (args := #[]) (mvT hZ w38_)) w38_ w37_ w7_ w39_ (by decide) eh214 f218 (by rw [hml]; rfl) [(.int (1 : Int32))] (lenOf own_pd5 rfl) rfl rfl (Nat.le_of_ble_eq_true rfl) (Nat.le_of_ble_eq_true rfl) (Nat.le_of_ble_eq_true rfl) (Nat.le_of_ble_eq_true rfl) at_218 (fun v216 T216 L216 X216 hQ216 => ?_)
      obtain ⟨rfl, N216q, eh216⟩ := hQ216
      have N216 := Fr.app N214 N216q
      refine g_iload X216 hx hby at_221 rfl ?_
      refine g_icN X216 hx hby at_223 (teq ((own_fin0 (by decide) (by decide)) : (own_dig (2 : Int32) (0 : Int32)) = (own_expct (2 : Int32) (own_draw p3)))).2 ?_
      refine g_iconst X216 hx hby (1 : Int32) at_226 rfl ?_
      refine g_goto X216 hx hby 231 at_227 (by decide) (by decide) ?_
      refine g_nret X216 hx hby (t := .boolean) (by simp) Bd.returns Bd.notSynchronized at_231 eh216 (by decide) (by decide) ?_
      show (Q_law Z p0 p1 p2 p3 p4 p5 h0 n0) (some (.int (1 : Int32))) _ _
      exact ⟨rfl, N216⟩

set_option maxRecDepth 65536 in
set_option maxHeartbeats 40000000 in
theorem comes_1 {Post : Tables → Env → Array Value → State → Outcome → State → Prop} (hpost : ∀ tb e args s v u, (limb_1_1.after args s (.returned v) u = true ∧ limb_1_2.after args s (.returned v) u = true ∧ True) → FrameEnd s (.returned v) u (Jvm.fieldLocs frame_1_writes args s ++ Jvm.arrayLocs frame_1_arrays args s ++ Jvm.staticLocs frame_1_statics s) 24 128 → Post tb e args s (.returned v) u) :
    ArmFor flags0 classFile x code maxLocals ret World_1 tables_1 room_1 Calls_1 rest_1 Pre_1 Post := by
  intro l hfl _ _ p e ha hc hk s m args below hf hA hF happ hP
  obtain ⟨hcalls, hrest, hpre⟩ := hP
  obtain ⟨-, -, -, hnamed, -, -, -, hat⟩ := (Spec.applies_iff hf).mp happ
  obtain ⟨hg, hn⟩ := and_e (Cond.before_iff.mp (show (Jvm.Cond.and given_1 narrow_1).before args s = true from hpre))
  obtain ⟨hcount, hg1⟩ := and_e hg
  obtain ⟨ga0, hg2⟩ := and_e hg1
  obtain ⟨ga1, hg3⟩ := and_e hg2
  obtain ⟨ga2, hg4⟩ := and_e hg3
  obtain ⟨ga3, hg5⟩ := and_e hg4
  obtain ⟨ga4, hg6⟩ := and_e hg5
  have ga5 := hg6
  obtain ⟨w0, w1, w2, w3, w4, w5, rfl⟩ : ∃ w0 w1 w2 w3 w4 w5 : Value, args = #[w0, w1, w2, w3, w4, w5] := by
    have hs : args.size = 6 := by simpa [Cond.value, given_1] using hcount
    obtain ⟨L⟩ := args
    match L, hs with
    | [w0, w1, w2, w3, w4, w5], _ => exact ⟨w0, w1, w2, w3, w4, w5, rfl⟩
  have hw := fun d (hd : d ∈ tables_1) => atoms_spec (ws := Jvm.Cond.code x code maxLocals ret :: tables_1) hat d (List.mem_cons_of_mem _ hd)
  have hfit : Fit s := fun {y c} hc i hi => by
    obtain ⟨ha, rfl⟩ := Array.getElem?_eq_some_iff.mp hc
    have q := List.all_eq_true.mp ((Array.all_eq_true_iff_forall_mem.mp hF) _ (Array.getElem_mem ha)) i (List.mem_range.mpr hi)
    simpa [Array.getElem?_eq_getElem hi] using q
  obtain ⟨i0, ei0⟩ := is_v ga0
  obtain rfl : w0 = (.int i0) := Option.some.inj ei0
  obtain ⟨i1, ei1⟩ := is_v ga1
  obtain rfl : w1 = (.int i1) := Option.some.inj ei1
  obtain ⟨i2, ei2⟩ := is_v ga2
  obtain rfl : w2 = (.int i2) := Option.some.inj ei2
  obtain ⟨i3, ei3⟩ := is_v ga3
  obtain rfl : w3 = (.int i3) := Option.some.inj ei3
  obtain ⟨i4, ei4⟩ := is_v ga4
  obtain rfl : w4 = (.int i4) := Option.some.inj ei4
  obtain ⟨i5, ei5⟩ := is_v ga5
  obtain rfl : w5 = (.int i5) := Option.some.inj ei5
  obtain ⟨n, o, h1, h2, h3, _, L, rfl, ⟨rfl, N⟩, hq⟩ := rm_law l s _ hw tables_1 i0 i1 i2 i3 i4 i5 s.heap s.heap.size (Nat.le_refl _)  p e ha hc hk s m _ below hf ((Spec.applies_iff_loose hf).mp happ).1 ⟨rfl, State.Warmed39.refl s, rfl⟩ trivial
  refine ⟨n, _, h1, h2, h3, hpost _ _ _ _ _ _ ⟨Cond.after_iff.mpr rfl, Cond.after_iff.mpr (eq_i res_at (Term.int_eval (1)) rfl), trivial⟩ ⟨hq.1, hq.2.1, (hq.2.2.sift fun y hy => Or.inr (N y hy)).mono (by decide) (by decide)⟩⟩
theorem main_1_1 : Claimed_1_1 := comes_1 fun _ _ _ _ _ _ h hF => ⟨h.1, hF⟩
theorem main_1_2 : Claimed_1_2 := comes_1 fun _ _ _ _ _ _ h hF => ⟨h.2.1, hF⟩

end Jvm.Pilot.@@N@@
namespace Jvm.Pilot.@@N@@
open Jvm Jvm.ClassFile Sem Op Lib Jvm.Free Jvm.Stand Jvm.Pilot.@@N@@.Jvm.D
/-! MADE BY PROGRAM (witnessworld.py) out of the Statement's table words and the real class files: 9 classes; the members and pool entries that the words name. The judged class is class 1, her method 3. -/
namespace start1
open Jvm.ClassFile
def u (s : String) : CpInfo := .utf8 (stringToUtf16 s)
/-- a pool by its gaps: so many unusable entries, then the entry; so many at the end -/
def gap : Nat → List CpInfo → List CpInfo
  | 0, r => r
  | n + 1, r => .unusable :: gap n r
def poolList (es : List (Nat × CpInfo)) (last : Nat) : List CpInfo := es.foldr (fun e r => gap e.1 (e.2 :: r)) (gap last [])
def pool (es : List (Nat × CpInfo)) (last : Nat) : Array CpInfo := ⟨poolList es last⟩
def fileOf (pool : Array CpInfo) (this : Nat) (attrs : Array Attribute := #[]) (ms : Array MethodInfo := #[]) (fl : Nat := 33) (sup : Nat := 0) (ifs : Array Nat := #[]) (fds : Array FieldInfo := #[]) : ClassFile where
  minorVersion := 0
  majorVersion := 65
  constantPool := pool
  accessFlags := fl
  thisClass := this
  superClass := sup
  interfaces := ifs
  fields := fds
  methods := ms
  attributes := attrs
def plain (name : String) (sup : Option ClassId) : Class where
  name := name
  kind := .ordinary
  loader := none
  accessFlags := 33
  super := sup
  interfaces := #[]
  cf := none
  fields := #[]
  methods := #[]
  instanceTypes := #[]
  staticTypes := #[]
  resolved := #[]
  callSites := []
  init := .initialized
  statics := none
  mirror := none

def pool0 : Array CpInfo := pool [(5, u "<init>"), (0, u "()V"), (1, .class_ 10), (1, u "java/lang/Object")] 113

def k0c0 : Code := { maxStack := 0, maxLocals := 1, code := object_method_1_code, exceptionTable := #[], attributes := #[] }
def k0m0 : Method := { name := "<init>", desc := "()V", sig := { parameters := [], returnType := none }, accessFlags := 1, code := some k0c0 }
/-- java/lang/Object -/
def k0 : Class := { plain "java/lang/Object" none with
  accessFlags := 33
  interfaces := #[]
  cf := some (fileOf pool0 8 #[] #[{ accessFlags := 1, nameIndex := 5, descriptorIndex := 6, attributes := #[] }] 33 0 #[] #[])
  fields := #[]
  methods := #[k0m0]
  instanceTypes := #[]
  staticTypes := #[]
  resolved := Array.replicate 124 none
  statics := none }

def pool1 : Array CpInfo := pool [(2, .class_ 4), (0, .nameAndType 5 6), (0, u "java/lang/Object"), (0, u "<init>"), (0, u "()V"), (0, .methodref 8 9), (0, .class_ 10), (0, .nameAndType 11 12), (0, u "com/example/tidegate/tidegate/venue/LineFieldsDigitPinLaw"), (0, u "draw"), (0, u "(I)B"), (0, .class_ 14), (0, u "com/example/tidegate/tidegate/venue/LineFields"), (0, .methodref 13 3), (0, .methodref 13 17), (0, .nameAndType 18 19), (0, u "split"), (0, u "([BII)V"), (0, .methodref 8 21), (0, .nameAndType 22 23), (0, u "expected"), (0, u "(IB)I"), (0, .methodref 13 25), (0, .nameAndType 26 27), (0, u "digit"), (0, u "(I)I"), (3, u "law"), (0, u "(IIIIII)Z")] 4

def k1m0 : Method := { name := "<init>", desc := "()V", sig := { parameters := [], returnType := none }, accessFlags := 1, code := none }
def k1c1 : Code := { maxStack := 2, maxLocals := 2, code := method_2_code, exceptionTable := #[], attributes := #[] }
def k1m1 : Method := { name := "draw", desc := "(I)B", sig := { parameters := [.int], returnType := some .byte }, accessFlags := 10, code := some k1c1 }
def k1c2 : Code := { maxStack := 2, maxLocals := 2, code := method_3_code, exceptionTable := #[], attributes := #[] }
def k1m2 : Method := { name := "expected", desc := "(IB)I", sig := { parameters := [.int, .byte], returnType := some .int }, accessFlags := 10, code := some k1c2 }
def k1c3 : Code := { maxStack := 4, maxLocals := 18, code := code, exceptionTable := #[], attributes := #[] }
def k1m3 : Method := { name := "law", desc := "(IIIIII)Z", sig := { parameters := [.int, .int, .int, .int, .int, .int], returnType := some .boolean }, accessFlags := 9, code := some k1c3 }
/-- com/example/tidegate/tidegate/venue/LineFieldsDigitPinLaw -/
def k1 : Class := { plain "com/example/tidegate/tidegate/venue/LineFieldsDigitPinLaw" (some 0) with
  accessFlags := 49
  interfaces := #[]
  cf := some (fileOf pool1 8 #[] #[{ accessFlags := 1, nameIndex := 5, descriptorIndex := 6, attributes := #[] }, { accessFlags := 10, nameIndex := 11, descriptorIndex := 12, attributes := #[] }, { accessFlags := 10, nameIndex := 22, descriptorIndex := 23, attributes := #[] }, { accessFlags := 9, nameIndex := 31, descriptorIndex := 32, attributes := #[] }] 49 2 #[] #[])
  fields := #[]
  methods := #[k1m0, k1m1, k1m2, k1m3]
  instanceTypes := #[]
  staticTypes := #[]
  resolved := Array.replicate 37 none
  statics := none }

def pool2 : Array CpInfo := pool [(1, .methodref 2 3), (0, .class_ 4), (0, .nameAndType 5 6), (0, u "java/lang/Object"), (0, u "<init>"), (0, u "()V"), (0, .fieldref 8 9), (0, .class_ 10), (0, .nameAndType 11 12), (0, u "com/example/tidegate/tidegate/venue/LineFields"), (0, u "bytes"), (0, u "[B"), (0, .fieldref 8 14), (0, .nameAndType 15 16), (0, u "width"), (0, u "I"), (0, .fieldref 8 18), (0, .nameAndType 19 20), (0, u "starts"), (0, u "[I"), (0, .fieldref 8 22), (0, .nameAndType 23 20), (0, u "ends"), (0, .methodref 8 25), (0, .nameAndType 26 27), (0, u "add"), (0, u "(II)V"), (47, u "split"), (0, u "([BII)V"), (5, u "(I)I"), (16, u "digit")] 20

def k2c0 : Code := { maxStack := 2, maxLocals := 1, code := prog_65_method_1_code, exceptionTable := #[], attributes := #[] }
def k2m0 : Method := { name := "<init>", desc := "()V", sig := { parameters := [], returnType := none }, accessFlags := 0, code := some k2c0 }
def k2c1 : Code := { maxStack := 3, maxLocals := 6, code := prog_65_method_2_code, exceptionTable := #[], attributes := #[] }
def k2m1 : Method := { name := "split", desc := "([BII)V", sig := { parameters := [(.array .byte), .int, .int], returnType := none }, accessFlags := 0, code := some k2c1 }
def k2c2 : Code := { maxStack := 3, maxLocals := 3, code := prog_65_method_14_code, exceptionTable := #[], attributes := #[] }
def k2m2 : Method := { name := "digit", desc := "(I)I", sig := { parameters := [.int], returnType := some .int }, accessFlags := 0, code := some k2c2 }
def k2c3 : Code := { maxStack := 4, maxLocals := 3, code := prog_65_method_16_code, exceptionTable := #[], attributes := #[] }
def k2m3 : Method := { name := "add", desc := "(II)V", sig := { parameters := [.int, .int], returnType := none }, accessFlags := 2, code := some k2c3 }
/-- com/example/tidegate/tidegate/venue/LineFields -/
def k2 : Class := { plain "com/example/tidegate/tidegate/venue/LineFields" (some 0) with
  accessFlags := 48
  interfaces := #[]
  cf := some (fileOf pool2 8 #[] #[{ accessFlags := 0, nameIndex := 5, descriptorIndex := 6, attributes := #[] }, { accessFlags := 0, nameIndex := 75, descriptorIndex := 76, attributes := #[] }, { accessFlags := 0, nameIndex := 99, descriptorIndex := 82, attributes := #[] }, { accessFlags := 2, nameIndex := 26, descriptorIndex := 27, attributes := #[] }] 48 2 #[] #[{ accessFlags := 2, nameIndex := 11, descriptorIndex := 12, attributes := #[] }, { accessFlags := 2, nameIndex := 15, descriptorIndex := 16, attributes := #[] }, { accessFlags := 2, nameIndex := 19, descriptorIndex := 20, attributes := #[] }, { accessFlags := 2, nameIndex := 23, descriptorIndex := 20, attributes := #[] }])
  fields := #[{ name := "bytes", type := (.array .byte), accessFlags := 2, slot := 0, constantValue := 0 }, { name := "width", type := .int, accessFlags := 2, slot := 1, constantValue := 0 }, { name := "starts", type := (.array .int), accessFlags := 2, slot := 2, constantValue := 0 }, { name := "ends", type := (.array .int), accessFlags := 2, slot := 3, constantValue := 0 }]
  methods := #[k2m0, k2m1, k2m2, k2m3]
  instanceTypes := #[(.array .byte), .int, (.array .int), (.array .int)]
  staticTypes := #[]
  resolved := Array.replicate 120 none
  statics := none }

def pool3 : Array CpInfo := pool [(1, u "java/lang/Cloneable"), (0, .class_ 1), (0, u "java/lang/Object"), (0, .class_ 3)] 3

/-- java/lang/Cloneable -/
def k3 : Class := { plain "java/lang/Cloneable" (some 0) with
  accessFlags := 1537
  interfaces := #[]
  cf := some (fileOf pool3 2 #[] #[] 1537 4 #[] #[])
  fields := #[]
  methods := #[]
  instanceTypes := #[]
  staticTypes := #[]
  resolved := Array.replicate 8 none
  statics := none }

def pool4 : Array CpInfo := pool [(1, u "java/io/Serializable"), (0, .class_ 1), (0, u "java/lang/Object"), (0, .class_ 3)] 3

/-- java/io/Serializable -/
def k4 : Class := { plain "java/io/Serializable" (some 0) with
  accessFlags := 1537
  interfaces := #[]
  cf := some (fileOf pool4 2 #[] #[] 1537 4 #[] #[])
  fields := #[]
  methods := #[]
  instanceTypes := #[]
  staticTypes := #[]
  resolved := Array.replicate 8 none
  statics := none }

/-- the primitive byte -/
def k5 : Class := { plain "byte" none with kind := .primitive 'B', accessFlags := 0x411 }
/-- [B -/
def k6 : Class := { plain "[B" (some 0) with kind := .array 5 .byte, interfaces := #[3, 4], accessFlags := 1041 }

/-- the primitive int -/
def k7 : Class := { plain "int" none with kind := .primitive 'I', accessFlags := 0x411 }
/-- [I -/
def k8 : Class := { plain "[I" (some 0) with kind := .array 7 .int, interfaces := #[3, 4], accessFlags := 1041 }

def heap : Heap := #[]
def classes : Array Class := #[k0, k1, k2, k3, k4, k5, k6, k7, k8]
def interned : List (Array UInt16 × Addr) := []
def slotsUsed : Nat := 0
def theMethod : MethodId := ⟨1, 3⟩
def args0 : Array Value := #[.int 5, .int 1, .int 3, .int 4, .int 5, .int 6]
def aboutOver (below : List Frame) : State where
  vm := { classes := classes, interned := interned.toArray }
  heap := heap
  slotsUsed := slotsUsed
  threads := #[{ frames := .invoking theMethod args0 :: below }]
def below0 : List Frame := [.native { method := ⟨0, 0⟩, args := #[] }]
def about1 : State := aboutOver below0
def p0 : Program := .bare "" "" ""
def e0 : Env := launch0.env 0 0 0
theorem w_frames : about1.frames = Frame.invoking theMethod args0 :: below0 := rfl
set_option maxRecDepth 65536 in
theorem w_args : argsFit about1.vm theMethod args0 = true := by decide +kernel
set_option maxRecDepth 65536 in
theorem w_heap : heapFits about1 = true := by decide +kernel
set_option maxRecDepth 65536 in
theorem w_runnable : about1.curStatus? = some .runnable := by decide +kernel
set_option maxRecDepth 65536 in
theorem w_alone : about1.alone = true := by decide +kernel
set_option maxRecDepth 65536 in
theorem w_named : about1.methodNamed? x = some theMethod := by decide +kernel
set_option maxRecDepth 65536 in
theorem w_hears : about1.hears theMethod below0 = true := by decide +kernel
set_option maxRecDepth 65536 in
theorem w_ripe : about1.ripe theMethod args0 below0 = true := by decide +kernel
theorem w_running : about1.status = .running := rfl
set_option maxRecDepth 65536 in
theorem w_room : about1.hasRoom e0.platform room_1 = true :=
  launch0.hasRoom_least _ room_1 (by decide +kernel) (by decide +kernel) (by decide +kernel) (by decide +kernel) (by decide +kernel) (by decide +kernel)
theorem allAtoms_all (ts : List Jvm.Cond) (a : Array Jvm.Value) (st : Jvm.State) : (allAtoms ts).before a st = ts.all (fun c => c.before a st) := by
  induction ts with
  | nil => rfl
  | cons c t ih =>
    show (Jvm.Cond.and c (allAtoms t)).before a st = _
    rw [Jvm.Cond.before_and, ih, List.all_cons]
def words1 : List Jvm.Cond := Jvm.Cond.code x code maxLocals ret :: tables_1
/-- a 'code' word, met by the world's own term for the bytes: nothing is compared byte by byte -/
theorem code_word {y : MethodName} {bytes : ByteArray} {mx : Nat} {rt : Option FieldType} {a : Array Value} {s : State} {m : MethodId} {meth : Method} {c : Code} (h1 : s.methodNamed? y = some m) (h2 : s.vm.method? m = some meth) (h3 : meth.code = some c) (h4 : c.code = bytes)
    (h5 : (c.maxLocals == mx && c.exceptionTable.isEmpty && decide (c.maxStack ≤ mostOperands) && decide (meth.sig.returnType = rt) && !meth.locks && decide (parseMethodDescriptor y.desc = some meth.sig)) = true) : (Jvm.Cond.code y bytes mx rt).before a s = true := by
  simp only [Bool.and_eq_true, beq_iff_eq, Bool.not_eq_true', decide_eq_true_eq] at h5
  obtain ⟨⟨⟨⟨⟨g1, g2⟩, g3⟩, g4⟩, g5⟩, g6⟩ := h5
  simp [Cond.before, Cond.holds, Cond.value, h1, h2, h3, h4, g1, g2, g3, g4, g5, g6]
def isCode : Jvm.Cond → Bool
  | .code _ _ _ _ => true
  | _ => false
theorem all_split {L : List Jvm.Cond} {P : Jvm.Cond → Bool} (h1 : L.all (fun c => isCode c || P c) = true) (h2 : ∀ c ∈ L.filter isCode, P c = true) : L.all P = true := by
  refine List.all_eq_true.mpr fun c hc => ?_
  have h := List.all_eq_true.mp h1 c hc
  rcases Bool.eq_false_or_eq_true (isCode c) with hi | hi
  · exact h2 c (List.mem_filter.mpr ⟨hc, hi⟩)
  · simpa [hi] using h
set_option maxRecDepth 65536 in
theorem w_c0 : (Jvm.Cond.code x code maxLocals ret).before args0 about1 = true := code_word (m := ⟨1, 3⟩) (meth := k1m3) (c := k1c3) (by decide +kernel) rfl rfl rfl (by decide +kernel)
set_option maxRecDepth 65536 in
theorem w_c1 : (Jvm.Cond.code ({ cls := "com/example/tidegate/tidegate/venue/LineFieldsDigitPinLaw", name := "draw", desc := "(I)B" } : Jvm.MethodName) method_2_code (2 : Nat) (Option.some Jvm.ClassFile.FieldType.byte)).before args0 about1 = true := code_word (m := ⟨1, 1⟩) (meth := k1m1) (c := k1c1) (by decide +kernel) rfl rfl rfl (by decide +kernel)
set_option maxRecDepth 65536 in
theorem w_c2 : (Jvm.Cond.code ({ cls := "com/example/tidegate/tidegate/venue/LineFields", name := "<init>", desc := "()V" } : Jvm.MethodName) prog_65_method_1_code (1 : Nat) (Option.none : Option Jvm.ClassFile.FieldType)).before args0 about1 = true := code_word (m := ⟨2, 0⟩) (meth := k2m0) (c := k2c0) (by decide +kernel) rfl rfl rfl (by decide +kernel)
set_option maxRecDepth 65536 in
theorem w_c3 : (Jvm.Cond.code ({ cls := "java/lang/Object", name := "<init>", desc := "()V" } : Jvm.MethodName) object_method_1_code (1 : Nat) (Option.none : Option Jvm.ClassFile.FieldType)).before args0 about1 = true := code_word (m := ⟨0, 0⟩) (meth := k0m0) (c := k0c0) (by decide +kernel) rfl rfl rfl (by decide +kernel)
set_option maxRecDepth 65536 in
theorem w_c4 : (Jvm.Cond.code ({ cls := "com/example/tidegate/tidegate/venue/LineFields", name := "split", desc := "([BII)V" } : Jvm.MethodName) prog_65_method_2_code (6 : Nat) (Option.none : Option Jvm.ClassFile.FieldType)).before args0 about1 = true := code_word (m := ⟨2, 1⟩) (meth := k2m1) (c := k2c1) (by decide +kernel) rfl rfl rfl (by decide +kernel)
set_option maxRecDepth 65536 in
theorem w_c5 : (Jvm.Cond.code ({ cls := "com/example/tidegate/tidegate/venue/LineFields", name := "add", desc := "(II)V" } : Jvm.MethodName) prog_65_method_16_code (3 : Nat) (Option.none : Option Jvm.ClassFile.FieldType)).before args0 about1 = true := code_word (m := ⟨2, 3⟩) (meth := k2m3) (c := k2c3) (by decide +kernel) rfl rfl rfl (by decide +kernel)
set_option maxRecDepth 65536 in
theorem w_c6 : (Jvm.Cond.code ({ cls := "com/example/tidegate/tidegate/venue/LineFieldsDigitPinLaw", name := "expected", desc := "(IB)I" } : Jvm.MethodName) method_3_code (2 : Nat) (Option.some Jvm.ClassFile.FieldType.int)).before args0 about1 = true := code_word (m := ⟨1, 2⟩) (meth := k1m2) (c := k1c2) (by decide +kernel) rfl rfl rfl (by decide +kernel)
set_option maxRecDepth 65536 in
theorem w_c7 : (Jvm.Cond.code ({ cls := "com/example/tidegate/tidegate/venue/LineFields", name := "digit", desc := "(I)I" } : Jvm.MethodName) prog_65_method_14_code (3 : Nat) (Option.some Jvm.ClassFile.FieldType.int)).before args0 about1 = true := code_word (m := ⟨2, 2⟩) (meth := k2m2) (c := k2c2) (by decide +kernel) rfl rfl rfl (by decide +kernel)
def codes1 : List Jvm.Cond := [Jvm.Cond.code x code maxLocals ret, Jvm.Cond.code ({ cls := "com/example/tidegate/tidegate/venue/LineFieldsDigitPinLaw", name := "draw", desc := "(I)B" } : Jvm.MethodName) method_2_code (2 : Nat) (Option.some Jvm.ClassFile.FieldType.byte), Jvm.Cond.code ({ cls := "com/example/tidegate/tidegate/venue/LineFields", name := "<init>", desc := "()V" } : Jvm.MethodName) prog_65_method_1_code (1 : Nat) (Option.none : Option Jvm.ClassFile.FieldType), Jvm.Cond.code ({ cls := "java/lang/Object", name := "<init>", desc := "()V" } : Jvm.MethodName) object_method_1_code (1 : Nat) (Option.none : Option Jvm.ClassFile.FieldType), Jvm.Cond.code ({ cls := "com/example/tidegate/tidegate/venue/LineFields", name := "split", desc := "([BII)V" } : Jvm.MethodName) prog_65_method_2_code (6 : Nat) (Option.none : Option Jvm.ClassFile.FieldType), Jvm.Cond.code ({ cls := "com/example/tidegate/tidegate/venue/LineFields", name := "add", desc := "(II)V" } : Jvm.MethodName) prog_65_method_16_code (3 : Nat) (Option.none : Option Jvm.ClassFile.FieldType), Jvm.Cond.code ({ cls := "com/example/tidegate/tidegate/venue/LineFieldsDigitPinLaw", name := "expected", desc := "(IB)I" } : Jvm.MethodName) method_3_code (2 : Nat) (Option.some Jvm.ClassFile.FieldType.int), Jvm.Cond.code ({ cls := "com/example/tidegate/tidegate/venue/LineFields", name := "digit", desc := "(I)I" } : Jvm.MethodName) prog_65_method_14_code (3 : Nat) (Option.some Jvm.ClassFile.FieldType.int)]
set_option maxRecDepth 65536 in
theorem codes_eq : words1.filter isCode = codes1 := rfl
theorem w_codes : ∀ c ∈ words1.filter isCode, c.before args0 about1 = true := by
  rw [codes_eq]
  intro c hc
  simp only [codes1, List.mem_cons, List.not_mem_nil, or_false] at hc
  rcases hc with rfl | rfl | rfl | rfl | rfl | rfl | rfl | rfl
  · exact w_c0
  · exact w_c1
  · exact w_c2
  · exact w_c3
  · exact w_c4
  · exact w_c5
  · exact w_c6
  · exact w_c7
set_option maxRecDepth 65536 in
theorem w_t1 : (words1.take 24).all (fun c => isCode c || c.before args0 about1) = true := by decide +kernel
set_option maxRecDepth 65536 in
theorem w_t2 : (words1.drop 24).all (fun c => isCode c || c.before args0 about1) = true := by decide +kernel
theorem w_tables : (allAtoms (Jvm.Cond.code x code maxLocals ret :: tables_1)).before args0 about1 = true := by
  rw [allAtoms_all]
  show words1.all (fun c => c.before args0 about1) = true
  refine all_split ?_ w_codes
  rw [← List.take_append_drop 24 words1, List.all_append, w_t1, w_t2]
  rfl
set_option maxRecDepth 65536 in
theorem w_case : (Jvm.Cond.and given_1 narrow_1).before args0 about1 = true := by decide +kernel
theorem w_applies : (headSpec (Jvm.Cond.code x code maxLocals ret :: tables_1) room_1).applies x e0.platform about1 = true :=
  (Spec.applies_iff w_frames).mpr ⟨w_running, w_runnable, w_alone, w_named, w_hears, w_ripe, w_room, w_tables⟩
theorem atStart : AtStart classFile x code maxLocals ret World_1 tables_1 room_1 Calls_1 rest_1 Pre_1 launch0 p0 e0 about1 theMethod args0 below0 :=
  ⟨lists_1, trivial, launch0.admits_env _ _ _, launch0.least_env, fairChoices_fair.cas, fairChoices_fair.clock, w_frames, w_args, w_heap, w_applies, trivial, trivial, w_case⟩
end start1
theorem witness_1 : WitnessClaimed_1 := ⟨start1.p0, start1.e0, start1.about1, start1.theMethod, start1.args0, start1.below0, start1.atStart⟩
end Jvm.Pilot.@@N@@
