import JvmDerived
import JvmDerived.Pilot.@@N@@Statement
import JvmDerived.Pilot.@@N@@Code
set_option linter.unusedVariables false
set_option linter.unusedSimpArgs false

namespace Jvm.Own
open Sem ClassFile Op Lib Jvm.Stand Jvm.Free Jvm.LawKit Jvm.RoadKit
def Go (p : Program) (e : Env) (below : List Frame) (G : State → Outcome → Prop) (σ : State) : Prop := ∃ s₂ o, Steps p.tables e below σ s₂ ∧ s₂.status = .running ∧ Ended s₂ below o ∧ G s₂ o
theorem Go.step {p : Program} {e : Env} {below : List Frame} {G : State → Outcome → Prop} {σ σ' : State} (h : ∀ t, Steps p.tables e below σ' t → Steps p.tables e below σ t) (k : Go p e below G σ') : Go p e below G σ := by
  obtain ⟨s₂, o, h1, h2⟩ := k
  exact ⟨s₂, o, h _ h1, h2⟩
def RetG (s : State) (Q : Option Value → Heap → List Loc → Prop) (cells slots : Nat) (s₂ : State) (o : Outcome) : Prop := ∃ v L, o = .returned v ∧ Q v s₂.heap L ∧ FrameEnd s o s₂ L cells slots
section
variable {p : Program} {l : Launch} {e : Env} {R : Room} {s : State} {m : MethodId} {args : Array Value} {below : List Frame} {meth : Method} {c : Code} {T : State} {locs : List Loc} {k n : Nat} {G : State → Outcome → Prop} {code : ByteArray} {pc : Nat} {Ls : Array Slot} {st : List Value} {Z : State} {a0 : Array Value} {h : Heap} {n0 : Nat}
theorem Go.leave (X : Stand p l e R s m args below meth c T locs k n) {v : Option Value} (hv : meth.sig.returnType = none → v = none) (hlocks : meth.locks = false) {Q : Option Value → Heap → List Loc → Prop} {cells slots : Nat} {σ : State} (eT : T.heap = h) (hq : Q v h locs) (hk : k ≤ cells) (hn : n ≤ slots)
    (st : ∀ fs, (∀ (f : JFrame) (acts : List Action), f.method = m → f.locked = none → f.entered = [] → (doReturn e (T.setTop f) acts v).1 = T.setFrames fs) → Steps p.tables e below σ (T.setFrames fs)) : Go p e below (RetG s Q cells slots) σ := by
  obtain ⟨fs, hr, hrun, hended, hW, hsame⟩ := X.leave (v := v) hv hlocks
  subst eT
  exact ⟨_, _, st fs hr, hrun, hended, _, _, rfl, hq, ⟨_, rfl⟩, hW, hsame.mono hk hn⟩
/-- null or some object -/
def Rf (v : Value) : Prop := v = .null ∨ ∃ a, v = .ref a
theorem Rf.is {v : Value} (r : Rf v) : v.isRef = true := by rcases r with rfl | ⟨a, rfl⟩ <;> rfl
theorem Rf.cat {v : Value} (r : Rf v) : v.category = 1 := by rcases r with rfl | ⟨a, rfl⟩ <;> rfl
theorem Rf.nar {v : Value} (r : Rf v) {c : String} : narrow (.object c) v = v := by rcases r with rfl | ⟨a, rfl⟩ <;> rfl
theorem Rf.fit {v : Value} (r : Rf v) {c : String} : fits (.object c) v = true := by rcases r with rfl | ⟨a, rfl⟩ <;> rfl
theorem Rf.store {v : Value} (r : Rf v) {ls ls' : Array Slot} {i : Nat} {o : Slot} (hold : ls[i]? = some o) (ho : One o) (hl : ls.setIfInBounds i (.val v) = ls') : storeLocals ls i v = some ls' := by rw [XS.store1 hold ho r.cat, hl]
theorem Rf.of {v : Value} (h : v.isRef = true) : Rf v := ref_cases h
theorem selOf {U : State} {as : Array Value} {y : MethodName} {n : Nat} (wi : (Cond.instantiable y.cls n).before as U = true) (wp : (Cond.privateMethod y).before #[] U = true) (wm : (Cond.instanceMethod y).before as U = true) (hy : y.cls ≠ "java/lang/invoke/MethodHandle" ∧ y.cls ≠ "java/lang/invoke/VarHandle") : (Cond.selects y.cls y y).before as U = true := by
  obtain ⟨c, k, h1, h2, -, h4, -⟩ := Cond.instantiable_spec wi
  exact selects_self_of_private h1 h2 (Bool.or_eq_false_iff.mp h4).1 (Cond.privateMethod_at wp) wm hy
theorem g_iload (X : Stand p l e R s m args below meth c T locs k n) (hx : p.tables.exec = Jvm.exec) (hby : c.code = code) {j : Nat} {v : Int32} (hd : decode code pc = .ok (.iload j, 2)) (hl : Ls[j]? = some (.val (.int v))) (K : Go p e below G (T.setTop (mkF m (pc + 2) Ls (.int v :: st)))) : Go p e below G (T.setTop (mkF m pc Ls st)) := Go.step (fun t q => XS.iload X.here hx rfl (hb hby hd) hl q) K
theorem g_iloadN (X : Stand p l e R s m args below meth c T locs k n) (hx : p.tables.exec = Jvm.exec) (hby : c.code = code) {j : Fin 4} {v : Int32} (hd : decode code pc = .ok (.iload_n j, 1)) (hl : Ls[j.val]? = some (.val (.int v))) (K : Go p e below G (T.setTop (mkF m (pc + 1) Ls (.int v :: st)))) : Go p e below G (T.setTop (mkF m pc Ls st)) := Go.step (fun t q => XS.iloadN X.here hx rfl (hb hby hd) hl q) K
theorem g_lload (X : Stand p l e R s m args below meth c T locs k n) (hx : p.tables.exec = Jvm.exec) (hby : c.code = code) {j : Nat} {v : Int64} (hd : decode code pc = .ok (.lload j, 2)) (hl : Ls[j]? = some (.val (.long v))) (K : Go p e below G (T.setTop (mkF m (pc + 2) Ls (.long v :: st)))) : Go p e below G (T.setTop (mkF m pc Ls st)) := Go.step (fun t q => XS.lload X.here hx rfl (hb hby hd) hl q) K
theorem g_lloadN (X : Stand p l e R s m args below meth c T locs k n) (hx : p.tables.exec = Jvm.exec) (hby : c.code = code) {j : Fin 4} {v : Int64} (hd : decode code pc = .ok (.lload_n j, 1)) (hl : Ls[j.val]? = some (.val (.long v))) (K : Go p e below G (T.setTop (mkF m (pc + 1) Ls (.long v :: st)))) : Go p e below G (T.setTop (mkF m pc Ls st)) := Go.step (fun t q => XS.lloadN X.here hx rfl (hb hby hd) hl q) K
theorem g_aload (X : Stand p l e R s m args below meth c T locs k n) (hx : p.tables.exec = Jvm.exec) (hby : c.code = code) {j : Nat} {v : Value} (hd : decode code pc = .ok (.aload j, 2)) (hl : Ls[j]? = some (.val v)) (hv : v.isRef = true) (K : Go p e below G (T.setTop (mkF m (pc + 2) Ls (v :: st)))) : Go p e below G (T.setTop (mkF m pc Ls st)) := Go.step (fun t q => XS.aload X.here hx rfl (hb hby hd) hl hv q) K
theorem g_aloadN (X : Stand p l e R s m args below meth c T locs k n) (hx : p.tables.exec = Jvm.exec) (hby : c.code = code) {j : Fin 4} {v : Value} (hd : decode code pc = .ok (.aload_n j, 1)) (hl : Ls[j.val]? = some (.val v)) (hv : v.isRef = true) (K : Go p e below G (T.setTop (mkF m (pc + 1) Ls (v :: st)))) : Go p e below G (T.setTop (mkF m pc Ls st)) := Go.step (fun t q => XS.aloadN X.here hx rfl (hb hby hd) hl hv q) K
theorem g_istore (X : Stand p l e R s m args below meth c T locs k n) (hx : p.tables.exec = Jvm.exec) (hby : c.code = code) {j : Nat} {x : Int32} {rest : List Value} {l' : Array Slot} (hd : decode code pc = .ok (.istore j, 2)) (hl : storeLocals Ls j (.int x) = some l') (K : Go p e below G (T.setTop (mkF m (pc + 2) l' rest))) : Go p e below G (T.setTop (mkF m pc Ls (.int x :: rest))) := Go.step (fun t q => XS.istore X.here hx rfl (hb hby hd) rfl hl q) K
theorem g_istoreN (X : Stand p l e R s m args below meth c T locs k n) (hx : p.tables.exec = Jvm.exec) (hby : c.code = code) {j : Fin 4} {x : Int32} {rest : List Value} {l' : Array Slot} (hd : decode code pc = .ok (.istore_n j, 1)) (hl : storeLocals Ls j.val (.int x) = some l') (K : Go p e below G (T.setTop (mkF m (pc + 1) l' rest))) : Go p e below G (T.setTop (mkF m pc Ls (.int x :: rest))) := Go.step (fun t q => XS.istoreN X.here hx rfl (hb hby hd) rfl hl q) K
theorem g_lstore (X : Stand p l e R s m args below meth c T locs k n) (hx : p.tables.exec = Jvm.exec) (hby : c.code = code) {j : Nat} {x : Int64} {rest : List Value} {l' : Array Slot} (hd : decode code pc = .ok (.lstore j, 2)) (hl : storeLocals Ls j (.long x) = some l') (K : Go p e below G (T.setTop (mkF m (pc + 2) l' rest))) : Go p e below G (T.setTop (mkF m pc Ls (.long x :: rest))) := Go.step (fun t q => XS.lstore X.here hx rfl (hb hby hd) rfl hl q) K
theorem g_lstoreN (X : Stand p l e R s m args below meth c T locs k n) (hx : p.tables.exec = Jvm.exec) (hby : c.code = code) {j : Fin 4} {x : Int64} {rest : List Value} {l' : Array Slot} (hd : decode code pc = .ok (.lstore_n j, 1)) (hl : storeLocals Ls j.val (.long x) = some l') (K : Go p e below G (T.setTop (mkF m (pc + 1) l' rest))) : Go p e below G (T.setTop (mkF m pc Ls (.long x :: rest))) := Go.step (fun t q => XS.lstoreN X.here hx rfl (hb hby hd) rfl hl q) K
theorem g_astore (X : Stand p l e R s m args below meth c T locs k n) (hx : p.tables.exec = Jvm.exec) (hby : c.code = code) {j : Nat} {x : Value} {rest : List Value} {l' : Array Slot} (hd : decode code pc = .ok (.astore j, 2)) (hv : x.isRef = true) (hl : storeLocals Ls j x = some l') (K : Go p e below G (T.setTop (mkF m (pc + 2) l' rest))) : Go p e below G (T.setTop (mkF m pc Ls (x :: rest))) := Go.step (fun t q => XS.astore X.here hx rfl (hb hby hd) rfl hv hl q) K
theorem g_astoreN (X : Stand p l e R s m args below meth c T locs k n) (hx : p.tables.exec = Jvm.exec) (hby : c.code = code) {j : Fin 4} {x : Value} {rest : List Value} {l' : Array Slot} (hd : decode code pc = .ok (.astore_n j, 1)) (hv : x.isRef = true) (hl : storeLocals Ls j.val x = some l') (K : Go p e below G (T.setTop (mkF m (pc + 1) l' rest))) : Go p e below G (T.setTop (mkF m pc Ls (x :: rest))) := Go.step (fun t q => XS.astoreN X.here hx rfl (hb hby hd) rfl hv hl q) K
theorem g_iconst (X : Stand p l e R s m args below meth c T locs k n) (hx : p.tables.exec = Jvm.exec) (hby : c.code = code) {i : Int} (v : Int32) (hd : decode code pc = .ok (.iconst i, 1)) (hv : Int32.ofInt i = v) (K : Go p e below G (T.setTop (mkF m (pc + 1) Ls (.int v :: st)))) : Go p e below G (T.setTop (mkF m pc Ls st)) := Go.step (fun t q => XS.iconst X.here hx rfl (hb hby hd) (by rw [hv]; exact q)) K
theorem g_bipush (X : Stand p l e R s m args below meth c T locs k n) (hx : p.tables.exec = Jvm.exec) (hby : c.code = code) {i : Int} (v : Int32) (hd : decode code pc = .ok (.bipush i, 2)) (hv : (Int8.ofInt i).toInt32 = v) (K : Go p e below G (T.setTop (mkF m (pc + 2) Ls (.int v :: st)))) : Go p e below G (T.setTop (mkF m pc Ls st)) := Go.step (fun t q => XS.bipush X.here hx rfl (hb hby hd) (by rw [hv]; exact q)) K
theorem g_sipush (X : Stand p l e R s m args below meth c T locs k n) (hx : p.tables.exec = Jvm.exec) (hby : c.code = code) {i : Int} (v : Int32) (hd : decode code pc = .ok (.sipush i, 3)) (hv : (Int16.ofInt i).toInt32 = v) (K : Go p e below G (T.setTop (mkF m (pc + 3) Ls (.int v :: st)))) : Go p e below G (T.setTop (mkF m pc Ls st)) := Go.step (fun t q => XS.sipush X.here hx rfl (hb hby hd) (by rw [hv]; exact q)) K
theorem g_lconst (X : Stand p l e R s m args below meth c T locs k n) (hx : p.tables.exec = Jvm.exec) (hby : c.code = code) {j : Fin 2} (v : Int64) (hd : decode code pc = .ok (.lconst j, 1)) (hv : Int64.ofNat j = v) (K : Go p e below G (T.setTop (mkF m (pc + 1) Ls (.long v :: st)))) : Go p e below G (T.setTop (mkF m pc Ls st)) := Go.step (fun t q => XS.lconst X.here hx rfl (hb hby hd) (by rw [hv]; exact q)) K
theorem g_topI {x : Int32} (y : Int32) (q : x = y) {rest : List Value} (K : Go p e below G (T.setTop (mkF m pc Ls (.int y :: rest)))) : Go p e below G (T.setTop (mkF m pc Ls (.int x :: rest))) := q ▸ K
theorem g_topJ {x : Int64} (y : Int64) (q : x = y) {rest : List Value} (K : Go p e below G (T.setTop (mkF m pc Ls (.long y :: rest)))) : Go p e below G (T.setTop (mkF m pc Ls (.long x :: rest))) := q ▸ K
theorem g_at {ls ls' : Array Slot} {st' : List Value} (pc' : Nat) (h1 : pc = pc') (h2 : ls = ls') (h3 : st = st') (K : Go p e below G (T.setTop (mkF m pc' ls' st'))) : Go p e below G (T.setTop (mkF m pc ls st)) := h1 ▸ h2 ▸ h3 ▸ K
theorem g_aconst_null (X : Stand p l e R s m args below meth c T locs k n) (hx : p.tables.exec = Jvm.exec) (hby : c.code = code)  (hd : decode code pc = .ok (.aconst_null, 1)) (K : Go p e below G (T.setTop (mkF m (pc + 1) Ls (.null :: st)))) : Go p e below G (T.setTop (mkF m pc Ls st)) := Go.step (fun t q => XS.aconstNull X.here hx rfl (hb hby hd)  q) K
theorem g_iadd (X : Stand p l e R s m args below meth c T locs k n) (hx : p.tables.exec = Jvm.exec) (hby : c.code = code) {x y : Int32} {rest : List Value} (hd : decode code pc = .ok (.iadd, 1)) (K : Go p e below G (T.setTop (mkF m (pc + 1) Ls (.int (x + y) :: rest)))) : Go p e below G (T.setTop (mkF m pc Ls (.int y :: .int x :: rest))) := Go.step (fun t q => XS.iadd X.here hx rfl (hb hby hd) rfl q) K
theorem g_ladd (X : Stand p l e R s m args below meth c T locs k n) (hx : p.tables.exec = Jvm.exec) (hby : c.code = code) {x y : Int64} {rest : List Value} (hd : decode code pc = .ok (.ladd, 1)) (K : Go p e below G (T.setTop (mkF m (pc + 1) Ls (.long (x + y) :: rest)))) : Go p e below G (T.setTop (mkF m pc Ls (.long y :: .long x :: rest))) := Go.step (fun t q => XS.ladd X.here hx rfl (hb hby hd) rfl q) K
theorem g_isub (X : Stand p l e R s m args below meth c T locs k n) (hx : p.tables.exec = Jvm.exec) (hby : c.code = code) {x y : Int32} {rest : List Value} (hd : decode code pc = .ok (.isub, 1)) (K : Go p e below G (T.setTop (mkF m (pc + 1) Ls (.int (x - y) :: rest)))) : Go p e below G (T.setTop (mkF m pc Ls (.int y :: .int x :: rest))) := Go.step (fun t q => XS.isub X.here hx rfl (hb hby hd) rfl q) K
theorem g_lsub (X : Stand p l e R s m args below meth c T locs k n) (hx : p.tables.exec = Jvm.exec) (hby : c.code = code) {x y : Int64} {rest : List Value} (hd : decode code pc = .ok (.lsub, 1)) (K : Go p e below G (T.setTop (mkF m (pc + 1) Ls (.long (x - y) :: rest)))) : Go p e below G (T.setTop (mkF m pc Ls (.long y :: .long x :: rest))) := Go.step (fun t q => XS.lsub X.here hx rfl (hb hby hd) rfl q) K
theorem g_imul (X : Stand p l e R s m args below meth c T locs k n) (hx : p.tables.exec = Jvm.exec) (hby : c.code = code) {x y : Int32} {rest : List Value} (hd : decode code pc = .ok (.imul, 1)) (K : Go p e below G (T.setTop (mkF m (pc + 1) Ls (.int (x * y) :: rest)))) : Go p e below G (T.setTop (mkF m pc Ls (.int y :: .int x :: rest))) := Go.step (fun t q => XS.imul X.here hx rfl (hb hby hd) rfl q) K
theorem g_lmul (X : Stand p l e R s m args below meth c T locs k n) (hx : p.tables.exec = Jvm.exec) (hby : c.code = code) {x y : Int64} {rest : List Value} (hd : decode code pc = .ok (.lmul, 1)) (K : Go p e below G (T.setTop (mkF m (pc + 1) Ls (.long (x * y) :: rest)))) : Go p e below G (T.setTop (mkF m pc Ls (.long y :: .long x :: rest))) := Go.step (fun t q => XS.lmul X.here hx rfl (hb hby hd) rfl q) K
theorem g_iand (X : Stand p l e R s m args below meth c T locs k n) (hx : p.tables.exec = Jvm.exec) (hby : c.code = code) {x y : Int32} {rest : List Value} (hd : decode code pc = .ok (.iand, 1)) (K : Go p e below G (T.setTop (mkF m (pc + 1) Ls (.int (x &&& y) :: rest)))) : Go p e below G (T.setTop (mkF m pc Ls (.int y :: .int x :: rest))) := Go.step (fun t q => XS.iand X.here hx rfl (hb hby hd) rfl q) K
theorem g_land (X : Stand p l e R s m args below meth c T locs k n) (hx : p.tables.exec = Jvm.exec) (hby : c.code = code) {x y : Int64} {rest : List Value} (hd : decode code pc = .ok (.land, 1)) (K : Go p e below G (T.setTop (mkF m (pc + 1) Ls (.long (x &&& y) :: rest)))) : Go p e below G (T.setTop (mkF m pc Ls (.long y :: .long x :: rest))) := Go.step (fun t q => XS.land X.here hx rfl (hb hby hd) rfl q) K
theorem g_ior (X : Stand p l e R s m args below meth c T locs k n) (hx : p.tables.exec = Jvm.exec) (hby : c.code = code) {x y : Int32} {rest : List Value} (hd : decode code pc = .ok (.ior, 1)) (K : Go p e below G (T.setTop (mkF m (pc + 1) Ls (.int (x ||| y) :: rest)))) : Go p e below G (T.setTop (mkF m pc Ls (.int y :: .int x :: rest))) := Go.step (fun t q => XS.ior X.here hx rfl (hb hby hd) rfl q) K
theorem g_lor (X : Stand p l e R s m args below meth c T locs k n) (hx : p.tables.exec = Jvm.exec) (hby : c.code = code) {x y : Int64} {rest : List Value} (hd : decode code pc = .ok (.lor, 1)) (K : Go p e below G (T.setTop (mkF m (pc + 1) Ls (.long (x ||| y) :: rest)))) : Go p e below G (T.setTop (mkF m pc Ls (.long y :: .long x :: rest))) := Go.step (fun t q => XS.lor X.here hx rfl (hb hby hd) rfl q) K
theorem g_ixor (X : Stand p l e R s m args below meth c T locs k n) (hx : p.tables.exec = Jvm.exec) (hby : c.code = code) {x y : Int32} {rest : List Value} (hd : decode code pc = .ok (.ixor, 1)) (K : Go p e below G (T.setTop (mkF m (pc + 1) Ls (.int (x ^^^ y) :: rest)))) : Go p e below G (T.setTop (mkF m pc Ls (.int y :: .int x :: rest))) := Go.step (fun t q => XS.ixor X.here hx rfl (hb hby hd) rfl q) K
theorem g_lxor (X : Stand p l e R s m args below meth c T locs k n) (hx : p.tables.exec = Jvm.exec) (hby : c.code = code) {x y : Int64} {rest : List Value} (hd : decode code pc = .ok (.lxor, 1)) (K : Go p e below G (T.setTop (mkF m (pc + 1) Ls (.long (x ^^^ y) :: rest)))) : Go p e below G (T.setTop (mkF m pc Ls (.long y :: .long x :: rest))) := Go.step (fun t q => XS.lxor X.here hx rfl (hb hby hd) rfl q) K
theorem g_ishl (X : Stand p l e R s m args below meth c T locs k n) (hx : p.tables.exec = Jvm.exec) (hby : c.code = code) {x y : Int32} {rest : List Value} (hd : decode code pc = .ok (.ishl, 1)) (K : Go p e below G (T.setTop (mkF m (pc + 1) Ls (.int (x <<< (y &&& 31)) :: rest)))) : Go p e below G (T.setTop (mkF m pc Ls (.int y :: .int x :: rest))) := Go.step (fun t q => XS.ishl X.here hx rfl (hb hby hd) rfl q) K
theorem g_ishr (X : Stand p l e R s m args below meth c T locs k n) (hx : p.tables.exec = Jvm.exec) (hby : c.code = code) {x y : Int32} {rest : List Value} (hd : decode code pc = .ok (.ishr, 1)) (K : Go p e below G (T.setTop (mkF m (pc + 1) Ls (.int (x >>> (y &&& 31)) :: rest)))) : Go p e below G (T.setTop (mkF m pc Ls (.int y :: .int x :: rest))) := Go.step (fun t q => XS.ishr X.here hx rfl (hb hby hd) rfl q) K
theorem g_iushr (X : Stand p l e R s m args below meth c T locs k n) (hx : p.tables.exec = Jvm.exec) (hby : c.code = code) {x y : Int32} {rest : List Value} (hd : decode code pc = .ok (.iushr, 1)) (K : Go p e below G (T.setTop (mkF m (pc + 1) Ls (.int ((x.toUInt32 >>> (y &&& 31).toUInt32).toInt32) :: rest)))) : Go p e below G (T.setTop (mkF m pc Ls (.int y :: .int x :: rest))) := Go.step (fun t q => XS.iushr X.here hx rfl (hb hby hd) rfl q) K
theorem g_lshl (X : Stand p l e R s m args below meth c T locs k n) (hx : p.tables.exec = Jvm.exec) (hby : c.code = code) {x : Int64} {y : Int32} {rest : List Value} (hd : decode code pc = .ok (.lshl, 1)) (K : Go p e below G (T.setTop (mkF m (pc + 1) Ls (.long (x <<< (y &&& 0x3f).toInt64) :: rest)))) : Go p e below G (T.setTop (mkF m pc Ls (.int y :: .long x :: rest))) := Go.step (fun t q => XS.lshl X.here hx rfl (hb hby hd) rfl q) K
theorem g_lshr (X : Stand p l e R s m args below meth c T locs k n) (hx : p.tables.exec = Jvm.exec) (hby : c.code = code) {x : Int64} {y : Int32} {rest : List Value} (hd : decode code pc = .ok (.lshr, 1)) (K : Go p e below G (T.setTop (mkF m (pc + 1) Ls (.long (x >>> (y &&& 0x3f).toInt64) :: rest)))) : Go p e below G (T.setTop (mkF m pc Ls (.int y :: .long x :: rest))) := Go.step (fun t q => XS.lshr X.here hx rfl (hb hby hd) rfl q) K
theorem g_lushr (X : Stand p l e R s m args below meth c T locs k n) (hx : p.tables.exec = Jvm.exec) (hby : c.code = code) {x : Int64} {y : Int32} {rest : List Value} (hd : decode code pc = .ok (.lushr, 1)) (K : Go p e below G (T.setTop (mkF m (pc + 1) Ls (.long ((x.toUInt64 >>> (y &&& 0x3f).toInt64.toUInt64).toInt64) :: rest)))) : Go p e below G (T.setTop (mkF m pc Ls (.int y :: .long x :: rest))) := Go.step (fun t q => XS.lushr X.here hx rfl (hb hby hd) rfl q) K
theorem g_ineg (X : Stand p l e R s m args below meth c T locs k n) (hx : p.tables.exec = Jvm.exec) (hby : c.code = code) {x : Int32} {rest : List Value} (hd : decode code pc = .ok (.ineg, 1)) (K : Go p e below G (T.setTop (mkF m (pc + 1) Ls (.int (-x) :: rest)))) : Go p e below G (T.setTop (mkF m pc Ls (.int x :: rest))) := Go.step (fun t q => XS.ineg X.here hx rfl (hb hby hd) rfl q) K
theorem g_lneg (X : Stand p l e R s m args below meth c T locs k n) (hx : p.tables.exec = Jvm.exec) (hby : c.code = code) {x : Int64} {rest : List Value} (hd : decode code pc = .ok (.lneg, 1)) (K : Go p e below G (T.setTop (mkF m (pc + 1) Ls (.long (-x) :: rest)))) : Go p e below G (T.setTop (mkF m pc Ls (.long x :: rest))) := Go.step (fun t q => XS.lneg X.here hx rfl (hb hby hd) rfl q) K
theorem g_i2l (X : Stand p l e R s m args below meth c T locs k n) (hx : p.tables.exec = Jvm.exec) (hby : c.code = code) {x : Int32} {rest : List Value} (hd : decode code pc = .ok (.i2l, 1)) (K : Go p e below G (T.setTop (mkF m (pc + 1) Ls (.long (x.toInt64) :: rest)))) : Go p e below G (T.setTop (mkF m pc Ls (.int x :: rest))) := Go.step (fun t q => XS.i2l X.here hx rfl (hb hby hd) rfl q) K
theorem g_l2i (X : Stand p l e R s m args below meth c T locs k n) (hx : p.tables.exec = Jvm.exec) (hby : c.code = code) {x : Int64} {rest : List Value} (hd : decode code pc = .ok (.l2i, 1)) (K : Go p e below G (T.setTop (mkF m (pc + 1) Ls (.int (x.toInt32) :: rest)))) : Go p e below G (T.setTop (mkF m pc Ls (.long x :: rest))) := Go.step (fun t q => XS.l2i X.here hx rfl (hb hby hd) rfl q) K
theorem g_i2b (X : Stand p l e R s m args below meth c T locs k n) (hx : p.tables.exec = Jvm.exec) (hby : c.code = code) {x : Int32} {rest : List Value} (hd : decode code pc = .ok (.i2b, 1)) (K : Go p e below G (T.setTop (mkF m (pc + 1) Ls (.int (x.toInt8.toInt32) :: rest)))) : Go p e below G (T.setTop (mkF m pc Ls (.int x :: rest))) := Go.step (fun t q => XS.i2b X.here hx rfl (hb hby hd) rfl q) K
theorem g_i2s (X : Stand p l e R s m args below meth c T locs k n) (hx : p.tables.exec = Jvm.exec) (hby : c.code = code) {x : Int32} {rest : List Value} (hd : decode code pc = .ok (.i2s, 1)) (K : Go p e below G (T.setTop (mkF m (pc + 1) Ls (.int (x.toInt16.toInt32) :: rest)))) : Go p e below G (T.setTop (mkF m pc Ls (.int x :: rest))) := Go.step (fun t q => XS.i2s X.here hx rfl (hb hby hd) rfl q) K
theorem g_i2c (X : Stand p l e R s m args below meth c T locs k n) (hx : p.tables.exec = Jvm.exec) (hby : c.code = code) {x : Int32} {rest : List Value} (hd : decode code pc = .ok (.i2c, 1)) (K : Go p e below G (T.setTop (mkF m (pc + 1) Ls (.int (x.toUInt32.toUInt16.toUInt32.toInt32) :: rest)))) : Go p e below G (T.setTop (mkF m pc Ls (.int x :: rest))) := Go.step (fun t q => XS.i2c X.here hx rfl (hb hby hd) rfl q) K
theorem g_lcmp (X : Stand p l e R s m args below meth c T locs k n) (hx : p.tables.exec = Jvm.exec) (hby : c.code = code) {x y : Int64} {rest : List Value} (hd : decode code pc = .ok (.lcmp, 1)) (K : Go p e below G (T.setTop (mkF m (pc + 1) Ls (.int (lcmpW x y) :: rest)))) : Go p e below G (T.setTop (mkF m pc Ls (.long y :: .long x :: rest))) := Go.step (fun t q => XS.lcmp X.here hx rfl (hb hby hd) rfl q) K
theorem g_idiv (X : Stand p l e R s m args below meth c T locs k n) (hx : p.tables.exec = Jvm.exec) (hby : c.code = code) {x y : Int32} {rest : List Value} (hd : decode code pc = .ok (.idiv, 1)) (hy : y ≠ 0) (K : Go p e below G (T.setTop (mkF m (pc + 1) Ls (.int (x / y) :: rest)))) : Go p e below G (T.setTop (mkF m pc Ls (.int y :: .int x :: rest))) := Go.step (fun t q => XS.idiv X.here hx rfl (hb hby hd) rfl hy q) K
theorem g_irem (X : Stand p l e R s m args below meth c T locs k n) (hx : p.tables.exec = Jvm.exec) (hby : c.code = code) {x y : Int32} {rest : List Value} (hd : decode code pc = .ok (.irem, 1)) (hy : y ≠ 0) (K : Go p e below G (T.setTop (mkF m (pc + 1) Ls (.int (x % y) :: rest)))) : Go p e below G (T.setTop (mkF m pc Ls (.int y :: .int x :: rest))) := Go.step (fun t q => iremM X hx rfl (hb hby hd) rfl hy q) K
theorem g_iinc (X : Stand p l e R s m args below meth c T locs k n) (hx : p.tables.exec = Jvm.exec) (hby : c.code = code) {j : Nat} {cst : Int} {x : Int32} {l' : Array Slot} (v : Int32) (hd : decode code pc = .ok (.iinc j cst, 3)) (hl : Ls[j]? = some (.val (.int x))) (hv : x + Int32.ofInt cst = v) (hl' : storeLocals Ls j (.int v) = some l') (K : Go p e below G (T.setTop (mkF m (pc + 3) l' st))) : Go p e below G (T.setTop (mkF m pc Ls st)) := Go.step (fun t q => XS.iinc X.here hx rfl (hb hby hd) hl (by rw [hv]; exact hl') q) K
theorem g_dup (X : Stand p l e R s m args below meth c T locs k n) (hx : p.tables.exec = Jvm.exec) (hby : c.code = code) {x : Value} {rest : List Value} (hd : decode code pc = .ok (.dup, 1)) (hc : x.category = 1) (K : Go p e below G (T.setTop (mkF m (pc + 1) Ls (x :: x :: rest)))) : Go p e below G (T.setTop (mkF m pc Ls (x :: rest))) := Go.step (fun t q => XS.dup X.here hx rfl (hb hby hd) rfl hc q) K
theorem g_dup_x1 (X : Stand p l e R s m args below meth c T locs k n) (hx : p.tables.exec = Jvm.exec) (hby : c.code = code) {x y : Value} {rest : List Value} (hd : decode code pc = .ok (.dup_x1, 1)) (hc : x.category = 1) (hc2 : y.category = 1) (K : Go p e below G (T.setTop (mkF m (pc + 1) Ls (x :: y :: x :: rest)))) : Go p e below G (T.setTop (mkF m pc Ls (x :: y :: rest))) := Go.step (fun t q => XS.dupX1 X.here hx rfl (hb hby hd) rfl hc hc2 q) K
theorem g_pop (X : Stand p l e R s m args below meth c T locs k n) (hx : p.tables.exec = Jvm.exec) (hby : c.code = code) {x : Value} {rest : List Value} (hd : decode code pc = .ok (.pop, 1)) (hc : x.category = 1) (K : Go p e below G (T.setTop (mkF m (pc + 1) Ls rest))) : Go p e below G (T.setTop (mkF m pc Ls (x :: rest))) := Go.step (fun t q => XS.pop X.here hx rfl (hb hby hd) rfl hc q) K
theorem g_dup2 (X : Stand p l e R s m args below meth c T locs k n) (hx : p.tables.exec = Jvm.exec) (hby : c.code = code) {x y : Value} {rest : List Value} (hd : decode code pc = .ok (.dup2, 1)) (hc : x.category = 1) (hc2 : y.category = 1) (K : Go p e below G (T.setTop (mkF m (pc + 1) Ls (x :: y :: x :: y :: rest)))) : Go p e below G (T.setTop (mkF m pc Ls (x :: y :: rest))) := Go.step (fun t q => XT.dup2 X.here hx rfl (hb hby hd) rfl hc hc2 q) K
theorem g_dup2L (X : Stand p l e R s m args below meth c T locs k n) (hx : p.tables.exec = Jvm.exec) (hby : c.code = code) {x : Int64} {rest : List Value} (hd : decode code pc = .ok (.dup2, 1)) (K : Go p e below G (T.setTop (mkF m (pc + 1) Ls (.long x :: .long x :: rest)))) : Go p e below G (T.setTop (mkF m pc Ls (.long x :: rest))) := Go.step (fun t q => XT.dup2L X.here hx rfl (hb hby hd) rfl q) K
theorem g_pop2J (X : Stand p l e R s m args below meth c T locs k n) (hx : p.tables.exec = Jvm.exec) (hby : c.code = code) {x : Int64} {rest : List Value} (hd : decode code pc = .ok (.pop2, 1)) (K : Go p e below G (T.setTop (mkF m (pc + 1) Ls rest))) : Go p e below G (T.setTop (mkF m pc Ls (.long x :: rest))) := Go.step (fun t q => by
  have hd' := hb hby hd
  show Steps p.tables e below (T.setTop { method := m, pc := pc, locals := Ls, stack := .long x :: rest, locked := none }) t
  jvm_step X.here [X.here.top, hx, hd', Value.category]
  exact q) K
theorem g_goto (X : Stand p l e R s m args below meth c T locs k n) (hx : p.tables.exec = Jvm.exec) (hby : c.code = code) {d : Int} (pc' : Nat) (hd : decode code pc = .ok (.goto d, 3)) (ho : 0 ≤ (pc : Int) + d) (hp : ((pc : Int) + d).toNat = pc') (K : Go p e below G (T.setTop (mkF m pc' Ls st))) : Go p e below G (T.setTop (mkF m pc Ls st)) := Go.step (fun t q => XS.goto X.here hx rfl (pc0 := pc) (pc' := pc') rfl (hb hby hd) ho hp q) K
theorem g_ifY (X : Stand p l e R s m args below meth c T locs k n) (hx : p.tables.exec = Jvm.exec) (hby : c.code = code) {cd : ClassFile.Cond} {x : Int32} {rest : List Value} {d : Int} (pc' : Nat) (hd : decode code pc = .ok (.ifCond cd d, 3)) (hc : if_icmp.holds cd x 0 = true) (ho : 0 ≤ (pc : Int) + d) (hp : ((pc : Int) + d).toNat = pc') (K : Go p e below G (T.setTop (mkF m pc' Ls rest))) : Go p e below G (T.setTop (mkF m pc Ls (.int x :: rest))) := Go.step (fun t q => XS.ifYes X.here hx rfl (pc0 := pc) (pc' := pc') rfl (hb hby hd) rfl ((if0 _ _).trans hc) ho hp q) K
theorem g_ifN (X : Stand p l e R s m args below meth c T locs k n) (hx : p.tables.exec = Jvm.exec) (hby : c.code = code) {cd : ClassFile.Cond} {x : Int32} {rest : List Value} {d : Int} (hd : decode code pc = .ok (.ifCond cd d, 3)) (hc : if_icmp.holds cd x 0 = false) (K : Go p e below G (T.setTop (mkF m (pc + 3) Ls rest))) : Go p e below G (T.setTop (mkF m pc Ls (.int x :: rest))) := Go.step (fun t q => XS.ifNo X.here hx rfl (hb hby hd) rfl ((if0 _ _).trans hc) q) K
theorem g_icY (X : Stand p l e R s m args below meth c T locs k n) (hx : p.tables.exec = Jvm.exec) (hby : c.code = code) {cd : ClassFile.Cond} {x y : Int32} {rest : List Value} {d : Int} (pc' : Nat) (hd : decode code pc = .ok (.if_icmp cd d, 3)) (hc : if_icmp.holds cd x y = true) (ho : 0 ≤ (pc : Int) + d) (hp : ((pc : Int) + d).toNat = pc') (K : Go p e below G (T.setTop (mkF m pc' Ls rest))) : Go p e below G (T.setTop (mkF m pc Ls (.int y :: .int x :: rest))) := Go.step (fun t q => XS.icmpYes X.here hx rfl (pc0 := pc) (pc' := pc') rfl (hb hby hd) rfl hc ho hp q) K
theorem g_icN (X : Stand p l e R s m args below meth c T locs k n) (hx : p.tables.exec = Jvm.exec) (hby : c.code = code) {cd : ClassFile.Cond} {x y : Int32} {rest : List Value} {d : Int} (hd : decode code pc = .ok (.if_icmp cd d, 3)) (hc : if_icmp.holds cd x y = false) (K : Go p e below G (T.setTop (mkF m (pc + 3) Ls rest))) : Go p e below G (T.setTop (mkF m pc Ls (.int y :: .int x :: rest))) := Go.step (fun t q => XS.icmpNo X.here hx rfl (hb hby hd) rfl hc q) K
theorem g_acmp (X : Stand p l e R s m args below meth c T locs k n) (hx : p.tables.exec = Jvm.exec) (hby : c.code = code) {cd : ACond} {x y : Value} (h1 : x.isRef = true) (h2 : y.isRef = true) {rest : List Value} {d : Int} (pc' : Nat) (same : Bool) (hd : decode code pc = .ok (.if_acmp cd d, 3)) (hq : decide (x = y) = same) (ho : 0 ≤ (pc : Int) + d) (hp : pc' = if acV cd same = true then ((pc : Int) + d).toNat else pc + 3) (K : Go p e below G (T.setTop (mkF m pc' Ls rest))) : Go p e below G (T.setTop (mkF m pc Ls (y :: x :: rest))) := Go.step (fun t q => Jvm.RoadKit.acmp (g := mkF m pc Ls (y :: x :: rest)) X hx rfl h1 h2 (pc0 := pc) (pc' := pc') (same := same) rfl (hb hby hd) rfl hq ho hp q) K
theorem g_ifnullY (X : Stand p l e R s m args below meth c T locs k n) (hx : p.tables.exec = Jvm.exec) (hby : c.code = code) {rest : List Value} {d : Int} (pc' : Nat) (hd : decode code pc = .ok (.ifnull d, 3)) (ho : 0 ≤ (pc : Int) + d) (hp : ((pc : Int) + d).toNat = pc') (K : Go p e below G (T.setTop (mkF m pc' Ls rest))) : Go p e below G (T.setTop (mkF m pc Ls (.null :: rest))) := Go.step (fun t q => XS.ifnullYes X.here hx rfl (pc0 := pc) (pc' := pc') rfl (hb hby hd) rfl ho hp q) K
theorem g_ifnullN (X : Stand p l e R s m args below meth c T locs k n) (hx : p.tables.exec = Jvm.exec) (hby : c.code = code) {b : Addr} {rest : List Value} {d : Int} (hd : decode code pc = .ok (.ifnull d, 3)) (K : Go p e below G (T.setTop (mkF m (pc + 3) Ls rest))) : Go p e below G (T.setTop (mkF m pc Ls (.ref b :: rest))) := Go.step (fun t q => XS.ifnullNo X.here hx rfl (hb hby hd) rfl q) K
theorem g_ifnonnullY (X : Stand p l e R s m args below meth c T locs k n) (hx : p.tables.exec = Jvm.exec) (hby : c.code = code) {b : Addr} {rest : List Value} {d : Int} (pc' : Nat) (hd : decode code pc = .ok (.ifnonnull d, 3)) (ho : 0 ≤ (pc : Int) + d) (hp : ((pc : Int) + d).toNat = pc') (K : Go p e below G (T.setTop (mkF m pc' Ls rest))) : Go p e below G (T.setTop (mkF m pc Ls (.ref b :: rest))) := Go.step (fun t q => XS.ifnonnullYes X.here hx rfl (pc0 := pc) (pc' := pc') rfl (hb hby hd) rfl ho hp q) K
theorem g_ifnonnullN (X : Stand p l e R s m args below meth c T locs k n) (hx : p.tables.exec = Jvm.exec) (hby : c.code = code) {rest : List Value} {d : Int} (hd : decode code pc = .ok (.ifnonnull d, 3)) (K : Go p e below G (T.setTop (mkF m (pc + 3) Ls rest))) : Go p e below G (T.setTop (mkF m pc Ls (.null :: rest))) := Go.step (fun t q => XS.ifnonnullNo X.here hx rfl (hb hby hd) rfl q) K
theorem g_ldcI (X : Stand p l e R s m args below meth c T locs k n) (hx : p.tables.exec = Jvm.exec) (hby : c.code = code) (hZ : Z.Warmed39 s.vm) {own : String} (hown : s.vm.findClass own = some m.cls) {index : Nat} {v : Int32} (w : (Cond.constant own index v).before a0 Z = true) (hd : decode code pc = .ok (.ldc index, 2)) (K : Go p e below G (T.setTop (mkF m (pc + 2) Ls (.int v :: st)))) : Go p e below G (T.setTop (mkF m pc Ls st)) := Go.step (fun t q => X.ldcInt hx hown (mvT hZ w) (g := mkF m pc Ls st) rfl (hb hby hd) t q) K
theorem g_ldcwI (X : Stand p l e R s m args below meth c T locs k n) (hx : p.tables.exec = Jvm.exec) (hby : c.code = code) (hZ : Z.Warmed39 s.vm) {own : String} (hown : s.vm.findClass own = some m.cls) {index : Nat} {v : Int32} (w : (Cond.constant own index v).before a0 Z = true) (hd : decode code pc = .ok (.ldc_w index, 3)) (K : Go p e below G (T.setTop (mkF m (pc + 3) Ls (.int v :: st)))) : Go p e below G (T.setTop (mkF m pc Ls st)) := Go.step (fun t q => X.ldcwInt hx hown (mvT hZ w) (g := mkF m pc Ls st) rfl (hb hby hd) t q) K
theorem g_ldc2J (X : Stand p l e R s m args below meth c T locs k n) (hx : p.tables.exec = Jvm.exec) (hby : c.code = code) (hZ : Z.Warmed39 s.vm) {own : String} (hown : s.vm.findClass own = some m.cls) {index : Nat} {v : Int64} (w : (Cond.constantLong own index v).before a0 Z = true) (hd : decode code pc = .ok (.ldc2_w index, 3)) (K : Go p e below G (T.setTop (mkF m (pc + 3) Ls (.long v :: st)))) : Go p e below G (T.setTop (mkF m pc Ls st)) := Go.step (fun t q => X.ldc2Long hx hown (mvT hZ w) (g := mkF m pc Ls st) rfl (hb hby hd) t q) K
theorem g_getF (X : Stand p l e R s m args below meth c T locs k n) (hx : p.tables.exec = Jvm.exec) (hby : c.code = code) (hZ : Z.Warmed39 s.vm) {own : String} (hown : s.vm.findClass own = some m.cls) {R0 O f d host : String} {index : Nat} (w : (Cond.fieldLink own index R0 f d).before a0 Z = true ∨ (Cond.fieldLinkNest own index R0 f d host).before a0 Z = true) (via : Via Z R0 O f d) (eT : T.heap = h) {a : Addr} {v : Value} (F : Fld Z h a O f d v) {rest : List Value} (hd : decode code pc = .ok (.getfield index, 3)) (K : ∀ T', Stand p l e R s m args below meth c T' locs k n → T'.heap = h → Go p e below G (T'.setTop (mkF m (pc + 3) Ls (v :: rest)))) : Go p e below G (T.setTop (mkF m pc Ls (.ref a :: rest))) := by
  obtain ⟨T', X', e', q⟩ := getF X hx hZ hown w via eT F (g := mkF m pc Ls (.ref a :: rest)) rfl rfl (hb hby hd)
  exact Go.step q (K T' X' e')
theorem g_getS (X : Stand p l e R s m args below meth c T locs k n) (hx : p.tables.exec = Jvm.exec) (hby : c.code = code) (hZ : Z.Warmed39 s.vm) {own : String} (hown : s.vm.findClass own = some m.cls) {R0 O f d host : String} {index : Nat} (w : (Cond.fieldLink own index R0 f d).before a0 Z = true ∨ (Cond.fieldLinkNest own index R0 f d host).before a0 Z = true) (via : Via Z R0 O f d) (eT : T.heap = h) {v : Value} (F : Sta Z h O f d v) (hd : decode code pc = .ok (.getstatic index, 3)) (K : ∀ T', Stand p l e R s m args below meth c T' locs k n → T'.heap = h → Go p e below G (T'.setTop (mkF m (pc + 3) Ls (v :: st)))) : Go p e below G (T.setTop (mkF m pc Ls st)) := by
  obtain ⟨T', X', e', q⟩ := getS2 X hx hZ hown w via eT F (g := mkF m pc Ls st) rfl (hb hby hd)
  exact Go.step q (K T' X' e')
theorem g_putF (X : Stand p l e R s m args below meth c T locs k n) (hx : p.tables.exec = Jvm.exec) (hby : c.code = code) (hZ : Z.Warmed39 s.vm) {own : String} (hown : s.vm.findClass own = some m.cls) {R0 O f d host : String} {index : Nat} (w : (Cond.fieldLink own index R0 f d).before a0 Z = true ∨ (Cond.fieldLinkNest own index R0 f d host).before a0 Z = true) (via : Via Z R0 O f d) (eT : T.heap = h) {C : String} {kk : Nat} {a : Addr} {v old : Value} (F : Fld Z h a O f d old) (E : Exa Z h a C) (L : (Cond.lays C O f d).before a0 Z = true ∨ ((Cond.laysFinal C O f d).before a0 Z = true ∧ own = O ∧ meth.name = "<init>")) (wi : (Cond.instantiable C kk).before a0 Z = true) (ty : FieldType) (hty : parseFieldDescriptor d = some ty) (hn : narrow ty v = v) (hf : fits ty v = true) (N : Fr n0 locs) (ga : n0 ≤ a) {rest : List Value} (hd : decode code pc = .ok (.putfield index, 3)) (K : ∀ T' h', Stand p l e R s m args below meth c T' (locs ++ [⟨a, Jvm.RoadKit.slotOf Z O f d⟩]) k n → T'.heap = h' → Wr h h' a (Jvm.RoadKit.slotOf Z O f d) v → Fld Z h' a O f d v → Fr n0 (locs ++ [⟨a, Jvm.RoadKit.slotOf Z O f d⟩]) → Go p e below G (T'.setTop (mkF m (pc + 3) Ls rest))) : Go p e below G (T.setTop (mkF m pc Ls (v :: .ref a :: rest))) := by
  obtain ⟨T', h', X', e', W, q⟩ := putF X hx hZ hown w via eT F E L wi hty hn hf (g := mkF m pc Ls (v :: .ref a :: rest)) rfl rfl (hb hby hd)
  exact Go.step q (K T' h' X' e' W (F.same W) (Fr.snoc X' N ga))
theorem g_putFN (X : Stand p l e R s m args below meth c T locs k n) (hx : p.tables.exec = Jvm.exec) (hby : c.code = code) (hZ : Z.Warmed39 s.vm) {own : String} (hown : s.vm.findClass own = some m.cls) {R0 O f d : String} {index : Nat} (w : (Cond.fieldLink own index R0 f d).before a0 Z = true) (via : Via Z R0 O f d) (eT : T.heap = h) {C : String} {kk : Nat} {a : Addr} {v old : Value} (F : Fld Z h a O f d old) (E : Exa Z h a C) (L : (Cond.lays C O f d).before a0 Z = true ∨ ((Cond.laysFinal C O f d).before a0 Z = true ∧ own = O ∧ meth.name = "<init>")) (wi : (Cond.instantiable C kk).before a0 Z = true) (ty : FieldType) (hty : parseFieldDescriptor d = some ty) (v' : Value) (hn : narrow ty v = v') (hf : fits ty v' = true) (N : Fr n0 locs) (ga : n0 ≤ a) {rest : List Value} (hd : decode code pc = .ok (.putfield index, 3)) (K : ∀ T' h', Stand p l e R s m args below meth c T' (locs ++ [⟨a, Jvm.RoadKit.slotOf Z O f d⟩]) k n → T'.heap = h' → Wr h h' a (Jvm.RoadKit.slotOf Z O f d) v' → Fld Z h' a O f d v' → Fr n0 (locs ++ [⟨a, Jvm.RoadKit.slotOf Z O f d⟩]) → Go p e below G (T'.setTop (mkF m (pc + 3) Ls rest))) : Go p e below G (T.setTop (mkF m pc Ls (v :: .ref a :: rest))) := by
  obtain ⟨T', h', X', e', W, q⟩ := putFN X hx hZ hown w via eT F E L wi hty hn hf (g := mkF m pc Ls (v :: .ref a :: rest)) rfl rfl (hb hby hd)
  exact Go.step q (K T' h' X' e' W (F.same W) (Fr.snoc X' N ga))
theorem g_new (X : Stand p l e R s m args below meth c T locs k n) (hx : p.tables.exec = Jvm.exec) (hby : c.code = code) (hZ : Z.Warmed39 s.vm) {own : String} (hown : s.vm.findClass own = some m.cls) {C : String} {index j : Nat} (w : (Cond.classLink own index C).before a0 Z = true) (wi : (Cond.instantiable C j).before a0 Z = true) (wz : (Cond.initialized C).before a0 Z = true) (eT : T.heap = h) (hc : k + 1 ≤ R.cells) (hl : n + j ≤ R.slots) (hd : decode code pc = .ok (.new index, 3)) (K : ∀ T' h' x, h.size = x → Stand p l e R s m args below meth c T' locs (k + 1) (n + j) → T'.heap = h' → Ext h h' → Exa Z h' x C → (∀ {O nm d : String} {ty : FieldType}, Laid Z a0 C O nm d → parseFieldDescriptor d = some ty → Fld Z h' x O nm d (defaultValue ty)) → Go p e below G (T'.setTop (mkF m (pc + 3) Ls (.ref x :: st)))) : Go p e below G (T.setTop (mkF m pc Ls st)) := by
  obtain ⟨T', h', X', e', E, A, D, -, q⟩ := newO X hx hZ hown w wi wz eT (g := mkF m pc Ls st) rfl (hb hby hd) hc hl
  exact Go.step q (K T' h' _ rfl X' e' E A D)
theorem g_newarray (X : Stand p l e R s m args below meth c T locs k n) (hx : p.tables.exec = Jvm.exec) (hby : c.code = code) (hZ : Z.Warmed39 s.vm) (aty : ArrayType) (ty : FieldType) (dv : Value) (vs : List Value) (hty : newarray.typeOf aty = ty) (hdv : defaultValue ty = dv) (w : (Cond.arrayClass ty).before a0 Z = true) (eT : T.heap = h) {z : Int32} {rest : List Value} (hn : ¬ z < 0) (cap : Nat) (hvs : List.replicate cap dv = vs) (hcap : z.toNatClampNeg ≤ cap) (hbig : cap * 8 ≤ 536870912) (hc : k + 1 ≤ R.cells) (hl : n + cap ≤ R.slots) (hd : decode code pc = .ok (.newarray aty, 2)) (K : ∀ T' h' kc x, h.size = x → Stand p l e R s m args below meth c T' locs (k + 1) (n + cap) → T'.heap = h' → Ext h h' → Arv Z h' x kc ty z vs dv → Go p e below G (T'.setTop (mkF m (pc + 2) Ls (.ref x :: rest)))) : Go p e below G (T.setTop (mkF m pc Ls (.int z :: rest))) := by
  subst hty hdv hvs
  obtain ⟨T', h', kc, X', e', E, A, q⟩ := newP X hx hZ w eT (g := mkF m pc Ls (.int z :: rest)) rfl (hb hby hd) rfl hn (cap := cap) hcap hbig hc hl
  exact Go.step q (K T' h' kc _ rfl X' e' E ((Arv.new A hn).pad (pad_rep [] _ cap)))
theorem g_iastore (X : Stand p l e R s m args below meth c T locs k n) (hx : p.tables.exec = Jvm.exec) (hby : c.code = code) (hZ : Z.Warmed39 s.vm) (eT : T.heap = h) {a : Addr} {kc : ClassId} {z : Int32} {vs : List Value} {dv : Value} (V : Arv Z h a kc .int z vs dv) {j : Int32} {x : Int32} (i : Nat) (vs' : List Value) (hvs : vs.set i (.int x) = vs') (hj : ¬ j < 0 ∧ j < z) (hi : j.toNatClampNeg = i) (hlen : i < vs.length) (N : Fr n0 locs) (ga : n0 ≤ a) {rest : List Value} (hd : decode code pc = .ok (.iastore, 1)) (K : ∀ T' h', Stand p l e R s m args below meth c T' (locs ++ [⟨a, j.toNatClampNeg⟩]) k n → T'.heap = h' → Wr h h' a j.toNatClampNeg (.int x) → Arv Z h' a kc .int z vs' dv → Fr n0 (locs ++ [⟨a, j.toNatClampNeg⟩]) → Go p e below G (T'.setTop (mkF m (pc + 1) Ls rest))) : Go p e below G (T.setTop (mkF m pc Ls (.int x :: .int j :: .ref a :: rest))) := by
  subst hvs
  obtain ⟨cl, Ar, q1, S, M, H, F⟩ := V
  obtain ⟨T', h', X', e', W, q⟩ := stI X hx hZ eT Ar (j := j) (inb_of S hj) (g := mkF m pc Ls (.int x :: .int j :: .ref a :: rest)) rfl rfl (hb hby hd)
  exact Go.step q (K T' h' X' e' W (Arv.set Ar q1 S M H F rfl W i hi hlen) (Fr.snoc X' N ga))
theorem g_castore (X : Stand p l e R s m args below meth c T locs k n) (hx : p.tables.exec = Jvm.exec) (hby : c.code = code) (hZ : Z.Warmed39 s.vm) (eT : T.heap = h) {a : Addr} {kc : ClassId} {z : Int32} {vs : List Value} {dv : Value} (V : Arv Z h a kc .char z vs dv) {j : Int32} {x : Int32} (i : Nat) (vs' : List Value) (hvs : vs.set i (.int (nar .char x)) = vs') (hj : ¬ j < 0 ∧ j < z) (hi : j.toNatClampNeg = i) (hlen : i < vs.length) (N : Fr n0 locs) (ga : n0 ≤ a) {rest : List Value} (hd : decode code pc = .ok (.castore, 1)) (K : ∀ T' h', Stand p l e R s m args below meth c T' (locs ++ [⟨a, j.toNatClampNeg⟩]) k n → T'.heap = h' → Wr h h' a j.toNatClampNeg (.int (nar .char x)) → Arv Z h' a kc .char z vs' dv → Fr n0 (locs ++ [⟨a, j.toNatClampNeg⟩]) → Go p e below G (T'.setTop (mkF m (pc + 1) Ls rest))) : Go p e below G (T.setTop (mkF m pc Ls (.int x :: .int j :: .ref a :: rest))) := by
  subst hvs
  obtain ⟨cl, Ar, q1, S, M, H, F⟩ := V
  obtain ⟨T', h', X', e', W, q⟩ := stC X hx hZ eT Ar (j := j) (inb_of S hj) (g := mkF m pc Ls (.int x :: .int j :: .ref a :: rest)) rfl rfl (hb hby hd)
  exact Go.step q (K T' h' X' e' W (Arv.set Ar q1 S M H F (fits_nar_char _) W i hi hlen) (Fr.snoc X' N ga))
theorem g_sastore (X : Stand p l e R s m args below meth c T locs k n) (hx : p.tables.exec = Jvm.exec) (hby : c.code = code) (hZ : Z.Warmed39 s.vm) (eT : T.heap = h) {a : Addr} {kc : ClassId} {z : Int32} {vs : List Value} {dv : Value} (V : Arv Z h a kc .short z vs dv) {j : Int32} {x : Int32} (i : Nat) (vs' : List Value) (hvs : vs.set i (.int (nar .short x)) = vs') (hj : ¬ j < 0 ∧ j < z) (hi : j.toNatClampNeg = i) (hlen : i < vs.length) (N : Fr n0 locs) (ga : n0 ≤ a) {rest : List Value} (hd : decode code pc = .ok (.sastore, 1)) (K : ∀ T' h', Stand p l e R s m args below meth c T' (locs ++ [⟨a, j.toNatClampNeg⟩]) k n → T'.heap = h' → Wr h h' a j.toNatClampNeg (.int (nar .short x)) → Arv Z h' a kc .short z vs' dv → Fr n0 (locs ++ [⟨a, j.toNatClampNeg⟩]) → Go p e below G (T'.setTop (mkF m (pc + 1) Ls rest))) : Go p e below G (T.setTop (mkF m pc Ls (.int x :: .int j :: .ref a :: rest))) := by
  subst hvs
  obtain ⟨cl, Ar, q1, S, M, H, F⟩ := V
  obtain ⟨T', h', X', e', W, q⟩ := stS X hx hZ eT Ar (j := j) (inb_of S hj) (g := mkF m pc Ls (.int x :: .int j :: .ref a :: rest)) rfl rfl (hb hby hd)
  exact Go.step q (K T' h' X' e' W (Arv.set Ar q1 S M H F (fits_nar_short _) W i hi hlen) (Fr.snoc X' N ga))
theorem g_bastore (X : Stand p l e R s m args below meth c T locs k n) (hx : p.tables.exec = Jvm.exec) (hby : c.code = code) (hZ : Z.Warmed39 s.vm) (eT : T.heap = h) {a : Addr} {kc : ClassId} {z : Int32} {vs : List Value} {dv : Value} (V : Arv Z h a kc .byte z vs dv) {j : Int32} {x : Int32} (i : Nat) (vs' : List Value) (hvs : vs.set i (.int (nar .byte x)) = vs') (hj : ¬ j < 0 ∧ j < z) (hi : j.toNatClampNeg = i) (hlen : i < vs.length) (N : Fr n0 locs) (ga : n0 ≤ a) {rest : List Value} (hd : decode code pc = .ok (.bastore, 1)) (K : ∀ T' h', Stand p l e R s m args below meth c T' (locs ++ [⟨a, j.toNatClampNeg⟩]) k n → T'.heap = h' → Wr h h' a j.toNatClampNeg (.int (nar .byte x)) → Arv Z h' a kc .byte z vs' dv → Fr n0 (locs ++ [⟨a, j.toNatClampNeg⟩]) → Go p e below G (T'.setTop (mkF m (pc + 1) Ls rest))) : Go p e below G (T.setTop (mkF m pc Ls (.int x :: .int j :: .ref a :: rest))) := by
  subst hvs
  obtain ⟨cl, Ar, q1, S, M, H, F⟩ := V
  obtain ⟨T', h', X', e', W, q⟩ := stB X hx hZ eT Ar (j := j) (inb_of S hj) (g := mkF m pc Ls (.int x :: .int j :: .ref a :: rest)) rfl rfl (hb hby hd)
  exact Go.step q (K T' h' X' e' W (Arv.set Ar q1 S M H F (fits_nar_byte _) W i hi hlen) (Fr.snoc X' N ga))
theorem g_lastore (X : Stand p l e R s m args below meth c T locs k n) (hx : p.tables.exec = Jvm.exec) (hby : c.code = code) (hZ : Z.Warmed39 s.vm) (eT : T.heap = h) {a : Addr} {kc : ClassId} {z : Int32} {vs : List Value} {dv : Value} (V : Arv Z h a kc .long z vs dv) {j : Int32} {x : Int64} (i : Nat) (vs' : List Value) (hvs : vs.set i (.long x) = vs') (hj : ¬ j < 0 ∧ j < z) (hi : j.toNatClampNeg = i) (hlen : i < vs.length) (N : Fr n0 locs) (ga : n0 ≤ a) {rest : List Value} (hd : decode code pc = .ok (.lastore, 1)) (K : ∀ T' h', Stand p l e R s m args below meth c T' (locs ++ [⟨a, j.toNatClampNeg⟩]) k n → T'.heap = h' → Wr h h' a j.toNatClampNeg (.long x) → Arv Z h' a kc .long z vs' dv → Fr n0 (locs ++ [⟨a, j.toNatClampNeg⟩]) → Go p e below G (T'.setTop (mkF m (pc + 1) Ls rest))) : Go p e below G (T.setTop (mkF m pc Ls (.long x :: .int j :: .ref a :: rest))) := by
  subst hvs
  obtain ⟨cl, Ar, q1, S, M, H, F⟩ := V
  obtain ⟨T', h', X', e', W, q⟩ := stJ X hx hZ eT Ar (j := j) (inb_of S hj) (g := mkF m pc Ls (.long x :: .int j :: .ref a :: rest)) rfl rfl (hb hby hd)
  exact Go.step q (K T' h' X' e' W (Arv.set Ar q1 S M H F rfl W i hi hlen) (Fr.snoc X' N ga))
theorem g_iaload (X : Stand p l e R s m args below meth c T locs k n) (hx : p.tables.exec = Jvm.exec) (hby : c.code = code) (hZ : Z.Warmed39 s.vm) (eT : T.heap = h) {a : Addr} {kc : ClassId} {z : Int32} {vs : List Value} {dv : Value} (V : Arv Z h a kc .int z vs dv) {j : Int32} (v : Value) (hj : ¬ j < 0 ∧ j < z) (hv : vs.getD j.toNatClampNeg dv = v) {rest : List Value} (hd : decode code pc = .ok (.iaload, 1)) (K : Go p e below G (T.setTop (mkF m (pc + 1) Ls (v :: rest)))) : Go p e below G (T.setTop (mkF m pc Ls (.int j :: .ref a :: rest))) := by
  obtain ⟨cl, Ar, q1, S, M, H, F⟩ := V
  have hin := inb_of S hj
  exact Go.step (fun t q => X.iaload hx (j := j) (v := v) (by rw [eT]; exact Ar.1) (State.isArrayOf_alike hZ.alike Ar.2.1) Ar.2.2 hin (H.at hin hv) (g := mkF m pc Ls (.int j :: .ref a :: rest)) rfl rfl (hb hby hd) t q) K
theorem g_caload (X : Stand p l e R s m args below meth c T locs k n) (hx : p.tables.exec = Jvm.exec) (hby : c.code = code) (hZ : Z.Warmed39 s.vm) (eT : T.heap = h) {a : Addr} {kc : ClassId} {z : Int32} {vs : List Value} {dv : Value} (V : Arv Z h a kc .char z vs dv) {j : Int32} (v : Value) (hj : ¬ j < 0 ∧ j < z) (hv : vs.getD j.toNatClampNeg dv = v) {rest : List Value} (hd : decode code pc = .ok (.caload, 1)) (K : Go p e below G (T.setTop (mkF m (pc + 1) Ls (v :: rest)))) : Go p e below G (T.setTop (mkF m pc Ls (.int j :: .ref a :: rest))) := by
  obtain ⟨cl, Ar, q1, S, M, H, F⟩ := V
  have hin := inb_of S hj
  exact Go.step (fun t q => X.caload hx (j := j) (v := v) (by rw [eT]; exact Ar.1) (State.isArrayOf_alike hZ.alike Ar.2.1) Ar.2.2 hin (H.at hin hv) (g := mkF m pc Ls (.int j :: .ref a :: rest)) rfl rfl (hb hby hd) t q) K
theorem g_saload (X : Stand p l e R s m args below meth c T locs k n) (hx : p.tables.exec = Jvm.exec) (hby : c.code = code) (hZ : Z.Warmed39 s.vm) (eT : T.heap = h) {a : Addr} {kc : ClassId} {z : Int32} {vs : List Value} {dv : Value} (V : Arv Z h a kc .short z vs dv) {j : Int32} (v : Value) (hj : ¬ j < 0 ∧ j < z) (hv : vs.getD j.toNatClampNeg dv = v) {rest : List Value} (hd : decode code pc = .ok (.saload, 1)) (K : Go p e below G (T.setTop (mkF m (pc + 1) Ls (v :: rest)))) : Go p e below G (T.setTop (mkF m pc Ls (.int j :: .ref a :: rest))) := by
  obtain ⟨cl, Ar, q1, S, M, H, F⟩ := V
  have hin := inb_of S hj
  exact Go.step (fun t q => X.saload hx (j := j) (v := v) (by rw [eT]; exact Ar.1) (State.isArrayOf_alike hZ.alike Ar.2.1) Ar.2.2 hin (H.at hin hv) (g := mkF m pc Ls (.int j :: .ref a :: rest)) rfl rfl (hb hby hd) t q) K
theorem g_baload (X : Stand p l e R s m args below meth c T locs k n) (hx : p.tables.exec = Jvm.exec) (hby : c.code = code) (hZ : Z.Warmed39 s.vm) (eT : T.heap = h) {a : Addr} {kc : ClassId} {z : Int32} {vs : List Value} {dv : Value} (V : Arv Z h a kc .byte z vs dv) {j : Int32} (v : Value) (hj : ¬ j < 0 ∧ j < z) (hv : vs.getD j.toNatClampNeg dv = v) {rest : List Value} (hd : decode code pc = .ok (.baload, 1)) (K : Go p e below G (T.setTop (mkF m (pc + 1) Ls (v :: rest)))) : Go p e below G (T.setTop (mkF m pc Ls (.int j :: .ref a :: rest))) := by
  obtain ⟨cl, Ar, q1, S, M, H, F⟩ := V
  have hin := inb_of S hj
  exact Go.step (fun t q => X.baloadBytes hx (j := j) (v := v) (by rw [eT]; exact Ar.1) (State.isArrayOf_alike hZ.alike Ar.2.1) Ar.2.2 hin (H.at hin hv) (g := mkF m pc Ls (.int j :: .ref a :: rest)) rfl rfl (hb hby hd) t q) K
theorem g_laload (X : Stand p l e R s m args below meth c T locs k n) (hx : p.tables.exec = Jvm.exec) (hby : c.code = code) (hZ : Z.Warmed39 s.vm) (eT : T.heap = h) {a : Addr} {kc : ClassId} {z : Int32} {vs : List Value} {dv : Value} (V : Arv Z h a kc .long z vs dv) {j : Int32} (v : Value) (hj : ¬ j < 0 ∧ j < z) (hv : vs.getD j.toNatClampNeg dv = v) {rest : List Value} (hd : decode code pc = .ok (.laload, 1)) (K : Go p e below G (T.setTop (mkF m (pc + 1) Ls (v :: rest)))) : Go p e below G (T.setTop (mkF m pc Ls (.int j :: .ref a :: rest))) := by
  obtain ⟨cl, Ar, q1, S, M, H, F⟩ := V
  have hin := inb_of S hj
  exact Go.step (fun t q => X.laload hx (j := j) (v := v) (by rw [eT]; exact Ar.1) (State.isArrayOf_alike hZ.alike Ar.2.1) Ar.2.2 hin (H.at hin hv) (g := mkF m pc Ls (.int j :: .ref a :: rest)) rfl rfl (hb hby hd) t q) K
theorem g_aaload (X : Stand p l e R s m args below meth c T locs k n) (hx : p.tables.exec = Jvm.exec) (hby : c.code = code) (hZ : Z.Warmed39 s.vm) (eT : T.heap = h) {a : Addr} {kc : ClassId} {ty : FieldType} {z : Int32} {vs : List Value} {dv : Value} (V : Arv Z h a kc ty z vs dv) (hty : ty.isReference = true) {j : Int32} (v : Value) (hj : ¬ j < 0 ∧ j < z) (hv : vs.getD j.toNatClampNeg dv = v) {rest : List Value} (hd : decode code pc = .ok (.aaload, 1)) (K : Go p e below G (T.setTop (mkF m (pc + 1) Ls (v :: rest)))) : Go p e below G (T.setTop (mkF m pc Ls (.int j :: .ref a :: rest))) := by
  obtain ⟨cl, Ar, q1, S, M, H, F⟩ := V
  have hin := inb_of S hj
  exact Go.step (fun t q => X.aaload hx (j := j) (v := v) (by rw [eT]; exact Ar.1) (State.isArrayOf_alike hZ.alike Ar.2.1) hty Ar.2.2 hin (H.at hin hv) (g := mkF m pc Ls (.int j :: .ref a :: rest)) rfl rfl (hb hby hd) t q) K
theorem g_arraylength (X : Stand p l e R s m args below meth c T locs k n) (hx : p.tables.exec = Jvm.exec) (hby : c.code = code) (hZ : Z.Warmed39 s.vm) (eT : T.heap = h) {a : Addr} {kc : ClassId} {ty : FieldType} {z : Int32} {vs : List Value} {dv : Value} (V : Arv Z h a kc ty z vs dv) {rest : List Value} (hd : decode code pc = .ok (.arraylength, 1)) (K : Go p e below G (T.setTop (mkF m (pc + 1) Ls (.int z :: rest)))) : Go p e below G (T.setTop (mkF m pc Ls (.ref a :: rest))) := by
  obtain ⟨cl, Ar, q1, S, M, H, F⟩ := V
  refine Go.step (fun t q => X.arraylength hx (by rw [eT]; exact Ar.1) (State.isArrayOf_alike hZ.alike Ar.2.1) (g := mkF m pc Ls (.ref a :: rest)) rfl rfl (hb hby hd) t q) ?_
  rw [len_of S M]
  exact K
theorem g_checkcast (X : Stand p l e R s m args below meth c T locs k n) (hx : p.tables.exec = Jvm.exec) (hby : c.code = code) (hZ : Z.Warmed39 s.vm) {own : String} (hown : s.vm.findClass own = some m.cls) {C : String} {index : Nat} (w : (Cond.classLink own index C).before a0 Z = true) (eT : T.heap = h) {a : Addr} (I : Ins Z h a C true) {rest : List Value} (hd : decode code pc = .ok (.checkcast index, 3)) (K : ∀ T', Stand p l e R s m args below meth c T' locs k n → T'.heap = h → Go p e below G (T'.setTop (mkF m (pc + 3) Ls (.ref a :: rest)))) : Go p e below G (T.setTop (mkF m pc Ls (.ref a :: rest))) := by
  obtain ⟨T', X', e', q⟩ := castY X hx hZ hown w eT I (g := mkF m pc Ls (.ref a :: rest)) rfl rfl (hb hby hd)
  exact Go.step q (K T' X' e')
theorem g_instanceof (X : Stand p l e R s m args below meth c T locs k n) (hx : p.tables.exec = Jvm.exec) (hby : c.code = code) (hZ : Z.Warmed39 s.vm) {own : String} (hown : s.vm.findClass own = some m.cls) {C : String} {index : Nat} (w : (Cond.classLink own index C).before a0 Z = true) (eT : T.heap = h) {a : Addr} (I : Ins Z h a C true) {rest : List Value} (hd : decode code pc = .ok (.instanceof index, 3)) (K : ∀ T', Stand p l e R s m args below meth c T' locs k n → T'.heap = h → Go p e below G (T'.setTop (mkF m (pc + 3) Ls (.int 1 :: rest)))) : Go p e below G (T.setTop (mkF m pc Ls (.ref a :: rest))) := by
  obtain ⟨T', X', e', q⟩ := instY X hx hZ hown w eT I (g := mkF m pc Ls (.ref a :: rest)) rfl rfl (hb hby hd)
  exact Go.step q (K T' X' e')
theorem g_instNo (X : Stand p l e R s m args below meth c T locs k n) (hx : p.tables.exec = Jvm.exec) (hby : c.code = code) (hZ : Z.Warmed39 s.vm) {own : String} (hown : s.vm.findClass own = some m.cls) {C K : String} {index : Nat} (w : (Cond.classLink own index K).before a0 Z = true) (eT : T.heap = h) {a : Addr} (E : Exa Z h a C) (F : ∃ c t, Z.vm.findClass C = some c ∧ Z.vm.findClass K = some t ∧ Z.vm.assignable c t = false) {rest : List Value} (hd : decode code pc = .ok (.instanceof index, 3)) (K' : ∀ T', Stand p l e R s m args below meth c T' locs k n → T'.heap = h → Go p e below G (T'.setTop (mkF m (pc + 3) Ls (.int 0 :: rest)))) : Go p e below G (T.setTop (mkF m pc Ls (.ref a :: rest))) := by
  obtain ⟨T', X', e', q⟩ := instNo X hx hZ hown w eT E F (g := mkF m pc Ls (.ref a :: rest)) rfl rfl (hb hby hd)
  exact Go.step q (K' T' X' e')
theorem g_instanceofNull (X : Stand p l e R s m args below meth c T locs k n) (hx : p.tables.exec = Jvm.exec) (hby : c.code = code) {index : Nat} {rest : List Value} (hd : decode code pc = .ok (.instanceof index, 3)) (K : Go p e below G (T.setTop (mkF m (pc + 3) Ls (.int 0 :: rest)))) : Go p e below G (T.setTop (mkF m pc Ls (.null :: rest))) := Go.step (fun t q => X.instanceofNull hx (g := mkF m pc Ls (.null :: rest)) rfl rfl (hb hby hd) t q) K
theorem g_checkcastNull (X : Stand p l e R s m args below meth c T locs k n) (hx : p.tables.exec = Jvm.exec) (hby : c.code = code) {index : Nat} {rest : List Value} (hd : decode code pc = .ok (.checkcast index, 3)) (K : Go p e below G (T.setTop (mkF m (pc + 3) Ls (.null :: rest)))) : Go p e below G (T.setTop (mkF m pc Ls (.null :: rest))) := Go.step (fun t q => X.checkcastNull hx (g := mkF m pc Ls (.null :: rest)) rfl rfl (hb hby hd) t q) K
theorem g_initO (X : Stand p l e R s m args below meth c T locs k n) (hx : p.tables.exec = Jvm.exec) (hby : c.code = code) (hZ : Z.Warmed39 s.vm) {own : String} (hown : s.vm.findClass own = some m.cls) {idx : Nat} (w1 : (Cond.methodLink own idx Lib.objectInit).before a0 Z = true) (w2 : (Cond.instanceMethod Lib.objectInit).before a0 Z = true) (w3 : (Cond.code Lib.objectInit ⟨#[0xb1]⟩ 1 none).before a0 Z = true) (eT : T.heap = h) (hsize : Ls.size = c.maxLocals) {a : Addr} {rest : List Value} (hf : 1 ≤ R.frames) (hl : (rest.map fun v => v.category).sum + 12 ≤ R.locals) (hd : decode code pc = .ok (.invokespecial idx, 3)) (K : ∀ T', Stand p l e R s m args below meth c T' locs k n → T'.heap = h → Go p e below G (T'.setTop (mkF m (pc + 3) Ls rest))) : Go p e below G (T.setTop (mkF m pc Ls (.ref a :: rest))) := by
  obtain ⟨T', X', e', q⟩ := initO X hx hZ hown w1 w2 w3 eT (g := mkF m pc Ls (.ref a :: rest)) rfl hsize rfl (hb hby hd) hf (W := (rest.map fun v => v.category).sum) (by show 2 * 0 + _ ≤ _; omega) hl
  exact Go.step q (K T' X' e')
theorem g_static (X : Stand p l e R s m args below meth c T locs k n) (hx : p.tables.exec = Jvm.exec) (hby : c.code = code) (hZ : Z.Warmed39 s.vm) {own : String} (hown : s.vm.findClass own = some m.cls) {index : Nat} {y : MethodName} {bytes : ByteArray} {maxL : Nat} {ret : Option FieldType} {rm : Room} {as' : Array Value} {Q : Option Value → Heap → List Loc → Prop} (hM : MetFree l y (head1 [Cond.code y bytes maxL ret] rm) (fun a U => a = as' ∧ Z.Warmed39 U.vm ∧ U.heap = h) (fun _ _ _ _ _ => True) (fun _ U o U' => RetG U Q rm.cells rm.slots U' o)) (wl : (Cond.methodLink own index y).before a0 Z = true) (ws : (Cond.static y).before a0 Z = true) (wz : (Cond.initialized y.cls).before a0 Z = true) (wc : (Cond.code y bytes maxL ret).before a0 Z = true) (hy : y.cls ≠ "java/lang/invoke/MethodHandle" ∧ y.cls ≠ "java/lang/invoke/VarHandle") (eT : T.heap = h) (hsize : Ls.size = c.maxLocals) (argsL : List Value) {rest : List Value} (hlen : ∀ sig, parseMethodDescriptor y.desc = some sig → argsL.length = sig.parameters.length) (has : argsL.toArray = as') (hst : st = argsL.reverse ++ rest) (hf : rm.frames + 1 ≤ R.frames) (hl : (rest.map fun v => v.category).sum + (maxL + 11) + rm.locals ≤ R.locals) (hc : k + rm.cells ≤ R.cells) (hs : n + rm.slots ≤ R.slots) (hd : decode code pc = .ok (.invokestatic index, 3)) (K : ∀ v T' L, Stand p l e R s m args below meth c T' (locs ++ L) (k + rm.cells) (n + rm.slots) → Q v T'.heap L → Go p e below G (T'.setTop (mkF m (pc + 3) Ls (v.toList ++ rest)))) : Go p e below G (T.setTop (mkF m pc Ls st)) := by
  obtain ⟨v, _, ⟨T', L', k', n'⟩, -, X', ⟨L, hq, l1, l2, l3⟩, q⟩ := Jvm.LawKit.callS X hx (y := y) hown (mvT hZ wl) (mvT hZ ws) (mvT hZ wz) (mvT hZ wc) hy (backOf (W := (rest.map fun v => v.category).sum) hM hZ wc wz hf hl) (g := mkF m pc Ls st) rfl hsize (argsL := argsL) (rest := rest) hlen hst (by show 2 * 0 + _ ≤ _; omega) (hb hby hd) (fun _ _ => ⟨has, eT, hc, hs⟩)
  dsimp only [Pt.U, Pt.locs, Pt.cells, Pt.slots] at X' l1 l2 l3 q hq
  subst l1 l2 l3
  exact Go.step q (K v T' L X' hq)
theorem g_special (X : Stand p l e R s m args below meth c T locs k n) (hx : p.tables.exec = Jvm.exec) (hby : c.code = code) (hZ : Z.Warmed39 s.vm) {own : String} (hown : s.vm.findClass own = some m.cls) {index : Nat} {y : MethodName} {bytes : ByteArray} {maxL : Nat} {ret : Option FieldType} {rm : Room} {as' : Array Value} {Q : Option Value → Heap → List Loc → Prop} (hM : MetFree l y (head1 [Cond.code y bytes maxL ret] rm) (fun a U => a = as' ∧ Z.Warmed39 U.vm ∧ U.heap = h) (fun _ _ _ _ _ => True) (fun _ U o U' => RetG U Q rm.cells rm.slots U' o)) (hy1 : y.name = "<init>") (hret : ret = none) (wl : (Cond.methodLink own index y).before a0 Z = true) (ws : (Cond.instanceMethod y).before a0 Z = true) (wz : (Cond.initialized y.cls).before a0 Z = true) (wc : (Cond.code y bytes maxL ret).before a0 Z = true) (hy : y.cls ≠ "java/lang/invoke/MethodHandle" ∧ y.cls ≠ "java/lang/invoke/VarHandle") (eT : T.heap = h) (hsize : Ls.size = c.maxLocals) {a : Addr} (argsL : List Value) {rest : List Value} (hlen : ∀ sig, parseMethodDescriptor y.desc = some sig → argsL.length = sig.parameters.length) (has : (.ref a :: argsL).toArray = as') (hst : st = argsL.reverse ++ .ref a :: rest) (hf : rm.frames + 1 ≤ R.frames) (hl : (rest.map fun v => v.category).sum + (maxL + 11) + rm.locals ≤ R.locals) (hc : k + rm.cells ≤ R.cells) (hs : n + rm.slots ≤ R.slots) (hd : decode code pc = .ok (.invokespecial index, 3)) (K : ∀ v T' L, Stand p l e R s m args below meth c T' (locs ++ L) (k + rm.cells) (n + rm.slots) → Q v T'.heap L → Go p e below G (T'.setTop (mkF m (pc + 3) Ls (v.toList ++ rest)))) : Go p e below G (T.setTop (mkF m pc Ls st)) := by
  subst hret
  obtain ⟨v, _, ⟨T', L', k', n'⟩, -, X', ⟨L, hq, l1, l2, l3⟩, q⟩ := X.specialBack hx (y := y) hy1 hown (mvT hZ wl) (mvT hZ ws) (mvT hZ wc) hy (backOf (W := (rest.map fun v => v.category).sum) hM hZ wc wz hf hl) (g := mkF m pc Ls st) rfl hsize (Steps.refl _) (a := a) (argsL := argsL) (rest := rest) hlen hst (by show 2 * 0 + _ ≤ _; omega) (hb hby hd) (fun _ _ => ⟨has, eT, hc, hs⟩)
  dsimp only [Pt.U, Pt.locs, Pt.cells, Pt.slots] at X' l1 l2 l3 q hq
  subst l1 l2 l3
  exact Go.step (fun t r => q.trans r) (K v T' L X' hq)
theorem g_virtual (X : Stand p l e R s m args below meth c T locs k n) (hx : p.tables.exec = Jvm.exec) (hby : c.code = code) (hZ : Z.Warmed39 s.vm) {own : String} (hown : s.vm.findClass own = some m.cls) {C : String} {index : Nat} {z : MethodName} {y : MethodName} {bytes : ByteArray} {maxL : Nat} {ret : Option FieldType} {rm : Room} {as' : Array Value} {Q : Option Value → Heap → List Loc → Prop} (hM : MetFree l y (head1 [Cond.code y bytes maxL ret] rm) (fun a U => a = as' ∧ Z.Warmed39 U.vm ∧ U.heap = h) (fun _ _ _ _ _ => True) (fun _ U o U' => RetG U Q rm.cells rm.slots U' o)) (wl : (Cond.methodLink own index z).before a0 Z = true) (wd : (Cond.declares z).before a0 Z = true) (hnf : NotFace s z) (wsel : (Cond.selects C z y).before a0 Z = true) (ws : (Cond.instanceMethod y).before a0 Z = true) (wz : (Cond.initialized y.cls).before a0 Z = true) (wc : (Cond.code y bytes maxL ret).before a0 Z = true) (hy : z.cls ≠ "java/lang/invoke/MethodHandle" ∧ z.cls ≠ "java/lang/invoke/VarHandle") (eT : T.heap = h) {a : Addr} (E : Exa Z h a C) (hsize : Ls.size = c.maxLocals) (argsL : List Value) {rest : List Value} (hlen : ∀ sig, parseMethodDescriptor z.desc = some sig → argsL.length = sig.parameters.length) (has : (.ref a :: argsL).toArray = as') (hst : st = argsL.reverse ++ .ref a :: rest) (hf : rm.frames + 1 ≤ R.frames) (hl : (rest.map fun v => v.category).sum + (maxL + 11) + rm.locals ≤ R.locals) (hc : k + rm.cells ≤ R.cells) (hs : n + rm.slots ≤ R.slots) (hd : decode code pc = .ok (.invokevirtual index, 3)) (K : ∀ v T' L, Stand p l e R s m args below meth c T' (locs ++ L) (k + rm.cells) (n + rm.slots) → Q v T'.heap L → Go p e below G (T'.setTop (mkF m (pc + 3) Ls (v.toList ++ rest)))) : Go p e below G (T.setTop (mkF m pc Ls st)) := by
  obtain ⟨cq, kq, qa, qb, qc⟩ := isOf hZ eT E
  obtain ⟨v, _, ⟨T', L', k', n'⟩, -, X', ⟨L, hq, l1, l2, l3⟩, q⟩ := X.virtualBack hx (y := z) (z := y) hown (mvT hZ wl) (mvT hZ wd) hnf (mvT hZ wsel) (mvT hZ ws) hy (backOf (W := (rest.map fun v => v.category).sum) hM hZ wc wz hf hl) qa qc (g := mkF m pc Ls st) rfl hsize (Steps.refl _) (argsL := argsL) (rest := rest) hlen hst (by show 2 * 0 + _ ≤ _; omega) (hb hby hd) (fun _ _ => ⟨has, eT, hc, hs⟩)
  dsimp only [Pt.U, Pt.locs, Pt.cells, Pt.slots] at X' l1 l2 l3 q hq
  subst l1 l2 l3
  exact Go.step (fun t r => q.trans r) (K v T' L X' hq)
theorem g_private (X : Stand p l e R s m args below meth c T locs k n) (hx : p.tables.exec = Jvm.exec) (hby : c.code = code) (hZ : Z.Warmed39 s.vm) {own : String} (hown : s.vm.findClass own = some m.cls) {index j : Nat} {y : MethodName} {bytes : ByteArray} {maxL : Nat} {ret : Option FieldType} {rm : Room} {as' : Array Value} {Q : Option Value → Heap → List Loc → Prop} (hM : MetFree l y (head1 [Cond.code y bytes maxL ret] rm) (fun a U => a = as' ∧ Z.Warmed39 U.vm ∧ U.heap = h) (fun _ _ _ _ _ => True) (fun _ U o U' => RetG U Q rm.cells rm.slots U' o)) (wl : (Cond.methodLink own index y).before a0 Z = true) (ws : (Cond.instanceMethod y).before a0 Z = true) (wi : (Cond.instantiable y.cls j).before a0 Z = true) (wp : (Cond.privateMethod y).before a0 Z = true) (wz : (Cond.initialized y.cls).before a0 Z = true) (wc : (Cond.code y bytes maxL ret).before a0 Z = true) (hy : y.cls ≠ "java/lang/invoke/MethodHandle" ∧ y.cls ≠ "java/lang/invoke/VarHandle") (eT : T.heap = h) {a : Addr} {C : String} (E : Exa Z h a C) (hsize : Ls.size = c.maxLocals) (argsL : List Value) {rest : List Value} (hlen : ∀ sig, parseMethodDescriptor y.desc = some sig → argsL.length = sig.parameters.length) (has : (.ref a :: argsL).toArray = as') (hst : st = argsL.reverse ++ .ref a :: rest) (hf : rm.frames + 1 ≤ R.frames) (hl : (rest.map fun v => v.category).sum + (maxL + 11) + rm.locals ≤ R.locals) (hc : k + rm.cells ≤ R.cells) (hs : n + rm.slots ≤ R.slots) (hd : decode code pc = .ok (.invokevirtual index, 3)) (K : ∀ v T' L, Stand p l e R s m args below meth c T' (locs ++ L) (k + rm.cells) (n + rm.slots) → Q v T'.heap L → Go p e below G (T'.setTop (mkF m (pc + 3) Ls (v.toList ++ rest)))) : Go p e below G (T.setTop (mkF m pc Ls st)) := by
  obtain ⟨cq, q1, q2⟩ := E.cell
  obtain ⟨v, _, ⟨T', L', k', n'⟩, -, X', ⟨L, hq, l1, l2, l3⟩, q⟩ := X.privateBack hx (y := y) hown (mvT hZ wl) (mvT hZ ws) (selOf (mvT hZ wi) (mvP hZ wp) (mvT hZ ws) hy) (Cond.privateMethod_at (mvP hZ wp (args := #[]))) (mvT hZ wc) hy (backOf (W := (rest.map fun v => v.category).sum) hM hZ wc wz hf hl) (g := mkF m pc Ls st) rfl hsize (Steps.refl _) (a := a) (by rw [eT]; exact q1) q2 (argsL := argsL) (rest := rest) hlen hst (by show 2 * 0 + _ ≤ _; omega) (hb hby hd) (fun _ _ => ⟨has, eT, hc, hs⟩)
  dsimp only [Pt.U, Pt.locs, Pt.cells, Pt.slots] at X' l1 l2 l3 q hq
  subst l1 l2 l3
  exact Go.step (fun t r => q.trans r) (K v T' L X' hq)
theorem g_interface (X : Stand p l e R s m args below meth c T locs k n) (hx : p.tables.exec = Jvm.exec) (hby : c.code = code) (hZ : Z.Warmed39 s.vm) {own : String} (hown : s.vm.findClass own = some m.cls) {C : String} {index count : Nat} {z : MethodName} {y : MethodName} {bytes : ByteArray} {maxL : Nat} {ret : Option FieldType} {rm : Room} {as' : Array Value} {Q : Option Value → Heap → List Loc → Prop} (hM : MetFree l y (head1 [Cond.code y bytes maxL ret] rm) (fun a U => a = as' ∧ Z.Warmed39 U.vm ∧ U.heap = h) (fun _ _ _ _ _ => True) (fun _ U o U' => RetG U Q rm.cells rm.slots U' o)) (wl : (Cond.methodLink own index z).before a0 Z = true) (wd : (Cond.declares z).before a0 Z = true) (wf : (Cond.interfaceMethod z.cls z.cls z.name z.desc).before a0 Z = true) (wsel : (Cond.selects C z y).before a0 Z = true) (ws : (Cond.instanceMethod y).before a0 Z = true) (wp : (Cond.publicMethod y).before a0 Z = true) (wu : (Cond.unhidden C z.name z.desc).before a0 Z = true) (wca : (Cond.castable C z.cls).before a0 Z = true) (wz : (Cond.initialized y.cls).before a0 Z = true) (wc : (Cond.code y bytes maxL ret).before a0 Z = true) (hy : z.cls ≠ "java/lang/invoke/MethodHandle" ∧ z.cls ≠ "java/lang/invoke/VarHandle") (eT : T.heap = h) {a : Addr} (E : Exa Z h a C) (hsize : Ls.size = c.maxLocals) (argsL : List Value) {rest : List Value} (hlen : ∀ sig, parseMethodDescriptor z.desc = some sig → argsL.length = sig.parameters.length) (has : (.ref a :: argsL).toArray = as') (hst : st = argsL.reverse ++ .ref a :: rest) (hf : rm.frames + 1 ≤ R.frames) (hl : (rest.map fun v => v.category).sum + (maxL + 11) + rm.locals ≤ R.locals) (hc : k + rm.cells ≤ R.cells) (hs : n + rm.slots ≤ R.slots) (hd : decode code pc = .ok (.invokeinterface index count, 5)) (K : ∀ v T' L, Stand p l e R s m args below meth c T' (locs ++ L) (k + rm.cells) (n + rm.slots) → Q v T'.heap L → Go p e below G (T'.setTop (mkF m (pc + 5) Ls (v.toList ++ rest)))) : Go p e below G (T.setTop (mkF m pc Ls st)) := by
  obtain ⟨cq, kq, qa, qb, qc⟩ := isOf hZ eT E
  obtain ⟨v, _, ⟨T', L', k', n'⟩, -, X', ⟨L, hq, l1, l2, l3⟩, q⟩ := X.interfaceBack hx (xi := z) (y := y) hown (mvT hZ wl) (mvT hZ wd) (mvT hZ wf (by simp [Cond.onTables, Cond.keepsFace, Cond.keeps, Cond.steady, Cond.faceAtom, hy.1, hy.2])) (mvT hZ wsel) (mvT hZ ws) (mvT hZ wp) (mvT hZ wu) (mvT hZ wca) hy (backOf (W := (rest.map fun v => v.category).sum) hM hZ wc wz hf hl) qa qb qc (g := mkF m pc Ls st) rfl hsize (Steps.refl _) (argsL := argsL) (rest := rest) hlen hst (by show 2 * 0 + _ ≤ _; omega) (hb hby hd) (fun _ _ => ⟨has, eT, hc, hs⟩)
  dsimp only [Pt.U, Pt.locs, Pt.cells, Pt.slots] at X' l1 l2 l3 q hq
  subst l1 l2 l3
  exact Go.step (fun t r => q.trans r) (K v T' L X' hq)
theorem g_ret (X : Stand p l e R s m args below meth c T locs k n) (hx : p.tables.exec = Jvm.exec) (hby : c.code = code) (hret : meth.sig.returnType = none) (hlocks : meth.locks = false) {Q : Option Value → Heap → List Loc → Prop} {cells slots : Nat} (hd : decode code pc = .ok (.return_, 1)) (eT : T.heap = h) (hk : k ≤ cells) (hn : n ≤ slots) (hq : Q none h locs) : Go p e below (RetG s Q cells slots) (T.setTop (mkF m pc Ls [])) := Go.leave X (v := none) (fun _ => rfl) hlocks eT hq hk hn (fun fs hr => X.returnOut hx hret (hb hby hd) hr)
theorem g_iret (X : Stand p l e R s m args below meth c T locs k n) (hx : p.tables.exec = Jvm.exec) (hby : c.code = code) {z : Int32} {rest : List Value} (hret : meth.sig.returnType = some .int) (hlocks : meth.locks = false) {Q : Option Value → Heap → List Loc → Prop} {cells slots : Nat} (hd : decode code pc = .ok (.ireturn, 1)) (eT : T.heap = h) (hk : k ≤ cells) (hn : n ≤ slots) (hq : Q (some (.int z)) h locs) : Go p e below (RetG s Q cells slots) (T.setTop (mkF m pc Ls (.int z :: rest))) := Go.leave X (v := some (.int z)) (fun q => by rw [hret] at q; cases q) hlocks eT hq hk hn (fun fs hr => retOut X hx (t := .int) hret rfl (Or.inl ⟨rfl, Or.inl rfl, z, rfl⟩) (hb hby hd) hr)
theorem g_nret (X : Stand p l e R s m args below meth c T locs k n) (hx : p.tables.exec = Jvm.exec) (hby : c.code = code) {z : Int32} {rest : List Value} {t : FieldType} (ht : t = .boolean ∨ t = .byte ∨ t = .char ∨ t = .short) (hret : meth.sig.returnType = some t) (hlocks : meth.locks = false) {Q : Option Value → Heap → List Loc → Prop} {cells slots : Nat} (hd : decode code pc = .ok (.ireturn, 1)) (eT : T.heap = h) (hk : k ≤ cells) (hn : n ≤ slots) (hq : Q (some (.int (nar t z))) h locs) : Go p e below (RetG s Q cells slots) (T.setTop (mkF m pc Ls (.int z :: rest))) := Go.leave X (v := some (.int (nar t z))) (fun q => by rw [hret] at q; cases q) hlocks eT hq hk hn (fun fs hr => retN X hx (t := t) hret ht (hb hby hd) hr)
theorem g_lret (X : Stand p l e R s m args below meth c T locs k n) (hx : p.tables.exec = Jvm.exec) (hby : c.code = code) {z : Int64} {rest : List Value} (hret : meth.sig.returnType = some .long) (hlocks : meth.locks = false) {Q : Option Value → Heap → List Loc → Prop} {cells slots : Nat} (hd : decode code pc = .ok (.lreturn, 1)) (eT : T.heap = h) (hk : k ≤ cells) (hn : n ≤ slots) (hq : Q (some (.long z)) h locs) : Go p e below (RetG s Q cells slots) (T.setTop (mkF m pc Ls (.long z :: rest))) := Go.leave X (v := some (.long z)) (fun q => by rw [hret] at q; cases q) hlocks eT hq hk hn (fun fs hr => retOut X hx (t := .long) hret rfl (Or.inr (Or.inl ⟨rfl, rfl, z, rfl⟩)) (hb hby hd) hr)
theorem g_aret (X : Stand p l e R s m args below meth c T locs k n) (hx : p.tables.exec = Jvm.exec) (hby : c.code = code) {z : Value} {rest : List Value} {t : FieldType} (ht : t.isReference = true) (hz : z.isRef = true) (hnar : narrow t z = z) (hret : meth.sig.returnType = some t) (hlocks : meth.locks = false) {Q : Option Value → Heap → List Loc → Prop} {cells slots : Nat} (hd : decode code pc = .ok (.areturn, 1)) (eT : T.heap = h) (hk : k ≤ cells) (hn : n ≤ slots) (hq : Q (some z) h locs) : Go p e below (RetG s Q cells slots) (T.setTop (mkF m pc Ls (z :: rest))) := Go.leave X (v := some z) (fun q => by rw [hret] at q; cases q) hlocks eT hq hk hn (fun fs hr => retOut X hx (t := t) hret hnar (Or.inr (Or.inr (Or.inr (Or.inr ⟨rfl, ht, hz⟩)))) (hb hby hd) hr)
end
end Jvm.Own

namespace Jvm.Pilot.@@N@@
open Jvm Jvm.ClassFile Sem Op Lib Jvm.Free Jvm.Stand Jvm.LawKit Jvm.RoadKit Bundle Jvm.Own Jvm.Pilot.@@N@@.Jvm.D


def own_En (Z : State) (h : Heap) (A : Nat → Addr) : Prop := Sta Z h "com/example/tidegate/tidegate/engine/OrderType" "LIMIT" "Lcom/example/tidegate/tidegate/engine/OrderType;" (.ref (A 0)) ∧ Sta Z h "com/example/tidegate/tidegate/engine/OrderType" "MARKET" "Lcom/example/tidegate/tidegate/engine/OrderType;" (.ref (A 1)) ∧ Sta Z h "com/example/tidegate/tidegate/engine/OrderType" "ATO" "Lcom/example/tidegate/tidegate/engine/OrderType;" (.ref (A 2)) ∧ Sta Z h "com/example/tidegate/tidegate/engine/OrderType" "ATC" "Lcom/example/tidegate/tidegate/engine/OrderType;" (.ref (A 3)) ∧ Sta Z h "com/example/tidegate/tidegate/engine/OrderType" "IOC" "Lcom/example/tidegate/tidegate/engine/OrderType;" (.ref (A 4)) ∧ Sta Z h "com/example/tidegate/tidegate/engine/OrderType" "FOK" "Lcom/example/tidegate/tidegate/engine/OrderType;" (.ref (A 5)) ∧ Sta Z h "com/example/tidegate/tidegate/engine/OrderType" "ICEBERG" "Lcom/example/tidegate/tidegate/engine/OrderType;" (.ref (A 6)) ∧ Sta Z h "com/example/tidegate/tidegate/engine/OrderType" "SPECIAL_MARKET" "Lcom/example/tidegate/tidegate/engine/OrderType;" (.ref (A 7)) ∧ Sta Z h "com/example/tidegate/tidegate/engine/OrderType" "MARKET_TO_LIMIT" "Lcom/example/tidegate/tidegate/engine/OrderType;" (.ref (A 8)) ∧ (∀ i, i < 9 → Exa Z h (A i) "com/example/tidegate/tidegate/engine/OrderType") ∧ ∀ i, i < 9 → Fld Z h (A i) "java/lang/Enum" "ordinal" "I" (.int (Int32.ofNat i))
theorem own_inj {Z : State} {h : Heap} {A : Nat → Addr} (F : ∀ i, i < 9 → Fld Z h (A i) "java/lang/Enum" "ordinal" "I" (.int (Int32.ofNat i))) {i j : Nat} (hi : i < 9) (hj : j < 9) (e : A i = A j) : i = j := by
  refine Classical.byContradiction fun q => Fld.ne (F i hi) (F j hj) (fun r => q ?_) e
  have r1 : Int32.ofNat i = Int32.ofNat j := Value.int.inj r
  have r2 : (Int32.ofNat i).toInt = (Int32.ofNat j).toInt := by rw [r1]
  rw [Int32.toInt_ofNat_of_lt (by omega), Int32.toInt_ofNat_of_lt (by omega)] at r2
  omega
def own_ix (k : Int32) : Nat := if k = 0 then 0 else if k = 1 then 1 else if k = 2 then 2 else if k = 3 then 3 else if k = 4 then 4 else if k = 5 then 5 else if k = 6 then 6 else if k = 7 then 7 else 8
theorem own_ix_lt (k : Int32) : own_ix k < 9 := by unfold own_ix; repeat' split
                                                   all_goals decide
def own_rests (i : Nat) : Int32 := if i = 0 ∨ i = 6 ∨ i = 2 ∨ i = 3 then 1 else 0
def own_exp (k : Int32) : Int32 := if k = 0 then 1 else if k = 1 then 0 else if k = 2 then 1 else if k = 3 then 1 else if k = 4 then 0 else if k = 5 then 0 else if k = 6 then 1 else if k = 7 then 0 else 0
theorem own_same (k : Int32) : own_rests (own_ix k) = own_exp k := by
  unfold own_ix own_exp
  repeat' split
  all_goals rfl
theorem own_eq_int {args : Array Value} {first s : State} {o : Option Outcome} {idx : List Nat} {t : Term} {k : Int32} (h : (Jvm.Cond.eq t (.int k)).value args first o s idx = some true) : t.eval args first o idx s = some (.int k) := by
  obtain ⟨x, y, h1, h2, k1, -⟩ := cmp_v (Or.inl h)
  obtain rfl : y = .int k := Option.some.inj (h2.symm.trans (Term.int_eval k))
  cases x with
  | int z =>
    rw [Cond.value, h1, h2] at h
    have e : z = k := by simpa using h
    rw [h1, e]
  | _ => obtain ⟨z, hz⟩ | ⟨hz, -⟩ := k1 <;> first | cases hz | simp [Value.isRef] at *

theorem d1_0 : decode method_2_code 0 = .ok (.iload_n 0, 1) := by decide +kernel
theorem d1_1 : decode method_2_code 1 = .ok (.ifCond .ne 7, 3) := by decide +kernel
theorem d1_4 : decode method_2_code 4 = .ok (.getstatic 7, 3) := by decide +kernel
theorem d1_7 : decode method_2_code 7 = .ok (.areturn, 1) := by decide +kernel
theorem d1_8 : decode method_2_code 8 = .ok (.iload_n 0, 1) := by decide +kernel
theorem d1_9 : decode method_2_code 9 = .ok (.iconst 1, 1) := by decide +kernel
theorem d1_10 : decode method_2_code 10 = .ok (.if_icmp .ne 7, 3) := by decide +kernel
theorem d1_13 : decode method_2_code 13 = .ok (.getstatic 13, 3) := by decide +kernel
theorem d1_16 : decode method_2_code 16 = .ok (.areturn, 1) := by decide +kernel
theorem d1_17 : decode method_2_code 17 = .ok (.iload_n 0, 1) := by decide +kernel
theorem d1_18 : decode method_2_code 18 = .ok (.iconst 2, 1) := by decide +kernel
theorem d1_19 : decode method_2_code 19 = .ok (.if_icmp .ne 7, 3) := by decide +kernel
theorem d1_22 : decode method_2_code 22 = .ok (.getstatic 16, 3) := by decide +kernel
theorem d1_25 : decode method_2_code 25 = .ok (.areturn, 1) := by decide +kernel
theorem d1_26 : decode method_2_code 26 = .ok (.iload_n 0, 1) := by decide +kernel
theorem d1_27 : decode method_2_code 27 = .ok (.iconst 3, 1) := by decide +kernel
theorem d1_28 : decode method_2_code 28 = .ok (.if_icmp .ne 7, 3) := by decide +kernel
theorem d1_31 : decode method_2_code 31 = .ok (.getstatic 19, 3) := by decide +kernel
theorem d1_34 : decode method_2_code 34 = .ok (.areturn, 1) := by decide +kernel
theorem d1_35 : decode method_2_code 35 = .ok (.iload_n 0, 1) := by decide +kernel
theorem d1_36 : decode method_2_code 36 = .ok (.iconst 4, 1) := by decide +kernel
theorem d1_37 : decode method_2_code 37 = .ok (.if_icmp .ne 7, 3) := by decide +kernel
theorem d1_40 : decode method_2_code 40 = .ok (.getstatic 22, 3) := by decide +kernel
theorem d1_43 : decode method_2_code 43 = .ok (.areturn, 1) := by decide +kernel
theorem d1_44 : decode method_2_code 44 = .ok (.iload_n 0, 1) := by decide +kernel
theorem d1_45 : decode method_2_code 45 = .ok (.iconst 5, 1) := by decide +kernel
theorem d1_46 : decode method_2_code 46 = .ok (.if_icmp .ne 7, 3) := by decide +kernel
theorem d1_49 : decode method_2_code 49 = .ok (.getstatic 25, 3) := by decide +kernel
theorem d1_52 : decode method_2_code 52 = .ok (.areturn, 1) := by decide +kernel
theorem d1_53 : decode method_2_code 53 = .ok (.iload_n 0, 1) := by decide +kernel
theorem d1_54 : decode method_2_code 54 = .ok (.bipush 6, 2) := by decide +kernel
theorem d1_56 : decode method_2_code 56 = .ok (.if_icmp .ne 7, 3) := by decide +kernel
theorem d1_59 : decode method_2_code 59 = .ok (.getstatic 28, 3) := by decide +kernel
theorem d1_62 : decode method_2_code 62 = .ok (.areturn, 1) := by decide +kernel
theorem d1_63 : decode method_2_code 63 = .ok (.iload_n 0, 1) := by decide +kernel
theorem d1_64 : decode method_2_code 64 = .ok (.bipush 7, 2) := by decide +kernel
theorem d1_66 : decode method_2_code 66 = .ok (.if_icmp .ne 7, 3) := by decide +kernel
theorem d1_69 : decode method_2_code 69 = .ok (.getstatic 31, 3) := by decide +kernel
theorem d1_72 : decode method_2_code 72 = .ok (.areturn, 1) := by decide +kernel
theorem d1_73 : decode method_2_code 73 = .ok (.getstatic 34, 3) := by decide +kernel
theorem d1_76 : decode method_2_code 76 = .ok (.areturn, 1) := by decide +kernel
theorem own_pn0 : plainName "com/example/tidegate/tidegate/engine/OrderTypeRestsOnArrivalPinLaw" = true := by first | (simp [plainName, overriddenIn]; done) | decide +kernel
def Q_pick (Z : State) (k : Int32) (A : Nat → Addr) (h0 : Heap) (n0 : Nat) (v : Option Value) (h : Heap) (L : List Loc) : Prop := v = some (.ref (A (own_ix k))) ∧ Fr n0 L ∧ h = h0
set_option maxRecDepth 65536 in
set_option maxHeartbeats 40000000 in
theorem rm_pick (l : Launch) (Z : State) (a0 : Array Value) (hw : ∀ d ∈ tables_1, d.before a0 Z = true) (ws : List Jvm.Cond) (k : Int32) (A : Nat → Addr) (h0 : Heap) (n0 : Nat) (Z0 : n0 ≤ h0.size) (EN : own_En Z h0 A) :
    MetFree l (⟨"com/example/tidegate/tidegate/engine/OrderTypeRestsOnArrivalPinLaw", "pick", "(I)Lcom/example/tidegate/tidegate/engine/OrderType;"⟩ : MethodName) (head1 (Jvm.Cond.code (⟨"com/example/tidegate/tidegate/engine/OrderTypeRestsOnArrivalPinLaw", "pick", "(I)Lcom/example/tidegate/tidegate/engine/OrderType;"⟩ : MethodName) method_2_code 1 (some (.object "com/example/tidegate/tidegate/engine/OrderType")) :: ws) ({ frames := 0, cells := 0, slots := 0, locals := 0 } : Room)) (fun aa_ U => aa_ = #[(.int k)] ∧ Z.Warmed39 U.vm ∧ U.heap = h0) (fun _ _ _ _ _ => True) (fun _ U o_ U' => RetG U (Q_pick Z k A h0 n0) 0 0 U' o_) := by
  refine MetFree.of_bodySF (plainFor_of_name own_pn0) hisR ?_
  intro p e s m args below meth c_ s₁ Bd hml0 hP hK
  obtain ⟨rfl, hZ, hh⟩ := hP
  have hx := Bd.exec
  have hby := Bd.bytes
  have hml : c_.maxLocals = 1 := hml0
  have hown : s.vm.findClass "com/example/tidegate/tidegate/engine/OrderTypeRestsOnArrivalPinLaw" = some m.cls := findClass_of_methodNamed Bd.named
  have hnm := (name_of_methodNamed Bd.named Bd.method).1
  have X0 : Stand p l e ({ frames := 0, cells := 0, slots := 0, locals := 0 } : Room) s m #[(.int k)] below meth c_ s₁ [] 0 0 := Stand.of_body Bd
  have e0 : s₁.heap = h0 := by rw [← hh, Bd.state]; rfl
  have N0 := Fr.nil n0
  have w5_ := hw _ (List.mem_of_getElem? (i := 5) rfl)
  have w17_ := hw _ (List.mem_of_getElem? (i := 17) rfl)
  have w24_ := hw _ (List.mem_of_getElem? (i := 24) rfl)
  have w25_ := hw _ (List.mem_of_getElem? (i := 25) rfl)
  have w27_ := hw _ (List.mem_of_getElem? (i := 27) rfl)
  have w29_ := hw _ (List.mem_of_getElem? (i := 29) rfl)
  have w31_ := hw _ (List.mem_of_getElem? (i := 31) rfl)
  have w33_ := hw _ (List.mem_of_getElem? (i := 33) rfl)
  have w34_ := hw _ (List.mem_of_getElem? (i := 34) rfl)
  obtain ⟨S0, S1, S2, S3, S4, S5, S6, S7, S8, hex, hord⟩ := EN
  show Go p e below (RetG s (Q_pick Z k A h0 n0) 0 0) (s₁.setTop (entryFrame m #[(.int k)] 1))
  rw [show entryFrame m #[(.int k)] 1 = mkF m 0 #[.val (.int k)] [] from by first | (simp [entryFrame, mkF, argsToLocals, Value.category]; done) | rfl]
  refine g_iloadN X0 hx hby d1_0 rfl ?_
  by_cases hc1_1 : k = (0 : Int32)
  · skip
    refine g_ifN X0 hx hby d1_1 (teq hc1_1).2 ?_
    refine g_getS X0 hx hby hZ hown (host := "") (Or.inl w5_) Via.refl e0 S0 d1_4 (fun T2 X2 e2 => ?_)
    refine g_aret X2 hx hby (t := (.object "com/example/tidegate/tidegate/engine/OrderType")) rfl rfl rfl Bd.returns Bd.notSynchronized d1_7 e2 (by decide) (by decide) ?_
    show (Q_pick Z k A h0 n0) (some (.ref (A 0))) _ _
    exact ⟨by simp [own_ix, hc1_1], N0, rfl⟩
  · skip
    refine g_ifY X0 hx hby 8 d1_1 (feq hc1_1).2 (by decide) (by decide) ?_
    refine g_iloadN X0 hx hby d1_8 rfl ?_
    refine g_iconst X0 hx hby (1 : Int32) d1_9 rfl ?_
    by_cases hc10_3 : k = (1 : Int32)
    · skip
      refine g_icN X0 hx hby d1_10 (teq hc10_3).2 ?_
      refine g_getS X0 hx hby hZ hown (host := "") (Or.inl w25_) Via.refl e0 S1 d1_13 (fun T4 X4 e4 => ?_)
      refine g_aret X4 hx hby (t := (.object "com/example/tidegate/tidegate/engine/OrderType")) rfl rfl rfl Bd.returns Bd.notSynchronized d1_16 e4 (by decide) (by decide) ?_
      show (Q_pick Z k A h0 n0) (some (.ref (A 1))) _ _
      exact ⟨by simp [own_ix, hc1_1, hc10_3], N0, rfl⟩
    · skip
      refine g_icY X0 hx hby 17 d1_10 (feq hc10_3).2 (by decide) (by decide) ?_
      refine g_iloadN X0 hx hby d1_17 rfl ?_
      refine g_iconst X0 hx hby (2 : Int32) d1_18 rfl ?_
      by_cases hc19_5 : k = (2 : Int32)
      · skip
        refine g_icN X0 hx hby d1_19 (teq hc19_5).2 ?_
        refine g_getS X0 hx hby hZ hown (host := "") (Or.inl w24_) Via.refl e0 S2 d1_22 (fun T6 X6 e6 => ?_)
        refine g_aret X6 hx hby (t := (.object "com/example/tidegate/tidegate/engine/OrderType")) rfl rfl rfl Bd.returns Bd.notSynchronized d1_25 e6 (by decide) (by decide) ?_
        show (Q_pick Z k A h0 n0) (some (.ref (A 2))) _ _
        exact ⟨by simp [own_ix, hc1_1, hc10_3, hc19_5], N0, rfl⟩
      · skip
        refine g_icY X0 hx hby 26 d1_19 (feq hc19_5).2 (by decide) (by decide) ?_
        refine g_iloadN X0 hx hby d1_26 rfl ?_
        refine g_iconst X0 hx hby (3 : Int32) d1_27 rfl ?_
        by_cases hc28_7 : k = (3 : Int32)
        · skip
          refine g_icN X0 hx hby d1_28 (teq hc28_7).2 ?_
          refine g_getS X0 hx hby hZ hown (host := "") (Or.inl w17_) Via.refl e0 S3 d1_31 (fun T8 X8 e8 => ?_)
          refine g_aret X8 hx hby (t := (.object "com/example/tidegate/tidegate/engine/OrderType")) rfl rfl rfl Bd.returns Bd.notSynchronized d1_34 e8 (by decide) (by decide) ?_
          show (Q_pick Z k A h0 n0) (some (.ref (A 3))) _ _
          exact ⟨by simp [own_ix, hc1_1, hc10_3, hc19_5, hc28_7], N0, rfl⟩
        · skip
          refine g_icY X0 hx hby 35 d1_28 (feq hc28_7).2 (by decide) (by decide) ?_
          refine g_iloadN X0 hx hby d1_35 rfl ?_
          refine g_iconst X0 hx hby (4 : Int32) d1_36 rfl ?_
          by_cases hc37_9 : k = (4 : Int32)
          · skip
            refine g_icN X0 hx hby d1_37 (teq hc37_9).2 ?_
            refine g_getS X0 hx hby hZ hown (host := "") (Or.inl w29_) Via.refl e0 S4 d1_40 (fun T10 X10 e10 => ?_)
            refine g_aret X10 hx hby (t := (.object "com/example/tidegate/tidegate/engine/OrderType")) rfl rfl rfl Bd.returns Bd.notSynchronized d1_43 e10 (by decide) (by decide) ?_
            show (Q_pick Z k A h0 n0) (some (.ref (A 4))) _ _
            exact ⟨by simp [own_ix, hc1_1, hc10_3, hc19_5, hc28_7, hc37_9], N0, rfl⟩
          · skip
            refine g_icY X0 hx hby 44 d1_37 (feq hc37_9).2 (by decide) (by decide) ?_
            refine g_iloadN X0 hx hby d1_44 rfl ?_
            refine g_iconst X0 hx hby (5 : Int32) d1_45 rfl ?_
            by_cases hc46_11 : k = (5 : Int32)
            · skip
              refine g_icN X0 hx hby d1_46 (teq hc46_11).2 ?_
              refine g_getS X0 hx hby hZ hown (host := "") (Or.inl w34_) Via.refl e0 S5 d1_49 (fun T12 X12 e12 => ?_)
              refine g_aret X12 hx hby (t := (.object "com/example/tidegate/tidegate/engine/OrderType")) rfl rfl rfl Bd.returns Bd.notSynchronized d1_52 e12 (by decide) (by decide) ?_
              show (Q_pick Z k A h0 n0) (some (.ref (A 5))) _ _
              exact ⟨by simp [own_ix, hc1_1, hc10_3, hc19_5, hc28_7, hc37_9, hc46_11], N0, rfl⟩
            · skip
              refine g_icY X0 hx hby 53 d1_46 (feq hc46_11).2 (by decide) (by decide) ?_
              refine g_iloadN X0 hx hby d1_53 rfl ?_
              refine g_bipush X0 hx hby (6 : Int32) d1_54 rfl ?_
              by_cases hc56_13 : k = (6 : Int32)
              · skip
                refine g_icN X0 hx hby d1_56 (teq hc56_13).2 ?_
                refine g_getS X0 hx hby hZ hown (host := "") (Or.inl w33_) Via.refl e0 S6 d1_59 (fun T14 X14 e14 => ?_)
                refine g_aret X14 hx hby (t := (.object "com/example/tidegate/tidegate/engine/OrderType")) rfl rfl rfl Bd.returns Bd.notSynchronized d1_62 e14 (by decide) (by decide) ?_
                show (Q_pick Z k A h0 n0) (some (.ref (A 6))) _ _
                exact ⟨by simp [own_ix, hc1_1, hc10_3, hc19_5, hc28_7, hc37_9, hc46_11, hc56_13], N0, rfl⟩
              · skip
                refine g_icY X0 hx hby 63 d1_56 (feq hc56_13).2 (by decide) (by decide) ?_
                refine g_iloadN X0 hx hby d1_63 rfl ?_
                refine g_bipush X0 hx hby (7 : Int32) d1_64 rfl ?_
                by_cases hc66_15 : k = (7 : Int32)
                · skip
                  refine g_icN X0 hx hby d1_66 (teq hc66_15).2 ?_
                  refine g_getS X0 hx hby hZ hown (host := "") (Or.inl w27_) Via.refl e0 S7 d1_69 (fun T16 X16 e16 => ?_)
                  refine g_aret X16 hx hby (t := (.object "com/example/tidegate/tidegate/engine/OrderType")) rfl rfl rfl Bd.returns Bd.notSynchronized d1_72 e16 (by decide) (by decide) ?_
                  show (Q_pick Z k A h0 n0) (some (.ref (A 7))) _ _
                  exact ⟨by simp [own_ix, hc1_1, hc10_3, hc19_5, hc28_7, hc37_9, hc46_11, hc56_13, hc66_15], N0, rfl⟩
                · skip
                  refine g_icY X0 hx hby 73 d1_66 (feq hc66_15).2 (by decide) (by decide) ?_
                  refine g_getS X0 hx hby hZ hown (host := "") (Or.inl w31_) Via.refl e0 S8 d1_73 (fun T17 X17 e17 => ?_)
                  refine g_aret X17 hx hby (t := (.object "com/example/tidegate/tidegate/engine/OrderType")) rfl rfl rfl Bd.returns Bd.notSynchronized d1_76 e17 (by decide) (by decide) ?_
                  show (Q_pick Z k A h0 n0) (some (.ref (A 8))) _ _
                  exact ⟨by simp [own_ix, hc1_1, hc10_3, hc19_5, hc28_7, hc37_9, hc46_11, hc56_13, hc66_15], N0, rfl⟩

theorem d3_0 : decode method_3_code 0 = .ok (.iload_n 0, 1) := by decide +kernel
theorem d3_1 : decode method_3_code 1 = .ok (.ifCond .ne 5, 3) := by decide +kernel
theorem d3_4 : decode method_3_code 4 = .ok (.iconst 1, 1) := by decide +kernel
theorem d3_5 : decode method_3_code 5 = .ok (.ireturn, 1) := by decide +kernel
theorem d3_6 : decode method_3_code 6 = .ok (.iload_n 0, 1) := by decide +kernel
theorem d3_7 : decode method_3_code 7 = .ok (.iconst 1, 1) := by decide +kernel
theorem d3_8 : decode method_3_code 8 = .ok (.if_icmp .ne 5, 3) := by decide +kernel
theorem d3_11 : decode method_3_code 11 = .ok (.iconst 0, 1) := by decide +kernel
theorem d3_12 : decode method_3_code 12 = .ok (.ireturn, 1) := by decide +kernel
theorem d3_13 : decode method_3_code 13 = .ok (.iload_n 0, 1) := by decide +kernel
theorem d3_14 : decode method_3_code 14 = .ok (.iconst 2, 1) := by decide +kernel
theorem d3_15 : decode method_3_code 15 = .ok (.if_icmp .ne 5, 3) := by decide +kernel
theorem d3_18 : decode method_3_code 18 = .ok (.iconst 1, 1) := by decide +kernel
theorem d3_19 : decode method_3_code 19 = .ok (.ireturn, 1) := by decide +kernel
theorem d3_20 : decode method_3_code 20 = .ok (.iload_n 0, 1) := by decide +kernel
theorem d3_21 : decode method_3_code 21 = .ok (.iconst 3, 1) := by decide +kernel
theorem d3_22 : decode method_3_code 22 = .ok (.if_icmp .ne 5, 3) := by decide +kernel
theorem d3_25 : decode method_3_code 25 = .ok (.iconst 1, 1) := by decide +kernel
theorem d3_26 : decode method_3_code 26 = .ok (.ireturn, 1) := by decide +kernel
theorem d3_27 : decode method_3_code 27 = .ok (.iload_n 0, 1) := by decide +kernel
theorem d3_28 : decode method_3_code 28 = .ok (.iconst 4, 1) := by decide +kernel
theorem d3_29 : decode method_3_code 29 = .ok (.if_icmp .ne 5, 3) := by decide +kernel
theorem d3_32 : decode method_3_code 32 = .ok (.iconst 0, 1) := by decide +kernel
theorem d3_33 : decode method_3_code 33 = .ok (.ireturn, 1) := by decide +kernel
theorem d3_34 : decode method_3_code 34 = .ok (.iload_n 0, 1) := by decide +kernel
theorem d3_35 : decode method_3_code 35 = .ok (.iconst 5, 1) := by decide +kernel
theorem d3_36 : decode method_3_code 36 = .ok (.if_icmp .ne 5, 3) := by decide +kernel
theorem d3_39 : decode method_3_code 39 = .ok (.iconst 0, 1) := by decide +kernel
theorem d3_40 : decode method_3_code 40 = .ok (.ireturn, 1) := by decide +kernel
theorem d3_41 : decode method_3_code 41 = .ok (.iload_n 0, 1) := by decide +kernel
theorem d3_42 : decode method_3_code 42 = .ok (.bipush 6, 2) := by decide +kernel
theorem d3_44 : decode method_3_code 44 = .ok (.if_icmp .ne 5, 3) := by decide +kernel
theorem d3_47 : decode method_3_code 47 = .ok (.iconst 1, 1) := by decide +kernel
theorem d3_48 : decode method_3_code 48 = .ok (.ireturn, 1) := by decide +kernel
theorem d3_49 : decode method_3_code 49 = .ok (.iload_n 0, 1) := by decide +kernel
theorem d3_50 : decode method_3_code 50 = .ok (.bipush 7, 2) := by decide +kernel
theorem d3_52 : decode method_3_code 52 = .ok (.if_icmp .ne 5, 3) := by decide +kernel
theorem d3_55 : decode method_3_code 55 = .ok (.iconst 0, 1) := by decide +kernel
theorem d3_56 : decode method_3_code 56 = .ok (.ireturn, 1) := by decide +kernel
theorem d3_57 : decode method_3_code 57 = .ok (.iconst 0, 1) := by decide +kernel
theorem d3_58 : decode method_3_code 58 = .ok (.ireturn, 1) := by decide +kernel
def Q_exr (Z : State) (k : Int32) (h0 : Heap) (n0 : Nat) (v : Option Value) (h : Heap) (L : List Loc) : Prop := v = some (.int (own_exp k)) ∧ Fr n0 L ∧ h = h0
set_option maxRecDepth 65536 in
set_option maxHeartbeats 40000000 in
theorem rm_exr (l : Launch) (Z : State) (a0 : Array Value) (hw : ∀ d ∈ tables_1, d.before a0 Z = true) (ws : List Jvm.Cond) (k : Int32) (h0 : Heap) (n0 : Nat) (Z0 : n0 ≤ h0.size) :
    MetFree l (⟨"com/example/tidegate/tidegate/engine/OrderTypeRestsOnArrivalPinLaw", "expectedRests", "(I)Z"⟩ : MethodName) (head1 (Jvm.Cond.code (⟨"com/example/tidegate/tidegate/engine/OrderTypeRestsOnArrivalPinLaw", "expectedRests", "(I)Z"⟩ : MethodName) method_3_code 1 (some .boolean) :: ws) ({ frames := 0, cells := 0, slots := 0, locals := 0 } : Room)) (fun aa_ U => aa_ = #[(.int k)] ∧ Z.Warmed39 U.vm ∧ U.heap = h0) (fun _ _ _ _ _ => True) (fun _ U o_ U' => RetG U (Q_exr Z k h0 n0) 0 0 U' o_) := by
  refine MetFree.of_bodySF (plainFor_of_name own_pn0) hisR ?_
  intro p e s m args below meth c_ s₁ Bd hml0 hP hK
  obtain ⟨rfl, hZ, hh⟩ := hP
  have hx := Bd.exec
  have hby := Bd.bytes
  have hml : c_.maxLocals = 1 := hml0
  have hown : s.vm.findClass "com/example/tidegate/tidegate/engine/OrderTypeRestsOnArrivalPinLaw" = some m.cls := findClass_of_methodNamed Bd.named
  have hnm := (name_of_methodNamed Bd.named Bd.method).1
  have X0 : Stand p l e ({ frames := 0, cells := 0, slots := 0, locals := 0 } : Room) s m #[(.int k)] below meth c_ s₁ [] 0 0 := Stand.of_body Bd
  have e0 : s₁.heap = h0 := by rw [← hh, Bd.state]; rfl
  have N0 := Fr.nil n0
  show Go p e below (RetG s (Q_exr Z k h0 n0) 0 0) (s₁.setTop (entryFrame m #[(.int k)] 1))
  rw [show entryFrame m #[(.int k)] 1 = mkF m 0 #[.val (.int k)] [] from by first | (simp [entryFrame, mkF, argsToLocals, Value.category]; done) | rfl]
  refine g_iloadN X0 hx hby d3_0 rfl ?_
  by_cases hc1_1 : k = (0 : Int32)
  · skip
    refine g_ifN X0 hx hby d3_1 (teq hc1_1).2 ?_
    refine g_iconst X0 hx hby (1 : Int32) d3_4 rfl ?_
    refine g_nret X0 hx hby (t := .boolean) (by simp) Bd.returns Bd.notSynchronized d3_5 e0 (by decide) (by decide) ?_
    show (Q_exr Z k h0 n0) (some (.int (1 : Int32))) _ _
    exact ⟨by simp [own_exp, hc1_1], N0, rfl⟩
  · skip
    refine g_ifY X0 hx hby 6 d3_1 (feq hc1_1).2 (by decide) (by decide) ?_
    refine g_iloadN X0 hx hby d3_6 rfl ?_
    refine g_iconst X0 hx hby (1 : Int32) d3_7 rfl ?_
    by_cases hc8_2 : k = (1 : Int32)
    · skip
      refine g_icN X0 hx hby d3_8 (teq hc8_2).2 ?_
      refine g_iconst X0 hx hby (0 : Int32) d3_11 rfl ?_
      refine g_nret X0 hx hby (t := .boolean) (by simp) Bd.returns Bd.notSynchronized d3_12 e0 (by decide) (by decide) ?_
      show (Q_exr Z k h0 n0) (some (.int (0 : Int32))) _ _
      exact ⟨by simp [own_exp, hc1_1, hc8_2], N0, rfl⟩
    · skip
      refine g_icY X0 hx hby 13 d3_8 (feq hc8_2).2 (by decide) (by decide) ?_
      refine g_iloadN X0 hx hby d3_13 rfl ?_
      refine g_iconst X0 hx hby (2 : Int32) d3_14 rfl ?_
      by_cases hc15_3 : k = (2 : Int32)
      · skip
        refine g_icN X0 hx hby d3_15 (teq hc15_3).2 ?_
        refine g_iconst X0 hx hby (1 : Int32) d3_18 rfl ?_
        refine g_nret X0 hx hby (t := .boolean) (by simp) Bd.returns Bd.notSynchronized d3_19 e0 (by decide) (by decide) ?_
        show (Q_exr Z k h0 n0) (some (.int (1 : Int32))) _ _
        exact ⟨by simp [own_exp, hc1_1, hc8_2, hc15_3], N0, rfl⟩
      · skip
        refine g_icY X0 hx hby 20 d3_15 (feq hc15_3).2 (by decide) (by decide) ?_
        refine g_iloadN X0 hx hby d3_20 rfl ?_
        refine g_iconst X0 hx hby (3 : Int32) d3_21 rfl ?_
        by_cases hc22_4 : k = (3 : Int32)
        · skip
          refine g_icN X0 hx hby d3_22 (teq hc22_4).2 ?_
          refine g_iconst X0 hx hby (1 : Int32) d3_25 rfl ?_
          refine g_nret X0 hx hby (t := .boolean) (by simp) Bd.returns Bd.notSynchronized d3_26 e0 (by decide) (by decide) ?_
          show (Q_exr Z k h0 n0) (some (.int (1 : Int32))) _ _
          exact ⟨by simp [own_exp, hc1_1, hc8_2, hc15_3, hc22_4], N0, rfl⟩
        · skip
          refine g_icY X0 hx hby 27 d3_22 (feq hc22_4).2 (by decide) (by decide) ?_
          refine g_iloadN X0 hx hby d3_27 rfl ?_
          refine g_iconst X0 hx hby (4 : Int32) d3_28 rfl ?_
          by_cases hc29_5 : k = (4 : Int32)
          · skip
            refine g_icN X0 hx hby d3_29 (teq hc29_5).2 ?_
            refine g_iconst X0 hx hby (0 : Int32) d3_32 rfl ?_
            refine g_nret X0 hx hby (t := .boolean) (by simp) Bd.returns Bd.notSynchronized d3_33 e0 (by decide) (by decide) ?_
            show (Q_exr Z k h0 n0) (some (.int (0 : Int32))) _ _
            exact ⟨by simp [own_exp, hc1_1, hc8_2, hc15_3, hc22_4, hc29_5], N0, rfl⟩
          · skip
            refine g_icY X0 hx hby 34 d3_29 (feq hc29_5).2 (by decide) (by decide) ?_
            refine g_iloadN X0 hx hby d3_34 rfl ?_
            refine g_iconst X0 hx hby (5 : Int32) d3_35 rfl ?_
            by_cases hc36_6 : k = (5 : Int32)
            · skip
              refine g_icN X0 hx hby d3_36 (teq hc36_6).2 ?_
              refine g_iconst X0 hx hby (0 : Int32) d3_39 rfl ?_
              refine g_nret X0 hx hby (t := .boolean) (by simp) Bd.returns Bd.notSynchronized d3_40 e0 (by decide) (by decide) ?_
              show (Q_exr Z k h0 n0) (some (.int (0 : Int32))) _ _
              exact ⟨by simp [own_exp, hc1_1, hc8_2, hc15_3, hc22_4, hc29_5, hc36_6], N0, rfl⟩
            · skip
              refine g_icY X0 hx hby 41 d3_36 (feq hc36_6).2 (by decide) (by decide) ?_
              refine g_iloadN X0 hx hby d3_41 rfl ?_
              refine g_bipush X0 hx hby (6 : Int32) d3_42 rfl ?_
              by_cases hc44_7 : k = (6 : Int32)
              · skip
                refine g_icN X0 hx hby d3_44 (teq hc44_7).2 ?_
                refine g_iconst X0 hx hby (1 : Int32) d3_47 rfl ?_
                refine g_nret X0 hx hby (t := .boolean) (by simp) Bd.returns Bd.notSynchronized d3_48 e0 (by decide) (by decide) ?_
                show (Q_exr Z k h0 n0) (some (.int (1 : Int32))) _ _
                exact ⟨by simp [own_exp, hc1_1, hc8_2, hc15_3, hc22_4, hc29_5, hc36_6, hc44_7], N0, rfl⟩
              · skip
                refine g_icY X0 hx hby 49 d3_44 (feq hc44_7).2 (by decide) (by decide) ?_
                refine g_iloadN X0 hx hby d3_49 rfl ?_
                refine g_bipush X0 hx hby (7 : Int32) d3_50 rfl ?_
                by_cases hc52_8 : k = (7 : Int32)
                · skip
                  refine g_icN X0 hx hby d3_52 (teq hc52_8).2 ?_
                  refine g_iconst X0 hx hby (0 : Int32) d3_55 rfl ?_
                  refine g_nret X0 hx hby (t := .boolean) (by simp) Bd.returns Bd.notSynchronized d3_56 e0 (by decide) (by decide) ?_
                  show (Q_exr Z k h0 n0) (some (.int (0 : Int32))) _ _
                  exact ⟨by simp [own_exp, hc1_1, hc8_2, hc15_3, hc22_4, hc29_5, hc36_6, hc44_7, hc52_8], N0, rfl⟩
                · skip
                  refine g_icY X0 hx hby 57 d3_52 (feq hc52_8).2 (by decide) (by decide) ?_
                  refine g_iconst X0 hx hby (0 : Int32) d3_57 rfl ?_
                  refine g_nret X0 hx hby (t := .boolean) (by simp) Bd.returns Bd.notSynchronized d3_58 e0 (by decide) (by decide) ?_
                  show (Q_exr Z k h0 n0) (some (.int (0 : Int32))) _ _
                  exact ⟨by simp [own_exp, hc1_1, hc8_2, hc15_3, hc22_4, hc29_5, hc36_6, hc44_7, hc52_8], N0, rfl⟩

theorem d2_0 : decode prog_20_method_5_code 0 = .ok (.aload_n 0, 1) := by decide +kernel
theorem d2_1 : decode prog_20_method_5_code 1 = .ok (.getstatic 3, 3) := by decide +kernel
theorem d2_4 : decode prog_20_method_5_code 4 = .ok (.if_acmp .eq 24, 3) := by decide +kernel
theorem d2_28 : decode prog_20_method_5_code 28 = .ok (.iconst 1, 1) := by decide +kernel
theorem d2_29 : decode prog_20_method_5_code 29 = .ok (.goto 4, 3) := by decide +kernel
theorem d2_33 : decode prog_20_method_5_code 33 = .ok (.ireturn, 1) := by decide +kernel
theorem d2_7 : decode prog_20_method_5_code 7 = .ok (.aload_n 0, 1) := by decide +kernel
theorem d2_8 : decode prog_20_method_5_code 8 = .ok (.getstatic 22, 3) := by decide +kernel
theorem d2_11 : decode prog_20_method_5_code 11 = .ok (.if_acmp .eq 17, 3) := by decide +kernel
theorem d2_14 : decode prog_20_method_5_code 14 = .ok (.aload_n 0, 1) := by decide +kernel
theorem d2_15 : decode prog_20_method_5_code 15 = .ok (.getstatic 10, 3) := by decide +kernel
theorem d2_18 : decode prog_20_method_5_code 18 = .ok (.if_acmp .eq 10, 3) := by decide +kernel
theorem d2_21 : decode prog_20_method_5_code 21 = .ok (.aload_n 0, 1) := by decide +kernel
theorem d2_22 : decode prog_20_method_5_code 22 = .ok (.getstatic 13, 3) := by decide +kernel
theorem d2_25 : decode prog_20_method_5_code 25 = .ok (.if_acmp .ne 7, 3) := by decide +kernel
theorem d2_32 : decode prog_20_method_5_code 32 = .ok (.iconst 0, 1) := by decide +kernel
theorem own_pn1 : plainName "com/example/tidegate/tidegate/engine/OrderType" = true := by first | (simp [plainName, overriddenIn]; done) | decide +kernel
def Q_rests (Z : State) (i : Nat) (A : Nat → Addr) (h0 : Heap) (n0 : Nat) (v : Option Value) (h : Heap) (L : List Loc) : Prop := v = some (.int (own_rests i)) ∧ Fr n0 L ∧ h = h0
set_option maxRecDepth 65536 in
set_option maxHeartbeats 40000000 in
theorem rm_rests (l : Launch) (Z : State) (a0 : Array Value) (hw : ∀ d ∈ tables_1, d.before a0 Z = true) (ws : List Jvm.Cond) (i : Nat) (A : Nat → Addr) (h0 : Heap) (n0 : Nat) (Z0 : n0 ≤ h0.size) (EN : own_En Z h0 A) (hi : i < 9) :
    MetFree l (⟨"com/example/tidegate/tidegate/engine/OrderType", "restsOnArrival", "()Z"⟩ : MethodName) (head1 (Jvm.Cond.code (⟨"com/example/tidegate/tidegate/engine/OrderType", "restsOnArrival", "()Z"⟩ : MethodName) prog_20_method_5_code 1 (some .boolean) :: ws) ({ frames := 0, cells := 0, slots := 0, locals := 0 } : Room)) (fun aa_ U => aa_ = #[(.ref (A i))] ∧ Z.Warmed39 U.vm ∧ U.heap = h0) (fun _ _ _ _ _ => True) (fun _ U o_ U' => RetG U (Q_rests Z i A h0 n0) 0 0 U' o_) := by
  refine MetFree.of_bodySF (plainFor_of_name own_pn1) hisR ?_
  intro p e s m args below meth c_ s₁ Bd hml0 hP hK
  obtain ⟨rfl, hZ, hh⟩ := hP
  have hx := Bd.exec
  have hby := Bd.bytes
  have hml : c_.maxLocals = 1 := hml0
  have hown : s.vm.findClass "com/example/tidegate/tidegate/engine/OrderType" = some m.cls := findClass_of_methodNamed Bd.named
  have hnm := (name_of_methodNamed Bd.named Bd.method).1
  have X0 : Stand p l e ({ frames := 0, cells := 0, slots := 0, locals := 0 } : Room) s m #[(.ref (A i))] below meth c_ s₁ [] 0 0 := Stand.of_body Bd
  have e0 : s₁.heap = h0 := by rw [← hh, Bd.state]; rfl
  have N0 := Fr.nil n0
  have w13_ := hw _ (List.mem_of_getElem? (i := 13) rfl)
  have w19_ := hw _ (List.mem_of_getElem? (i := 19) rfl)
  have w21_ := hw _ (List.mem_of_getElem? (i := 21) rfl)
  have w23_ := hw _ (List.mem_of_getElem? (i := 23) rfl)
  obtain ⟨S0, S1, S2, S3, S4, S5, S6, S7, S8, hex, hord⟩ := EN
  show Go p e below (RetG s (Q_rests Z i A h0 n0) 0 0) (s₁.setTop (entryFrame m #[(.ref (A i))] 1))
  rw [show entryFrame m #[(.ref (A i))] 1 = mkF m 0 #[.val (.ref (A i))] [] from by first | (simp [entryFrame, mkF, argsToLocals, Value.category]; done) | rfl]
  refine g_aloadN X0 hx hby d2_0 rfl rfl ?_
  refine g_getS X0 hx hby hZ hown (host := "") (Or.inl w13_) Via.refl e0 S0 d2_1 (fun T1 X1 e1 => ?_)
  by_cases ha4_2 : (A i) = (A 0)
  · skip
    refine g_acmp X1 hx hby rfl rfl 28 true d2_4 (decide_eq_true (congrArg Value.ref ha4_2)) (by decide) (by decide) ?_
    refine g_iconst X1 hx hby (1 : Int32) d2_28 rfl ?_
    refine g_goto X1 hx hby 33 d2_29 (by decide) (by decide) ?_
    refine g_nret X1 hx hby (t := .boolean) (by simp) Bd.returns Bd.notSynchronized d2_33 e1 (by decide) (by decide) ?_
    show (Q_rests Z i A h0 n0) (some (.int (1 : Int32))) _ _
    have rha4_2 : i = 0 := own_inj hord hi (by decide) ha4_2
    exact ⟨by simp [own_rests, rha4_2], N0, rfl⟩
  · skip
    refine g_acmp X1 hx hby rfl rfl 7 false d2_4 (decide_eq_false fun q => ha4_2 (Value.ref.inj q)) (by decide) (by decide) ?_
    refine g_aloadN X1 hx hby d2_7 rfl rfl ?_
    refine g_getS X1 hx hby hZ hown (host := "") (Or.inl w19_) Via.refl e1 S6 d2_8 (fun T3 X3 e3 => ?_)
    by_cases ha11_4 : (A i) = (A 6)
    · skip
      refine g_acmp X3 hx hby rfl rfl 28 true d2_11 (decide_eq_true (congrArg Value.ref ha11_4)) (by decide) (by decide) ?_
      refine g_iconst X3 hx hby (1 : Int32) d2_28 rfl ?_
      refine g_goto X3 hx hby 33 d2_29 (by decide) (by decide) ?_
      refine g_nret X3 hx hby (t := .boolean) (by simp) Bd.returns Bd.notSynchronized d2_33 e3 (by decide) (by decide) ?_
      show (Q_rests Z i A h0 n0) (some (.int (1 : Int32))) _ _
      have rha4_2 : ¬ i = 0 := fun q => ha4_2 (by rw [q])
      have rha11_4 : i = 6 := own_inj hord hi (by decide) ha11_4
      exact ⟨by simp [own_rests, rha4_2, rha11_4], N0, rfl⟩
    · skip
      refine g_acmp X3 hx hby rfl rfl 14 false d2_11 (decide_eq_false fun q => ha11_4 (Value.ref.inj q)) (by decide) (by decide) ?_
      refine g_aloadN X3 hx hby d2_14 rfl rfl ?_
      refine g_getS X3 hx hby hZ hown (host := "") (Or.inl w21_) Via.refl e3 S2 d2_15 (fun T5 X5 e5 => ?_)
      by_cases ha18_6 : (A i) = (A 2)
      · skip
        refine g_acmp X5 hx hby rfl rfl 28 true d2_18 (decide_eq_true (congrArg Value.ref ha18_6)) (by decide) (by decide) ?_
        refine g_iconst X5 hx hby (1 : Int32) d2_28 rfl ?_
        refine g_goto X5 hx hby 33 d2_29 (by decide) (by decide) ?_
        refine g_nret X5 hx hby (t := .boolean) (by simp) Bd.returns Bd.notSynchronized d2_33 e5 (by decide) (by decide) ?_
        show (Q_rests Z i A h0 n0) (some (.int (1 : Int32))) _ _
        have rha4_2 : ¬ i = 0 := fun q => ha4_2 (by rw [q])
        have rha11_4 : ¬ i = 6 := fun q => ha11_4 (by rw [q])
        have rha18_6 : i = 2 := own_inj hord hi (by decide) ha18_6
        exact ⟨by simp [own_rests, rha4_2, rha11_4, rha18_6], N0, rfl⟩
      · skip
        refine g_acmp X5 hx hby rfl rfl 21 false d2_18 (decide_eq_false fun q => ha18_6 (Value.ref.inj q)) (by decide) (by decide) ?_
        refine g_aloadN X5 hx hby d2_21 rfl rfl ?_
        refine g_getS X5 hx hby hZ hown (host := "") (Or.inl w23_) Via.refl e5 S3 d2_22 (fun T7 X7 e7 => ?_)
        by_cases ha25_8 : (A i) = (A 3)
        · skip
          refine g_acmp X7 hx hby rfl rfl 28 true d2_25 (decide_eq_true (congrArg Value.ref ha25_8)) (by decide) (by decide) ?_
          refine g_iconst X7 hx hby (1 : Int32) d2_28 rfl ?_
          refine g_goto X7 hx hby 33 d2_29 (by decide) (by decide) ?_
          refine g_nret X7 hx hby (t := .boolean) (by simp) Bd.returns Bd.notSynchronized d2_33 e7 (by decide) (by decide) ?_
          show (Q_rests Z i A h0 n0) (some (.int (1 : Int32))) _ _
          have rha4_2 : ¬ i = 0 := fun q => ha4_2 (by rw [q])
          have rha11_4 : ¬ i = 6 := fun q => ha11_4 (by rw [q])
          have rha18_6 : ¬ i = 2 := fun q => ha18_6 (by rw [q])
          have rha25_8 : i = 3 := own_inj hord hi (by decide) ha25_8
          exact ⟨by simp [own_rests, rha4_2, rha11_4, rha18_6, rha25_8], N0, rfl⟩
        · skip
          refine g_acmp X7 hx hby rfl rfl 32 false d2_25 (decide_eq_false fun q => ha25_8 (Value.ref.inj q)) (by decide) (by decide) ?_
          refine g_iconst X7 hx hby (0 : Int32) d2_32 rfl ?_
          refine g_nret X7 hx hby (t := .boolean) (by simp) Bd.returns Bd.notSynchronized d2_33 e7 (by decide) (by decide) ?_
          show (Q_rests Z i A h0 n0) (some (.int (0 : Int32))) _ _
          have rha4_2 : ¬ i = 0 := fun q => ha4_2 (by rw [q])
          have rha11_4 : ¬ i = 6 := fun q => ha11_4 (by rw [q])
          have rha18_6 : ¬ i = 2 := fun q => ha18_6 (by rw [q])
          have rha25_8 : ¬ i = 3 := fun q => ha25_8 (by rw [q])
          exact ⟨by simp [own_rests, rha4_2, rha11_4, rha18_6, rha25_8], N0, rfl⟩

theorem own_pd0 : parseMethodDescriptor "(I)Lcom/example/tidegate/tidegate/engine/OrderType;" = some ⟨[.int], some (.object "com/example/tidegate/tidegate/engine/OrderType")⟩ := by decide +kernel
theorem own_pd1 : parseMethodDescriptor "()Z" = some ⟨[], some .boolean⟩ := by decide +kernel
theorem own_pd2 : parseMethodDescriptor "(I)Z" = some ⟨[.int], some .boolean⟩ := by decide +kernel
def Q_law (Z : State) (x0 : Int32) (A : Nat → Addr) (h0 : Heap) (n0 : Nat) (v : Option Value) (h : Heap) (L : List Loc) : Prop := v = some (.int 1) ∧ Fr n0 L
set_option maxRecDepth 65536 in
set_option maxHeartbeats 40000000 in
theorem rm_law (l : Launch) (Z : State) (a0 : Array Value) (hw : ∀ d ∈ tables_1, d.before a0 Z = true) (ws : List Jvm.Cond) (x0 : Int32) (A : Nat → Addr) (h0 : Heap) (n0 : Nat) (Z0 : n0 ≤ h0.size) (EN : own_En Z h0 A) :
    MetFree l Jvm.Pilot.@@N@@.x (head1 (Jvm.Cond.code Jvm.Pilot.@@N@@.x Jvm.Pilot.@@N@@.code Jvm.Pilot.@@N@@.maxLocals Jvm.Pilot.@@N@@.ret :: ws) room_1) (fun aa_ U => aa_ = #[(.int x0)] ∧ Z.Warmed39 U.vm ∧ U.heap = h0) (fun _ _ _ _ _ => True) (fun _ U o_ U' => RetG U (Q_law Z x0 A h0 n0) 0 0 U' o_) := by
  refine MetFree.of_bodySF (plainFor_of_name own_pn0) hisR ?_
  intro p e s m args below meth c_ s₁ Bd hml0 hP hK
  obtain ⟨rfl, hZ, hh⟩ := hP
  have hx := Bd.exec
  have hby := Bd.bytes
  have hml : c_.maxLocals = 3 := hml0
  have hown : s.vm.findClass "com/example/tidegate/tidegate/engine/OrderTypeRestsOnArrivalPinLaw" = some m.cls := findClass_of_methodNamed Bd.named
  have hnm := (name_of_methodNamed Bd.named Bd.method).1
  have X0 : Stand p l e room_1 s m #[(.int x0)] below meth c_ s₁ [] 0 0 := Stand.of_body Bd
  have e0 : s₁.heap = h0 := by rw [← hh, Bd.state]; rfl
  have N0 := Fr.nil n0
  have w0_ := hw _ (List.mem_of_getElem? (i := 0) rfl)
  have w1_ := hw _ (List.mem_of_getElem? (i := 1) rfl)
  have w2_ := hw _ (List.mem_of_getElem? (i := 2) rfl)
  have w3_ := hw _ (List.mem_of_getElem? (i := 3) rfl)
  have w4_ := hw _ (List.mem_of_getElem? (i := 4) rfl)
  have w6_ := hw _ (List.mem_of_getElem? (i := 6) rfl)
  have w8_ := hw _ (List.mem_of_getElem? (i := 8) rfl)
  have w9_ := hw _ (List.mem_of_getElem? (i := 9) rfl)
  have w10_ := hw _ (List.mem_of_getElem? (i := 10) rfl)
  have w11_ := hw _ (List.mem_of_getElem? (i := 11) rfl)
  have w12_ := hw _ (List.mem_of_getElem? (i := 12) rfl)
  have w14_ := hw _ (List.mem_of_getElem? (i := 14) rfl)
  have w15_ := hw _ (List.mem_of_getElem? (i := 15) rfl)
  have w16_ := hw _ (List.mem_of_getElem? (i := 16) rfl)
  show Go p e below (RetG s (Q_law Z x0 A h0 n0) 0 0) (s₁.setTop (entryFrame m #[(.int x0)] maxLocals))
  rw [show entryFrame m #[(.int x0)] maxLocals = mkF m 0 #[.val (.int x0), .unset, .unset] [] from by first | (simp [entryFrame, mkF, argsToLocals, Value.category, maxLocals]; done) | rfl]
  refine g_iloadN X0 hx hby at_0 rfl ?_
  refine g_ldcI X0 hx hby hZ hown w0_ at_1 ?_
  refine g_iand X0 hx hby at_3 ?_
  refine g_bipush X0 hx hby (9 : Int32) at_4 rfl ?_
  refine g_irem X0 hx hby at_6 (by decide) ?_
  refine g_istoreN X0 hx hby at_7 (l' := #[.val (.int x0), .val (.int ((x0 &&& (2147483647 : Int32)) % (9 : Int32))), .unset]) rfl ?_
  obtain ⟨k, hk⟩ : ∃ z, z = ((x0 &&& (2147483647 : Int32)) % (9 : Int32)) := ⟨_, rfl⟩
  rw [← hk]
  refine g_iloadN X0 hx hby at_8 rfl ?_
  refine g_static X0 hx hby hZ hown (rm_pick l Z a0 hw [] k A h0 n0 Z0 EN) w1_ w2_ w3_ w4_ (by decide) e0 (by rw [hml]; rfl) [(.int k)] (lenOf own_pd0 rfl) rfl rfl (Nat.le_of_ble_eq_true rfl) (Nat.le_of_ble_eq_true rfl) (Nat.le_of_ble_eq_true rfl) (Nat.le_of_ble_eq_true rfl) at_9 (fun v1 T1 L1 X1 hQ1 => ?_)
  obtain ⟨rfl, N1q, eh1⟩ := hQ1
  have N1 := Fr.app N0 N1q
  refine g_astoreN X1 hx hby at_12 rfl (l' := #[.val (.int x0), .val (.int k), .val (.ref (A (own_ix k)))]) rfl ?_
  refine g_aloadN X1 hx hby at_13 rfl rfl ?_
  refine g_virtual X1 hx hby hZ hown (rm_rests l Z a0 hw [] (own_ix k) A h0 n0 Z0 EN (own_ix_lt k)) w8_ w9_ (notFace_of_selects (args := #[]) (mvT hZ w11_)) w11_ w10_ w6_ w12_ (by decide) eh1 (EN.2.2.2.2.2.2.2.2.2.1 _ (own_ix_lt k)) (by rw [hml]; rfl) [] (lenOf own_pd1 rfl) rfl rfl (Nat.le_of_ble_eq_true rfl) (Nat.le_of_ble_eq_true rfl) (Nat.le_of_ble_eq_true rfl) (Nat.le_of_ble_eq_true rfl) at_14 (fun v2 T2 L2 X2 hQ2 => ?_)
  obtain ⟨rfl, N2q, eh2⟩ := hQ2
  have N2 := Fr.app N1 N2q
  refine g_iloadN X2 hx hby at_17 rfl ?_
  refine g_static X2 hx hby hZ hown (rm_exr l Z a0 hw [] k h0 n0 Z0 ) w14_ w15_ w3_ w16_ (by decide) eh2 (by rw [hml]; rfl) [(.int k)] (lenOf own_pd2 rfl) rfl rfl (Nat.le_of_ble_eq_true rfl) (Nat.le_of_ble_eq_true rfl) (Nat.le_of_ble_eq_true rfl) (Nat.le_of_ble_eq_true rfl) at_18 (fun v3 T3 L3 X3 hQ3 => ?_)
  obtain ⟨rfl, N3q, eh3⟩ := hQ3
  have N3 := Fr.app N2 N3q
  refine g_at 21 rfl rfl rfl ?_
  refine g_icN X3 hx hby at_21 (teq ((own_same k) : (own_rests (own_ix k)) = (own_exp k))).2 ?_
  refine g_iconst X3 hx hby (1 : Int32) at_24 rfl ?_
  refine g_goto X3 hx hby 29 at_25 (by decide) (by decide) ?_
  refine g_nret X3 hx hby (t := .boolean) (by simp) Bd.returns Bd.notSynchronized at_29 eh3 (by decide) (by decide) ?_
  show (Q_law Z x0 A h0 n0) (some (.int (1 : Int32))) _ _
  exact ⟨rfl, N3⟩

set_option maxRecDepth 65536 in
set_option maxHeartbeats 40000000 in
theorem comes_1 {Post : Tables → Env → Array Value → State → Outcome → State → Prop} (hpost : ∀ tb e args s v u, (limb_1_1.after args s (.returned v) u = true ∧ limb_1_2.after args s (.returned v) u = true ∧ True) → FrameEnd s (.returned v) u (Jvm.fieldLocs frame_1_writes args s ++ Jvm.arrayLocs frame_1_arrays args s ++ Jvm.staticLocs frame_1_statics s) 0 0 → Post tb e args s (.returned v) u) :
    ArmFor flags0 classFile x code maxLocals ret World_1 tables_1 room_1 Calls_1 rest_1 Pre_1 Post := by
  intro l hfl _ _ p e ha hc hk s m args below hf hA hF happ hP
  obtain ⟨hcalls, hrest, hpre⟩ := hP
  obtain ⟨-, -, -, hnamed, -, -, -, hat⟩ := (Spec.applies_iff hf).mp happ
  obtain ⟨hg, hn⟩ := and_e (Cond.before_iff.mp (show (Jvm.Cond.and given_1 narrow_1).before args s = true from hpre))
  obtain ⟨hcount, hg1⟩ := and_e hg
  have ga0 := hg1
  obtain ⟨w0, rfl⟩ : ∃ w0 : Value, args = #[w0] := by
    have hs : args.size = 1 := by simpa [Cond.value, given_1] using hcount
    obtain ⟨L⟩ := args
    match L, hs with
    | [w0], _ => exact ⟨w0, rfl⟩
  have hw := fun d (hd : d ∈ tables_1) => atoms_spec (ws := Jvm.Cond.code x code maxLocals ret :: tables_1) hat d (List.mem_cons_of_mem _ hd)
  have hfit : Fit s := fun {y c} hc i hi => by
    obtain ⟨ha, rfl⟩ := Array.getElem?_eq_some_iff.mp hc
    have q := List.all_eq_true.mp ((Array.all_eq_true_iff_forall_mem.mp hF) _ (Array.getElem_mem ha)) i (List.mem_range.mpr hi)
    simpa [Array.getElem?_eq_getElem hi] using q
  obtain ⟨i0, ei0⟩ := is_v ga0
  obtain rfl : w0 = (.int i0) := Option.some.inj ei0
  obtain ⟨u0, hn0⟩ := and_e hn
  obtain ⟨u1, hn1⟩ := and_e hn0
  obtain ⟨u2, hn2⟩ := and_e hn1
  obtain ⟨u3, hn3⟩ := and_e hn2
  obtain ⟨u4, hn4⟩ := and_e hn3
  obtain ⟨u5, hn5⟩ := and_e hn4
  obtain ⟨u6, hn6⟩ := and_e hn5
  obtain ⟨u7, hn7⟩ := and_e hn6
  obtain ⟨u8, hn8⟩ := and_e hn7
  obtain ⟨u9, hn9⟩ := and_e hn8
  obtain ⟨u10, hn10⟩ := and_e hn9
  obtain ⟨u11, hn11⟩ := and_e hn10
  obtain ⟨u12, hn12⟩ := and_e hn11
  obtain ⟨u13, hn13⟩ := and_e hn12
  obtain ⟨u14, hn14⟩ := and_e hn13
  obtain ⟨u15, hn15⟩ := and_e hn14
  obtain ⟨u16, hn16⟩ := and_e hn15
  have u17 := hn16
  obtain ⟨c0, ev0⟩ := exa_v u0
  have Ex0 := Exa.start ev0 u0
  have St0 := Sta.start ev0 (Or.inr ⟨(hw _ (List.mem_of_getElem? (i := 6) rfl)), (hw _ (List.mem_of_getElem? (i := 7) rfl))⟩)
  have Or0 := Fld.start ((fld_at ev0).symm.trans (own_eq_int u3))
  obtain ⟨c1, ev1⟩ := exa_v u8
  have Ex1 := Exa.start ev1 u8
  have St1 := Sta.start ev1 (Or.inr ⟨(hw _ (List.mem_of_getElem? (i := 6) rfl)), (hw _ (List.mem_of_getElem? (i := 26) rfl))⟩)
  have Or1 := Fld.start ((fld_at ev1).symm.trans (own_eq_int u9))
  obtain ⟨c2, ev2⟩ := exa_v u6
  have Ex2 := Exa.start ev2 u6
  have St2 := Sta.start ev2 (Or.inr ⟨(hw _ (List.mem_of_getElem? (i := 6) rfl)), (hw _ (List.mem_of_getElem? (i := 22) rfl))⟩)
  have Or2 := Fld.start ((fld_at ev2).symm.trans (own_eq_int u7))
  obtain ⟨c3, ev3⟩ := exa_v u1
  have Ex3 := Exa.start ev3 u1
  have St3 := Sta.start ev3 (Or.inr ⟨(hw _ (List.mem_of_getElem? (i := 6) rfl)), (hw _ (List.mem_of_getElem? (i := 18) rfl))⟩)
  have Or3 := Fld.start ((fld_at ev3).symm.trans (own_eq_int u2))
  obtain ⟨c4, ev4⟩ := exa_v u12
  have Ex4 := Exa.start ev4 u12
  have St4 := Sta.start ev4 (Or.inr ⟨(hw _ (List.mem_of_getElem? (i := 6) rfl)), (hw _ (List.mem_of_getElem? (i := 30) rfl))⟩)
  have Or4 := Fld.start ((fld_at ev4).symm.trans (own_eq_int u13))
  obtain ⟨c5, ev5⟩ := exa_v u16
  have Ex5 := Exa.start ev5 u16
  have St5 := Sta.start ev5 (Or.inr ⟨(hw _ (List.mem_of_getElem? (i := 6) rfl)), (hw _ (List.mem_of_getElem? (i := 35) rfl))⟩)
  have Or5 := Fld.start ((fld_at ev5).symm.trans (own_eq_int u17))
  obtain ⟨c6, ev6⟩ := exa_v u4
  have Ex6 := Exa.start ev6 u4
  have St6 := Sta.start ev6 (Or.inr ⟨(hw _ (List.mem_of_getElem? (i := 6) rfl)), (hw _ (List.mem_of_getElem? (i := 20) rfl))⟩)
  have Or6 := Fld.start ((fld_at ev6).symm.trans (own_eq_int u5))
  obtain ⟨c7, ev7⟩ := exa_v u10
  have Ex7 := Exa.start ev7 u10
  have St7 := Sta.start ev7 (Or.inr ⟨(hw _ (List.mem_of_getElem? (i := 6) rfl)), (hw _ (List.mem_of_getElem? (i := 28) rfl))⟩)
  have Or7 := Fld.start ((fld_at ev7).symm.trans (own_eq_int u11))
  obtain ⟨c8, ev8⟩ := exa_v u14
  have Ex8 := Exa.start ev8 u14
  have St8 := Sta.start ev8 (Or.inr ⟨(hw _ (List.mem_of_getElem? (i := 6) rfl)), (hw _ (List.mem_of_getElem? (i := 32) rfl))⟩)
  have Or8 := Fld.start ((fld_at ev8).symm.trans (own_eq_int u15))
  have EN : own_En s s.heap (fun i => match i with | 0 => c0 | 1 => c1 | 2 => c2 | 3 => c3 | 4 => c4 | 5 => c5 | 6 => c6 | 7 => c7 | _ => c8) := by
    refine ⟨St0, St1, St2, St3, St4, St5, St6, St7, St8, fun i hi => ?_, fun i hi => ?_⟩
    · match i, hi with
      | 0, _ => exact Ex0
      | 1, _ => exact Ex1
      | 2, _ => exact Ex2
      | 3, _ => exact Ex3
      | 4, _ => exact Ex4
      | 5, _ => exact Ex5
      | 6, _ => exact Ex6
      | 7, _ => exact Ex7
      | 8, _ => exact Ex8
    · match i, hi with
      | 0, _ => exact Or0
      | 1, _ => exact Or1
      | 2, _ => exact Or2
      | 3, _ => exact Or3
      | 4, _ => exact Or4
      | 5, _ => exact Or5
      | 6, _ => exact Or6
      | 7, _ => exact Or7
      | 8, _ => exact Or8
  obtain ⟨n, o, h1, h2, h3, _, L, rfl, ⟨rfl, N⟩, hq⟩ := rm_law l s _ hw tables_1 i0 _ s.heap s.heap.size (Nat.le_refl _) EN p e ha hc hk s m _ below hf ((Spec.applies_iff_loose hf).mp happ).1 ⟨rfl, State.Warmed39.refl s, rfl⟩ trivial
  refine ⟨n, _, h1, h2, h3, hpost _ _ _ _ _ _ ⟨Cond.after_iff.mpr rfl, Cond.after_iff.mpr (eq_i res_at (Term.int_eval (1)) rfl), trivial⟩ ⟨hq.1, hq.2.1, (hq.2.2.sift fun y hy => Or.inr (N y hy)).mono (by decide) (by decide)⟩⟩
theorem main_1_1 : Claimed_1_1 := comes_1 fun _ _ _ _ _ _ h hF => ⟨h.1, hF⟩
theorem main_1_2 : Claimed_1_2 := comes_1 fun _ _ _ _ _ _ h hF => ⟨h.2.1, hF⟩

end Jvm.Pilot.@@N@@
namespace Jvm.Pilot.@@N@@
open Jvm Jvm.ClassFile Sem Op Lib Jvm.Free Jvm.Stand Jvm.Pilot.@@N@@.Jvm.D
/-! MADE BY PROGRAM (witnessworld.py) out of the Statement's table words and the real class files: 12 classes; the members and pool entries that the words name. The judged class is class 1, her method 3. -/
namespace start1
open Jvm.ClassFile
def u (s : String) : CpInfo := .utf8 (stringToUtf16 s)
/-- a pool by its gaps: so many unusable entries, then the entry; so many at the end -/
def gap : Nat → List CpInfo → List CpInfo
  | 0, r => r
  | n + 1, r => .unusable :: gap n r
def poolList (es : List (Nat × CpInfo)) (last : Nat) : List CpInfo := es.foldr (fun e r => gap e.1 (e.2 :: r)) (gap last [])
def pool (es : List (Nat × CpInfo)) (last : Nat) : Array CpInfo := ⟨poolList es last⟩
def fileOf (pool : Array CpInfo) (this : Nat) (attrs : Array Attribute := #[]) (ms : Array MethodInfo := #[]) (fl : Nat := 33) (sup : Nat := 0) (ifs : Array Nat := #[]) (fds : Array FieldInfo := #[]) : ClassFile where
  minorVersion := 0
  majorVersion := 65
  constantPool := pool
  accessFlags := fl
  thisClass := this
  superClass := sup
  interfaces := ifs
  fields := fds
  methods := ms
  attributes := attrs
def plain (name : String) (sup : Option ClassId) : Class where
  name := name
  kind := .ordinary
  loader := none
  accessFlags := 33
  super := sup
  interfaces := #[]
  cf := none
  fields := #[]
  methods := #[]
  instanceTypes := #[]
  staticTypes := #[]
  resolved := #[]
  callSites := []
  init := .initialized
  statics := none
  mirror := none

def pool0 : Array CpInfo := pool [(5, u "<init>"), (0, u "()V"), (1, .class_ 10), (1, u "java/lang/Object")] 113

def k0m0 : Method := { name := "<init>", desc := "()V", sig := { parameters := [], returnType := none }, accessFlags := 1, code := none }
/-- java/lang/Object -/
def k0 : Class := { plain "java/lang/Object" none with
  accessFlags := 33
  interfaces := #[]
  cf := some (fileOf pool0 8 #[] #[{ accessFlags := 1, nameIndex := 5, descriptorIndex := 6, attributes := #[] }] 33 0 #[] #[])
  fields := #[]
  methods := #[k0m0]
  instanceTypes := #[]
  staticTypes := #[]
  resolved := Array.replicate 124 none
  statics := none }

def pool1 : Array CpInfo := pool [(2, .class_ 4), (1, u "java/lang/Object"), (0, u "<init>"), (0, u "()V"), (0, .fieldref 8 9), (0, .class_ 10), (0, .nameAndType 11 12), (0, u "com/example/tidegate/tidegate/engine/OrderType"), (0, u "LIMIT"), (0, u "Lcom/example/tidegate/tidegate/engine/OrderType;"), (0, .fieldref 8 14), (0, .nameAndType 15 12), (0, u "MARKET"), (0, .fieldref 8 17), (0, .nameAndType 18 12), (0, u "ATO"), (0, .fieldref 8 20), (0, .nameAndType 21 12), (0, u "ATC"), (0, .fieldref 8 23), (0, .nameAndType 24 12), (0, u "IOC"), (0, .fieldref 8 26), (0, .nameAndType 27 12), (0, u "FOK"), (0, .fieldref 8 29), (0, .nameAndType 30 12), (0, u "ICEBERG"), (0, .fieldref 8 32), (0, .nameAndType 33 12), (0, u "SPECIAL_MARKET"), (0, .fieldref 8 35), (0, .nameAndType 36 12), (0, u "MARKET_TO_LIMIT"), (0, .integer 2147483647), (0, .methodref 39 40), (0, .class_ 41), (0, .nameAndType 42 43), (0, u "com/example/tidegate/tidegate/engine/OrderTypeRestsOnArrivalPinLaw"), (0, u "pick"), (0, u "(I)Lcom/example/tidegate/tidegate/engine/OrderType;"), (0, .methodref 8 45), (0, .nameAndType 46 47), (0, u "restsOnArrival"), (0, u "()Z"), (0, .methodref 39 49), (0, .nameAndType 50 51), (0, u "expectedRests"), (0, u "(I)Z"), (3, u "law")] 2

def k1m0 : Method := { name := "<init>", desc := "()V", sig := { parameters := [], returnType := none }, accessFlags := 2, code := none }
def k1c1 : Code := { maxStack := 2, maxLocals := 1, code := method_2_code, exceptionTable := #[], attributes := #[] }
def k1m1 : Method := { name := "pick", desc := "(I)Lcom/example/tidegate/tidegate/engine/OrderType;", sig := { parameters := [.int], returnType := some (.object "com/example/tidegate/tidegate/engine/OrderType") }, accessFlags := 10, code := some k1c1 }
def k1c2 : Code := { maxStack := 2, maxLocals := 1, code := method_3_code, exceptionTable := #[], attributes := #[] }
def k1m2 : Method := { name := "expectedRests", desc := "(I)Z", sig := { parameters := [.int], returnType := some .boolean }, accessFlags := 10, code := some k1c2 }
def k1c3 : Code := { maxStack := 2, maxLocals := 3, code := code, exceptionTable := #[], attributes := #[] }
def k1m3 : Method := { name := "law", desc := "(I)Z", sig := { parameters := [.int], returnType := some .boolean }, accessFlags := 9, code := some k1c3 }
/-- com/example/tidegate/tidegate/engine/OrderTypeRestsOnArrivalPinLaw -/
def k1 : Class := { plain "com/example/tidegate/tidegate/engine/OrderTypeRestsOnArrivalPinLaw" (some 0) with
  accessFlags := 49
  interfaces := #[]
  cf := some (fileOf pool1 39 #[] #[{ accessFlags := 2, nameIndex := 5, descriptorIndex := 6, attributes := #[] }, { accessFlags := 10, nameIndex := 42, descriptorIndex := 43, attributes := #[] }, { accessFlags := 10, nameIndex := 50, descriptorIndex := 51, attributes := #[] }, { accessFlags := 9, nameIndex := 55, descriptorIndex := 51, attributes := #[] }] 49 2 #[] #[])
  fields := #[]
  methods := #[k1m0, k1m1, k1m2, k1m3]
  instanceTypes := #[]
  staticTypes := #[]
  resolved := Array.replicate 58 none
  statics := none }

def pool2 : Array CpInfo := pool [(1, .class_ 2), (0, u "java/lang/constant/Constable"), (0, .class_ 4), (0, u "java/lang/Object")] 6

/-- java/lang/constant/Constable -/
def k2 : Class := { plain "java/lang/constant/Constable" (some 0) with
  accessFlags := 1537
  interfaces := #[]
  cf := some (fileOf pool2 1 #[] #[] 1537 3 #[] #[])
  fields := #[]
  methods := #[]
  instanceTypes := #[]
  staticTypes := #[]
  resolved := Array.replicate 11 none
  statics := none }

def pool3 : Array CpInfo := pool [(1, .class_ 2), (0, u "java/lang/Comparable"), (0, .class_ 4), (0, u "java/lang/Object")] 7

/-- java/lang/Comparable -/
def k3 : Class := { plain "java/lang/Comparable" (some 0) with
  accessFlags := 1537
  interfaces := #[]
  cf := some (fileOf pool3 1 #[] #[] 1537 3 #[] #[])
  fields := #[]
  methods := #[]
  instanceTypes := #[]
  staticTypes := #[]
  resolved := Array.replicate 12 none
  statics := none }

def pool4 : Array CpInfo := pool [(1, .class_ 2), (0, u "java/io/Serializable"), (0, .class_ 4), (0, u "java/lang/Object")] 2

/-- java/io/Serializable -/
def k4 : Class := { plain "java/io/Serializable" (some 0) with
  accessFlags := 1537
  interfaces := #[]
  cf := some (fileOf pool4 1 #[] #[] 1537 3 #[] #[])
  fields := #[]
  methods := #[]
  instanceTypes := #[]
  staticTypes := #[]
  resolved := Array.replicate 7 none
  statics := none }

def pool5 : Array CpInfo := pool [(2, .class_ 4), (1, u "java/lang/Enum"), (0, u "name"), (0, u "Ljava/lang/String;"), (2, u "ordinal"), (0, u "I"), (1, .class_ 14), (1, u "java/lang/Object"), (4, u "hash"), (86, .class_ 108), (1, u "java/lang/Enum$EnumDesc"), (2, .class_ 112), (0, u "java/lang/constant/Constable"), (0, .class_ 114), (0, u "java/lang/Comparable"), (0, .class_ 116), (0, u "java/io/Serializable")] 87

/-- java/lang/Enum -/
def k5 : Class := { plain "java/lang/Enum" (some 0) with
  accessFlags := 1057
  interfaces := #[2, 3, 4]
  cf := some (fileOf pool5 2 #[.nestMembers #[106]] #[] 1057 12 #[111, 113, 115] #[{ accessFlags := 18, nameIndex := 5, descriptorIndex := 6, attributes := #[] }, { accessFlags := 18, nameIndex := 9, descriptorIndex := 10, attributes := #[] }, { accessFlags := 2, nameIndex := 19, descriptorIndex := 10, attributes := #[] }])
  fields := #[{ name := "name", type := (.object "java/lang/String"), accessFlags := 18, slot := 0, constantValue := 0 }, { name := "ordinal", type := .int, accessFlags := 18, slot := 1, constantValue := 0 }, { name := "hash", type := .int, accessFlags := 2, slot := 2, constantValue := 0 }]
  methods := #[]
  instanceTypes := #[(.object "java/lang/String"), .int, .int]
  staticTypes := #[]
  resolved := Array.replicate 204 none
  statics := none }

def pool6 : Array CpInfo := pool [(1, .class_ 2), (0, u "com/example/tidegate/tidegate/engine/OrderType"), (0, .fieldref 1 4), (0, .nameAndType 5 6), (0, u "LIMIT"), (0, u "Lcom/example/tidegate/tidegate/engine/OrderType;"), (2, u "MARKET"), (0, .fieldref 1 11), (0, .nameAndType 12 6), (0, u "ATO"), (0, .fieldref 1 14), (0, .nameAndType 15 6), (0, u "ATC"), (2, u "IOC"), (2, u "FOK"), (0, .fieldref 1 23), (0, .nameAndType 24 6), (0, u "ICEBERG"), (2, u "SPECIAL_MARKET"), (2, u "MARKET_TO_LIMIT"), (2, u "$VALUES"), (0, u "[Lcom/example/tidegate/tidegate/engine/OrderType;"), (6, .class_ 43), (1, u "java/lang/Enum"), (8, u "priced"), (0, u "Z"), (24, u "()Z"), (0, u "restsOnArrival")] 7

def k6c0 : Code := { maxStack := 2, maxLocals := 1, code := prog_20_method_5_code, exceptionTable := #[], attributes := #[] }
def k6m0 : Method := { name := "restsOnArrival", desc := "()Z", sig := { parameters := [], returnType := some .boolean }, accessFlags := 0, code := some k6c0 }
/-- com/example/tidegate/tidegate/engine/OrderType -/
def k6 : Class := { plain "com/example/tidegate/tidegate/engine/OrderType" (some 5) with
  accessFlags := 16433
  interfaces := #[]
  cf := some (fileOf pool6 1 #[] #[{ accessFlags := 0, nameIndex := 79, descriptorIndex := 78, attributes := #[] }] 16433 41 #[] #[{ accessFlags := 16409, nameIndex := 5, descriptorIndex := 6, attributes := #[] }, { accessFlags := 16409, nameIndex := 9, descriptorIndex := 6, attributes := #[] }, { accessFlags := 16409, nameIndex := 12, descriptorIndex := 6, attributes := #[] }, { accessFlags := 16409, nameIndex := 15, descriptorIndex := 6, attributes := #[] }, { accessFlags := 16409, nameIndex := 18, descriptorIndex := 6, attributes := #[] }, { accessFlags := 16409, nameIndex := 21, descriptorIndex := 6, attributes := #[] }, { accessFlags := 16409, nameIndex := 24, descriptorIndex := 6, attributes := #[] }, { accessFlags := 16409, nameIndex := 27, descriptorIndex := 6, attributes := #[] }, { accessFlags := 16409, nameIndex := 30, descriptorIndex := 6, attributes := #[] }, { accessFlags := 18, nameIndex := 52, descriptorIndex := 53, attributes := #[] }, { accessFlags := 4122, nameIndex := 33, descriptorIndex := 34, attributes := #[] }])
  fields := #[{ name := "LIMIT", type := (.object "com/example/tidegate/tidegate/engine/OrderType"), accessFlags := 16409, slot := 0, constantValue := 0 }, { name := "MARKET", type := (.object "com/example/tidegate/tidegate/engine/OrderType"), accessFlags := 16409, slot := 1, constantValue := 0 }, { name := "ATO", type := (.object "com/example/tidegate/tidegate/engine/OrderType"), accessFlags := 16409, slot := 2, constantValue := 0 }, { name := "ATC", type := (.object "com/example/tidegate/tidegate/engine/OrderType"), accessFlags := 16409, slot := 3, constantValue := 0 }, { name := "IOC", type := (.object "com/example/tidegate/tidegate/engine/OrderType"), accessFlags := 16409, slot := 4, constantValue := 0 }, { name := "FOK", type := (.object "com/example/tidegate/tidegate/engine/OrderType"), accessFlags := 16409, slot := 5, constantValue := 0 }, { name := "ICEBERG", type := (.object "com/example/tidegate/tidegate/engine/OrderType"), accessFlags := 16409, slot := 6, constantValue := 0 }, { name := "SPECIAL_MARKET", type := (.object "com/example/tidegate/tidegate/engine/OrderType"), accessFlags := 16409, slot := 7, constantValue := 0 }, { name := "MARKET_TO_LIMIT", type := (.object "com/example/tidegate/tidegate/engine/OrderType"), accessFlags := 16409, slot := 8, constantValue := 0 }, { name := "priced", type := .boolean, accessFlags := 18, slot := 3, constantValue := 0 }, { name := "$VALUES", type := (.array (.object "com/example/tidegate/tidegate/engine/OrderType")), accessFlags := 4122, slot := 9, constantValue := 0 }]
  methods := #[k6m0]
  instanceTypes := #[(.object "java/lang/String"), .int, .int, .boolean]
  staticTypes := #[(.object "com/example/tidegate/tidegate/engine/OrderType"), (.object "com/example/tidegate/tidegate/engine/OrderType"), (.object "com/example/tidegate/tidegate/engine/OrderType"), (.object "com/example/tidegate/tidegate/engine/OrderType"), (.object "com/example/tidegate/tidegate/engine/OrderType"), (.object "com/example/tidegate/tidegate/engine/OrderType"), (.object "com/example/tidegate/tidegate/engine/OrderType"), (.object "com/example/tidegate/tidegate/engine/OrderType"), (.object "com/example/tidegate/tidegate/engine/OrderType"), (.array (.object "com/example/tidegate/tidegate/engine/OrderType"))]
  resolved := Array.replicate 87 none
  statics := some 0 }

def pool7 : Array CpInfo := pool [(1, u "java/lang/Cloneable"), (0, .class_ 1), (0, u "java/lang/Object"), (0, .class_ 3)] 3

/-- java/lang/Cloneable -/
def k7 : Class := { plain "java/lang/Cloneable" (some 0) with
  accessFlags := 1537
  interfaces := #[]
  cf := some (fileOf pool7 2 #[] #[] 1537 4 #[] #[])
  fields := #[]
  methods := #[]
  instanceTypes := #[]
  staticTypes := #[]
  resolved := Array.replicate 8 none
  statics := none }

/-- the primitive byte -/
def k8 : Class := { plain "byte" none with kind := .primitive 'B', accessFlags := 0x411 }
/-- [B -/
def k9 : Class := { plain "[B" (some 0) with kind := .array 8 .byte, interfaces := #[7, 4], accessFlags := 1041 }

/-- the primitive int -/
def k10 : Class := { plain "int" none with kind := .primitive 'I', accessFlags := 0x411 }
/-- [I -/
def k11 : Class := { plain "[I" (some 0) with kind := .array 10 .int, interfaces := #[7, 4], accessFlags := 1041 }

def heap : Heap := #[{ cls := 6, slots := #[.ref 1, .ref 2, .ref 3, .ref 4, .ref 5, .ref 6, .ref 7, .ref 8, .ref 9, .null], vm := .statics 6 },
  { cls := 6, slots := #[.null, .int 0, .int 0, .int 0], vm := .none },
  { cls := 6, slots := #[.null, .int 1, .int 0, .int 0], vm := .none },
  { cls := 6, slots := #[.null, .int 2, .int 0, .int 0], vm := .none },
  { cls := 6, slots := #[.null, .int 3, .int 0, .int 0], vm := .none },
  { cls := 6, slots := #[.null, .int 4, .int 0, .int 0], vm := .none },
  { cls := 6, slots := #[.null, .int 5, .int 0, .int 0], vm := .none },
  { cls := 6, slots := #[.null, .int 6, .int 0, .int 0], vm := .none },
  { cls := 6, slots := #[.null, .int 7, .int 0, .int 0], vm := .none },
  { cls := 6, slots := #[.null, .int 8, .int 0, .int 0], vm := .none }]
def classes : Array Class := #[k0, k1, k2, k3, k4, k5, k6, k7, k8, k9, k10, k11]
def interned : List (Array UInt16 × Addr) := []
def slotsUsed : Nat := 46
def theMethod : MethodId := ⟨1, 3⟩
def args0 : Array Value := #[.int 5]
def aboutOver (below : List Frame) : State where
  vm := { classes := classes, interned := interned.toArray }
  heap := heap
  slotsUsed := slotsUsed
  threads := #[{ frames := .invoking theMethod args0 :: below }]
def below0 : List Frame := [.native { method := ⟨0, 0⟩, args := #[] }]
def about1 : State := aboutOver below0
def p0 : Program := .bare "" "" ""
def e0 : Env := launch0.env 0 0 0
theorem w_frames : about1.frames = Frame.invoking theMethod args0 :: below0 := rfl
set_option maxRecDepth 65536 in
theorem w_args : argsFit about1.vm theMethod args0 = true := by decide +kernel
set_option maxRecDepth 65536 in
theorem w_heap : heapFits about1 = true := by decide +kernel
set_option maxRecDepth 65536 in
theorem w_runnable : about1.curStatus? = some .runnable := by decide +kernel
set_option maxRecDepth 65536 in
theorem w_alone : about1.alone = true := by decide +kernel
set_option maxRecDepth 65536 in
theorem w_named : about1.methodNamed? x = some theMethod := by decide +kernel
set_option maxRecDepth 65536 in
theorem w_hears : about1.hears theMethod below0 = true := by decide +kernel
set_option maxRecDepth 65536 in
theorem w_ripe : about1.ripe theMethod args0 below0 = true := by decide +kernel
theorem w_running : about1.status = .running := rfl
set_option maxRecDepth 65536 in
theorem w_room : about1.hasRoom e0.platform room_1 = true :=
  launch0.hasRoom_least _ room_1 (by decide +kernel) (by decide +kernel) (by decide +kernel) (by decide +kernel) (by decide +kernel) (by decide +kernel)
theorem allAtoms_all (ts : List Jvm.Cond) (a : Array Jvm.Value) (st : Jvm.State) : (allAtoms ts).before a st = ts.all (fun c => c.before a st) := by
  induction ts with
  | nil => rfl
  | cons c t ih =>
    show (Jvm.Cond.and c (allAtoms t)).before a st = _
    rw [Jvm.Cond.before_and, ih, List.all_cons]
def words1 : List Jvm.Cond := Jvm.Cond.code x code maxLocals ret :: tables_1
/-- a 'code' word, met by the world's own term for the bytes: nothing is compared byte by byte -/
theorem code_word {y : MethodName} {bytes : ByteArray} {mx : Nat} {rt : Option FieldType} {a : Array Value} {s : State} {m : MethodId} {meth : Method} {c : Code} (h1 : s.methodNamed? y = some m) (h2 : s.vm.method? m = some meth) (h3 : meth.code = some c) (h4 : c.code = bytes)
    (h5 : (c.maxLocals == mx && c.exceptionTable.isEmpty && decide (c.maxStack ≤ mostOperands) && decide (meth.sig.returnType = rt) && !meth.locks && decide (parseMethodDescriptor y.desc = some meth.sig)) = true) : (Jvm.Cond.code y bytes mx rt).before a s = true := by
  simp only [Bool.and_eq_true, beq_iff_eq, Bool.not_eq_true', decide_eq_true_eq] at h5
  obtain ⟨⟨⟨⟨⟨g1, g2⟩, g3⟩, g4⟩, g5⟩, g6⟩ := h5
  simp [Cond.before, Cond.holds, Cond.value, h1, h2, h3, h4, g1, g2, g3, g4, g5, g6]
def isCode : Jvm.Cond → Bool
  | .code _ _ _ _ => true
  | _ => false
theorem all_split {L : List Jvm.Cond} {P : Jvm.Cond → Bool} (h1 : L.all (fun c => isCode c || P c) = true) (h2 : ∀ c ∈ L.filter isCode, P c = true) : L.all P = true := by
  refine List.all_eq_true.mpr fun c hc => ?_
  have h := List.all_eq_true.mp h1 c hc
  rcases Bool.eq_false_or_eq_true (isCode c) with hi | hi
  · exact h2 c (List.mem_filter.mpr ⟨hc, hi⟩)
  · simpa [hi] using h
set_option maxRecDepth 65536 in
theorem w_c0 : (Jvm.Cond.code x code maxLocals ret).before args0 about1 = true := code_word (m := ⟨1, 3⟩) (meth := k1m3) (c := k1c3) (by decide +kernel) rfl rfl rfl (by decide +kernel)
set_option maxRecDepth 65536 in
theorem w_c1 : (Jvm.Cond.code ({ cls := "com/example/tidegate/tidegate/engine/OrderTypeRestsOnArrivalPinLaw", name := "pick", desc := "(I)Lcom/example/tidegate/tidegate/engine/OrderType;" } : Jvm.MethodName) method_2_code (1 : Nat) (Option.some (Jvm.ClassFile.FieldType.object "com/example/tidegate/tidegate/engine/OrderType"))).before args0 about1 = true := code_word (m := ⟨1, 1⟩) (meth := k1m1) (c := k1c1) (by decide +kernel) rfl rfl rfl (by decide +kernel)
set_option maxRecDepth 65536 in
theorem w_c2 : (Jvm.Cond.code ({ cls := "com/example/tidegate/tidegate/engine/OrderType", name := "restsOnArrival", desc := "()Z" } : Jvm.MethodName) prog_20_method_5_code (1 : Nat) (Option.some Jvm.ClassFile.FieldType.boolean)).before args0 about1 = true := code_word (m := ⟨6, 0⟩) (meth := k6m0) (c := k6c0) (by decide +kernel) rfl rfl rfl (by decide +kernel)
set_option maxRecDepth 65536 in
theorem w_c3 : (Jvm.Cond.code ({ cls := "com/example/tidegate/tidegate/engine/OrderTypeRestsOnArrivalPinLaw", name := "expectedRests", desc := "(I)Z" } : Jvm.MethodName) method_3_code (1 : Nat) (Option.some Jvm.ClassFile.FieldType.boolean)).before args0 about1 = true := code_word (m := ⟨1, 2⟩) (meth := k1m2) (c := k1c2) (by decide +kernel) rfl rfl rfl (by decide +kernel)
def codes1 : List Jvm.Cond := [Jvm.Cond.code x code maxLocals ret, Jvm.Cond.code ({ cls := "com/example/tidegate/tidegate/engine/OrderTypeRestsOnArrivalPinLaw", name := "pick", desc := "(I)Lcom/example/tidegate/tidegate/engine/OrderType;" } : Jvm.MethodName) method_2_code (1 : Nat) (Option.some (Jvm.ClassFile.FieldType.object "com/example/tidegate/tidegate/engine/OrderType")), Jvm.Cond.code ({ cls := "com/example/tidegate/tidegate/engine/OrderType", name := "restsOnArrival", desc := "()Z" } : Jvm.MethodName) prog_20_method_5_code (1 : Nat) (Option.some Jvm.ClassFile.FieldType.boolean), Jvm.Cond.code ({ cls := "com/example/tidegate/tidegate/engine/OrderTypeRestsOnArrivalPinLaw", name := "expectedRests", desc := "(I)Z" } : Jvm.MethodName) method_3_code (1 : Nat) (Option.some Jvm.ClassFile.FieldType.boolean)]
set_option maxRecDepth 65536 in
theorem codes_eq : words1.filter isCode = codes1 := rfl
theorem w_codes : ∀ c ∈ words1.filter isCode, c.before args0 about1 = true := by
  rw [codes_eq]
  intro c hc
  simp only [codes1, List.mem_cons, List.not_mem_nil, or_false] at hc
  rcases hc with rfl | rfl | rfl | rfl
  · exact w_c0
  · exact w_c1
  · exact w_c2
  · exact w_c3
set_option maxRecDepth 65536 in
theorem w_t1 : (words1.take 24).all (fun c => isCode c || c.before args0 about1) = true := by decide +kernel
set_option maxRecDepth 65536 in
theorem w_t2 : (words1.drop 24).all (fun c => isCode c || c.before args0 about1) = true := by decide +kernel
theorem w_tables : (allAtoms (Jvm.Cond.code x code maxLocals ret :: tables_1)).before args0 about1 = true := by
  rw [allAtoms_all]
  show words1.all (fun c => c.before args0 about1) = true
  refine all_split ?_ w_codes
  rw [← List.take_append_drop 24 words1, List.all_append, w_t1, w_t2]
  rfl
set_option maxRecDepth 65536 in
theorem w_case : (Jvm.Cond.and given_1 narrow_1).before args0 about1 = true := by decide +kernel
theorem w_applies : (headSpec (Jvm.Cond.code x code maxLocals ret :: tables_1) room_1).applies x e0.platform about1 = true :=
  (Spec.applies_iff w_frames).mpr ⟨w_running, w_runnable, w_alone, w_named, w_hears, w_ripe, w_room, w_tables⟩
theorem atStart : AtStart classFile x code maxLocals ret World_1 tables_1 room_1 Calls_1 rest_1 Pre_1 launch0 p0 e0 about1 theMethod args0 below0 :=
  ⟨lists_1, trivial, launch0.admits_env _ _ _, launch0.least_env, fairChoices_fair.cas, fairChoices_fair.clock, w_frames, w_args, w_heap, w_applies, trivial, trivial, w_case⟩
end start1
theorem witness_1 : WitnessClaimed_1 := ⟨start1.p0, start1.e0, start1.about1, start1.theMethod, start1.args0, start1.below0, start1.atStart⟩
end Jvm.Pilot.@@N@@
