import JvmDerived
import JvmDerived.Pilot.@@N@@Statement
import JvmDerived.Pilot.@@N@@Code
set_option linter.unusedVariables false
set_option linter.unusedSimpArgs false

namespace Jvm.Own
open Sem ClassFile Op Lib Jvm.Stand Jvm.Free Jvm.LawKit Jvm.RoadKit
def Go (p : Program) (e : Env) (below : List Frame) (G : State → Outcome → Prop) (σ : State) : Prop := ∃ s₂ o, Steps p.tables e below σ s₂ ∧ s₂.status = .running ∧ Ended s₂ below o ∧ G s₂ o
theorem Go.step {p : Program} {e : Env} {below : List Frame} {G : State → Outcome → Prop} {σ σ' : State} (h : ∀ t, Steps p.tables e below σ' t → Steps p.tables e below σ t) (k : Go p e below G σ') : Go p e below G σ := by
  obtain ⟨s₂, o, h1, h2⟩ := k
  exact ⟨s₂, o, h _ h1, h2⟩
def RetG (s : State) (Q : Option Value → Heap → List Loc → Prop) (cells slots : Nat) (s₂ : State) (o : Outcome) : Prop := ∃ v L, o = .returned v ∧ Q v s₂.heap L ∧ FrameEnd s o s₂ L cells slots
section
variable {p : Program} {l : Launch} {e : Env} {R : Room} {s : State} {m : MethodId} {args : Array Value} {below : List Frame} {meth : Method} {c : Code} {T : State} {locs : List Loc} {k n : Nat} {G : State → Outcome → Prop} {code : ByteArray} {pc : Nat} {Ls : Array Slot} {st : List Value} {Z : State} {a0 : Array Value} {h : Heap} {n0 : Nat}
theorem Go.leave (X : Stand p l e R s m args below meth c T locs k n) {v : Option Value} (hv : meth.sig.returnType = none → v = none) (hlocks : meth.locks = false) {Q : Option Value → Heap → List Loc → Prop} {cells slots : Nat} {σ : State} (eT : T.heap = h) (hq : Q v h locs) (hk : k ≤ cells) (hn : n ≤ slots)
    (st : ∀ fs, (∀ (f : JFrame) (acts : List Action), f.method = m → f.locked = none → f.entered = [] → (doReturn e (T.setTop f) acts v).1 = T.setFrames fs) → Steps p.tables e below σ (T.setFrames fs)) : Go p e below (RetG s Q cells slots) σ := by
  obtain ⟨fs, hr, hrun, hended, hW, hsame⟩ := X.leave (v := v) hv hlocks
  subst eT
  exact ⟨_, _, st fs hr, hrun, hended, _, _, rfl, hq, ⟨_, rfl⟩, hW, hsame.mono hk hn⟩
/-- null or some object -/
def Rf (v : Value) : Prop := v = .null ∨ ∃ a, v = .ref a
theorem Rf.is {v : Value} (r : Rf v) : v.isRef = true := by rcases r with rfl | ⟨a, rfl⟩ <;> rfl
theorem Rf.cat {v : Value} (r : Rf v) : v.category = 1 := by rcases r with rfl | ⟨a, rfl⟩ <;> rfl
theorem Rf.nar {v : Value} (r : Rf v) {c : String} : narrow (.object c) v = v := by rcases r with rfl | ⟨a, rfl⟩ <;> rfl
theorem Rf.fit {v : Value} (r : Rf v) {c : String} : fits (.object c) v = true := by rcases r with rfl | ⟨a, rfl⟩ <;> rfl
theorem Rf.store {v : Value} (r : Rf v) {ls ls' : Array Slot} {i : Nat} {o : Slot} (hold : ls[i]? = some o) (ho : One o) (hl : ls.setIfInBounds i (.val v) = ls') : storeLocals ls i v = some ls' := by rw [XS.store1 hold ho r.cat, hl]
theorem Rf.of {v : Value} (h : v.isRef = true) : Rf v := ref_cases h
theorem selOf {U : State} {as : Array Value} {y : MethodName} {n : Nat} (wi : (Cond.instantiable y.cls n).before as U = true) (wp : (Cond.privateMethod y).before #[] U = true) (wm : (Cond.instanceMethod y).before as U = true) (hy : y.cls ≠ "java/lang/invoke/MethodHandle" ∧ y.cls ≠ "java/lang/invoke/VarHandle") : (Cond.selects y.cls y y).before as U = true := by
  obtain ⟨c, k, h1, h2, -, h4, -⟩ := Cond.instantiable_spec wi
  exact selects_self_of_private h1 h2 (Bool.or_eq_false_iff.mp h4).1 (Cond.privateMethod_at wp) wm hy
theorem g_iload (X : Stand p l e R s m args below meth c T locs k n) (hx : p.tables.exec = Jvm.exec) (hby : c.code = code) {j : Nat} {v : Int32} (hd : decode code pc = .ok (.iload j, 2)) (hl : Ls[j]? = some (.val (.int v))) (K : Go p e below G (T.setTop (mkF m (pc + 2) Ls (.int v :: st)))) : Go p e below G (T.setTop (mkF m pc Ls st)) := Go.step (fun t q => XS.iload X.here hx rfl (hb hby hd) hl q) K
theorem g_iloadN (X : Stand p l e R s m args below meth c T locs k n) (hx : p.tables.exec = Jvm.exec) (hby : c.code = code) {j : Fin 4} {v : Int32} (hd : decode code pc = .ok (.iload_n j, 1)) (hl : Ls[j.val]? = some (.val (.int v))) (K : Go p e below G (T.setTop (mkF m (pc + 1) Ls (.int v :: st)))) : Go p e below G (T.setTop (mkF m pc Ls st)) := Go.step (fun t q => XS.iloadN X.here hx rfl (hb hby hd) hl q) K
theorem g_lload (X : Stand p l e R s m args below meth c T locs k n) (hx : p.tables.exec = Jvm.exec) (hby : c.code = code) {j : Nat} {v : Int64} (hd : decode code pc = .ok (.lload j, 2)) (hl : Ls[j]? = some (.val (.long v))) (K : Go p e below G (T.setTop (mkF m (pc + 2) Ls (.long v :: st)))) : Go p e below G (T.setTop (mkF m pc Ls st)) := Go.step (fun t q => XS.lload X.here hx rfl (hb hby hd) hl q) K
theorem g_lloadN (X : Stand p l e R s m args below meth c T locs k n) (hx : p.tables.exec = Jvm.exec) (hby : c.code = code) {j : Fin 4} {v : Int64} (hd : decode code pc = .ok (.lload_n j, 1)) (hl : Ls[j.val]? = some (.val (.long v))) (K : Go p e below G (T.setTop (mkF m (pc + 1) Ls (.long v :: st)))) : Go p e below G (T.setTop (mkF m pc Ls st)) := Go.step (fun t q => XS.lloadN X.here hx rfl (hb hby hd) hl q) K
theorem g_aload (X : Stand p l e R s m args below meth c T locs k n) (hx : p.tables.exec = Jvm.exec) (hby : c.code = code) {j : Nat} {v : Value} (hd : decode code pc = .ok (.aload j, 2)) (hl : Ls[j]? = some (.val v)) (hv : v.isRef = true) (K : Go p e below G (T.setTop (mkF m (pc + 2) Ls (v :: st)))) : Go p e below G (T.setTop (mkF m pc Ls st)) := Go.step (fun t q => XS.aload X.here hx rfl (hb hby hd) hl hv q) K
theorem g_aloadN (X : Stand p l e R s m args below meth c T locs k n) (hx : p.tables.exec = Jvm.exec) (hby : c.code = code) {j : Fin 4} {v : Value} (hd : decode code pc = .ok (.aload_n j, 1)) (hl : Ls[j.val]? = some (.val v)) (hv : v.isRef = true) (K : Go p e below G (T.setTop (mkF m (pc + 1) Ls (v :: st)))) : Go p e below G (T.setTop (mkF m pc Ls st)) := Go.step (fun t q => XS.aloadN X.here hx rfl (hb hby hd) hl hv q) K
theorem g_istore (X : Stand p l e R s m args below meth c T locs k n) (hx : p.tables.exec = Jvm.exec) (hby : c.code = code) {j : Nat} {x : Int32} {rest : List Value} {l' : Array Slot} (hd : decode code pc = .ok (.istore j, 2)) (hl : storeLocals Ls j (.int x) = some l') (K : Go p e below G (T.setTop (mkF m (pc + 2) l' rest))) : Go p e below G (T.setTop (mkF m pc Ls (.int x :: rest))) := Go.step (fun t q => XS.istore X.here hx rfl (hb hby hd) rfl hl q) K
theorem g_istoreN (X : Stand p l e R s m args below meth c T locs k n) (hx : p.tables.exec = Jvm.exec) (hby : c.code = code) {j : Fin 4} {x : Int32} {rest : List Value} {l' : Array Slot} (hd : decode code pc = .ok (.istore_n j, 1)) (hl : storeLocals Ls j.val (.int x) = some l') (K : Go p e below G (T.setTop (mkF m (pc + 1) l' rest))) : Go p e below G (T.setTop (mkF m pc Ls (.int x :: rest))) := Go.step (fun t q => XS.istoreN X.here hx rfl (hb hby hd) rfl hl q) K
theorem g_lstore (X : Stand p l e R s m args below meth c T locs k n) (hx : p.tables.exec = Jvm.exec) (hby : c.code = code) {j : Nat} {x : Int64} {rest : List Value} {l' : Array Slot} (hd : decode code pc = .ok (.lstore j, 2)) (hl : storeLocals Ls j (.long x) = some l') (K : Go p e below G (T.setTop (mkF m (pc + 2) l' rest))) : Go p e below G (T.setTop (mkF m pc Ls (.long x :: rest))) := Go.step (fun t q => XS.lstore X.here hx rfl (hb hby hd) rfl hl q) K
theorem g_lstoreN (X : Stand p l e R s m args below meth c T locs k n) (hx : p.tables.exec = Jvm.exec) (hby : c.code = code) {j : Fin 4} {x : Int64} {rest : List Value} {l' : Array Slot} (hd : decode code pc = .ok (.lstore_n j, 1)) (hl : storeLocals Ls j.val (.long x) = some l') (K : Go p e below G (T.setTop (mkF m (pc + 1) l' rest))) : Go p e below G (T.setTop (mkF m pc Ls (.long x :: rest))) := Go.step (fun t q => XS.lstoreN X.here hx rfl (hb hby hd) rfl hl q) K
theorem g_astore (X : Stand p l e R s m args below meth c T locs k n) (hx : p.tables.exec = Jvm.exec) (hby : c.code = code) {j : Nat} {x : Value} {rest : List Value} {l' : Array Slot} (hd : decode code pc = .ok (.astore j, 2)) (hv : x.isRef = true) (hl : storeLocals Ls j x = some l') (K : Go p e below G (T.setTop (mkF m (pc + 2) l' rest))) : Go p e below G (T.setTop (mkF m pc Ls (x :: rest))) := Go.step (fun t q => XS.astore X.here hx rfl (hb hby hd) rfl hv hl q) K
theorem g_astoreN (X : Stand p l e R s m args below meth c T locs k n) (hx : p.tables.exec = Jvm.exec) (hby : c.code = code) {j : Fin 4} {x : Value} {rest : List Value} {l' : Array Slot} (hd : decode code pc = .ok (.astore_n j, 1)) (hv : x.isRef = true) (hl : storeLocals Ls j.val x = some l') (K : Go p e below G (T.setTop (mkF m (pc + 1) l' rest))) : Go p e below G (T.setTop (mkF m pc Ls (x :: rest))) := Go.step (fun t q => XS.astoreN X.here hx rfl (hb hby hd) rfl hv hl q) K
theorem g_iconst (X : Stand p l e R s m args below meth c T locs k n) (hx : p.tables.exec = Jvm.exec) (hby : c.code = code) {i : Int} (v : Int32) (hd : decode code pc = .ok (.iconst i, 1)) (hv : Int32.ofInt i = v) (K : Go p e below G (T.setTop (mkF m (pc + 1) Ls (.int v :: st)))) : Go p e below G (T.setTop (mkF m pc Ls st)) := Go.step (fun t q => XS.iconst X.here hx rfl (hb hby hd) (by rw [hv]; exact q)) K
theorem g_bipush (X : Stand p l e R s m args below meth c T locs k n) (hx : p.tables.exec = Jvm.exec) (hby : c.code = code) {i : Int} (v : Int32) (hd : decode code pc = .ok (.bipush i, 2)) (hv : (Int8.ofInt i).toInt32 = v) (K : Go p e below G (T.setTop (mkF m (pc + 2) Ls (.int v :: st)))) : Go p e below G (T.setTop (mkF m pc Ls st)) := Go.step (fun t q => XS.bipush X.here hx rfl (hb hby hd) (by rw [hv]; exact q)) K
theorem g_sipush (X : Stand p l e R s m args below meth c T locs k n) (hx : p.tables.exec = Jvm.exec) (hby : c.code = code) {i : Int} (v : Int32) (hd : decode code pc = .ok (.sipush i, 3)) (hv : (Int16.ofInt i).toInt32 = v) (K : Go p e below G (T.setTop (mkF m (pc + 3) Ls (.int v :: st)))) : Go p e below G (T.setTop (mkF m pc Ls st)) := Go.step (fun t q => XS.sipush X.here hx rfl (hb hby hd) (by rw [hv]; exact q)) K
theorem g_lconst (X : Stand p l e R s m args below meth c T locs k n) (hx : p.tables.exec = Jvm.exec) (hby : c.code = code) {j : Fin 2} (v : Int64) (hd : decode code pc = .ok (.lconst j, 1)) (hv : Int64.ofNat j = v) (K : Go p e below G (T.setTop (mkF m (pc + 1) Ls (.long v :: st)))) : Go p e below G (T.setTop (mkF m pc Ls st)) := Go.step (fun t q => XS.lconst X.here hx rfl (hb hby hd) (by rw [hv]; exact q)) K
theorem g_topI {x : Int32} (y : Int32) (q : x = y) {rest : List Value} (K : Go p e below G (T.setTop (mkF m pc Ls (.int y :: rest)))) : Go p e below G (T.setTop (mkF m pc Ls (.int x :: rest))) := q ▸ K
theorem g_topJ {x : Int64} (y : Int64) (q : x = y) {rest : List Value} (K : Go p e below G (T.setTop (mkF m pc Ls (.long y :: rest)))) : Go p e below G (T.setTop (mkF m pc Ls (.long x :: rest))) := q ▸ K
theorem g_at {ls ls' : Array Slot} {st' : List Value} (pc' : Nat) (h1 : pc = pc') (h2 : ls = ls') (h3 : st = st') (K : Go p e below G (T.setTop (mkF m pc' ls' st'))) : Go p e below G (T.setTop (mkF m pc ls st)) := h1 ▸ h2 ▸ h3 ▸ K
theorem g_aconst_null (X : Stand p l e R s m args below meth c T locs k n) (hx : p.tables.exec = Jvm.exec) (hby : c.code = code)  (hd : decode code pc = .ok (.aconst_null, 1)) (K : Go p e below G (T.setTop (mkF m (pc + 1) Ls (.null :: st)))) : Go p e below G (T.setTop (mkF m pc Ls st)) := Go.step (fun t q => XS.aconstNull X.here hx rfl (hb hby hd)  q) K
theorem g_iadd (X : Stand p l e R s m args below meth c T locs k n) (hx : p.tables.exec = Jvm.exec) (hby : c.code = code) {x y : Int32} {rest : List Value} (hd : decode code pc = .ok (.iadd, 1)) (K : Go p e below G (T.setTop (mkF m (pc + 1) Ls (.int (x + y) :: rest)))) : Go p e below G (T.setTop (mkF m pc Ls (.int y :: .int x :: rest))) := Go.step (fun t q => XS.iadd X.here hx rfl (hb hby hd) rfl q) K
theorem g_ladd (X : Stand p l e R s m args below meth c T locs k n) (hx : p.tables.exec = Jvm.exec) (hby : c.code = code) {x y : Int64} {rest : List Value} (hd : decode code pc = .ok (.ladd, 1)) (K : Go p e below G (T.setTop (mkF m (pc + 1) Ls (.long (x + y) :: rest)))) : Go p e below G (T.setTop (mkF m pc Ls (.long y :: .long x :: rest))) := Go.step (fun t q => XS.ladd X.here hx rfl (hb hby hd) rfl q) K
theorem g_isub (X : Stand p l e R s m args below meth c T locs k n) (hx : p.tables.exec = Jvm.exec) (hby : c.code = code) {x y : Int32} {rest : List Value} (hd : decode code pc = .ok (.isub, 1)) (K : Go p e below G (T.setTop (mkF m (pc + 1) Ls (.int (x - y) :: rest)))) : Go p e below G (T.setTop (mkF m pc Ls (.int y :: .int x :: rest))) := Go.step (fun t q => XS.isub X.here hx rfl (hb hby hd) rfl q) K
theorem g_lsub (X : Stand p l e R s m args below meth c T locs k n) (hx : p.tables.exec = Jvm.exec) (hby : c.code = code) {x y : Int64} {rest : List Value} (hd : decode code pc = .ok (.lsub, 1)) (K : Go p e below G (T.setTop (mkF m (pc + 1) Ls (.long (x - y) :: rest)))) : Go p e below G (T.setTop (mkF m pc Ls (.long y :: .long x :: rest))) := Go.step (fun t q => XS.lsub X.here hx rfl (hb hby hd) rfl q) K
theorem g_imul (X : Stand p l e R s m args below meth c T locs k n) (hx : p.tables.exec = Jvm.exec) (hby : c.code = code) {x y : Int32} {rest : List Value} (hd : decode code pc = .ok (.imul, 1)) (K : Go p e below G (T.setTop (mkF m (pc + 1) Ls (.int (x * y) :: rest)))) : Go p e below G (T.setTop (mkF m pc Ls (.int y :: .int x :: rest))) := Go.step (fun t q => XS.imul X.here hx rfl (hb hby hd) rfl q) K
theorem g_lmul (X : Stand p l e R s m args below meth c T locs k n) (hx : p.tables.exec = Jvm.exec) (hby : c.code = code) {x y : Int64} {rest : List Value} (hd : decode code pc = .ok (.lmul, 1)) (K : Go p e below G (T.setTop (mkF m (pc + 1) Ls (.long (x * y) :: rest)))) : Go p e below G (T.setTop (mkF m pc Ls (.long y :: .long x :: rest))) := Go.step (fun t q => XS.lmul X.here hx rfl (hb hby hd) rfl q) K
theorem g_iand (X : Stand p l e R s m args below meth c T locs k n) (hx : p.tables.exec = Jvm.exec) (hby : c.code = code) {x y : Int32} {rest : List Value} (hd : decode code pc = .ok (.iand, 1)) (K : Go p e below G (T.setTop (mkF m (pc + 1) Ls (.int (x &&& y) :: rest)))) : Go p e below G (T.setTop (mkF m pc Ls (.int y :: .int x :: rest))) := Go.step (fun t q => XS.iand X.here hx rfl (hb hby hd) rfl q) K
theorem g_land (X : Stand p l e R s m args below meth c T locs k n) (hx : p.tables.exec = Jvm.exec) (hby : c.code = code) {x y : Int64} {rest : List Value} (hd : decode code pc = .ok (.land, 1)) (K : Go p e below G (T.setTop (mkF m (pc + 1) Ls (.long (x &&& y) :: rest)))) : Go p e below G (T.setTop (mkF m pc Ls (.long y :: .long x :: rest))) := Go.step (fun t q => XS.land X.here hx rfl (hb hby hd) rfl q) K
theorem g_ior (X : Stand p l e R s m args below meth c T locs k n) (hx : p.tables.exec = Jvm.exec) (hby : c.code = code) {x y : Int32} {rest : List Value} (hd : decode code pc = .ok (.ior, 1)) (K : Go p e below G (T.setTop (mkF m (pc + 1) Ls (.int (x ||| y) :: rest)))) : Go p e below G (T.setTop (mkF m pc Ls (.int y :: .int x :: rest))) := Go.step (fun t q => XS.ior X.here hx rfl (hb hby hd) rfl q) K
theorem g_lor (X : Stand p l e R s m args below meth c T locs k n) (hx : p.tables.exec = Jvm.exec) (hby : c.code = code) {x y : Int64} {rest : List Value} (hd : decode code pc = .ok (.lor, 1)) (K : Go p e below G (T.setTop (mkF m (pc + 1) Ls (.long (x ||| y) :: rest)))) : Go p e below G (T.setTop (mkF m pc Ls (.long y :: .long x :: rest))) := Go.step (fun t q => XS.lor X.here hx rfl (hb hby hd) rfl q) K
theorem g_ixor (X : Stand p l e R s m args below meth c T locs k n) (hx : p.tables.exec = Jvm.exec) (hby : c.code = code) {x y : Int32} {rest : List Value} (hd : decode code pc = .ok (.ixor, 1)) (K : Go p e below G (T.setTop (mkF m (pc + 1) Ls (.int (x ^^^ y) :: rest)))) : Go p e below G (T.setTop (mkF m pc Ls (.int y :: .int x :: rest))) := Go.step (fun t q => XS.ixor X.here hx rfl (hb hby hd) rfl q) K
theorem g_lxor (X : Stand p l e R s m args below meth c T locs k n) (hx : p.tables.exec = Jvm.exec) (hby : c.code = code) {x y : Int64} {rest : List Value} (hd : decode code pc = .ok (.lxor, 1)) (K : Go p e below G (T.setTop (mkF m (pc + 1) Ls (.long (x ^^^ y) :: rest)))) : Go p e below G (T.setTop (mkF m pc Ls (.long y :: .long x :: rest))) := Go.step (fun t q => XS.lxor X.here hx rfl (hb hby hd) rfl q) K
theorem g_ishl (X : Stand p l e R s m args below meth c T locs k n) (hx : p.tables.exec = Jvm.exec) (hby : c.code = code) {x y : Int32} {rest : List Value} (hd : decode code pc = .ok (.ishl, 1)) (K : Go p e below G (T.setTop (mkF m (pc + 1) Ls (.int (x <<< (y &&& 31)) :: rest)))) : Go p e below G (T.setTop (mkF m pc Ls (.int y :: .int x :: rest))) := Go.step (fun t q => XS.ishl X.here hx rfl (hb hby hd) rfl q) K
theorem g_ishr (X : Stand p l e R s m args below meth c T locs k n) (hx : p.tables.exec = Jvm.exec) (hby : c.code = code) {x y : Int32} {rest : List Value} (hd : decode code pc = .ok (.ishr, 1)) (K : Go p e below G (T.setTop (mkF m (pc + 1) Ls (.int (x >>> (y &&& 31)) :: rest)))) : Go p e below G (T.setTop (mkF m pc Ls (.int y :: .int x :: rest))) := Go.step (fun t q => XS.ishr X.here hx rfl (hb hby hd) rfl q) K
theorem g_iushr (X : Stand p l e R s m args below meth c T locs k n) (hx : p.tables.exec = Jvm.exec) (hby : c.code = code) {x y : Int32} {rest : List Value} (hd : decode code pc = .ok (.iushr, 1)) (K : Go p e below G (T.setTop (mkF m (pc + 1) Ls (.int ((x.toUInt32 >>> (y &&& 31).toUInt32).toInt32) :: rest)))) : Go p e below G (T.setTop (mkF m pc Ls (.int y :: .int x :: rest))) := Go.step (fun t q => XS.iushr X.here hx rfl (hb hby hd) rfl q) K
theorem g_lshl (X : Stand p l e R s m args below meth c T locs k n) (hx : p.tables.exec = Jvm.exec) (hby : c.code = code) {x : Int64} {y : Int32} {rest : List Value} (hd : decode code pc = .ok (.lshl, 1)) (K : Go p e below G (T.setTop (mkF m (pc + 1) Ls (.long (x <<< (y &&& 0x3f).toInt64) :: rest)))) : Go p e below G (T.setTop (mkF m pc Ls (.int y :: .long x :: rest))) := Go.step (fun t q => XS.lshl X.here hx rfl (hb hby hd) rfl q) K
theorem g_lshr (X : Stand p l e R s m args below meth c T locs k n) (hx : p.tables.exec = Jvm.exec) (hby : c.code = code) {x : Int64} {y : Int32} {rest : List Value} (hd : decode code pc = .ok (.lshr, 1)) (K : Go p e below G (T.setTop (mkF m (pc + 1) Ls (.long (x >>> (y &&& 0x3f).toInt64) :: rest)))) : Go p e below G (T.setTop (mkF m pc Ls (.int y :: .long x :: rest))) := Go.step (fun t q => XS.lshr X.here hx rfl (hb hby hd) rfl q) K
theorem g_lushr (X : Stand p l e R s m args below meth c T locs k n) (hx : p.tables.exec = Jvm.exec) (hby : c.code = code) {x : Int64} {y : Int32} {rest : List Value} (hd : decode code pc = .ok (.lushr, 1)) (K : Go p e below G (T.setTop (mkF m (pc + 1) Ls (.long ((x.toUInt64 >>> (y &&& 0x3f).toInt64.toUInt64).toInt64) :: rest)))) : Go p e below G (T.setTop (mkF m pc Ls (.int y :: .long x :: rest))) := Go.step (fun t q => XS.lushr X.here hx rfl (hb hby hd) rfl q) K
theorem g_ineg (X : Stand p l e R s m args below meth c T locs k n) (hx : p.tables.exec = Jvm.exec) (hby : c.code = code) {x : Int32} {rest : List Value} (hd : decode code pc = .ok (.ineg, 1)) (K : Go p e below G (T.setTop (mkF m (pc + 1) Ls (.int (-x) :: rest)))) : Go p e below G (T.setTop (mkF m pc Ls (.int x :: rest))) := Go.step (fun t q => XS.ineg X.here hx rfl (hb hby hd) rfl q) K
theorem g_lneg (X : Stand p l e R s m args below meth c T locs k n) (hx : p.tables.exec = Jvm.exec) (hby : c.code = code) {x : Int64} {rest : List Value} (hd : decode code pc = .ok (.lneg, 1)) (K : Go p e below G (T.setTop (mkF m (pc + 1) Ls (.long (-x) :: rest)))) : Go p e below G (T.setTop (mkF m pc Ls (.long x :: rest))) := Go.step (fun t q => XS.lneg X.here hx rfl (hb hby hd) rfl q) K
theorem g_i2l (X : Stand p l e R s m args below meth c T locs k n) (hx : p.tables.exec = Jvm.exec) (hby : c.code = code) {x : Int32} {rest : List Value} (hd : decode code pc = .ok (.i2l, 1)) (K : Go p e below G (T.setTop (mkF m (pc + 1) Ls (.long (x.toInt64) :: rest)))) : Go p e below G (T.setTop (mkF m pc Ls (.int x :: rest))) := Go.step (fun t q => XS.i2l X.here hx rfl (hb hby hd) rfl q) K
theorem g_l2i (X : Stand p l e R s m args below meth c T locs k n) (hx : p.tables.exec = Jvm.exec) (hby : c.code = code) {x : Int64} {rest : List Value} (hd : decode code pc = .ok (.l2i, 1)) (K : Go p e below G (T.setTop (mkF m (pc + 1) Ls (.int (x.toInt32) :: rest)))) : Go p e below G (T.setTop (mkF m pc Ls (.long x :: rest))) := Go.step (fun t q => XS.l2i X.here hx rfl (hb hby hd) rfl q) K
theorem g_i2b (X : Stand p l e R s m args below meth c T locs k n) (hx : p.tables.exec = Jvm.exec) (hby : c.code = code) {x : Int32} {rest : List Value} (hd : decode code pc = .ok (.i2b, 1)) (K : Go p e below G (T.setTop (mkF m (pc + 1) Ls (.int (x.toInt8.toInt32) :: rest)))) : Go p e below G (T.setTop (mkF m pc Ls (.int x :: rest))) := Go.step (fun t q => XS.i2b X.here hx rfl (hb hby hd) rfl q) K
theorem g_i2s (X : Stand p l e R s m args below meth c T locs k n) (hx : p.tables.exec = Jvm.exec) (hby : c.code = code) {x : Int32} {rest : List Value} (hd : decode code pc = .ok (.i2s, 1)) (K : Go p e below G (T.setTop (mkF m (pc + 1) Ls (.int (x.toInt16.toInt32) :: rest)))) : Go p e below G (T.setTop (mkF m pc Ls (.int x :: rest))) := Go.step (fun t q => XS.i2s X.here hx rfl (hb hby hd) rfl q) K
theorem g_i2c (X : Stand p l e R s m args below meth c T locs k n) (hx : p.tables.exec = Jvm.exec) (hby : c.code = code) {x : Int32} {rest : List Value} (hd : decode code pc = .ok (.i2c, 1)) (K : Go p e below G (T.setTop (mkF m (pc + 1) Ls (.int (x.toUInt32.toUInt16.toUInt32.toInt32) :: rest)))) : Go p e below G (T.setTop (mkF m pc Ls (.int x :: rest))) := Go.step (fun t q => XS.i2c X.here hx rfl (hb hby hd) rfl q) K
theorem g_lcmp (X : Stand p l e R s m args below meth c T locs k n) (hx : p.tables.exec = Jvm.exec) (hby : c.code = code) {x y : Int64} {rest : List Value} (hd : decode code pc = .ok (.lcmp, 1)) (K : Go p e below G (T.setTop (mkF m (pc + 1) Ls (.int (lcmpW x y) :: rest)))) : Go p e below G (T.setTop (mkF m pc Ls (.long y :: .long x :: rest))) := Go.step (fun t q => XS.lcmp X.here hx rfl (hb hby hd) rfl q) K
theorem g_idiv (X : Stand p l e R s m args below meth c T locs k n) (hx : p.tables.exec = Jvm.exec) (hby : c.code = code) {x y : Int32} {rest : List Value} (hd : decode code pc = .ok (.idiv, 1)) (hy : y ≠ 0) (K : Go p e below G (T.setTop (mkF m (pc + 1) Ls (.int (x / y) :: rest)))) : Go p e below G (T.setTop (mkF m pc Ls (.int y :: .int x :: rest))) := Go.step (fun t q => XS.idiv X.here hx rfl (hb hby hd) rfl hy q) K
theorem g_irem (X : Stand p l e R s m args below meth c T locs k n) (hx : p.tables.exec = Jvm.exec) (hby : c.code = code) {x y : Int32} {rest : List Value} (hd : decode code pc = .ok (.irem, 1)) (hy : y ≠ 0) (K : Go p e below G (T.setTop (mkF m (pc + 1) Ls (.int (x % y) :: rest)))) : Go p e below G (T.setTop (mkF m pc Ls (.int y :: .int x :: rest))) := Go.step (fun t q => iremM X hx rfl (hb hby hd) rfl hy q) K
theorem g_iinc (X : Stand p l e R s m args below meth c T locs k n) (hx : p.tables.exec = Jvm.exec) (hby : c.code = code) {j : Nat} {cst : Int} {x : Int32} {l' : Array Slot} (v : Int32) (hd : decode code pc = .ok (.iinc j cst, 3)) (hl : Ls[j]? = some (.val (.int x))) (hv : x + Int32.ofInt cst = v) (hl' : storeLocals Ls j (.int v) = some l') (K : Go p e below G (T.setTop (mkF m (pc + 3) l' st))) : Go p e below G (T.setTop (mkF m pc Ls st)) := Go.step (fun t q => XS.iinc X.here hx rfl (hb hby hd) hl (by rw [hv]; exact hl') q) K
theorem g_dup (X : Stand p l e R s m args below meth c T locs k n) (hx : p.tables.exec = Jvm.exec) (hby : c.code = code) {x : Value} {rest : List Value} (hd : decode code pc = .ok (.dup, 1)) (hc : x.category = 1) (K : Go p e below G (T.setTop (mkF m (pc + 1) Ls (x :: x :: rest)))) : Go p e below G (T.setTop (mkF m pc Ls (x :: rest))) := Go.step (fun t q => XS.dup X.here hx rfl (hb hby hd) rfl hc q) K
theorem g_dup_x1 (X : Stand p l e R s m args below meth c T locs k n) (hx : p.tables.exec = Jvm.exec) (hby : c.code = code) {x y : Value} {rest : List Value} (hd : decode code pc = .ok (.dup_x1, 1)) (hc : x.category = 1) (hc2 : y.category = 1) (K : Go p e below G (T.setTop (mkF m (pc + 1) Ls (x :: y :: x :: rest)))) : Go p e below G (T.setTop (mkF m pc Ls (x :: y :: rest))) := Go.step (fun t q => XS.dupX1 X.here hx rfl (hb hby hd) rfl hc hc2 q) K
theorem g_pop (X : Stand p l e R s m args below meth c T locs k n) (hx : p.tables.exec = Jvm.exec) (hby : c.code = code) {x : Value} {rest : List Value} (hd : decode code pc = .ok (.pop, 1)) (hc : x.category = 1) (K : Go p e below G (T.setTop (mkF m (pc + 1) Ls rest))) : Go p e below G (T.setTop (mkF m pc Ls (x :: rest))) := Go.step (fun t q => XS.pop X.here hx rfl (hb hby hd) rfl hc q) K
theorem g_dup2 (X : Stand p l e R s m args below meth c T locs k n) (hx : p.tables.exec = Jvm.exec) (hby : c.code = code) {x y : Value} {rest : List Value} (hd : decode code pc = .ok (.dup2, 1)) (hc : x.category = 1) (hc2 : y.category = 1) (K : Go p e below G (T.setTop (mkF m (pc + 1) Ls (x :: y :: x :: y :: rest)))) : Go p e below G (T.setTop (mkF m pc Ls (x :: y :: rest))) := Go.step (fun t q => XT.dup2 X.here hx rfl (hb hby hd) rfl hc hc2 q) K
theorem g_dup2L (X : Stand p l e R s m args below meth c T locs k n) (hx : p.tables.exec = Jvm.exec) (hby : c.code = code) {x : Int64} {rest : List Value} (hd : decode code pc = .ok (.dup2, 1)) (K : Go p e below G (T.setTop (mkF m (pc + 1) Ls (.long x :: .long x :: rest)))) : Go p e below G (T.setTop (mkF m pc Ls (.long x :: rest))) := Go.step (fun t q => XT.dup2L X.here hx rfl (hb hby hd) rfl q) K
theorem g_pop2J (X : Stand p l e R s m args below meth c T locs k n) (hx : p.tables.exec = Jvm.exec) (hby : c.code = code) {x : Int64} {rest : List Value} (hd : decode code pc = .ok (.pop2, 1)) (K : Go p e below G (T.setTop (mkF m (pc + 1) Ls rest))) : Go p e below G (T.setTop (mkF m pc Ls (.long x :: rest))) := Go.step (fun t q => by
  have hd' := hb hby hd
  show Steps p.tables e below (T.setTop { method := m, pc := pc, locals := Ls, stack := .long x :: rest, locked := none }) t
  jvm_step X.here [X.here.top, hx, hd', Value.category]
  exact q) K
theorem g_goto (X : Stand p l e R s m args below meth c T locs k n) (hx : p.tables.exec = Jvm.exec) (hby : c.code = code) {d : Int} (pc' : Nat) (hd : decode code pc = .ok (.goto d, 3)) (ho : 0 ≤ (pc : Int) + d) (hp : ((pc : Int) + d).toNat = pc') (K : Go p e below G (T.setTop (mkF m pc' Ls st))) : Go p e below G (T.setTop (mkF m pc Ls st)) := Go.step (fun t q => XS.goto X.here hx rfl (pc0 := pc) (pc' := pc') rfl (hb hby hd) ho hp q) K
theorem g_ifY (X : Stand p l e R s m args below meth c T locs k n) (hx : p.tables.exec = Jvm.exec) (hby : c.code = code) {cd : ClassFile.Cond} {x : Int32} {rest : List Value} {d : Int} (pc' : Nat) (hd : decode code pc = .ok (.ifCond cd d, 3)) (hc : if_icmp.holds cd x 0 = true) (ho : 0 ≤ (pc : Int) + d) (hp : ((pc : Int) + d).toNat = pc') (K : Go p e below G (T.setTop (mkF m pc' Ls rest))) : Go p e below G (T.setTop (mkF m pc Ls (.int x :: rest))) := Go.step (fun t q => XS.ifYes X.here hx rfl (pc0 := pc) (pc' := pc') rfl (hb hby hd) rfl ((if0 _ _).trans hc) ho hp q) K
theorem g_ifN (X : Stand p l e R s m args below meth c T locs k n) (hx : p.tables.exec = Jvm.exec) (hby : c.code = code) {cd : ClassFile.Cond} {x : Int32} {rest : List Value} {d : Int} (hd : decode code pc = .ok (.ifCond cd d, 3)) (hc : if_icmp.holds cd x 0 = false) (K : Go p e below G (T.setTop (mkF m (pc + 3) Ls rest))) : Go p e below G (T.setTop (mkF m pc Ls (.int x :: rest))) := Go.step (fun t q => XS.ifNo X.here hx rfl (hb hby hd) rfl ((if0 _ _).trans hc) q) K
theorem g_icY (X : Stand p l e R s m args below meth c T locs k n) (hx : p.tables.exec = Jvm.exec) (hby : c.code = code) {cd : ClassFile.Cond} {x y : Int32} {rest : List Value} {d : Int} (pc' : Nat) (hd : decode code pc = .ok (.if_icmp cd d, 3)) (hc : if_icmp.holds cd x y = true) (ho : 0 ≤ (pc : Int) + d) (hp : ((pc : Int) + d).toNat = pc') (K : Go p e below G (T.setTop (mkF m pc' Ls rest))) : Go p e below G (T.setTop (mkF m pc Ls (.int y :: .int x :: rest))) := Go.step (fun t q => XS.icmpYes X.here hx rfl (pc0 := pc) (pc' := pc') rfl (hb hby hd) rfl hc ho hp q) K
theorem g_icN (X : Stand p l e R s m args below meth c T locs k n) (hx : p.tables.exec = Jvm.exec) (hby : c.code = code) {cd : ClassFile.Cond} {x y : Int32} {rest : List Value} {d : Int} (hd : decode code pc = .ok (.if_icmp cd d, 3)) (hc : if_icmp.holds cd x y = false) (K : Go p e below G (T.setTop (mkF m (pc + 3) Ls rest))) : Go p e below G (T.setTop (mkF m pc Ls (.int y :: .int x :: rest))) := Go.step (fun t q => XS.icmpNo X.here hx rfl (hb hby hd) rfl hc q) K
theorem g_acmp (X : Stand p l e R s m args below meth c T locs k n) (hx : p.tables.exec = Jvm.exec) (hby : c.code = code) {cd : ACond} {x y : Value} (h1 : x.isRef = true) (h2 : y.isRef = true) {rest : List Value} {d : Int} (pc' : Nat) (same : Bool) (hd : decode code pc = .ok (.if_acmp cd d, 3)) (hq : decide (x = y) = same) (ho : 0 ≤ (pc : Int) + d) (hp : pc' = if acV cd same = true then ((pc : Int) + d).toNat else pc + 3) (K : Go p e below G (T.setTop (mkF m pc' Ls rest))) : Go p e below G (T.setTop (mkF m pc Ls (y :: x :: rest))) := Go.step (fun t q => Jvm.RoadKit.acmp (g := mkF m pc Ls (y :: x :: rest)) X hx rfl h1 h2 (pc0 := pc) (pc' := pc') (same := same) rfl (hb hby hd) rfl hq ho hp q) K
theorem g_ifnullY (X : Stand p l e R s m args below meth c T locs k n) (hx : p.tables.exec = Jvm.exec) (hby : c.code = code) {rest : List Value} {d : Int} (pc' : Nat) (hd : decode code pc = .ok (.ifnull d, 3)) (ho : 0 ≤ (pc : Int) + d) (hp : ((pc : Int) + d).toNat = pc') (K : Go p e below G (T.setTop (mkF m pc' Ls rest))) : Go p e below G (T.setTop (mkF m pc Ls (.null :: rest))) := Go.step (fun t q => XS.ifnullYes X.here hx rfl (pc0 := pc) (pc' := pc') rfl (hb hby hd) rfl ho hp q) K
theorem g_ifnullN (X : Stand p l e R s m args below meth c T locs k n) (hx : p.tables.exec = Jvm.exec) (hby : c.code = code) {b : Addr} {rest : List Value} {d : Int} (hd : decode code pc = .ok (.ifnull d, 3)) (K : Go p e below G (T.setTop (mkF m (pc + 3) Ls rest))) : Go p e below G (T.setTop (mkF m pc Ls (.ref b :: rest))) := Go.step (fun t q => XS.ifnullNo X.here hx rfl (hb hby hd) rfl q) K
theorem g_ifnonnullY (X : Stand p l e R s m args below meth c T locs k n) (hx : p.tables.exec = Jvm.exec) (hby : c.code = code) {b : Addr} {rest : List Value} {d : Int} (pc' : Nat) (hd : decode code pc = .ok (.ifnonnull d, 3)) (ho : 0 ≤ (pc : Int) + d) (hp : ((pc : Int) + d).toNat = pc') (K : Go p e below G (T.setTop (mkF m pc' Ls rest))) : Go p e below G (T.setTop (mkF m pc Ls (.ref b :: rest))) := Go.step (fun t q => XS.ifnonnullYes X.here hx rfl (pc0 := pc) (pc' := pc') rfl (hb hby hd) rfl ho hp q) K
theorem g_ifnonnullN (X : Stand p l e R s m args below meth c T locs k n) (hx : p.tables.exec = Jvm.exec) (hby : c.code = code) {rest : List Value} {d : Int} (hd : decode code pc = .ok (.ifnonnull d, 3)) (K : Go p e below G (T.setTop (mkF m (pc + 3) Ls rest))) : Go p e below G (T.setTop (mkF m pc Ls (.null :: rest))) := Go.step (fun t q => XS.ifnonnullNo X.here hx rfl (hb hby hd) rfl q) K
theorem g_ldcI (X : Stand p l e R s m args below meth c T locs k n) (hx : p.tables.exec = Jvm.exec) (hby : c.code = code) (hZ : Z.Warmed39 s.vm) {own : String} (hown : s.vm.findClass own = some m.cls) {index : Nat} {v : Int32} (w : (Cond.constant own index v).before a0 Z = true) (hd : decode code pc = .ok (.ldc index, 2)) (K : Go p e below G (T.setTop (mkF m (pc + 2) Ls (.int v :: st)))) : Go p e below G (T.setTop (mkF m pc Ls st)) := Go.step (fun t q => X.ldcInt hx hown (mvT hZ w) (g := mkF m pc Ls st) rfl (hb hby hd) t q) K
theorem g_ldcwI (X : Stand p l e R s m args below meth c T locs k n) (hx : p.tables.exec = Jvm.exec) (hby : c.code = code) (hZ : Z.Warmed39 s.vm) {own : String} (hown : s.vm.findClass own = some m.cls) {index : Nat} {v : Int32} (w : (Cond.constant own index v).before a0 Z = true) (hd : decode code pc = .ok (.ldc_w index, 3)) (K : Go p e below G (T.setTop (mkF m (pc + 3) Ls (.int v :: st)))) : Go p e below G (T.setTop (mkF m pc Ls st)) := Go.step (fun t q => X.ldcwInt hx hown (mvT hZ w) (g := mkF m pc Ls st) rfl (hb hby hd) t q) K
theorem g_ldc2J (X : Stand p l e R s m args below meth c T locs k n) (hx : p.tables.exec = Jvm.exec) (hby : c.code = code) (hZ : Z.Warmed39 s.vm) {own : String} (hown : s.vm.findClass own = some m.cls) {index : Nat} {v : Int64} (w : (Cond.constantLong own index v).before a0 Z = true) (hd : decode code pc = .ok (.ldc2_w index, 3)) (K : Go p e below G (T.setTop (mkF m (pc + 3) Ls (.long v :: st)))) : Go p e below G (T.setTop (mkF m pc Ls st)) := Go.step (fun t q => X.ldc2Long hx hown (mvT hZ w) (g := mkF m pc Ls st) rfl (hb hby hd) t q) K
theorem g_getF (X : Stand p l e R s m args below meth c T locs k n) (hx : p.tables.exec = Jvm.exec) (hby : c.code = code) (hZ : Z.Warmed39 s.vm) {own : String} (hown : s.vm.findClass own = some m.cls) {R0 O f d host : String} {index : Nat} (w : (Cond.fieldLink own index R0 f d).before a0 Z = true ∨ (Cond.fieldLinkNest own index R0 f d host).before a0 Z = true) (via : Via Z R0 O f d) (eT : T.heap = h) {a : Addr} {v : Value} (F : Fld Z h a O f d v) {rest : List Value} (hd : decode code pc = .ok (.getfield index, 3)) (K : ∀ T', Stand p l e R s m args below meth c T' locs k n → T'.heap = h → Go p e below G (T'.setTop (mkF m (pc + 3) Ls (v :: rest)))) : Go p e below G (T.setTop (mkF m pc Ls (.ref a :: rest))) := by
  obtain ⟨T', X', e', q⟩ := getF X hx hZ hown w via eT F (g := mkF m pc Ls (.ref a :: rest)) rfl rfl (hb hby hd)
  exact Go.step q (K T' X' e')
theorem g_getS (X : Stand p l e R s m args below meth c T locs k n) (hx : p.tables.exec = Jvm.exec) (hby : c.code = code) (hZ : Z.Warmed39 s.vm) {own : String} (hown : s.vm.findClass own = some m.cls) {R0 O f d host : String} {index : Nat} (w : (Cond.fieldLink own index R0 f d).before a0 Z = true ∨ (Cond.fieldLinkNest own index R0 f d host).before a0 Z = true) (via : Via Z R0 O f d) (eT : T.heap = h) {v : Value} (F : Sta Z h O f d v) (hd : decode code pc = .ok (.getstatic index, 3)) (K : ∀ T', Stand p l e R s m args below meth c T' locs k n → T'.heap = h → Go p e below G (T'.setTop (mkF m (pc + 3) Ls (v :: st)))) : Go p e below G (T.setTop (mkF m pc Ls st)) := by
  obtain ⟨T', X', e', q⟩ := getS2 X hx hZ hown w via eT F (g := mkF m pc Ls st) rfl (hb hby hd)
  exact Go.step q (K T' X' e')
theorem g_putF (X : Stand p l e R s m args below meth c T locs k n) (hx : p.tables.exec = Jvm.exec) (hby : c.code = code) (hZ : Z.Warmed39 s.vm) {own : String} (hown : s.vm.findClass own = some m.cls) {R0 O f d host : String} {index : Nat} (w : (Cond.fieldLink own index R0 f d).before a0 Z = true ∨ (Cond.fieldLinkNest own index R0 f d host).before a0 Z = true) (via : Via Z R0 O f d) (eT : T.heap = h) {C : String} {kk : Nat} {a : Addr} {v old : Value} (F : Fld Z h a O f d old) (E : Exa Z h a C) (L : (Cond.lays C O f d).before a0 Z = true ∨ ((Cond.laysFinal C O f d).before a0 Z = true ∧ own = O ∧ meth.name = "<init>")) (wi : (Cond.instantiable C kk).before a0 Z = true) (ty : FieldType) (hty : parseFieldDescriptor d = some ty) (hn : narrow ty v = v) (hf : fits ty v = true) (N : Fr n0 locs) (ga : n0 ≤ a) {rest : List Value} (hd : decode code pc = .ok (.putfield index, 3)) (K : ∀ T' h', Stand p l e R s m args below meth c T' (locs ++ [⟨a, Jvm.RoadKit.slotOf Z O f d⟩]) k n → T'.heap = h' → Wr h h' a (Jvm.RoadKit.slotOf Z O f d) v → Fld Z h' a O f d v → Fr n0 (locs ++ [⟨a, Jvm.RoadKit.slotOf Z O f d⟩]) → Go p e below G (T'.setTop (mkF m (pc + 3) Ls rest))) : Go p e below G (T.setTop (mkF m pc Ls (v :: .ref a :: rest))) := by
  obtain ⟨T', h', X', e', W, q⟩ := putF X hx hZ hown w via eT F E L wi hty hn hf (g := mkF m pc Ls (v :: .ref a :: rest)) rfl rfl (hb hby hd)
  exact Go.step q (K T' h' X' e' W (F.same W) (Fr.snoc X' N ga))
theorem g_putFN (X : Stand p l e R s m args below meth c T locs k n) (hx : p.tables.exec = Jvm.exec) (hby : c.code = code) (hZ : Z.Warmed39 s.vm) {own : String} (hown : s.vm.findClass own = some m.cls) {R0 O f d : String} {index : Nat} (w : (Cond.fieldLink own index R0 f d).before a0 Z = true) (via : Via Z R0 O f d) (eT : T.heap = h) {C : String} {kk : Nat} {a : Addr} {v old : Value} (F : Fld Z h a O f d old) (E : Exa Z h a C) (L : (Cond.lays C O f d).before a0 Z = true ∨ ((Cond.laysFinal C O f d).before a0 Z = true ∧ own = O ∧ meth.name = "<init>")) (wi : (Cond.instantiable C kk).before a0 Z = true) (ty : FieldType) (hty : parseFieldDescriptor d = some ty) (v' : Value) (hn : narrow ty v = v') (hf : fits ty v' = true) (N : Fr n0 locs) (ga : n0 ≤ a) {rest : List Value} (hd : decode code pc = .ok (.putfield index, 3)) (K : ∀ T' h', Stand p l e R s m args below meth c T' (locs ++ [⟨a, Jvm.RoadKit.slotOf Z O f d⟩]) k n → T'.heap = h' → Wr h h' a (Jvm.RoadKit.slotOf Z O f d) v' → Fld Z h' a O f d v' → Fr n0 (locs ++ [⟨a, Jvm.RoadKit.slotOf Z O f d⟩]) → Go p e below G (T'.setTop (mkF m (pc + 3) Ls rest))) : Go p e below G (T.setTop (mkF m pc Ls (v :: .ref a :: rest))) := by
  obtain ⟨T', h', X', e', W, q⟩ := putFN X hx hZ hown w via eT F E L wi hty hn hf (g := mkF m pc Ls (v :: .ref a :: rest)) rfl rfl (hb hby hd)
  exact Go.step q (K T' h' X' e' W (F.same W) (Fr.snoc X' N ga))
theorem g_new (X : Stand p l e R s m args below meth c T locs k n) (hx : p.tables.exec = Jvm.exec) (hby : c.code = code) (hZ : Z.Warmed39 s.vm) {own : String} (hown : s.vm.findClass own = some m.cls) {C : String} {index j : Nat} (w : (Cond.classLink own index C).before a0 Z = true) (wi : (Cond.instantiable C j).before a0 Z = true) (wz : (Cond.initialized C).before a0 Z = true) (eT : T.heap = h) (hc : k + 1 ≤ R.cells) (hl : n + j ≤ R.slots) (hd : decode code pc = .ok (.new index, 3)) (K : ∀ T' h' x, h.size = x → Stand p l e R s m args below meth c T' locs (k + 1) (n + j) → T'.heap = h' → Ext h h' → Exa Z h' x C → (∀ {O nm d : String} {ty : FieldType}, Laid Z a0 C O nm d → parseFieldDescriptor d = some ty → Fld Z h' x O nm d (defaultValue ty)) → Go p e below G (T'.setTop (mkF m (pc + 3) Ls (.ref x :: st)))) : Go p e below G (T.setTop (mkF m pc Ls st)) := by
  obtain ⟨T', h', X', e', E, A, D, -, q⟩ := newO X hx hZ hown w wi wz eT (g := mkF m pc Ls st) rfl (hb hby hd) hc hl
  exact Go.step q (K T' h' _ rfl X' e' E A D)
theorem g_newarray (X : Stand p l e R s m args below meth c T locs k n) (hx : p.tables.exec = Jvm.exec) (hby : c.code = code) (hZ : Z.Warmed39 s.vm) (aty : ArrayType) (ty : FieldType) (dv : Value) (vs : List Value) (hty : newarray.typeOf aty = ty) (hdv : defaultValue ty = dv) (w : (Cond.arrayClass ty).before a0 Z = true) (eT : T.heap = h) {z : Int32} {rest : List Value} (hn : ¬ z < 0) (cap : Nat) (hvs : List.replicate cap dv = vs) (hcap : z.toNatClampNeg ≤ cap) (hbig : cap * 8 ≤ 536870912) (hc : k + 1 ≤ R.cells) (hl : n + cap ≤ R.slots) (hd : decode code pc = .ok (.newarray aty, 2)) (K : ∀ T' h' kc x, h.size = x → Stand p l e R s m args below meth c T' locs (k + 1) (n + cap) → T'.heap = h' → Ext h h' → Arv Z h' x kc ty z vs dv → Go p e below G (T'.setTop (mkF m (pc + 2) Ls (.ref x :: rest)))) : Go p e below G (T.setTop (mkF m pc Ls (.int z :: rest))) := by
  subst hty hdv hvs
  obtain ⟨T', h', kc, X', e', E, A, q⟩ := newP X hx hZ w eT (g := mkF m pc Ls (.int z :: rest)) rfl (hb hby hd) rfl hn (cap := cap) hcap hbig hc hl
  exact Go.step q (K T' h' kc _ rfl X' e' E ((Arv.new A hn).pad (pad_rep [] _ cap)))
theorem g_iastore (X : Stand p l e R s m args below meth c T locs k n) (hx : p.tables.exec = Jvm.exec) (hby : c.code = code) (hZ : Z.Warmed39 s.vm) (eT : T.heap = h) {a : Addr} {kc : ClassId} {z : Int32} {vs : List Value} {dv : Value} (V : Arv Z h a kc .int z vs dv) {j : Int32} {x : Int32} (i : Nat) (vs' : List Value) (hvs : vs.set i (.int x) = vs') (hj : ¬ j < 0 ∧ j < z) (hi : j.toNatClampNeg = i) (hlen : i < vs.length) (N : Fr n0 locs) (ga : n0 ≤ a) {rest : List Value} (hd : decode code pc = .ok (.iastore, 1)) (K : ∀ T' h', Stand p l e R s m args below meth c T' (locs ++ [⟨a, j.toNatClampNeg⟩]) k n → T'.heap = h' → Wr h h' a j.toNatClampNeg (.int x) → Arv Z h' a kc .int z vs' dv → Fr n0 (locs ++ [⟨a, j.toNatClampNeg⟩]) → Go p e below G (T'.setTop (mkF m (pc + 1) Ls rest))) : Go p e below G (T.setTop (mkF m pc Ls (.int x :: .int j :: .ref a :: rest))) := by
  subst hvs
  obtain ⟨cl, Ar, q1, S, M, H, F⟩ := V
  obtain ⟨T', h', X', e', W, q⟩ := stI X hx hZ eT Ar (j := j) (inb_of S hj) (g := mkF m pc Ls (.int x :: .int j :: .ref a :: rest)) rfl rfl (hb hby hd)
  exact Go.step q (K T' h' X' e' W (Arv.set Ar q1 S M H F rfl W i hi hlen) (Fr.snoc X' N ga))
theorem g_castore (X : Stand p l e R s m args below meth c T locs k n) (hx : p.tables.exec = Jvm.exec) (hby : c.code = code) (hZ : Z.Warmed39 s.vm) (eT : T.heap = h) {a : Addr} {kc : ClassId} {z : Int32} {vs : List Value} {dv : Value} (V : Arv Z h a kc .char z vs dv) {j : Int32} {x : Int32} (i : Nat) (vs' : List Value) (hvs : vs.set i (.int (nar .char x)) = vs') (hj : ¬ j < 0 ∧ j < z) (hi : j.toNatClampNeg = i) (hlen : i < vs.length) (N : Fr n0 locs) (ga : n0 ≤ a) {rest : List Value} (hd : decode code pc = .ok (.castore, 1)) (K : ∀ T' h', Stand p l e R s m args below meth c T' (locs ++ [⟨a, j.toNatClampNeg⟩]) k n → T'.heap = h' → Wr h h' a j.toNatClampNeg (.int (nar .char x)) → Arv Z h' a kc .char z vs' dv → Fr n0 (locs ++ [⟨a, j.toNatClampNeg⟩]) → Go p e below G (T'.setTop (mkF m (pc + 1) Ls rest))) : Go p e below G (T.setTop (mkF m pc Ls (.int x :: .int j :: .ref a :: rest))) := by
  subst hvs
  obtain ⟨cl, Ar, q1, S, M, H, F⟩ := V
  obtain ⟨T', h', X', e', W, q⟩ := stC X hx hZ eT Ar (j := j) (inb_of S hj) (g := mkF m pc Ls (.int x :: .int j :: .ref a :: rest)) rfl rfl (hb hby hd)
  exact Go.step q (K T' h' X' e' W (Arv.set Ar q1 S M H F (fits_nar_char _) W i hi hlen) (Fr.snoc X' N ga))
theorem g_sastore (X : Stand p l e R s m args below meth c T locs k n) (hx : p.tables.exec = Jvm.exec) (hby : c.code = code) (hZ : Z.Warmed39 s.vm) (eT : T.heap = h) {a : Addr} {kc : ClassId} {z : Int32} {vs : List Value} {dv : Value} (V : Arv Z h a kc .short z vs dv) {j : Int32} {x : Int32} (i : Nat) (vs' : List Value) (hvs : vs.set i (.int (nar .short x)) = vs') (hj : ¬ j < 0 ∧ j < z) (hi : j.toNatClampNeg = i) (hlen : i < vs.length) (N : Fr n0 locs) (ga : n0 ≤ a) {rest : List Value} (hd : decode code pc = .ok (.sastore, 1)) (K : ∀ T' h', Stand p l e R s m args below meth c T' (locs ++ [⟨a, j.toNatClampNeg⟩]) k n → T'.heap = h' → Wr h h' a j.toNatClampNeg (.int (nar .short x)) → Arv Z h' a kc .short z vs' dv → Fr n0 (locs ++ [⟨a, j.toNatClampNeg⟩]) → Go p e below G (T'.setTop (mkF m (pc + 1) Ls rest))) : Go p e below G (T.setTop (mkF m pc Ls (.int x :: .int j :: .ref a :: rest))) := by
  subst hvs
  obtain ⟨cl, Ar, q1, S, M, H, F⟩ := V
  obtain ⟨T', h', X', e', W, q⟩ := stS X hx hZ eT Ar (j := j) (inb_of S hj) (g := mkF m pc Ls (.int x :: .int j :: .ref a :: rest)) rfl rfl (hb hby hd)
  exact Go.step q (K T' h' X' e' W (Arv.set Ar q1 S M H F (fits_nar_short _) W i hi hlen) (Fr.snoc X' N ga))
theorem g_bastore (X : Stand p l e R s m args below meth c T locs k n) (hx : p.tables.exec = Jvm.exec) (hby : c.code = code) (hZ : Z.Warmed39 s.vm) (eT : T.heap = h) {a : Addr} {kc : ClassId} {z : Int32} {vs : List Value} {dv : Value} (V : Arv Z h a kc .byte z vs dv) {j : Int32} {x : Int32} (i : Nat) (vs' : List Value) (hvs : vs.set i (.int (nar .byte x)) = vs') (hj : ¬ j < 0 ∧ j < z) (hi : j.toNatClampNeg = i) (hlen : i < vs.length) (N : Fr n0 locs) (ga : n0 ≤ a) {rest : List Value} (hd : decode code pc = .ok (.bastore, 1)) (K : ∀ T' h', Stand p l e R s m args below meth c T' (locs ++ [⟨a, j.toNatClampNeg⟩]) k n → T'.heap = h' → Wr h h' a j.toNatClampNeg (.int (nar .byte x)) → Arv Z h' a kc .byte z vs' dv → Fr n0 (locs ++ [⟨a, j.toNatClampNeg⟩]) → Go p e below G (T'.setTop (mkF m (pc + 1) Ls rest))) : Go p e below G (T.setTop (mkF m pc Ls (.int x :: .int j :: .ref a :: rest))) := by
  subst hvs
  obtain ⟨cl, Ar, q1, S, M, H, F⟩ := V
  obtain ⟨T', h', X', e', W, q⟩ := stB X hx hZ eT Ar (j := j) (inb_of S hj) (g := mkF m pc Ls (.int x :: .int j :: .ref a :: rest)) rfl rfl (hb hby hd)
  exact Go.step q (K T' h' X' e' W (Arv.set Ar q1 S M H F (fits_nar_byte _) W i hi hlen) (Fr.snoc X' N ga))
theorem g_lastore (X : Stand p l e R s m args below meth c T locs k n) (hx : p.tables.exec = Jvm.exec) (hby : c.code = code) (hZ : Z.Warmed39 s.vm) (eT : T.heap = h) {a : Addr} {kc : ClassId} {z : Int32} {vs : List Value} {dv : Value} (V : Arv Z h a kc .long z vs dv) {j : Int32} {x : Int64} (i : Nat) (vs' : List Value) (hvs : vs.set i (.long x) = vs') (hj : ¬ j < 0 ∧ j < z) (hi : j.toNatClampNeg = i) (hlen : i < vs.length) (N : Fr n0 locs) (ga : n0 ≤ a) {rest : List Value} (hd : decode code pc = .ok (.lastore, 1)) (K : ∀ T' h', Stand p l e R s m args below meth c T' (locs ++ [⟨a, j.toNatClampNeg⟩]) k n → T'.heap = h' → Wr h h' a j.toNatClampNeg (.long x) → Arv Z h' a kc .long z vs' dv → Fr n0 (locs ++ [⟨a, j.toNatClampNeg⟩]) → Go p e below G (T'.setTop (mkF m (pc + 1) Ls rest))) : Go p e below G (T.setTop (mkF m pc Ls (.long x :: .int j :: .ref a :: rest))) := by
  subst hvs
  obtain ⟨cl, Ar, q1, S, M, H, F⟩ := V
  obtain ⟨T', h', X', e', W, q⟩ := stJ X hx hZ eT Ar (j := j) (inb_of S hj) (g := mkF m pc Ls (.long x :: .int j :: .ref a :: rest)) rfl rfl (hb hby hd)
  exact Go.step q (K T' h' X' e' W (Arv.set Ar q1 S M H F rfl W i hi hlen) (Fr.snoc X' N ga))
theorem g_iaload (X : Stand p l e R s m args below meth c T locs k n) (hx : p.tables.exec = Jvm.exec) (hby : c.code = code) (hZ : Z.Warmed39 s.vm) (eT : T.heap = h) {a : Addr} {kc : ClassId} {z : Int32} {vs : List Value} {dv : Value} (V : Arv Z h a kc .int z vs dv) {j : Int32} (v : Value) (hj : ¬ j < 0 ∧ j < z) (hv : vs.getD j.toNatClampNeg dv = v) {rest : List Value} (hd : decode code pc = .ok (.iaload, 1)) (K : Go p e below G (T.setTop (mkF m (pc + 1) Ls (v :: rest)))) : Go p e below G (T.setTop (mkF m pc Ls (.int j :: .ref a :: rest))) := by
  obtain ⟨cl, Ar, q1, S, M, H, F⟩ := V
  have hin := inb_of S hj
  exact Go.step (fun t q => X.iaload hx (j := j) (v := v) (by rw [eT]; exact Ar.1) (State.isArrayOf_alike hZ.alike Ar.2.1) Ar.2.2 hin (H.at hin hv) (g := mkF m pc Ls (.int j :: .ref a :: rest)) rfl rfl (hb hby hd) t q) K
theorem g_caload (X : Stand p l e R s m args below meth c T locs k n) (hx : p.tables.exec = Jvm.exec) (hby : c.code = code) (hZ : Z.Warmed39 s.vm) (eT : T.heap = h) {a : Addr} {kc : ClassId} {z : Int32} {vs : List Value} {dv : Value} (V : Arv Z h a kc .char z vs dv) {j : Int32} (v : Value) (hj : ¬ j < 0 ∧ j < z) (hv : vs.getD j.toNatClampNeg dv = v) {rest : List Value} (hd : decode code pc = .ok (.caload, 1)) (K : Go p e below G (T.setTop (mkF m (pc + 1) Ls (v :: rest)))) : Go p e below G (T.setTop (mkF m pc Ls (.int j :: .ref a :: rest))) := by
  obtain ⟨cl, Ar, q1, S, M, H, F⟩ := V
  have hin := inb_of S hj
  exact Go.step (fun t q => X.caload hx (j := j) (v := v) (by rw [eT]; exact Ar.1) (State.isArrayOf_alike hZ.alike Ar.2.1) Ar.2.2 hin (H.at hin hv) (g := mkF m pc Ls (.int j :: .ref a :: rest)) rfl rfl (hb hby hd) t q) K
theorem g_saload (X : Stand p l e R s m args below meth c T locs k n) (hx : p.tables.exec = Jvm.exec) (hby : c.code = code) (hZ : Z.Warmed39 s.vm) (eT : T.heap = h) {a : Addr} {kc : ClassId} {z : Int32} {vs : List Value} {dv : Value} (V : Arv Z h a kc .short z vs dv) {j : Int32} (v : Value) (hj : ¬ j < 0 ∧ j < z) (hv : vs.getD j.toNatClampNeg dv = v) {rest : List Value} (hd : decode code pc = .ok (.saload, 1)) (K : Go p e below G (T.setTop (mkF m (pc + 1) Ls (v :: rest)))) : Go p e below G (T.setTop (mkF m pc Ls (.int j :: .ref a :: rest))) := by
  obtain ⟨cl, Ar, q1, S, M, H, F⟩ := V
  have hin := inb_of S hj
  exact Go.step (fun t q => X.saload hx (j := j) (v := v) (by rw [eT]; exact Ar.1) (State.isArrayOf_alike hZ.alike Ar.2.1) Ar.2.2 hin (H.at hin hv) (g := mkF m pc Ls (.int j :: .ref a :: rest)) rfl rfl (hb hby hd) t q) K
theorem g_baload (X : Stand p l e R s m args below meth c T locs k n) (hx : p.tables.exec = Jvm.exec) (hby : c.code = code) (hZ : Z.Warmed39 s.vm) (eT : T.heap = h) {a : Addr} {kc : ClassId} {z : Int32} {vs : List Value} {dv : Value} (V : Arv Z h a kc .byte z vs dv) {j : Int32} (v : Value) (hj : ¬ j < 0 ∧ j < z) (hv : vs.getD j.toNatClampNeg dv = v) {rest : List Value} (hd : decode code pc = .ok (.baload, 1)) (K : Go p e below G (T.setTop (mkF m (pc + 1) Ls (v :: rest)))) : Go p e below G (T.setTop (mkF m pc Ls (.int j :: .ref a :: rest))) := by
  obtain ⟨cl, Ar, q1, S, M, H, F⟩ := V
  have hin := inb_of S hj
  exact Go.step (fun t q => X.baloadBytes hx (j := j) (v := v) (by rw [eT]; exact Ar.1) (State.isArrayOf_alike hZ.alike Ar.2.1) Ar.2.2 hin (H.at hin hv) (g := mkF m pc Ls (.int j :: .ref a :: rest)) rfl rfl (hb hby hd) t q) K
theorem g_laload (X : Stand p l e R s m args below meth c T locs k n) (hx : p.tables.exec = Jvm.exec) (hby : c.code = code) (hZ : Z.Warmed39 s.vm) (eT : T.heap = h) {a : Addr} {kc : ClassId} {z : Int32} {vs : List Value} {dv : Value} (V : Arv Z h a kc .long z vs dv) {j : Int32} (v : Value) (hj : ¬ j < 0 ∧ j < z) (hv : vs.getD j.toNatClampNeg dv = v) {rest : List Value} (hd : decode code pc = .ok (.laload, 1)) (K : Go p e below G (T.setTop (mkF m (pc + 1) Ls (v :: rest)))) : Go p e below G (T.setTop (mkF m pc Ls (.int j :: .ref a :: rest))) := by
  obtain ⟨cl, Ar, q1, S, M, H, F⟩ := V
  have hin := inb_of S hj
  exact Go.step (fun t q => X.laload hx (j := j) (v := v) (by rw [eT]; exact Ar.1) (State.isArrayOf_alike hZ.alike Ar.2.1) Ar.2.2 hin (H.at hin hv) (g := mkF m pc Ls (.int j :: .ref a :: rest)) rfl rfl (hb hby hd) t q) K
theorem g_aaload (X : Stand p l e R s m args below meth c T locs k n) (hx : p.tables.exec = Jvm.exec) (hby : c.code = code) (hZ : Z.Warmed39 s.vm) (eT : T.heap = h) {a : Addr} {kc : ClassId} {ty : FieldType} {z : Int32} {vs : List Value} {dv : Value} (V : Arv Z h a kc ty z vs dv) (hty : ty.isReference = true) {j : Int32} (v : Value) (hj : ¬ j < 0 ∧ j < z) (hv : vs.getD j.toNatClampNeg dv = v) {rest : List Value} (hd : decode code pc = .ok (.aaload, 1)) (K : Go p e below G (T.setTop (mkF m (pc + 1) Ls (v :: rest)))) : Go p e below G (T.setTop (mkF m pc Ls (.int j :: .ref a :: rest))) := by
  obtain ⟨cl, Ar, q1, S, M, H, F⟩ := V
  have hin := inb_of S hj
  exact Go.step (fun t q => X.aaload hx (j := j) (v := v) (by rw [eT]; exact Ar.1) (State.isArrayOf_alike hZ.alike Ar.2.1) hty Ar.2.2 hin (H.at hin hv) (g := mkF m pc Ls (.int j :: .ref a :: rest)) rfl rfl (hb hby hd) t q) K
theorem g_arraylength (X : Stand p l e R s m args below meth c T locs k n) (hx : p.tables.exec = Jvm.exec) (hby : c.code = code) (hZ : Z.Warmed39 s.vm) (eT : T.heap = h) {a : Addr} {kc : ClassId} {ty : FieldType} {z : Int32} {vs : List Value} {dv : Value} (V : Arv Z h a kc ty z vs dv) {rest : List Value} (hd : decode code pc = .ok (.arraylength, 1)) (K : Go p e below G (T.setTop (mkF m (pc + 1) Ls (.int z :: rest)))) : Go p e below G (T.setTop (mkF m pc Ls (.ref a :: rest))) := by
  obtain ⟨cl, Ar, q1, S, M, H, F⟩ := V
  refine Go.step (fun t q => X.arraylength hx (by rw [eT]; exact Ar.1) (State.isArrayOf_alike hZ.alike Ar.2.1) (g := mkF m pc Ls (.ref a :: rest)) rfl rfl (hb hby hd) t q) ?_
  rw [len_of S M]
  exact K
theorem g_checkcast (X : Stand p l e R s m args below meth c T locs k n) (hx : p.tables.exec = Jvm.exec) (hby : c.code = code) (hZ : Z.Warmed39 s.vm) {own : String} (hown : s.vm.findClass own = some m.cls) {C : String} {index : Nat} (w : (Cond.classLink own index C).before a0 Z = true) (eT : T.heap = h) {a : Addr} (I : Ins Z h a C true) {rest : List Value} (hd : decode code pc = .ok (.checkcast index, 3)) (K : ∀ T', Stand p l e R s m args below meth c T' locs k n → T'.heap = h → Go p e below G (T'.setTop (mkF m (pc + 3) Ls (.ref a :: rest)))) : Go p e below G (T.setTop (mkF m pc Ls (.ref a :: rest))) := by
  obtain ⟨T', X', e', q⟩ := castY X hx hZ hown w eT I (g := mkF m pc Ls (.ref a :: rest)) rfl rfl (hb hby hd)
  exact Go.step q (K T' X' e')
theorem g_instanceof (X : Stand p l e R s m args below meth c T locs k n) (hx : p.tables.exec = Jvm.exec) (hby : c.code = code) (hZ : Z.Warmed39 s.vm) {own : String} (hown : s.vm.findClass own = some m.cls) {C : String} {index : Nat} (w : (Cond.classLink own index C).before a0 Z = true) (eT : T.heap = h) {a : Addr} (I : Ins Z h a C true) {rest : List Value} (hd : decode code pc = .ok (.instanceof index, 3)) (K : ∀ T', Stand p l e R s m args below meth c T' locs k n → T'.heap = h → Go p e below G (T'.setTop (mkF m (pc + 3) Ls (.int 1 :: rest)))) : Go p e below G (T.setTop (mkF m pc Ls (.ref a :: rest))) := by
  obtain ⟨T', X', e', q⟩ := instY X hx hZ hown w eT I (g := mkF m pc Ls (.ref a :: rest)) rfl rfl (hb hby hd)
  exact Go.step q (K T' X' e')
theorem g_instNo (X : Stand p l e R s m args below meth c T locs k n) (hx : p.tables.exec = Jvm.exec) (hby : c.code = code) (hZ : Z.Warmed39 s.vm) {own : String} (hown : s.vm.findClass own = some m.cls) {C K : String} {index : Nat} (w : (Cond.classLink own index K).before a0 Z = true) (eT : T.heap = h) {a : Addr} (E : Exa Z h a C) (F : ∃ c t, Z.vm.findClass C = some c ∧ Z.vm.findClass K = some t ∧ Z.vm.assignable c t = false) {rest : List Value} (hd : decode code pc = .ok (.instanceof index, 3)) (K' : ∀ T', Stand p l e R s m args below meth c T' locs k n → T'.heap = h → Go p e below G (T'.setTop (mkF m (pc + 3) Ls (.int 0 :: rest)))) : Go p e below G (T.setTop (mkF m pc Ls (.ref a :: rest))) := by
  obtain ⟨T', X', e', q⟩ := instNo X hx hZ hown w eT E F (g := mkF m pc Ls (.ref a :: rest)) rfl rfl (hb hby hd)
  exact Go.step q (K' T' X' e')
theorem g_instanceofNull (X : Stand p l e R s m args below meth c T locs k n) (hx : p.tables.exec = Jvm.exec) (hby : c.code = code) {index : Nat} {rest : List Value} (hd : decode code pc = .ok (.instanceof index, 3)) (K : Go p e below G (T.setTop (mkF m (pc + 3) Ls (.int 0 :: rest)))) : Go p e below G (T.setTop (mkF m pc Ls (.null :: rest))) := Go.step (fun t q => X.instanceofNull hx (g := mkF m pc Ls (.null :: rest)) rfl rfl (hb hby hd) t q) K
theorem g_checkcastNull (X : Stand p l e R s m args below meth c T locs k n) (hx : p.tables.exec = Jvm.exec) (hby : c.code = code) {index : Nat} {rest : List Value} (hd : decode code pc = .ok (.checkcast index, 3)) (K : Go p e below G (T.setTop (mkF m (pc + 3) Ls (.null :: rest)))) : Go p e below G (T.setTop (mkF m pc Ls (.null :: rest))) := Go.step (fun t q => X.checkcastNull hx (g := mkF m pc Ls (.null :: rest)) rfl rfl (hb hby hd) t q) K
theorem g_initO (X : Stand p l e R s m args below meth c T locs k n) (hx : p.tables.exec = Jvm.exec) (hby : c.code = code) (hZ : Z.Warmed39 s.vm) {own : String} (hown : s.vm.findClass own = some m.cls) {idx : Nat} (w1 : (Cond.methodLink own idx Lib.objectInit).before a0 Z = true) (w2 : (Cond.instanceMethod Lib.objectInit).before a0 Z = true) (w3 : (Cond.code Lib.objectInit ⟨#[0xb1]⟩ 1 none).before a0 Z = true) (eT : T.heap = h) (hsize : Ls.size = c.maxLocals) {a : Addr} {rest : List Value} (hf : 1 ≤ R.frames) (hl : (rest.map fun v => v.category).sum + 12 ≤ R.locals) (hd : decode code pc = .ok (.invokespecial idx, 3)) (K : ∀ T', Stand p l e R s m args below meth c T' locs k n → T'.heap = h → Go p e below G (T'.setTop (mkF m (pc + 3) Ls rest))) : Go p e below G (T.setTop (mkF m pc Ls (.ref a :: rest))) := by
  obtain ⟨T', X', e', q⟩ := initO X hx hZ hown w1 w2 w3 eT (g := mkF m pc Ls (.ref a :: rest)) rfl hsize rfl (hb hby hd) hf (W := (rest.map fun v => v.category).sum) (by show 2 * 0 + _ ≤ _; omega) hl
  exact Go.step q (K T' X' e')
theorem g_static (X : Stand p l e R s m args below meth c T locs k n) (hx : p.tables.exec = Jvm.exec) (hby : c.code = code) (hZ : Z.Warmed39 s.vm) {own : String} (hown : s.vm.findClass own = some m.cls) {index : Nat} {y : MethodName} {bytes : ByteArray} {maxL : Nat} {ret : Option FieldType} {rm : Room} {as' : Array Value} {Q : Option Value → Heap → List Loc → Prop} (hM : MetFree l y (head1 [Cond.code y bytes maxL ret] rm) (fun a U => a = as' ∧ Z.Warmed39 U.vm ∧ U.heap = h) (fun _ _ _ _ _ => True) (fun _ U o U' => RetG U Q rm.cells rm.slots U' o)) (wl : (Cond.methodLink own index y).before a0 Z = true) (ws : (Cond.static y).before a0 Z = true) (wz : (Cond.initialized y.cls).before a0 Z = true) (wc : (Cond.code y bytes maxL ret).before a0 Z = true) (hy : y.cls ≠ "java/lang/invoke/MethodHandle" ∧ y.cls ≠ "java/lang/invoke/VarHandle") (eT : T.heap = h) (hsize : Ls.size = c.maxLocals) (argsL : List Value) {rest : List Value} (hlen : ∀ sig, parseMethodDescriptor y.desc = some sig → argsL.length = sig.parameters.length) (has : argsL.toArray = as') (hst : st = argsL.reverse ++ rest) (hf : rm.frames + 1 ≤ R.frames) (hl : (rest.map fun v => v.category).sum + (maxL + 11) + rm.locals ≤ R.locals) (hc : k + rm.cells ≤ R.cells) (hs : n + rm.slots ≤ R.slots) (hd : decode code pc = .ok (.invokestatic index, 3)) (K : ∀ v T' L, Stand p l e R s m args below meth c T' (locs ++ L) (k + rm.cells) (n + rm.slots) → Q v T'.heap L → Go p e below G (T'.setTop (mkF m (pc + 3) Ls (v.toList ++ rest)))) : Go p e below G (T.setTop (mkF m pc Ls st)) := by
  obtain ⟨v, _, ⟨T', L', k', n'⟩, -, X', ⟨L, hq, l1, l2, l3⟩, q⟩ := Jvm.LawKit.callS X hx (y := y) hown (mvT hZ wl) (mvT hZ ws) (mvT hZ wz) (mvT hZ wc) hy (backOf (W := (rest.map fun v => v.category).sum) hM hZ wc wz hf hl) (g := mkF m pc Ls st) rfl hsize (argsL := argsL) (rest := rest) hlen hst (by show 2 * 0 + _ ≤ _; omega) (hb hby hd) (fun _ _ => ⟨has, eT, hc, hs⟩)
  dsimp only [Pt.U, Pt.locs, Pt.cells, Pt.slots] at X' l1 l2 l3 q hq
  subst l1 l2 l3
  exact Go.step q (K v T' L X' hq)
theorem g_special (X : Stand p l e R s m args below meth c T locs k n) (hx : p.tables.exec = Jvm.exec) (hby : c.code = code) (hZ : Z.Warmed39 s.vm) {own : String} (hown : s.vm.findClass own = some m.cls) {index : Nat} {y : MethodName} {bytes : ByteArray} {maxL : Nat} {ret : Option FieldType} {rm : Room} {as' : Array Value} {Q : Option Value → Heap → List Loc → Prop} (hM : MetFree l y (head1 [Cond.code y bytes maxL ret] rm) (fun a U => a = as' ∧ Z.Warmed39 U.vm ∧ U.heap = h) (fun _ _ _ _ _ => True) (fun _ U o U' => RetG U Q rm.cells rm.slots U' o)) (hy1 : y.name = "<init>") (hret : ret = none) (wl : (Cond.methodLink own index y).before a0 Z = true) (ws : (Cond.instanceMethod y).before a0 Z = true) (wz : (Cond.initialized y.cls).before a0 Z = true) (wc : (Cond.code y bytes maxL ret).before a0 Z = true) (hy : y.cls ≠ "java/lang/invoke/MethodHandle" ∧ y.cls ≠ "java/lang/invoke/VarHandle") (eT : T.heap = h) (hsize : Ls.size = c.maxLocals) {a : Addr} (argsL : List Value) {rest : List Value} (hlen : ∀ sig, parseMethodDescriptor y.desc = some sig → argsL.length = sig.parameters.length) (has : (.ref a :: argsL).toArray = as') (hst : st = argsL.reverse ++ .ref a :: rest) (hf : rm.frames + 1 ≤ R.frames) (hl : (rest.map fun v => v.category).sum + (maxL + 11) + rm.locals ≤ R.locals) (hc : k + rm.cells ≤ R.cells) (hs : n + rm.slots ≤ R.slots) (hd : decode code pc = .ok (.invokespecial index, 3)) (K : ∀ v T' L, Stand p l e R s m args below meth c T' (locs ++ L) (k + rm.cells) (n + rm.slots) → Q v T'.heap L → Go p e below G (T'.setTop (mkF m (pc + 3) Ls (v.toList ++ rest)))) : Go p e below G (T.setTop (mkF m pc Ls st)) := by
  subst hret
  obtain ⟨v, _, ⟨T', L', k', n'⟩, -, X', ⟨L, hq, l1, l2, l3⟩, q⟩ := X.specialBack hx (y := y) hy1 hown (mvT hZ wl) (mvT hZ ws) (mvT hZ wc) hy (backOf (W := (rest.map fun v => v.category).sum) hM hZ wc wz hf hl) (g := mkF m pc Ls st) rfl hsize (Steps.refl _) (a := a) (argsL := argsL) (rest := rest) hlen hst (by show 2 * 0 + _ ≤ _; omega) (hb hby hd) (fun _ _ => ⟨has, eT, hc, hs⟩)
  dsimp only [Pt.U, Pt.locs, Pt.cells, Pt.slots] at X' l1 l2 l3 q hq
  subst l1 l2 l3
  exact Go.step (fun t r => q.trans r) (K v T' L X' hq)
theorem g_virtual (X : Stand p l e R s m args below meth c T locs k n) (hx : p.tables.exec = Jvm.exec) (hby : c.code = code) (hZ : Z.Warmed39 s.vm) {own : String} (hown : s.vm.findClass own = some m.cls) {C : String} {index : Nat} {z : MethodName} {y : MethodName} {bytes : ByteArray} {maxL : Nat} {ret : Option FieldType} {rm : Room} {as' : Array Value} {Q : Option Value → Heap → List Loc → Prop} (hM : MetFree l y (head1 [Cond.code y bytes maxL ret] rm) (fun a U => a = as' ∧ Z.Warmed39 U.vm ∧ U.heap = h) (fun _ _ _ _ _ => True) (fun _ U o U' => RetG U Q rm.cells rm.slots U' o)) (wl : (Cond.methodLink own index z).before a0 Z = true) (wd : (Cond.declares z).before a0 Z = true) (hnf : NotFace s z) (wsel : (Cond.selects C z y).before a0 Z = true) (ws : (Cond.instanceMethod y).before a0 Z = true) (wz : (Cond.initialized y.cls).before a0 Z = true) (wc : (Cond.code y bytes maxL ret).before a0 Z = true) (hy : z.cls ≠ "java/lang/invoke/MethodHandle" ∧ z.cls ≠ "java/lang/invoke/VarHandle") (eT : T.heap = h) {a : Addr} (E : Exa Z h a C) (hsize : Ls.size = c.maxLocals) (argsL : List Value) {rest : List Value} (hlen : ∀ sig, parseMethodDescriptor z.desc = some sig → argsL.length = sig.parameters.length) (has : (.ref a :: argsL).toArray = as') (hst : st = argsL.reverse ++ .ref a :: rest) (hf : rm.frames + 1 ≤ R.frames) (hl : (rest.map fun v => v.category).sum + (maxL + 11) + rm.locals ≤ R.locals) (hc : k + rm.cells ≤ R.cells) (hs : n + rm.slots ≤ R.slots) (hd : decode code pc = .ok (.invokevirtual index, 3)) (K : ∀ v T' L, Stand p l e R s m args below meth c T' (locs ++ L) (k + rm.cells) (n + rm.slots) → Q v T'.heap L → Go p e below G (T'.setTop (mkF m (pc + 3) Ls (v.toList ++ rest)))) : Go p e below G (T.setTop (mkF m pc Ls st)) := by
  obtain ⟨cq, kq, qa, qb, qc⟩ := isOf hZ eT E
  obtain ⟨v, _, ⟨T', L', k', n'⟩, -, X', ⟨L, hq, l1, l2, l3⟩, q⟩ := X.virtualBack hx (y := z) (z := y) hown (mvT hZ wl) (mvT hZ wd) hnf (mvT hZ wsel) (mvT hZ ws) hy (backOf (W := (rest.map fun v => v.category).sum) hM hZ wc wz hf hl) qa qc (g := mkF m pc Ls st) rfl hsize (Steps.refl _) (argsL := argsL) (rest := rest) hlen hst (by show 2 * 0 + _ ≤ _; omega) (hb hby hd) (fun _ _ => ⟨has, eT, hc, hs⟩)
  dsimp only [Pt.U, Pt.locs, Pt.cells, Pt.slots] at X' l1 l2 l3 q hq
  subst l1 l2 l3
  exact Go.step (fun t r => q.trans r) (K v T' L X' hq)
theorem g_private (X : Stand p l e R s m args below meth c T locs k n) (hx : p.tables.exec = Jvm.exec) (hby : c.code = code) (hZ : Z.Warmed39 s.vm) {own : String} (hown : s.vm.findClass own = some m.cls) {index j : Nat} {y : MethodName} {bytes : ByteArray} {maxL : Nat} {ret : Option FieldType} {rm : Room} {as' : Array Value} {Q : Option Value → Heap → List Loc → Prop} (hM : MetFree l y (head1 [Cond.code y bytes maxL ret] rm) (fun a U => a = as' ∧ Z.Warmed39 U.vm ∧ U.heap = h) (fun _ _ _ _ _ => True) (fun _ U o U' => RetG U Q rm.cells rm.slots U' o)) (wl : (Cond.methodLink own index y).before a0 Z = true) (ws : (Cond.instanceMethod y).before a0 Z = true) (wi : (Cond.instantiable y.cls j).before a0 Z = true) (wp : (Cond.privateMethod y).before a0 Z = true) (wz : (Cond.initialized y.cls).before a0 Z = true) (wc : (Cond.code y bytes maxL ret).before a0 Z = true) (hy : y.cls ≠ "java/lang/invoke/MethodHandle" ∧ y.cls ≠ "java/lang/invoke/VarHandle") (eT : T.heap = h) {a : Addr} {C : String} (E : Exa Z h a C) (hsize : Ls.size = c.maxLocals) (argsL : List Value) {rest : List Value} (hlen : ∀ sig, parseMethodDescriptor y.desc = some sig → argsL.length = sig.parameters.length) (has : (.ref a :: argsL).toArray = as') (hst : st = argsL.reverse ++ .ref a :: rest) (hf : rm.frames + 1 ≤ R.frames) (hl : (rest.map fun v => v.category).sum + (maxL + 11) + rm.locals ≤ R.locals) (hc : k + rm.cells ≤ R.cells) (hs : n + rm.slots ≤ R.slots) (hd : decode code pc = .ok (.invokevirtual index, 3)) (K : ∀ v T' L, Stand p l e R s m args below meth c T' (locs ++ L) (k + rm.cells) (n + rm.slots) → Q v T'.heap L → Go p e below G (T'.setTop (mkF m (pc + 3) Ls (v.toList ++ rest)))) : Go p e below G (T.setTop (mkF m pc Ls st)) := by
  obtain ⟨cq, q1, q2⟩ := E.cell
  obtain ⟨v, _, ⟨T', L', k', n'⟩, -, X', ⟨L, hq, l1, l2, l3⟩, q⟩ := X.privateBack hx (y := y) hown (mvT hZ wl) (mvT hZ ws) (selOf (mvT hZ wi) (mvP hZ wp) (mvT hZ ws) hy) (Cond.privateMethod_at (mvP hZ wp (args := #[]))) (mvT hZ wc) hy (backOf (W := (rest.map fun v => v.category).sum) hM hZ wc wz hf hl) (g := mkF m pc Ls st) rfl hsize (Steps.refl _) (a := a) (by rw [eT]; exact q1) q2 (argsL := argsL) (rest := rest) hlen hst (by show 2 * 0 + _ ≤ _; omega) (hb hby hd) (fun _ _ => ⟨has, eT, hc, hs⟩)
  dsimp only [Pt.U, Pt.locs, Pt.cells, Pt.slots] at X' l1 l2 l3 q hq
  subst l1 l2 l3
  exact Go.step (fun t r => q.trans r) (K v T' L X' hq)
theorem g_interface (X : Stand p l e R s m args below meth c T locs k n) (hx : p.tables.exec = Jvm.exec) (hby : c.code = code) (hZ : Z.Warmed39 s.vm) {own : String} (hown : s.vm.findClass own = some m.cls) {C : String} {index count : Nat} {z : MethodName} {y : MethodName} {bytes : ByteArray} {maxL : Nat} {ret : Option FieldType} {rm : Room} {as' : Array Value} {Q : Option Value → Heap → List Loc → Prop} (hM : MetFree l y (head1 [Cond.code y bytes maxL ret] rm) (fun a U => a = as' ∧ Z.Warmed39 U.vm ∧ U.heap = h) (fun _ _ _ _ _ => True) (fun _ U o U' => RetG U Q rm.cells rm.slots U' o)) (wl : (Cond.methodLink own index z).before a0 Z = true) (wd : (Cond.declares z).before a0 Z = true) (wf : (Cond.interfaceMethod z.cls z.cls z.name z.desc).before a0 Z = true) (wsel : (Cond.selects C z y).before a0 Z = true) (ws : (Cond.instanceMethod y).before a0 Z = true) (wp : (Cond.publicMethod y).before a0 Z = true) (wu : (Cond.unhidden C z.name z.desc).before a0 Z = true) (wca : (Cond.castable C z.cls).before a0 Z = true) (wz : (Cond.initialized y.cls).before a0 Z = true) (wc : (Cond.code y bytes maxL ret).before a0 Z = true) (hy : z.cls ≠ "java/lang/invoke/MethodHandle" ∧ z.cls ≠ "java/lang/invoke/VarHandle") (eT : T.heap = h) {a : Addr} (E : Exa Z h a C) (hsize : Ls.size = c.maxLocals) (argsL : List Value) {rest : List Value} (hlen : ∀ sig, parseMethodDescriptor z.desc = some sig → argsL.length = sig.parameters.length) (has : (.ref a :: argsL).toArray = as') (hst : st = argsL.reverse ++ .ref a :: rest) (hf : rm.frames + 1 ≤ R.frames) (hl : (rest.map fun v => v.category).sum + (maxL + 11) + rm.locals ≤ R.locals) (hc : k + rm.cells ≤ R.cells) (hs : n + rm.slots ≤ R.slots) (hd : decode code pc = .ok (.invokeinterface index count, 5)) (K : ∀ v T' L, Stand p l e R s m args below meth c T' (locs ++ L) (k + rm.cells) (n + rm.slots) → Q v T'.heap L → Go p e below G (T'.setTop (mkF m (pc + 5) Ls (v.toList ++ rest)))) : Go p e below G (T.setTop (mkF m pc Ls st)) := by
  obtain ⟨cq, kq, qa, qb, qc⟩ := isOf hZ eT E
  obtain ⟨v, _, ⟨T', L', k', n'⟩, -, X', ⟨L, hq, l1, l2, l3⟩, q⟩ := X.interfaceBack hx (xi := z) (y := y) hown (mvT hZ wl) (mvT hZ wd) (mvT hZ wf (by simp [Cond.onTables, Cond.keepsFace, Cond.keeps, Cond.steady, Cond.faceAtom, hy.1, hy.2])) (mvT hZ wsel) (mvT hZ ws) (mvT hZ wp) (mvT hZ wu) (mvT hZ wca) hy (backOf (W := (rest.map fun v => v.category).sum) hM hZ wc wz hf hl) qa qb qc (g := mkF m pc Ls st) rfl hsize (Steps.refl _) (argsL := argsL) (rest := rest) hlen hst (by show 2 * 0 + _ ≤ _; omega) (hb hby hd) (fun _ _ => ⟨has, eT, hc, hs⟩)
  dsimp only [Pt.U, Pt.locs, Pt.cells, Pt.slots] at X' l1 l2 l3 q hq
  subst l1 l2 l3
  exact Go.step (fun t r => q.trans r) (K v T' L X' hq)
theorem g_ret (X : Stand p l e R s m args below meth c T locs k n) (hx : p.tables.exec = Jvm.exec) (hby : c.code = code) (hret : meth.sig.returnType = none) (hlocks : meth.locks = false) {Q : Option Value → Heap → List Loc → Prop} {cells slots : Nat} (hd : decode code pc = .ok (.return_, 1)) (eT : T.heap = h) (hk : k ≤ cells) (hn : n ≤ slots) (hq : Q none h locs) : Go p e below (RetG s Q cells slots) (T.setTop (mkF m pc Ls [])) := Go.leave X (v := none) (fun _ => rfl) hlocks eT hq hk hn (fun fs hr => X.returnOut hx hret (hb hby hd) hr)
theorem g_iret (X : Stand p l e R s m args below meth c T locs k n) (hx : p.tables.exec = Jvm.exec) (hby : c.code = code) {z : Int32} {rest : List Value} (hret : meth.sig.returnType = some .int) (hlocks : meth.locks = false) {Q : Option Value → Heap → List Loc → Prop} {cells slots : Nat} (hd : decode code pc = .ok (.ireturn, 1)) (eT : T.heap = h) (hk : k ≤ cells) (hn : n ≤ slots) (hq : Q (some (.int z)) h locs) : Go p e below (RetG s Q cells slots) (T.setTop (mkF m pc Ls (.int z :: rest))) := Go.leave X (v := some (.int z)) (fun q => by rw [hret] at q; cases q) hlocks eT hq hk hn (fun fs hr => retOut X hx (t := .int) hret rfl (Or.inl ⟨rfl, Or.inl rfl, z, rfl⟩) (hb hby hd) hr)
theorem g_nret (X : Stand p l e R s m args below meth c T locs k n) (hx : p.tables.exec = Jvm.exec) (hby : c.code = code) {z : Int32} {rest : List Value} {t : FieldType} (ht : t = .boolean ∨ t = .byte ∨ t = .char ∨ t = .short) (hret : meth.sig.returnType = some t) (hlocks : meth.locks = false) {Q : Option Value → Heap → List Loc → Prop} {cells slots : Nat} (hd : decode code pc = .ok (.ireturn, 1)) (eT : T.heap = h) (hk : k ≤ cells) (hn : n ≤ slots) (hq : Q (some (.int (nar t z))) h locs) : Go p e below (RetG s Q cells slots) (T.setTop (mkF m pc Ls (.int z :: rest))) := Go.leave X (v := some (.int (nar t z))) (fun q => by rw [hret] at q; cases q) hlocks eT hq hk hn (fun fs hr => retN X hx (t := t) hret ht (hb hby hd) hr)
theorem g_lret (X : Stand p l e R s m args below meth c T locs k n) (hx : p.tables.exec = Jvm.exec) (hby : c.code = code) {z : Int64} {rest : List Value} (hret : meth.sig.returnType = some .long) (hlocks : meth.locks = false) {Q : Option Value → Heap → List Loc → Prop} {cells slots : Nat} (hd : decode code pc = .ok (.lreturn, 1)) (eT : T.heap = h) (hk : k ≤ cells) (hn : n ≤ slots) (hq : Q (some (.long z)) h locs) : Go p e below (RetG s Q cells slots) (T.setTop (mkF m pc Ls (.long z :: rest))) := Go.leave X (v := some (.long z)) (fun q => by rw [hret] at q; cases q) hlocks eT hq hk hn (fun fs hr => retOut X hx (t := .long) hret rfl (Or.inr (Or.inl ⟨rfl, rfl, z, rfl⟩)) (hb hby hd) hr)
theorem g_aret (X : Stand p l e R s m args below meth c T locs k n) (hx : p.tables.exec = Jvm.exec) (hby : c.code = code) {z : Value} {rest : List Value} {t : FieldType} (ht : t.isReference = true) (hz : z.isRef = true) (hnar : narrow t z = z) (hret : meth.sig.returnType = some t) (hlocks : meth.locks = false) {Q : Option Value → Heap → List Loc → Prop} {cells slots : Nat} (hd : decode code pc = .ok (.areturn, 1)) (eT : T.heap = h) (hk : k ≤ cells) (hn : n ≤ slots) (hq : Q (some z) h locs) : Go p e below (RetG s Q cells slots) (T.setTop (mkF m pc Ls (z :: rest))) := Go.leave X (v := some z) (fun q => by rw [hret] at q; cases q) hlocks eT hq hk hn (fun fs hr => retOut X hx (t := t) hret hnar (Or.inr (Or.inr (Or.inr (Or.inr ⟨rfl, ht, hz⟩)))) (hb hby hd) hr)
end
end Jvm.Own

namespace Jvm.Own
open Sem ClassFile Op Lib Jvm.Stand Jvm.Free Jvm.LawKit Jvm.RoadKit
def RetW (s : State) (Q : Option Value → Heap → List Loc → Prop) (cells slots : Nat) (s₂ : State) (o : Outcome) : Prop := ∃ v L, o = .returned v ∧ Q v s₂.heap L ∧ ReturnedEndW s o s₂ L cells slots
theorem own_widen {s u : State} {o : Outcome} {L L' : List Loc} {a b c d : Nat} (hq : ReturnedEndW s o u L a b) (N : Fr s.heap.size L) (hc : a ≤ c) (hd : b ≤ d) : ReturnedEndW s o u L' c d :=
  ⟨hq.1, hq.2.1, hq.2.2.1, (hq.2.2.2.sift fun y hy => Or.inr (N y hy)).mono hc hd⟩
section
variable {p : Program} {l : Launch} {e : Env} {R : Room} {s : State} {vm0 : Vm} {m : MethodId} {args : Array Value} {below : List Frame} {meth : Method} {c : Code} {T : State} {locs : List Loc} {k n k0 : Nat} {G : State → Outcome → Prop} {code : ByteArray} {pc : Nat} {Ls : Array Slot} {st : List Value} {Z : State} {a0 : Array Value} {h : Heap} {n0 : Nat}
theorem Go.leaveW (X : Stand p l e R (s.setVm vm0) m args below meth c T locs k n) {v : Option Value} (hv : meth.sig.returnType = none → v = none) (hlocks : meth.locks = false) {Q : Option Value → Heap → List Loc → Prop} {cells slots : Nat} {σ : State} (hS : s.Since vm0 k0) (eT : T.heap = h) (hkk : k0 ≤ h.size) (hq : Q v h locs) (hk : k ≤ cells) (hn : n ≤ slots)
    (st : ∀ fs, (∀ (f : JFrame) (acts : List Action), f.method = m → f.locked = none → f.entered = [] → (doReturn e (T.setTop f) acts v).1 = T.setFrames fs) → Steps p.tables e below σ (T.setFrames fs)) : Go p e below (RetW s Q cells slots) σ := by
  subst eT
  obtain ⟨fs, hr, hrun, hended, h1, h2, h3, h4⟩ := X.leaveW hS hkk (v := v) hv hlocks
  exact ⟨_, _, st fs hr, hrun, hended, _, _, rfl, hq, h1, h2, h3, h4.mono hk hn⟩
theorem g_retW (X : Stand p l e R (s.setVm vm0) m args below meth c T locs k n) (hx : p.tables.exec = Jvm.exec) (hby : c.code = code) (hret : meth.sig.returnType = none) (hlocks : meth.locks = false) {Q : Option Value → Heap → List Loc → Prop} {cells slots : Nat} (hS : s.Since vm0 k0) (hd : decode code pc = .ok (.return_, 1)) (eT : T.heap = h) (hkk : k0 ≤ h.size) (hk : k ≤ cells) (hn : n ≤ slots) (hq : Q none h locs) : Go p e below (RetW s Q cells slots) (T.setTop (mkF m pc Ls [])) := Go.leaveW X (v := none) (fun _ => rfl) hlocks hS eT hkk hq hk hn (fun fs hr => X.returnOut hx hret (hb hby hd) hr)
theorem g_iretW (X : Stand p l e R (s.setVm vm0) m args below meth c T locs k n) (hx : p.tables.exec = Jvm.exec) (hby : c.code = code) {z : Int32} {rest : List Value} (hret : meth.sig.returnType = some .int) (hlocks : meth.locks = false) {Q : Option Value → Heap → List Loc → Prop} {cells slots : Nat} (hS : s.Since vm0 k0) (hd : decode code pc = .ok (.ireturn, 1)) (eT : T.heap = h) (hkk : k0 ≤ h.size) (hk : k ≤ cells) (hn : n ≤ slots) (hq : Q (some (.int z)) h locs) : Go p e below (RetW s Q cells slots) (T.setTop (mkF m pc Ls (.int z :: rest))) := Go.leaveW X (v := some (.int z)) (fun q => by rw [hret] at q; cases q) hlocks hS eT hkk hq hk hn (fun fs hr => retOut X hx (t := .int) hret rfl (Or.inl ⟨rfl, Or.inl rfl, z, rfl⟩) (hb hby hd) hr)
theorem g_nretW (X : Stand p l e R (s.setVm vm0) m args below meth c T locs k n) (hx : p.tables.exec = Jvm.exec) (hby : c.code = code) {z : Int32} {rest : List Value} {t : FieldType} (ht : t = .boolean ∨ t = .byte ∨ t = .char ∨ t = .short) (hret : meth.sig.returnType = some t) (hlocks : meth.locks = false) {Q : Option Value → Heap → List Loc → Prop} {cells slots : Nat} (hS : s.Since vm0 k0) (hd : decode code pc = .ok (.ireturn, 1)) (eT : T.heap = h) (hkk : k0 ≤ h.size) (hk : k ≤ cells) (hn : n ≤ slots) (hq : Q (some (.int (nar t z))) h locs) : Go p e below (RetW s Q cells slots) (T.setTop (mkF m pc Ls (.int z :: rest))) := Go.leaveW X (v := some (.int (nar t z))) (fun q => by rw [hret] at q; cases q) hlocks hS eT hkk hq hk hn (fun fs hr => retN X hx (t := t) hret ht (hb hby hd) hr)
theorem g_lretW (X : Stand p l e R (s.setVm vm0) m args below meth c T locs k n) (hx : p.tables.exec = Jvm.exec) (hby : c.code = code) {z : Int64} {rest : List Value} (hret : meth.sig.returnType = some .long) (hlocks : meth.locks = false) {Q : Option Value → Heap → List Loc → Prop} {cells slots : Nat} (hS : s.Since vm0 k0) (hd : decode code pc = .ok (.lreturn, 1)) (eT : T.heap = h) (hkk : k0 ≤ h.size) (hk : k ≤ cells) (hn : n ≤ slots) (hq : Q (some (.long z)) h locs) : Go p e below (RetW s Q cells slots) (T.setTop (mkF m pc Ls (.long z :: rest))) := Go.leaveW X (v := some (.long z)) (fun q => by rw [hret] at q; cases q) hlocks hS eT hkk hq hk hn (fun fs hr => retOut X hx (t := .long) hret rfl (Or.inr (Or.inl ⟨rfl, rfl, z, rfl⟩)) (hb hby hd) hr)
theorem g_aretW (X : Stand p l e R (s.setVm vm0) m args below meth c T locs k n) (hx : p.tables.exec = Jvm.exec) (hby : c.code = code) {z : Value} {rest : List Value} {t : FieldType} (ht : t.isReference = true) (hz : z.isRef = true) (hnar : narrow t z = z) (hret : meth.sig.returnType = some t) (hlocks : meth.locks = false) {Q : Option Value → Heap → List Loc → Prop} {cells slots : Nat} (hS : s.Since vm0 k0) (hd : decode code pc = .ok (.areturn, 1)) (eT : T.heap = h) (hkk : k0 ≤ h.size) (hk : k ≤ cells) (hn : n ≤ slots) (hq : Q (some z) h locs) : Go p e below (RetW s Q cells slots) (T.setTop (mkF m pc Ls (z :: rest))) := Go.leaveW X (v := some z) (fun q => by rw [hret] at q; cases q) hlocks hS eT hkk hq hk hn (fun fs hr => retOut X hx (t := t) hret hnar (Or.inr (Or.inr (Or.inr (Or.inr ⟨rfl, ht, hz⟩)))) (hb hby hd) hr)
theorem g_ldcS (X : Stand p l e R (s.setVm vm0) m args below meth c T locs k n) (hx : p.tables.exec = Jvm.exec) (hby : c.code = code) (hZ : Z.Warmed39 (s.setVm vm0).vm) {own : String} (hown : (s.setVm vm0).vm.findClass own = some m.cls) {text : String} {index : Nat} (w : (Cond.stringLink own index text).before a0 Z = true) (wS : ∀ a ∈ Bundle.stringAtoms, a.before a0 Z = true) (eT : T.heap = h) (hS : s.Since vm0 k0) (hk : k0 ≤ h.size) (nn : Nat) (hnn : 4 * text.toList.length ≤ nn) (hbig : nn ≤ 536870912) (hc : k + 2 ≤ R.cells) (hl : n + (nn + 4) ≤ R.slots) (hd : decode code pc = .ok (.ldc index, 2)) (K : ∀ a T' h' k1, Stand p l e R (s.setVm T'.vm) m args below meth c T' locs (k + 2) (n + (nn + 4)) → T'.heap = h' → Ext h h' → s.Since T'.vm k1 → k1 ≤ h'.size → Z.Warmed39 (s.setVm T'.vm).vm → (s.setVm T'.vm).vm.findClass own = some m.cls → Go p e below G (T'.setTop (mkF m (pc + 2) Ls (.ref a :: st)))) : Go p e below G (T.setTop (mkF m pc Ls st)) := by
  obtain ⟨a, T', h', k1, X', e', E, hS', hk', hZ', ho', q⟩ := ldcS X hx hZ hown w wS eT hS hk (g := mkF m pc Ls st) rfl (hb hby hd) hnn hbig hc hl
  exact Go.step q (K a T' h' k1 X' e' E hS' hk' hZ' ho')
theorem g_ldcwS (X : Stand p l e R (s.setVm vm0) m args below meth c T locs k n) (hx : p.tables.exec = Jvm.exec) (hby : c.code = code) (hZ : Z.Warmed39 (s.setVm vm0).vm) {own : String} (hown : (s.setVm vm0).vm.findClass own = some m.cls) {text : String} {index : Nat} (w : (Cond.stringLink own index text).before a0 Z = true) (wS : ∀ a ∈ Bundle.stringAtoms, a.before a0 Z = true) (eT : T.heap = h) (hS : s.Since vm0 k0) (hk : k0 ≤ h.size) (nn : Nat) (hnn : 4 * text.toList.length ≤ nn) (hbig : nn ≤ 536870912) (hc : k + 2 ≤ R.cells) (hl : n + (nn + 4) ≤ R.slots) (hd : decode code pc = .ok (.ldc_w index, 3)) (K : ∀ a T' h' k1, Stand p l e R (s.setVm T'.vm) m args below meth c T' locs (k + 2) (n + (nn + 4)) → T'.heap = h' → Ext h h' → s.Since T'.vm k1 → k1 ≤ h'.size → Z.Warmed39 (s.setVm T'.vm).vm → (s.setVm T'.vm).vm.findClass own = some m.cls → Go p e below G (T'.setTop (mkF m (pc + 3) Ls (.ref a :: st)))) : Go p e below G (T.setTop (mkF m pc Ls st)) := by
  obtain ⟨a, T', h', k1, X', e', E, hS', hk', hZ', ho', q⟩ := ldcSW X hx hZ hown w wS eT hS hk (g := mkF m pc Ls st) rfl (hb hby hd) hnn hbig hc hl
  exact Go.step q (K a T' h' k1 X' e' E hS' hk' hZ' ho')
theorem g_ldcSV (X : Stand p l e R (s.setVm vm0) m args below meth c T locs k n) (hx : p.tables.exec = Jvm.exec) (hby : c.code = code) (hZ : Z.Warmed39 (s.setVm vm0).vm) {own : String} (hown : (s.setVm vm0).vm.findClass own = some m.cls) {text : String} {index : Nat} (w : (Cond.stringLink own index text).before a0 Z = true) (wS : ∀ a ∈ Bundle.stringAtoms, a.before a0 Z = true) (eT : T.heap = h) (hS : s.Since vm0 k0) (hk : k0 ≤ h.size) (N : Fr s.heap.size locs) (hkeep : ∀ (b : Addr) (cl : Cell), Z.heap[b]? = some cl → s.heap[b]? = some cl) (hI : vm0.interned = Z.vm.interned) (hh : Jvm.Lit.constHeld Z own index) (hcw : Jvm.Lit.compactW.before a0 Z = true) (vs : List Value) (z : Int32) (ht : (∀ c ∈ text.toList, c.toNat < 256) ∧ text.toList.map (fun c => Value.int (Jvm.Lit.byteI c.toNat.toUInt16)) = vs) (hz : ¬ z < 0) (hlz : z.toNatClampNeg = vs.length) (nn : Nat) (hnn : 4 * text.toList.length ≤ nn) (hbig : nn ≤ 536870912) (hc : k + 2 ≤ R.cells) (hl : n + (nn + 4) ≤ R.slots) (hd : decode code pc = .ok (.ldc index, 2)) (K : ∀ a T' h' k1 b kb, Stand p l e R (s.setVm T'.vm) m args below meth c T' locs (k + 2) (n + (nn + 4)) → T'.heap = h' → Ext h h' → s.Since T'.vm k1 → k1 ≤ h'.size → Z.Warmed39 (s.setVm T'.vm).vm → (s.setVm T'.vm).vm.findClass own = some m.cls → Exa Z h' a "java/lang/String" → Fld Z h' a "java/lang/String" "coder" "B" (.int 0) → Fld Z h' a "java/lang/String" "value" "[B" (.ref b) → Arv Z h' b kb .byte z vs (.int 0) → Lit (s.setVm T'.vm) own index a → Go p e below G (T'.setTop (mkF m (pc + 2) Ls (.ref a :: st)))) : Go p e below G (T.setTop (mkF m pc Ls st)) := by
  obtain ⟨a, T', h', k1, b, kb, X', e', E, hS', hk', hZ', ho', r1, r2, r3, r4, -, -, -, r5, q⟩ := ldcSVL X hx hZ hown w wS eT hS hk N hkeep (Ts := []) ⟨#[], by rw [hI]; simp, fun q hq => by simp at hq⟩ (by simp) hh hcw ht hz hlz (g := mkF m pc Ls st) rfl (hb hby hd) hnn hbig hc hl
  exact Go.step q (K a T' h' k1 b kb X' e' E hS' hk' hZ' ho' r1 r2 r3 r4 r5)
theorem g_ldcAgain (X : Stand p l e R (s.setVm vm0) m args below meth c T locs k n) (hx : p.tables.exec = Jvm.exec) (hby : c.code = code) (hZ : Z.Warmed39 (s.setVm vm0).vm) {own : String} (hown : (s.setVm vm0).vm.findClass own = some m.cls) {text : String} {index : Nat} (w : (Cond.stringLink own index text).before a0 Z = true) {a : Addr} (L : Lit (s.setVm vm0) own index a) (hd : decode code pc = .ok (.ldc index, 2)) (K : Go p e below G (T.setTop (mkF m (pc + 2) Ls (.ref a :: st)))) : Go p e below G (T.setTop (mkF m pc Ls st)) := Go.step (ldcAgain X hx hZ hown w L (g := mkF m pc Ls st) rfl (hb hby hd)) K
theorem backW {y : MethodName} {bytes : ByteArray} {maxL : Nat} {ret : Option FieldType} {rm : Room} {len W : Nat} {as' : Array Value} {Q : Option Value → Heap → List Loc → Prop} {PV : Vm → Prop}
    (hM : MetFree l y (head1 [Cond.code y bytes maxL ret] rm) (fun a U => a = as' ∧ PV U.vm ∧ U.heap = h) (fun _ _ _ _ _ => True) (fun _ U o U' => RetW U Q rm.cells rm.slots U' o))
    (hZ : Z.Warmed39 s.vm) (hPV : ∀ vm, s.WarmedH vm → PV vm) (wc : (Cond.code y bytes maxL ret).before a0 Z = true) (wz : (Cond.initialized y.cls).before a0 Z = true) (hf : rm.frames + 1 ≤ R.frames) (hl : W + (maxL + 11) + rm.locals ≤ R.locals) :
    BackS l R p e below s args y len W (fun A a => a = as' ∧ A.U.heap = h ∧ A.cells + rm.cells ≤ R.cells ∧ A.slots + rm.slots ≤ R.slots)
      (fun A _ v B => ∃ L, Q v B.U.heap L ∧ B.locs = A.locs ++ L ∧ B.cells = A.cells + rm.cells ∧ B.slots = A.slots + rm.slots) :=
  BackS.of_freeW (bytes := bytes) (maxL := maxL) (ret := ret) (E := fun _ _ o t L k n => k = rm.cells ∧ n = rm.slots ∧ ∃ v, o = .returned v ∧ Q v t.heap L) hM hf hl
    (fun m meth c A a Y hp => have hU : Z.Warmed39 A.U.vm := wtrans hZ Y.warmed
      ⟨by show (Cond.and _ .tt).before a A.U = true; rw [Cond.before_and, mv hU wc]; rfl, mv hU wc, mv hU wz, hp.2.2.1, hp.2.2.2⟩)
    (fun m meth c A a g mk Y hp => ⟨hp.1, hPV _ Y.warmed, hp.2.1⟩) (fun _ _ _ _ _ _ _ _ _ => trivial)
    (fun _ _ _ _ ⟨v, L, h1, h2, h3⟩ => ⟨L, _, _, h3, rfl, rfl, v, h1, h2⟩)
    (fun m meth c A a g mk v t L k n Y hp _ _ ⟨e1, e2, v', e3, e4⟩ => by cases e3; subst e1 e2; exact ⟨L, e4, rfl, rfl, rfl⟩)
theorem g_staticW (X : Stand p l e R (s.setVm vm0) m args below meth c T locs k n) (hx : p.tables.exec = Jvm.exec) (hby : c.code = code) (hZ : Z.Warmed39 (s.setVm vm0).vm) {own : String} (hown : (s.setVm vm0).vm.findClass own = some m.cls) {index : Nat} {y : MethodName} {bytes : ByteArray} {maxL : Nat} {ret : Option FieldType} {rm : Room} {as' : Array Value} {Q : Option Value → Heap → List Loc → Prop} {PV : Vm → Prop} (hM : MetFree l y (head1 [Cond.code y bytes maxL ret] rm) (fun a U => a = as' ∧ PV U.vm ∧ U.heap = h) (fun _ _ _ _ _ => True) (fun _ U o U' => RetW U Q rm.cells rm.slots U' o)) (hPV : ∀ vm, (s.setVm vm0).WarmedH vm → PV vm) (hS : s.Since vm0 k0) (hkk : k0 ≤ h.size) (wl : (Cond.methodLink own index y).before a0 Z = true) (ws : (Cond.static y).before a0 Z = true) (wz : (Cond.initialized y.cls).before a0 Z = true) (wc : (Cond.code y bytes maxL ret).before a0 Z = true) (hy : y.cls ≠ "java/lang/invoke/MethodHandle" ∧ y.cls ≠ "java/lang/invoke/VarHandle") (eT : T.heap = h) (hsize : Ls.size = c.maxLocals) (argsL : List Value) {rest : List Value} (hlen : ∀ sig, parseMethodDescriptor y.desc = some sig → argsL.length = sig.parameters.length) (has : argsL.toArray = as') (hst : st = argsL.reverse ++ rest) (hf : rm.frames + 1 ≤ R.frames) (hl : (rest.map fun v => v.category).sum + (maxL + 11) + rm.locals ≤ R.locals) (hc : k + rm.cells ≤ R.cells) (hs : n + rm.slots ≤ R.slots) (hd : decode code pc = .ok (.invokestatic index, 3)) (K : ∀ v T' L, Stand p l e R (s.setVm T'.vm) m args below meth c T' (locs ++ L) (k + rm.cells) (n + rm.slots) → s.Since T'.vm T'.heap.size → Z.Warmed39 (s.setVm T'.vm).vm → (s.setVm T'.vm).vm.findClass own = some m.cls → Q v T'.heap L → Go p e below G (T'.setTop (mkF m (pc + 3) Ls (v.toList ++ rest)))) : Go p e below G (T.setTop (mkF m pc Ls st)) := by
  obtain ⟨v, _, ⟨T', L', k', n'⟩, -, X', hs', hg', ⟨L, hq, l1, l2, l3⟩, q⟩ := callSS X hx (y := y) hown (mvT hZ wl) (mvT hZ ws) (mvT hZ wz) (mvT hZ wc) hy (backW (W := (rest.map fun v => v.category).sum) hM hZ hPV wc wz hf hl) (g := mkF m pc Ls st) rfl hsize (argsL := argsL) (rest := rest) hlen hst (by show 2 * 0 + _ ≤ _; omega) (hb hby hd) (fun _ _ => ⟨has, eT, hc, hs⟩)
  dsimp only [Pt.U, Pt.locs, Pt.cells, Pt.slots] at X' hs' hg' l1 l2 l3 q hq
  subst l1 l2 l3
  obtain ⟨X2, hS2, hZ2, ho2⟩ := rebS hS (Nat.le_trans hkk (by rw [← eT]; exact Nat.le_refl _)) X' hs' hg' hZ hown
  exact Go.step (fun t r => q.trans r) (K v T' L X2 hS2 hZ2 ho2 hq)
theorem g_specialW (X : Stand p l e R (s.setVm vm0) m args below meth c T locs k n) (hx : p.tables.exec = Jvm.exec) (hby : c.code = code) (hZ : Z.Warmed39 (s.setVm vm0).vm) {own : String} (hown : (s.setVm vm0).vm.findClass own = some m.cls) {index : Nat} {y : MethodName} {bytes : ByteArray} {maxL : Nat} {ret : Option FieldType} {rm : Room} {as' : Array Value} {Q : Option Value → Heap → List Loc → Prop} {PV : Vm → Prop} (hM : MetFree l y (head1 [Cond.code y bytes maxL ret] rm) (fun a U => a = as' ∧ PV U.vm ∧ U.heap = h) (fun _ _ _ _ _ => True) (fun _ U o U' => RetW U Q rm.cells rm.slots U' o)) (hPV : ∀ vm, (s.setVm vm0).WarmedH vm → PV vm) (hS : s.Since vm0 k0) (hkk : k0 ≤ h.size) (hy1 : y.name = "<init>") (hret : ret = none) (wl : (Cond.methodLink own index y).before a0 Z = true) (ws : (Cond.instanceMethod y).before a0 Z = true) (wz : (Cond.initialized y.cls).before a0 Z = true) (wc : (Cond.code y bytes maxL ret).before a0 Z = true) (hy : y.cls ≠ "java/lang/invoke/MethodHandle" ∧ y.cls ≠ "java/lang/invoke/VarHandle") (eT : T.heap = h) (hsize : Ls.size = c.maxLocals) {a : Addr} (argsL : List Value) {rest : List Value} (hlen : ∀ sig, parseMethodDescriptor y.desc = some sig → argsL.length = sig.parameters.length) (has : (.ref a :: argsL).toArray = as') (hst : st = argsL.reverse ++ .ref a :: rest) (hf : rm.frames + 1 ≤ R.frames) (hl : (rest.map fun v => v.category).sum + (maxL + 11) + rm.locals ≤ R.locals) (hc : k + rm.cells ≤ R.cells) (hs : n + rm.slots ≤ R.slots) (hd : decode code pc = .ok (.invokespecial index, 3)) (K : ∀ v T' L, Stand p l e R (s.setVm T'.vm) m args below meth c T' (locs ++ L) (k + rm.cells) (n + rm.slots) → s.Since T'.vm T'.heap.size → Z.Warmed39 (s.setVm T'.vm).vm → (s.setVm T'.vm).vm.findClass own = some m.cls → Q v T'.heap L → Go p e below G (T'.setTop (mkF m (pc + 3) Ls (v.toList ++ rest)))) : Go p e below G (T.setTop (mkF m pc Ls st)) := by
  subst hret
  obtain ⟨v, _, ⟨T', L', k', n'⟩, -, X', hs', hg', ⟨L, hq, l1, l2, l3⟩, q⟩ := X.specialBackS hx (y := y) hy1 hown (mvT hZ wl) (mvT hZ ws) (mvT hZ wc) hy (backW (W := (rest.map fun v => v.category).sum) hM hZ hPV wc wz hf hl) (g := mkF m pc Ls st) rfl hsize (Steps.refl _) (a := a) (argsL := argsL) (rest := rest) hlen hst (by show 2 * 0 + _ ≤ _; omega) (hb hby hd) (fun _ _ => ⟨has, eT, hc, hs⟩)
  dsimp only [Pt.U, Pt.locs, Pt.cells, Pt.slots] at X' hs' hg' l1 l2 l3 q hq
  subst l1 l2 l3
  obtain ⟨X2, hS2, hZ2, ho2⟩ := rebS hS (Nat.le_trans hkk (by rw [← eT]; exact Nat.le_refl _)) X' hs' hg' hZ hown
  exact Go.step (fun t r => q.trans r) (K v T' L X2 hS2 hZ2 ho2 hq)
theorem g_virtualW (X : Stand p l e R (s.setVm vm0) m args below meth c T locs k n) (hx : p.tables.exec = Jvm.exec) (hby : c.code = code) (hZ : Z.Warmed39 (s.setVm vm0).vm) {own : String} (hown : (s.setVm vm0).vm.findClass own = some m.cls) {C : String} {index : Nat} {z : MethodName} {y : MethodName} {bytes : ByteArray} {maxL : Nat} {ret : Option FieldType} {rm : Room} {as' : Array Value} {Q : Option Value → Heap → List Loc → Prop} {PV : Vm → Prop} (hM : MetFree l y (head1 [Cond.code y bytes maxL ret] rm) (fun a U => a = as' ∧ PV U.vm ∧ U.heap = h) (fun _ _ _ _ _ => True) (fun _ U o U' => RetW U Q rm.cells rm.slots U' o)) (hPV : ∀ vm, (s.setVm vm0).WarmedH vm → PV vm) (hS : s.Since vm0 k0) (hkk : k0 ≤ h.size) (wl : (Cond.methodLink own index z).before a0 Z = true) (wd : (Cond.declares z).before a0 Z = true) (hnf : NotFace (s.setVm vm0) z) (wsel : (Cond.selects C z y).before a0 Z = true) (ws : (Cond.instanceMethod y).before a0 Z = true) (wz : (Cond.initialized y.cls).before a0 Z = true) (wc : (Cond.code y bytes maxL ret).before a0 Z = true) (hy : z.cls ≠ "java/lang/invoke/MethodHandle" ∧ z.cls ≠ "java/lang/invoke/VarHandle") (eT : T.heap = h) {a : Addr} (E : Exa Z h a C) (hsize : Ls.size = c.maxLocals) (argsL : List Value) {rest : List Value} (hlen : ∀ sig, parseMethodDescriptor z.desc = some sig → argsL.length = sig.parameters.length) (has : (.ref a :: argsL).toArray = as') (hst : st = argsL.reverse ++ .ref a :: rest) (hf : rm.frames + 1 ≤ R.frames) (hl : (rest.map fun v => v.category).sum + (maxL + 11) + rm.locals ≤ R.locals) (hc : k + rm.cells ≤ R.cells) (hs : n + rm.slots ≤ R.slots) (hd : decode code pc = .ok (.invokevirtual index, 3)) (K : ∀ v T' L, Stand p l e R (s.setVm T'.vm) m args below meth c T' (locs ++ L) (k + rm.cells) (n + rm.slots) → s.Since T'.vm T'.heap.size → Z.Warmed39 (s.setVm T'.vm).vm → (s.setVm T'.vm).vm.findClass own = some m.cls → Q v T'.heap L → Go p e below G (T'.setTop (mkF m (pc + 3) Ls (v.toList ++ rest)))) : Go p e below G (T.setTop (mkF m pc Ls st)) := by
  obtain ⟨cq, kq, qa, qb, qc⟩ := isOf hZ eT E
  obtain ⟨v, _, ⟨T', L', k', n'⟩, -, X', hs', hg', ⟨L, hq, l1, l2, l3⟩, q⟩ := X.virtualBackS hx (y := z) (z := y) hown (mvT hZ wl) (mvT hZ wd) hnf (mvT hZ wsel) (mvT hZ ws) hy (backW (W := (rest.map fun v => v.category).sum) hM hZ hPV wc wz hf hl) qa qc (g := mkF m pc Ls st) rfl hsize (Steps.refl _) (argsL := argsL) (rest := rest) hlen hst (by show 2 * 0 + _ ≤ _; omega) (hb hby hd) (fun _ _ => ⟨has, eT, hc, hs⟩)
  dsimp only [Pt.U, Pt.locs, Pt.cells, Pt.slots] at X' hs' hg' l1 l2 l3 q hq
  subst l1 l2 l3
  obtain ⟨X2, hS2, hZ2, ho2⟩ := rebS hS (Nat.le_trans hkk (by rw [← eT]; exact Nat.le_refl _)) X' hs' hg' hZ hown
  exact Go.step (fun t r => q.trans r) (K v T' L X2 hS2 hZ2 ho2 hq)
end
end Jvm.Own

namespace Jvm.Pilot.@@N@@
open Jvm Jvm.ClassFile Sem Op Lib Jvm.Free Jvm.Stand Jvm.LawKit Jvm.RoadKit Bundle Jvm.Own Jvm.Pilot.@@N@@.Jvm.D


theorem own_l31 (y : Int64) : ¬ (y &&& (2147483647 : Int64)).toInt32 < 0 := by
  have h1 := c_maskL y 2147483647 31 (by decide) (by decide)
  have h2 := c_l2i (y &&& 2147483647)
  have h0 := rng32 (y &&& 2147483647).toInt32
  have e : (0 : Int32).toInt = 0 := rfl
  rw [Int32.lt_iff_toInt_lt, e]; omega
def own_max (a b : Int32) : Int32 := if a < b then b else a
theorem own_max1 (x : Int32) : ¬ own_max 1 x < 1 := by
  unfold own_max
  split
  · rename_i h; rw [Int32.lt_iff_toInt_lt] at h ⊢; omega
  · decide
def own_bit (s k : Int32) : Int32 := if ((s.toUInt32 >>> (k &&& 31).toUInt32).toInt32) &&& 1 = 0 then 0 else 1
def own_ch (y : Int64) (k : Int32) : Int32 := nar .char (((y.toUInt64 >>> (k &&& 0x3f).toInt64.toUInt64).toInt64) &&& (255 : Int64)).toInt32.toUInt32.toUInt16.toUInt32.toInt32
theorem own_chr (y : Int64) (k : Int32) : 0 ≤ (own_ch y k).toInt ∧ (own_ch y k).toInt ≤ 255 := by
  unfold own_ch
  generalize ((y.toUInt64 >>> (k &&& 0x3f).toInt64.toUInt64).toInt64) = z
  have h1 := c_maskL z 255 8 (by decide) (by decide)
  have h2 := c_l2i (z &&& 255)
  have h0 := rng32 (z &&& 255).toInt32
  have h3 := c_i2c (z &&& 255).toInt32
  have h4 := c_i2c ((z &&& 255).toInt32.toUInt32.toUInt16.toUInt32.toInt32)
  show 0 ≤ (((z &&& 255).toInt32.toUInt32.toUInt16.toUInt32.toInt32).toUInt32.toUInt16.toUInt32.toInt32).toInt ∧ (((z &&& 255).toInt32.toUInt32.toUInt16.toUInt32.toInt32).toUInt32.toUInt16.toUInt32.toInt32).toInt ≤ 255
  omega
theorem own_c255 {c : Int32} (h : 0 ≤ c.toInt ∧ c.toInt ≤ 255) : ¬ (255 : Int32) < c := by
  have e : (255 : Int32).toInt = 255 := rfl
  rw [Int32.lt_iff_toInt_lt, e]; omega
theorem own_beq {a b : Int32} (ha : 0 ≤ a.toInt ∧ a.toInt ≤ 255) (hb : 0 ≤ b.toInt ∧ b.toInt ≤ 255) : (nar .byte a.toInt8.toInt32 = nar .byte b.toInt8.toInt32) = (a = b) := by
  have h1 := c_i2b a
  have h2 := c_i2b b
  have h3 := c_i2b a.toInt8.toInt32
  have h4 := c_i2b b.toInt8.toInt32
  refine propext ⟨fun q => Int32.toInt_inj.mp ?_, fun q => by rw [q]⟩
  have q' : a.toInt8.toInt32.toInt8.toInt32.toInt = b.toInt8.toInt32.toInt8.toInt32.toInt := congrArg Int32.toInt q
  omega
theorem own_m1 {c : Int32} (h : ¬ c < 0) : ¬ c = (-1 : Int32) := fun q => h (by rw [q]; decide)
theorem own_m1' {c : Int32} (h : ¬ c < 0) : ¬ (-1 : Int32) = c := fun q => h (by rw [← q]; decide)
theorem own_notIn {Z : State} {as : Array Value} {C S K : String} {n : Nat} (w : (Jvm.Cond.superclass C S).before as Z = true) (wr : (Jvm.Cond.noSuperclass S).before as Z = true) (wi : (Jvm.Cond.instantiable K n).before as Z = true) (hn : C ≠ K) (hs : S ≠ K) : ∃ c t, Z.vm.findClass C = some c ∧ Z.vm.findClass K = some t ∧ Z.vm.assignable c t = false := by
  obtain ⟨t, kt, g0, g2, g3, g4, -⟩ := Cond.instantiable_spec wi
  obtain ⟨cs, ks, s1, s2, s3, -, -⟩ := Cond.noSuperclass_spec wr
  have nes := ids_ne s1 g0 hs
  have nsS : NS Z S K := ⟨cs, t, s1, g0, fun fuel => by
    cases fuel with
    | zero => rfl
    | succ f => simp [Vm.isSubclassAux, nes, s2, s3]⟩
  obtain ⟨c, t', h0, g0', n3⟩ := NS.step w nsS hn
  cases g0.symm.trans g0'
  obtain ⟨p, k, kp, h1, h2, h3, h4, h5, -, h7⟩ := Cond.superclass_spec h0 w
  have ne := ids_ne h0 g0 hn
  refine ⟨c, t, h0, g0, ?_⟩
  have gi : kt.isInterface = false := (Bool.or_eq_false_iff.mp g4).1
  show Z.vm.assignableAux (255 + 1) c t = false
  simp [Vm.assignableAux, ne, h2, g2, h5, g3, gi, Vm.isSubclass, n3]

def own_PB (Z : State) (h : Heap) (p : Addr) (pos ch : Int32) (t c : Addr) (cp : Int32) (k d : Addr) : Prop := Exa Z h p "com/example/refloom/refloom/model/Problem" ∧ Fld Z h p "com/example/refloom/refloom/model/Problem" "position" "I" (.int pos) ∧ Fld Z h p "com/example/refloom/refloom/model/Problem" "childPosition" "I" (.int ch) ∧ Fld Z h p "com/example/refloom/refloom/model/Problem" "table" "Ljava/lang/String;" (.ref t) ∧ Fld Z h p "com/example/refloom/refloom/model/Problem" "column" "Ljava/lang/String;" (.ref c) ∧ Fld Z h p "com/example/refloom/refloom/model/Problem" "columnPosition" "I" (.int cp) ∧ Fld Z h p "com/example/refloom/refloom/model/Problem" "kind" "Ljava/lang/String;" (.ref k) ∧ Fld Z h p "com/example/refloom/refloom/model/Problem" "detail" "Ljava/lang/String;" (.ref d)

theorem d2_0 : decode jdk_29_method_65_code 0 = .ok (.iload_n 0, 1) := by decide +kernel
theorem d2_1 : decode jdk_29_method_65_code 1 = .ok (.iload_n 1, 1) := by decide +kernel
theorem d2_2 : decode jdk_29_method_65_code 2 = .ok (.if_icmp .lt 7, 3) := by decide +kernel
theorem d2_9 : decode jdk_29_method_65_code 9 = .ok (.iload_n 1, 1) := by decide +kernel
theorem d2_10 : decode jdk_29_method_65_code 10 = .ok (.ireturn, 1) := by decide +kernel
theorem d2_5 : decode jdk_29_method_65_code 5 = .ok (.iload_n 0, 1) := by decide +kernel
theorem d2_6 : decode jdk_29_method_65_code 6 = .ok (.goto 4, 3) := by decide +kernel
def Q_mmax (Z : State) (a : Int32) (b : Int32) (h0 : Heap) (n0 : Nat) (v : Option Value) (h : Heap) (L : List Loc) : Prop := v = some (.int (own_max a b)) ∧ Fr n0 L ∧ h = h0
set_option maxRecDepth 65536 in
set_option maxHeartbeats 40000000 in
theorem rm_mmax (l : Launch) (Z : State) (a0 : Array Value) (hw : ∀ d ∈ tables_1, d.before a0 Z = true) (ws : List Jvm.Cond) (a : Int32) (b : Int32) (h0 : Heap) (n0 : Nat) (Z0 : n0 ≤ h0.size) :
    MetFree l (⟨"java/lang/Math", "max", "(II)I"⟩ : MethodName) (head1 (Jvm.Cond.code (⟨"java/lang/Math", "max", "(II)I"⟩ : MethodName) jdk_29_method_65_code 2 (some .int) :: ws) ({ frames := 0, cells := 0, slots := 0, locals := 0 } : Room)) (fun aa_ U => aa_ = #[(.int a), (.int b)] ∧ Z.Warmed39 U.vm ∧ U.heap = h0) (fun _ _ _ _ _ => True) (fun _ U o_ U' => RetG U (Q_mmax Z a b h0 n0) 0 0 U' o_) := by
  refine MetFree.of_bodySF (Jvm.Free.JP.mathPlain rfl (by decide +kernel)) hisR ?_
  intro p e s m args below meth c_ s₁ Bd hml0 hP hK
  obtain ⟨rfl, hZ, hh⟩ := hP
  have hx := Bd.exec
  have hby := Bd.bytes
  have hml : c_.maxLocals = 2 := hml0
  have hown : s.vm.findClass "java/lang/Math" = some m.cls := findClass_of_methodNamed Bd.named
  have hnm := (name_of_methodNamed Bd.named Bd.method).1
  have X0 : Stand p l e ({ frames := 0, cells := 0, slots := 0, locals := 0 } : Room) s m #[(.int a), (.int b)] below meth c_ s₁ [] 0 0 := Stand.of_body Bd
  have e0 : s₁.heap = h0 := by rw [← hh, Bd.state]; rfl
  have N0 := Fr.nil n0
  show Go p e below (RetG s (Q_mmax Z a b h0 n0) 0 0) (s₁.setTop (entryFrame m #[(.int a), (.int b)] 2))
  rw [show entryFrame m #[(.int a), (.int b)] 2 = mkF m 0 #[.val (.int a), .val (.int b)] [] from by first | (simp [entryFrame, mkF, argsToLocals, Value.category]; done) | rfl]
  refine g_iloadN X0 hx hby d2_0 rfl ?_
  refine g_iloadN X0 hx hby d2_1 rfl ?_
  by_cases hc2_1 : a < b
  · skip
    refine g_icY X0 hx hby 9 d2_2 (tlt hc2_1).1 (by decide) (by decide) ?_
    refine g_iloadN X0 hx hby d2_9 rfl ?_
    refine g_iret X0 hx hby Bd.returns Bd.notSynchronized d2_10 e0 (by decide) (by decide) ?_
    show (Q_mmax Z a b h0 n0) (some (.int b)) _ _
    exact ⟨by simp [own_max, hc2_1], N0, rfl⟩
  · skip
    refine g_icN X0 hx hby d2_2 (flt hc2_1).1 ?_
    refine g_iloadN X0 hx hby d2_5 rfl ?_
    refine g_goto X0 hx hby 10 d2_6 (by decide) (by decide) ?_
    refine g_iret X0 hx hby Bd.returns Bd.notSynchronized d2_10 e0 (by decide) (by decide) ?_
    show (Q_mmax Z a b h0 n0) (some (.int a)) _ _
    exact ⟨by simp [own_max, hc2_1], N0, rfl⟩

theorem d1_0 : decode method_3_code 0 = .ok (.iload_n 0, 1) := by decide +kernel
theorem d1_1 : decode method_3_code 1 = .ok (.iload_n 1, 1) := by decide +kernel
theorem d1_2 : decode method_3_code 2 = .ok (.iushr, 1) := by decide +kernel
theorem d1_3 : decode method_3_code 3 = .ok (.iconst 1, 1) := by decide +kernel
theorem d1_4 : decode method_3_code 4 = .ok (.iand, 1) := by decide +kernel
theorem d1_5 : decode method_3_code 5 = .ok (.ifCond .eq 7, 3) := by decide +kernel
theorem d1_12 : decode method_3_code 12 = .ok (.iconst 0, 1) := by decide +kernel
theorem d1_13 : decode method_3_code 13 = .ok (.ireturn, 1) := by decide +kernel
theorem d1_8 : decode method_3_code 8 = .ok (.iconst 1, 1) := by decide +kernel
theorem d1_9 : decode method_3_code 9 = .ok (.goto 4, 3) := by decide +kernel
theorem own_pn0 : plainName "com/example/refloom/refloom/model/ProblemEqualsPinLaw" = true := by first | (simp [plainName, overriddenIn]; done) | decide +kernel
def Q_bit (Z : State) (a : Int32) (b : Int32) (h0 : Heap) (n0 : Nat) (v : Option Value) (h : Heap) (L : List Loc) : Prop := v = some (.int (own_bit a b)) ∧ Fr n0 L ∧ h = h0
set_option maxRecDepth 65536 in
set_option maxHeartbeats 40000000 in
theorem rm_bit (l : Launch) (Z : State) (a0 : Array Value) (hw : ∀ d ∈ tables_1, d.before a0 Z = true) (ws : List Jvm.Cond) (a : Int32) (b : Int32) (h0 : Heap) (n0 : Nat) (Z0 : n0 ≤ h0.size) :
    MetFree l (⟨"com/example/refloom/refloom/model/ProblemEqualsPinLaw", "bit", "(II)Z"⟩ : MethodName) (head1 (Jvm.Cond.code (⟨"com/example/refloom/refloom/model/ProblemEqualsPinLaw", "bit", "(II)Z"⟩ : MethodName) method_3_code 2 (some .boolean) :: ws) ({ frames := 0, cells := 0, slots := 0, locals := 0 } : Room)) (fun aa_ U => aa_ = #[(.int a), (.int b)] ∧ Z.Warmed39 U.vm ∧ U.heap = h0) (fun _ _ _ _ _ => True) (fun _ U o_ U' => RetG U (Q_bit Z a b h0 n0) 0 0 U' o_) := by
  refine MetFree.of_bodySF (plainFor_of_name own_pn0) hisR ?_
  intro p e s m args below meth c_ s₁ Bd hml0 hP hK
  obtain ⟨rfl, hZ, hh⟩ := hP
  have hx := Bd.exec
  have hby := Bd.bytes
  have hml : c_.maxLocals = 2 := hml0
  have hown : s.vm.findClass "com/example/refloom/refloom/model/ProblemEqualsPinLaw" = some m.cls := findClass_of_methodNamed Bd.named
  have hnm := (name_of_methodNamed Bd.named Bd.method).1
  have X0 : Stand p l e ({ frames := 0, cells := 0, slots := 0, locals := 0 } : Room) s m #[(.int a), (.int b)] below meth c_ s₁ [] 0 0 := Stand.of_body Bd
  have e0 : s₁.heap = h0 := by rw [← hh, Bd.state]; rfl
  have N0 := Fr.nil n0
  show Go p e below (RetG s (Q_bit Z a b h0 n0) 0 0) (s₁.setTop (entryFrame m #[(.int a), (.int b)] 2))
  rw [show entryFrame m #[(.int a), (.int b)] 2 = mkF m 0 #[.val (.int a), .val (.int b)] [] from by first | (simp [entryFrame, mkF, argsToLocals, Value.category]; done) | rfl]
  refine g_iloadN X0 hx hby d1_0 rfl ?_
  refine g_iloadN X0 hx hby d1_1 rfl ?_
  refine g_iushr X0 hx hby d1_2 ?_
  refine g_iconst X0 hx hby (1 : Int32) d1_3 rfl ?_
  refine g_iand X0 hx hby d1_4 ?_
  by_cases hc5_1 : (((a.toUInt32 >>> (b &&& 31).toUInt32).toInt32) &&& (1 : Int32)) = (0 : Int32)
  · skip
    refine g_ifY X0 hx hby 12 d1_5 (teq hc5_1).1 (by decide) (by decide) ?_
    refine g_iconst X0 hx hby (0 : Int32) d1_12 rfl ?_
    refine g_nret X0 hx hby (t := .boolean) (by simp) Bd.returns Bd.notSynchronized d1_13 e0 (by decide) (by decide) ?_
    show (Q_bit Z a b h0 n0) (some (.int (0 : Int32))) _ _
    exact ⟨by rw [own_bit, if_pos hc5_1], N0, rfl⟩
  · skip
    refine g_ifN X0 hx hby d1_5 (feq hc5_1).1 ?_
    refine g_iconst X0 hx hby (1 : Int32) d1_8 rfl ?_
    refine g_goto X0 hx hby 13 d1_9 (by decide) (by decide) ?_
    refine g_nret X0 hx hby (t := .boolean) (by simp) Bd.returns Bd.notSynchronized d1_13 e0 (by decide) (by decide) ?_
    show (Q_bit Z a b h0 n0) (some (.int (1 : Int32))) _ _
    exact ⟨by rw [own_bit, if_neg hc5_1], N0, rfl⟩

theorem d3_0 : decode method_2_code 0 = .ok (.lload_n 0, 1) := by decide +kernel
theorem d3_1 : decode method_2_code 1 = .ok (.iload_n 2, 1) := by decide +kernel
theorem d3_2 : decode method_2_code 2 = .ok (.lushr, 1) := by decide +kernel
theorem d3_3 : decode method_2_code 3 = .ok (.ldc2_w 7, 3) := by decide +kernel
theorem d3_6 : decode method_2_code 6 = .ok (.land, 1) := by decide +kernel
theorem d3_7 : decode method_2_code 7 = .ok (.l2i, 1) := by decide +kernel
theorem d3_8 : decode method_2_code 8 = .ok (.i2c, 1) := by decide +kernel
theorem d3_9 : decode method_2_code 9 = .ok (.ireturn, 1) := by decide +kernel
def Q_chh (Z : State) (y : Int64) (b : Int32) (h0 : Heap) (n0 : Nat) (v : Option Value) (h : Heap) (L : List Loc) : Prop := v = some (.int (own_ch y b)) ∧ Fr n0 L ∧ h = h0
set_option maxRecDepth 65536 in
set_option maxHeartbeats 40000000 in
theorem rm_chh (l : Launch) (Z : State) (a0 : Array Value) (hw : ∀ d ∈ tables_1, d.before a0 Z = true) (ws : List Jvm.Cond) (y : Int64) (b : Int32) (h0 : Heap) (n0 : Nat) (Z0 : n0 ≤ h0.size) :
    MetFree l (⟨"com/example/refloom/refloom/model/ProblemEqualsPinLaw", "ch", "(JI)C"⟩ : MethodName) (head1 (Jvm.Cond.code (⟨"com/example/refloom/refloom/model/ProblemEqualsPinLaw", "ch", "(JI)C"⟩ : MethodName) method_2_code 3 (some .char) :: ws) ({ frames := 0, cells := 0, slots := 0, locals := 0 } : Room)) (fun aa_ U => aa_ = #[(.long y), (.int b)] ∧ Z.Warmed39 U.vm ∧ U.heap = h0) (fun _ _ _ _ _ => True) (fun _ U o_ U' => RetG U (Q_chh Z y b h0 n0) 0 0 U' o_) := by
  refine MetFree.of_bodySF (plainFor_of_name own_pn0) hisR ?_
  intro p e s m args below meth c_ s₁ Bd hml0 hP hK
  obtain ⟨rfl, hZ, hh⟩ := hP
  have hx := Bd.exec
  have hby := Bd.bytes
  have hml : c_.maxLocals = 3 := hml0
  have hown : s.vm.findClass "com/example/refloom/refloom/model/ProblemEqualsPinLaw" = some m.cls := findClass_of_methodNamed Bd.named
  have hnm := (name_of_methodNamed Bd.named Bd.method).1
  have X0 : Stand p l e ({ frames := 0, cells := 0, slots := 0, locals := 0 } : Room) s m #[(.long y), (.int b)] below meth c_ s₁ [] 0 0 := Stand.of_body Bd
  have e0 : s₁.heap = h0 := by rw [← hh, Bd.state]; rfl
  have N0 := Fr.nil n0
  have w12_ := hw _ (List.mem_of_getElem? (i := 12) rfl)
  show Go p e below (RetG s (Q_chh Z y b h0 n0) 0 0) (s₁.setTop (entryFrame m #[(.long y), (.int b)] 3))
  rw [show entryFrame m #[(.long y), (.int b)] 3 = mkF m 0 #[.val (.long y), .second, .val (.int b)] [] from by first | (simp [entryFrame, mkF, argsToLocals, Value.category]; done) | rfl]
  refine g_lloadN X0 hx hby d3_0 rfl ?_
  refine g_iloadN X0 hx hby d3_1 rfl ?_
  refine g_lushr X0 hx hby d3_2 ?_
  refine g_ldc2J X0 hx hby hZ hown w12_ d3_3 ?_
  refine g_land X0 hx hby d3_6 ?_
  refine g_l2i X0 hx hby d3_7 ?_
  refine g_i2c X0 hx hby d3_8 ?_
  refine g_nret X0 hx hby (t := .char) (by simp) Bd.returns Bd.notSynchronized d3_9 e0 (by decide) (by decide) ?_
  show (Q_chh Z y b h0 n0) (some (.int (nar .char (((((y.toUInt64 >>> (b &&& 0x3f).toInt64.toUInt64).toInt64) &&& (255 : Int64)).toInt32).toUInt32.toUInt16.toUInt32.toInt32)))) _ _
  exact ⟨by simp [own_ch], N0, rfl⟩

theorem d12_0 : decode prog_41_method_12_code 0 = .ok (.aload_n 1, 1) := by decide +kernel
theorem d12_1 : decode prog_41_method_12_code 1 = .ok (.instanceof 2, 3) := by decide +kernel
theorem d12_4 : decode prog_41_method_12_code 4 = .ok (.ifCond .eq 101, 3) := by decide +kernel
theorem d12_105 : decode prog_41_method_12_code 105 = .ok (.iconst 0, 1) := by decide +kernel
theorem d12_106 : decode prog_41_method_12_code 106 = .ok (.ireturn, 1) := by decide +kernel
theorem own_pn1 : plainName "com/example/refloom/refloom/model/Problem" = true := by first | (simp [plainName, overriddenIn]; done) | decide +kernel
def Q_peqn (Z : State) (p0 : Addr) (h0 : Heap) (n0 : Nat) (v : Option Value) (h : Heap) (L : List Loc) : Prop := v = some (.int (0 : Int32)) ∧ Fr n0 L ∧ h = h0
set_option maxRecDepth 65536 in
set_option maxHeartbeats 40000000 in
theorem rm_peqn (l : Launch) (Z : State) (a0 : Array Value) (hw : ∀ d ∈ tables_1, d.before a0 Z = true) (ws : List Jvm.Cond) (p0 : Addr) (h0 : Heap) (n0 : Nat) (Z0 : n0 ≤ h0.size) :
    MetFree l (⟨"com/example/refloom/refloom/model/Problem", "equals", "(Ljava/lang/Object;)Z"⟩ : MethodName) (head1 (Jvm.Cond.code (⟨"com/example/refloom/refloom/model/Problem", "equals", "(Ljava/lang/Object;)Z"⟩ : MethodName) prog_41_method_12_code 3 (some .boolean) :: ws) ({ frames := 0, cells := 0, slots := 0, locals := 0 } : Room)) (fun aa_ U => aa_ = #[(.ref p0), .null] ∧ Z.Warmed39 U.vm ∧ U.heap = h0) (fun _ _ _ _ _ => True) (fun _ U o_ U' => RetG U (Q_peqn Z p0 h0 n0) 0 0 U' o_) := by
  refine MetFree.of_bodySF (plainFor_of_name own_pn1) hisR ?_
  intro p e s m args below meth c_ s₁ Bd hml0 hP hK
  obtain ⟨rfl, hZ, hh⟩ := hP
  have hx := Bd.exec
  have hby := Bd.bytes
  have hml : c_.maxLocals = 3 := hml0
  have hown : s.vm.findClass "com/example/refloom/refloom/model/Problem" = some m.cls := findClass_of_methodNamed Bd.named
  have hnm := (name_of_methodNamed Bd.named Bd.method).1
  have X0 : Stand p l e ({ frames := 0, cells := 0, slots := 0, locals := 0 } : Room) s m #[(.ref p0), .null] below meth c_ s₁ [] 0 0 := Stand.of_body Bd
  have e0 : s₁.heap = h0 := by rw [← hh, Bd.state]; rfl
  have N0 := Fr.nil n0
  have w79_ := hw _ (List.mem_of_getElem? (i := 79) rfl)
  show Go p e below (RetG s (Q_peqn Z p0 h0 n0) 0 0) (s₁.setTop (entryFrame m #[(.ref p0), .null] 3))
  rw [show entryFrame m #[(.ref p0), .null] 3 = mkF m 0 #[.val (.ref p0), .val .null, .unset] [] from by first | (simp [entryFrame, mkF, argsToLocals, Value.category]; done) | rfl]
  refine g_aloadN X0 hx hby d12_0 rfl rfl ?_
  refine g_instanceofNull X0 hx hby d12_1 ?_
  refine g_ifY X0 hx hby 105 d12_4 (teq (by decide : (0 : Int32) = (0 : Int32))).1 (by decide) (by decide) ?_
  refine g_iconst X0 hx hby (0 : Int32) d12_105 rfl ?_
  refine g_nret X0 hx hby (t := .boolean) (by simp) Bd.returns Bd.notSynchronized d12_106 e0 (by decide) (by decide) ?_
  show (Q_peqn Z p0 h0 n0) (some (.int (0 : Int32))) _ _
  exact ⟨rfl, N0, rfl⟩

def Q_peqs (Z : State) (p0 : Addr) (o : Addr) (h0 : Heap) (n0 : Nat) (v : Option Value) (h : Heap) (L : List Loc) : Prop := v = some (.int (0 : Int32)) ∧ Fr n0 L ∧ h = h0
set_option maxRecDepth 65536 in
set_option maxHeartbeats 40000000 in
theorem rm_peqs (l : Launch) (Z : State) (a0 : Array Value) (hw : ∀ d ∈ tables_1, d.before a0 Z = true) (ws : List Jvm.Cond) (p0 : Addr) (o : Addr) (h0 : Heap) (n0 : Nat) (Z0 : n0 ≤ h0.size) (Eo : Exa Z h0 o "java/lang/String") :
    MetFree l (⟨"com/example/refloom/refloom/model/Problem", "equals", "(Ljava/lang/Object;)Z"⟩ : MethodName) (head1 (Jvm.Cond.code (⟨"com/example/refloom/refloom/model/Problem", "equals", "(Ljava/lang/Object;)Z"⟩ : MethodName) prog_41_method_12_code 3 (some .boolean) :: ws) ({ frames := 0, cells := 0, slots := 0, locals := 0 } : Room)) (fun aa_ U => aa_ = #[(.ref p0), (.ref o)] ∧ Z.Warmed39 U.vm ∧ U.heap = h0) (fun _ _ _ _ _ => True) (fun _ U o_ U' => RetG U (Q_peqs Z p0 o h0 n0) 0 0 U' o_) := by
  refine MetFree.of_bodySF (plainFor_of_name own_pn1) hisR ?_
  intro p e s m args below meth c_ s₁ Bd hml0 hP hK
  obtain ⟨rfl, hZ, hh⟩ := hP
  have hx := Bd.exec
  have hby := Bd.bytes
  have hml : c_.maxLocals = 3 := hml0
  have hown : s.vm.findClass "com/example/refloom/refloom/model/Problem" = some m.cls := findClass_of_methodNamed Bd.named
  have hnm := (name_of_methodNamed Bd.named Bd.method).1
  have X0 : Stand p l e ({ frames := 0, cells := 0, slots := 0, locals := 0 } : Room) s m #[(.ref p0), (.ref o)] below meth c_ s₁ [] 0 0 := Stand.of_body Bd
  have e0 : s₁.heap = h0 := by rw [← hh, Bd.state]; rfl
  have N0 := Fr.nil n0
  have w14_ := hw _ (List.mem_of_getElem? (i := 14) rfl)
  have w79_ := hw _ (List.mem_of_getElem? (i := 79) rfl)
  have w94_ := hw _ (List.mem_of_getElem? (i := 94) rfl)
  have w95_ := hw _ (List.mem_of_getElem? (i := 95) rfl)
  show Go p e below (RetG s (Q_peqs Z p0 o h0 n0) 0 0) (s₁.setTop (entryFrame m #[(.ref p0), (.ref o)] 3))
  rw [show entryFrame m #[(.ref p0), (.ref o)] 3 = mkF m 0 #[.val (.ref p0), .val (.ref o), .unset] [] from by first | (simp [entryFrame, mkF, argsToLocals, Value.category]; done) | rfl]
  refine g_aloadN X0 hx hby d12_0 rfl rfl ?_
  refine g_instNo X0 hx hby hZ hown w79_ e0 Eo (own_notIn w94_ w95_ w14_ (by decide) (by decide)) d12_1 (fun T1 X1 e1 => ?_)
  refine g_ifY X1 hx hby 105 d12_4 (teq (by decide : (0 : Int32) = (0 : Int32))).1 (by decide) (by decide) ?_
  refine g_iconst X1 hx hby (0 : Int32) d12_105 rfl ?_
  refine g_nret X1 hx hby (t := .boolean) (by simp) Bd.returns Bd.notSynchronized d12_106 e1 (by decide) (by decide) ?_
  show (Q_peqs Z p0 o h0 n0) (some (.int (0 : Int32))) _ _
  exact ⟨rfl, N0, rfl⟩

theorem d12_7 : decode prog_41_method_12_code 7 = .ok (.aload_n 1, 1) := by decide +kernel
theorem d12_8 : decode prog_41_method_12_code 8 = .ok (.checkcast 2, 3) := by decide +kernel
theorem d12_11 : decode prog_41_method_12_code 11 = .ok (.astore_n 2, 1) := by decide +kernel
theorem d12_12 : decode prog_41_method_12_code 12 = .ok (.aload_n 0, 1) := by decide +kernel
theorem d12_13 : decode prog_41_method_12_code 13 = .ok (.getfield 22, 3) := by decide +kernel
theorem d12_16 : decode prog_41_method_12_code 16 = .ok (.aload_n 2, 1) := by decide +kernel
theorem d12_17 : decode prog_41_method_12_code 17 = .ok (.getfield 22, 3) := by decide +kernel
theorem d12_20 : decode prog_41_method_12_code 20 = .ok (.if_icmp .ne 85, 3) := by decide +kernel
theorem d12_23 : decode prog_41_method_12_code 23 = .ok (.aload_n 0, 1) := by decide +kernel
theorem d12_24 : decode prog_41_method_12_code 24 = .ok (.getfield 26, 3) := by decide +kernel
theorem d12_27 : decode prog_41_method_12_code 27 = .ok (.aload_n 2, 1) := by decide +kernel
theorem d12_28 : decode prog_41_method_12_code 28 = .ok (.getfield 26, 3) := by decide +kernel
theorem d12_31 : decode prog_41_method_12_code 31 = .ok (.if_icmp .ne 74, 3) := by decide +kernel
theorem d12_34 : decode prog_41_method_12_code 34 = .ok (.aload_n 0, 1) := by decide +kernel
theorem d12_35 : decode prog_41_method_12_code 35 = .ok (.getfield 39, 3) := by decide +kernel
theorem d12_38 : decode prog_41_method_12_code 38 = .ok (.aload_n 2, 1) := by decide +kernel
theorem d12_39 : decode prog_41_method_12_code 39 = .ok (.getfield 39, 3) := by decide +kernel
theorem d12_42 : decode prog_41_method_12_code 42 = .ok (.invokevirtual 77, 3) := by decide +kernel
theorem d14_0 : decode jdk_43_method_13_code 0 = .ok (.aload_n 0, 1) := by decide +kernel
theorem d14_1 : decode jdk_43_method_13_code 1 = .ok (.arraylength, 1) := by decide +kernel
theorem d14_2 : decode jdk_43_method_13_code 2 = .ok (.aload_n 1, 1) := by decide +kernel
theorem d14_3 : decode jdk_43_method_13_code 3 = .ok (.arraylength, 1) := by decide +kernel
theorem d14_4 : decode jdk_43_method_13_code 4 = .ok (.if_icmp .ne 30, 3) := by decide +kernel
theorem d14_7 : decode jdk_43_method_13_code 7 = .ok (.iconst 0, 1) := by decide +kernel
theorem d14_8 : decode jdk_43_method_13_code 8 = .ok (.istore_n 2, 1) := by decide +kernel
theorem d14_9 : decode jdk_43_method_13_code 9 = .ok (.iload_n 2, 1) := by decide +kernel
theorem d14_10 : decode jdk_43_method_13_code 10 = .ok (.aload_n 0, 1) := by decide +kernel
theorem d14_11 : decode jdk_43_method_13_code 11 = .ok (.arraylength, 1) := by decide +kernel
theorem d14_12 : decode jdk_43_method_13_code 12 = .ok (.if_icmp .ge 20, 3) := by decide +kernel
theorem d14_15 : decode jdk_43_method_13_code 15 = .ok (.aload_n 0, 1) := by decide +kernel
theorem d14_16 : decode jdk_43_method_13_code 16 = .ok (.iload_n 2, 1) := by decide +kernel
theorem d14_17 : decode jdk_43_method_13_code 17 = .ok (.baload, 1) := by decide +kernel
theorem d14_18 : decode jdk_43_method_13_code 18 = .ok (.aload_n 1, 1) := by decide +kernel
theorem d14_19 : decode jdk_43_method_13_code 19 = .ok (.iload_n 2, 1) := by decide +kernel
theorem d14_20 : decode jdk_43_method_13_code 20 = .ok (.baload, 1) := by decide +kernel
theorem d14_21 : decode jdk_43_method_13_code 21 = .ok (.if_icmp .eq 5, 3) := by decide +kernel
theorem d14_26 : decode jdk_43_method_13_code 26 = .ok (.iinc 2 1, 3) := by decide +kernel
theorem d14_29 : decode jdk_43_method_13_code 29 = .ok (.goto (-20), 3) := by decide +kernel
theorem d14_32 : decode jdk_43_method_13_code 32 = .ok (.iconst 1, 1) := by decide +kernel
theorem d14_33 : decode jdk_43_method_13_code 33 = .ok (.ireturn, 1) := by decide +kernel
theorem d14_24 : decode jdk_43_method_13_code 24 = .ok (.iconst 0, 1) := by decide +kernel
theorem d14_25 : decode jdk_43_method_13_code 25 = .ok (.ireturn, 1) := by decide +kernel
theorem own_pn2 : plainName "java/lang/StringLatin1" = true := by first | (simp [plainName, overriddenIn]; done) | decide +kernel
def Q_lateq_1 (Z : State) (b : Addr) (kb : ClassId) (b' : Addr) (kb' : ClassId) (x0 : Int32) (y0 : Int32) (h0 : Heap) (n0 : Nat) (v : Option Value) (h : Heap) (L : List Loc) : Prop := v = some (.int (if x0 = y0 then 1 else 0 : Int32)) ∧ Fr n0 L ∧ h = h0
set_option maxRecDepth 65536 in
set_option maxHeartbeats 40000000 in
theorem rm_lateq_1 (l : Launch) (Z : State) (a0 : Array Value) (hw : ∀ d ∈ tables_1, d.before a0 Z = true) (ws : List Jvm.Cond) (b : Addr) (kb : ClassId) (b' : Addr) (kb' : ClassId) (x0 : Int32) (y0 : Int32) (h0 : Heap) (n0 : Nat) (Z0 : n0 ≤ h0.size) (VX : Arv Z h0 b kb .byte (1 : Int32) [(.int x0)] (.int (0 : Int32))) (VY : Arv Z h0 b' kb' .byte (1 : Int32) [(.int y0)] (.int (0 : Int32))) :
    MetFree l (⟨"java/lang/StringLatin1", "equals", "([B[B)Z"⟩ : MethodName) (head1 (Jvm.Cond.code (⟨"java/lang/StringLatin1", "equals", "([B[B)Z"⟩ : MethodName) jdk_43_method_13_code 3 (some .boolean) :: ws) ({ frames := 0, cells := 0, slots := 0, locals := 0 } : Room)) (fun aa_ U => aa_ = #[(.ref b), (.ref b')] ∧ Z.Warmed39 U.vm ∧ U.heap = h0) (fun _ _ _ _ _ => True) (fun _ U o_ U' => RetG U (Q_lateq_1 Z b kb b' kb' x0 y0 h0 n0) 0 0 U' o_) := by
  refine MetFree.of_bodySF (plainFor_of_name own_pn2) hisR ?_
  intro p e s m args below meth c_ s₁ Bd hml0 hP hK
  obtain ⟨rfl, hZ, hh⟩ := hP
  have hx := Bd.exec
  have hby := Bd.bytes
  have hml : c_.maxLocals = 3 := hml0
  have hown : s.vm.findClass "java/lang/StringLatin1" = some m.cls := findClass_of_methodNamed Bd.named
  have hnm := (name_of_methodNamed Bd.named Bd.method).1
  have X0 : Stand p l e ({ frames := 0, cells := 0, slots := 0, locals := 0 } : Room) s m #[(.ref b), (.ref b')] below meth c_ s₁ [] 0 0 := Stand.of_body Bd
  have e0 : s₁.heap = h0 := by rw [← hh, Bd.state]; rfl
  have N0 := Fr.nil n0
  show Go p e below (RetG s (Q_lateq_1 Z b kb b' kb' x0 y0 h0 n0) 0 0) (s₁.setTop (entryFrame m #[(.ref b), (.ref b')] 3))
  rw [show entryFrame m #[(.ref b), (.ref b')] 3 = mkF m 0 #[.val (.ref b), .val (.ref b'), .unset] [] from by first | (simp [entryFrame, mkF, argsToLocals, Value.category]; done) | rfl]
  refine g_aloadN X0 hx hby d14_0 rfl rfl ?_
  refine g_arraylength X0 hx hby hZ e0 VX d14_1 ?_
  refine g_aloadN X0 hx hby d14_2 rfl rfl ?_
  refine g_arraylength X0 hx hby hZ e0 VY d14_3 ?_
  refine g_icN X0 hx hby d14_4 (teq (by decide : (1 : Int32) = (1 : Int32))).2 ?_
  refine g_iconst X0 hx hby (0 : Int32) d14_7 rfl ?_
  refine g_istoreN X0 hx hby d14_8 (l' := #[.val (.ref b), .val (.ref b'), .val (.int (0 : Int32))]) rfl ?_
  refine g_iloadN X0 hx hby d14_9 rfl ?_
  refine g_aloadN X0 hx hby d14_10 rfl rfl ?_
  refine g_arraylength X0 hx hby hZ e0 VX d14_11 ?_
  refine g_icN X0 hx hby d14_12 (tlt (by decide : (0 : Int32) < (1 : Int32))).2.1 ?_
  refine g_aloadN X0 hx hby d14_15 rfl rfl ?_
  refine g_iloadN X0 hx hby d14_16 rfl ?_
  refine g_baload X0 hx hby hZ e0 VX (.int x0) ⟨by decide, by decide⟩ rfl d14_17 ?_
  refine g_aloadN X0 hx hby d14_18 rfl rfl ?_
  refine g_iloadN X0 hx hby d14_19 rfl ?_
  refine g_baload X0 hx hby hZ e0 VY (.int y0) ⟨by decide, by decide⟩ rfl d14_20 ?_
  by_cases hc21_1 : x0 = y0
  · skip
    refine g_icY X0 hx hby 26 d14_21 (teq hc21_1).1 (by decide) (by decide) ?_
    refine g_iinc X0 hx hby (1 : Int32) d14_26 rfl (by decide) (l' := #[.val (.ref b), .val (.ref b'), .val (.int (1 : Int32))]) rfl ?_
    refine g_goto X0 hx hby 9 d14_29 (by decide) (by decide) ?_
    refine g_iloadN X0 hx hby d14_9 rfl ?_
    refine g_aloadN X0 hx hby d14_10 rfl rfl ?_
    refine g_arraylength X0 hx hby hZ e0 VX d14_11 ?_
    refine g_icY X0 hx hby 32 d14_12 (flt (by decide : ¬ ((1 : Int32) < (1 : Int32)))).2.1 (by decide) (by decide) ?_
    refine g_iconst X0 hx hby (1 : Int32) d14_32 rfl ?_
    refine g_nret X0 hx hby (t := .boolean) (by simp) Bd.returns Bd.notSynchronized d14_33 e0 (by decide) (by decide) ?_
    show (Q_lateq_1 Z b kb b' kb' x0 y0 h0 n0) (some (.int (1 : Int32))) _ _
    exact ⟨by simp [hc21_1], N0, rfl⟩
  · skip
    refine g_icN X0 hx hby d14_21 (feq hc21_1).1 ?_
    refine g_iconst X0 hx hby (0 : Int32) d14_24 rfl ?_
    refine g_nret X0 hx hby (t := .boolean) (by simp) Bd.returns Bd.notSynchronized d14_25 e0 (by decide) (by decide) ?_
    show (Q_lateq_1 Z b kb b' kb' x0 y0 h0 n0) (some (.int (0 : Int32))) _ _
    exact ⟨by simp [hc21_1], N0, rfl⟩

theorem d13_0 : decode jdk_42_method_66_code 0 = .ok (.aload_n 0, 1) := by decide +kernel
theorem d13_1 : decode jdk_42_method_66_code 1 = .ok (.aload_n 1, 1) := by decide +kernel
theorem d13_2 : decode jdk_42_method_66_code 2 = .ok (.if_acmp .ne 5, 3) := by decide +kernel
theorem d13_7 : decode jdk_42_method_66_code 7 = .ok (.aload_n 1, 1) := by decide +kernel
theorem d13_8 : decode jdk_42_method_66_code 8 = .ok (.instanceof 10, 3) := by decide +kernel
theorem d13_11 : decode jdk_42_method_66_code 11 = .ok (.ifCond .eq 43, 3) := by decide +kernel
theorem d13_14 : decode jdk_42_method_66_code 14 = .ok (.aload_n 1, 1) := by decide +kernel
theorem d13_15 : decode jdk_42_method_66_code 15 = .ok (.checkcast 10, 3) := by decide +kernel
theorem d13_18 : decode jdk_42_method_66_code 18 = .ok (.astore_n 2, 1) := by decide +kernel
theorem d13_19 : decode jdk_42_method_66_code 19 = .ok (.getstatic 38, 3) := by decide +kernel
theorem d13_22 : decode jdk_42_method_66_code 22 = .ok (.ifCond .eq 14, 3) := by decide +kernel
theorem d13_25 : decode jdk_42_method_66_code 25 = .ok (.aload_n 0, 1) := by decide +kernel
theorem d13_26 : decode jdk_42_method_66_code 26 = .ok (.getfield 15, 3) := by decide +kernel
theorem d13_29 : decode jdk_42_method_66_code 29 = .ok (.aload_n 2, 1) := by decide +kernel
theorem d13_30 : decode jdk_42_method_66_code 30 = .ok (.getfield 15, 3) := by decide +kernel
theorem d13_33 : decode jdk_42_method_66_code 33 = .ok (.if_icmp .ne 21, 3) := by decide +kernel
theorem d13_36 : decode jdk_42_method_66_code 36 = .ok (.aload_n 0, 1) := by decide +kernel
theorem d13_37 : decode jdk_42_method_66_code 37 = .ok (.getfield 9, 3) := by decide +kernel
theorem d13_40 : decode jdk_42_method_66_code 40 = .ok (.aload_n 2, 1) := by decide +kernel
theorem d13_41 : decode jdk_42_method_66_code 41 = .ok (.getfield 9, 3) := by decide +kernel
theorem d13_44 : decode jdk_42_method_66_code 44 = .ok (.invokestatic 541, 3) := by decide +kernel
theorem own_pd0 : parseMethodDescriptor "([B[B)Z" = some ⟨[(.array .byte), (.array .byte)], some .boolean⟩ := by decide +kernel
theorem d13_47 : decode jdk_42_method_66_code 47 = .ok (.ifCond .eq 7, 3) := by decide +kernel
theorem d13_54 : decode jdk_42_method_66_code 54 = .ok (.iconst 0, 1) := by decide +kernel
theorem d13_55 : decode jdk_42_method_66_code 55 = .ok (.ireturn, 1) := by decide +kernel
theorem d13_50 : decode jdk_42_method_66_code 50 = .ok (.iconst 1, 1) := by decide +kernel
theorem d13_51 : decode jdk_42_method_66_code 51 = .ok (.goto 4, 3) := by decide +kernel
theorem own_pn3 : plainName "java/lang/String" = true := by first | (simp [plainName, overriddenIn]; done) | decide +kernel
def Q_streq_1 (Z : State) (a : Addr) (a' : Addr) (b : Addr) (kb : ClassId) (b' : Addr) (kb' : ClassId) (x0 : Int32) (y0 : Int32) (cz : Int32) (h0 : Heap) (n0 : Nat) (v : Option Value) (h : Heap) (L : List Loc) : Prop := v = some (.int (if x0 = y0 then 1 else 0 : Int32)) ∧ Fr n0 L ∧ h = h0
set_option maxRecDepth 65536 in
set_option maxHeartbeats 40000000 in
theorem rm_streq_1 (l : Launch) (Z : State) (a0 : Array Value) (hw : ∀ d ∈ tables_1, d.before a0 Z = true) (ws : List Jvm.Cond) (a : Addr) (a' : Addr) (b : Addr) (kb : ClassId) (b' : Addr) (kb' : ClassId) (x0 : Int32) (y0 : Int32) (cz : Int32) (h0 : Heap) (n0 : Nat) (Z0 : n0 ≤ h0.size) (O2 : Sta Z Z.heap "java/lang/String" "COMPACT_STRINGS" "Z" (.int cz)) (P5 : ¬ cz = (0 : Int32)) (OLD : Old Z n0 h0) (E : Exa Z h0 a "java/lang/String") (C : Fld Z h0 a "java/lang/String" "coder" "B" (.int (0 : Int32))) (VF : Fld Z h0 a "java/lang/String" "value" "[B" (.ref b)) (E' : Exa Z h0 a' "java/lang/String") (C' : Fld Z h0 a' "java/lang/String" "coder" "B" (.int (0 : Int32))) (VF' : Fld Z h0 a' "java/lang/String" "value" "[B" (.ref b')) (VX : Arv Z h0 b kb .byte (1 : Int32) [(.int x0)] (.int (0 : Int32))) (VY : Arv Z h0 b' kb' .byte (1 : Int32) [(.int y0)] (.int (0 : Int32))) (naa : a ≠ a') :
    MetFree l (⟨"java/lang/String", "equals", "(Ljava/lang/Object;)Z"⟩ : MethodName) (head1 (Jvm.Cond.code (⟨"java/lang/String", "equals", "(Ljava/lang/Object;)Z"⟩ : MethodName) jdk_42_method_66_code 3 (some .boolean) :: ws) ({ frames := 1, cells := 0, slots := 0, locals := 14 } : Room)) (fun aa_ U => aa_ = #[(.ref a), (.ref a')] ∧ Z.Warmed39 U.vm ∧ U.heap = h0) (fun _ _ _ _ _ => True) (fun _ U o_ U' => RetG U (Q_streq_1 Z a a' b kb b' kb' x0 y0 cz h0 n0) 0 0 U' o_) := by
  refine MetFree.of_bodySF (plainFor_of_name own_pn3) hisR ?_
  intro p e s m args below meth c_ s₁ Bd hml0 hP hK
  obtain ⟨rfl, hZ, hh⟩ := hP
  have hx := Bd.exec
  have hby := Bd.bytes
  have hml : c_.maxLocals = 3 := hml0
  have hown : s.vm.findClass "java/lang/String" = some m.cls := findClass_of_methodNamed Bd.named
  have hnm := (name_of_methodNamed Bd.named Bd.method).1
  have X0 : Stand p l e ({ frames := 1, cells := 0, slots := 0, locals := 14 } : Room) s m #[(.ref a), (.ref a')] below meth c_ s₁ [] 0 0 := Stand.of_body Bd
  have e0 : s₁.heap = h0 := by rw [← hh, Bd.state]; rfl
  have N0 := Fr.nil n0
  have w20_ := hw _ (List.mem_of_getElem? (i := 20) rfl)
  have w23_ := hw _ (List.mem_of_getElem? (i := 23) rfl)
  have w25_ := hw _ (List.mem_of_getElem? (i := 25) rfl)
  have w38_ := hw _ (List.mem_of_getElem? (i := 38) rfl)
  have w40_ := hw _ (List.mem_of_getElem? (i := 40) rfl)
  have w86_ := hw _ (List.mem_of_getElem? (i := 86) rfl)
  have w87_ := hw _ (List.mem_of_getElem? (i := 87) rfl)
  have w88_ := hw _ (List.mem_of_getElem? (i := 88) rfl)
  show Go p e below (RetG s (Q_streq_1 Z a a' b kb b' kb' x0 y0 cz h0 n0) 0 0) (s₁.setTop (entryFrame m #[(.ref a), (.ref a')] 3))
  rw [show entryFrame m #[(.ref a), (.ref a')] 3 = mkF m 0 #[.val (.ref a), .val (.ref a'), .unset] [] from by first | (simp [entryFrame, mkF, argsToLocals, Value.category]; done) | rfl]
  refine g_aloadN X0 hx hby d13_0 rfl rfl ?_
  refine g_aloadN X0 hx hby d13_1 rfl rfl ?_
  refine g_acmp X0 hx hby rfl rfl 7 false d13_2 (decide_eq_false fun q => naa (Value.ref.inj q)) (by decide) (by decide) ?_
  refine g_aloadN X0 hx hby d13_7 rfl rfl ?_
  refine g_instanceof X0 hx hby hZ hown w25_ e0 (Ins.self E') d13_8 (fun T1 X1 e1 => ?_)
  refine g_ifN X1 hx hby d13_11 (feq (by decide : ¬ ((1 : Int32) = (0 : Int32)))).1 ?_
  refine g_aloadN X1 hx hby d13_14 rfl rfl ?_
  refine g_checkcast X1 hx hby hZ hown w25_ e1 (Ins.self E') d13_15 (fun T2 X2 e2 => ?_)
  refine g_astoreN X2 hx hby d13_18 rfl (l' := #[.val (.ref a), .val (.ref a'), .val (.ref a')]) rfl ?_
  refine g_getS X2 hx hby hZ hown (host := "") (Or.inl w20_) Via.refl e2 (O2.ext OLD.2) d13_19 (fun T3 X3 e3 => ?_)
  refine g_ifN X3 hx hby d13_22 (feq (P5 : ¬ (cz = (0 : Int32)))).1 ?_
  refine g_aloadN X3 hx hby d13_25 rfl rfl ?_
  refine g_getF X3 hx hby hZ hown (host := "") (Or.inl w40_) Via.refl e3 C d13_26 (fun T4 X4 e4 => ?_)
  refine g_aloadN X4 hx hby d13_29 rfl rfl ?_
  refine g_getF X4 hx hby hZ hown (host := "") (Or.inl w40_) Via.refl e4 C' d13_30 (fun T5 X5 e5 => ?_)
  refine g_icN X5 hx hby d13_33 (teq (by decide : (0 : Int32) = (0 : Int32))).2 ?_
  refine g_aloadN X5 hx hby d13_36 rfl rfl ?_
  refine g_getF X5 hx hby hZ hown (host := "") (Or.inl w38_) Via.refl e5 VF d13_37 (fun T6 X6 e6 => ?_)
  refine g_aloadN X6 hx hby d13_40 rfl rfl ?_
  refine g_getF X6 hx hby hZ hown (host := "") (Or.inl w38_) Via.refl e6 VF' d13_41 (fun T7 X7 e7 => ?_)
  refine g_static X7 hx hby hZ hown (rm_lateq_1 l Z a0 hw [] b kb b' kb' x0 y0 h0 n0 Z0 VX VY) w86_ w87_ w23_ w88_ (by decide) e7 (by rw [hml]; rfl) [(.ref b), (.ref b')] (lenOf own_pd0 rfl) rfl rfl (Nat.le_of_ble_eq_true rfl) (Nat.le_of_ble_eq_true rfl) (Nat.le_of_ble_eq_true rfl) (Nat.le_of_ble_eq_true rfl) d13_44 (fun v8 T8 L8 X8 hQ8 => ?_)
  obtain ⟨rfl, N8q, eh8⟩ := hQ8
  have N8 := Fr.app N0 N8q
  by_cases hc47_9 : (if x0 = y0 then 1 else 0 : Int32) = (0 : Int32)
  · skip
    refine g_ifY X8 hx hby 54 d13_47 (teq hc47_9).1 (by decide) (by decide) ?_
    refine g_iconst X8 hx hby (0 : Int32) d13_54 rfl ?_
    refine g_nret X8 hx hby (t := .boolean) (by simp) Bd.returns Bd.notSynchronized d13_55 eh8 (by decide) (by decide) ?_
    show (Q_streq_1 Z a a' b kb b' kb' x0 y0 cz h0 n0) (some (.int (0 : Int32))) _ _
    exact ⟨by simp_all, N8, rfl⟩
  · skip
    refine g_ifN X8 hx hby d13_47 (feq hc47_9).1 ?_
    refine g_iconst X8 hx hby (1 : Int32) d13_50 rfl ?_
    refine g_at 51 rfl rfl rfl ?_
    refine g_goto X8 hx hby 55 d13_51 (by decide) (by decide) ?_
    refine g_nret X8 hx hby (t := .boolean) (by simp) Bd.returns Bd.notSynchronized d13_55 eh8 (by decide) (by decide) ?_
    show (Q_streq_1 Z a a' b kb b' kb' x0 y0 cz h0 n0) (some (.int (1 : Int32))) _ _
    exact ⟨by simp_all, N8, rfl⟩

theorem own_pd1 : parseMethodDescriptor "(Ljava/lang/Object;)Z" = some ⟨[(.object "java/lang/Object")], some .boolean⟩ := by decide +kernel
theorem d12_45 : decode prog_41_method_12_code 45 = .ok (.ifCond .eq 60, 3) := by decide +kernel
theorem d12_48 : decode prog_41_method_12_code 48 = .ok (.aload_n 0, 1) := by decide +kernel
theorem d12_49 : decode prog_41_method_12_code 49 = .ok (.getfield 44, 3) := by decide +kernel
theorem d12_52 : decode prog_41_method_12_code 52 = .ok (.aload_n 2, 1) := by decide +kernel
theorem d12_53 : decode prog_41_method_12_code 53 = .ok (.getfield 44, 3) := by decide +kernel
theorem d12_56 : decode prog_41_method_12_code 56 = .ok (.invokevirtual 77, 3) := by decide +kernel
theorem d12_59 : decode prog_41_method_12_code 59 = .ok (.ifCond .eq 46, 3) := by decide +kernel
theorem d12_62 : decode prog_41_method_12_code 62 = .ok (.aload_n 0, 1) := by decide +kernel
theorem d12_63 : decode prog_41_method_12_code 63 = .ok (.getfield 46, 3) := by decide +kernel
theorem d12_66 : decode prog_41_method_12_code 66 = .ok (.aload_n 2, 1) := by decide +kernel
theorem d12_67 : decode prog_41_method_12_code 67 = .ok (.getfield 46, 3) := by decide +kernel
theorem d12_70 : decode prog_41_method_12_code 70 = .ok (.if_icmp .ne 35, 3) := by decide +kernel
theorem d12_73 : decode prog_41_method_12_code 73 = .ok (.aload_n 0, 1) := by decide +kernel
theorem d12_74 : decode prog_41_method_12_code 74 = .ok (.getfield 51, 3) := by decide +kernel
theorem d12_77 : decode prog_41_method_12_code 77 = .ok (.aload_n 2, 1) := by decide +kernel
theorem d12_78 : decode prog_41_method_12_code 78 = .ok (.getfield 51, 3) := by decide +kernel
theorem d12_81 : decode prog_41_method_12_code 81 = .ok (.invokevirtual 77, 3) := by decide +kernel
theorem d12_84 : decode prog_41_method_12_code 84 = .ok (.ifCond .eq 21, 3) := by decide +kernel
theorem d12_87 : decode prog_41_method_12_code 87 = .ok (.aload_n 0, 1) := by decide +kernel
theorem d12_88 : decode prog_41_method_12_code 88 = .ok (.getfield 55, 3) := by decide +kernel
theorem d12_91 : decode prog_41_method_12_code 91 = .ok (.aload_n 2, 1) := by decide +kernel
theorem d12_92 : decode prog_41_method_12_code 92 = .ok (.getfield 55, 3) := by decide +kernel
theorem d12_95 : decode prog_41_method_12_code 95 = .ok (.invokevirtual 77, 3) := by decide +kernel
theorem d12_98 : decode prog_41_method_12_code 98 = .ok (.ifCond .eq 7, 3) := by decide +kernel
theorem d12_101 : decode prog_41_method_12_code 101 = .ok (.iconst 1, 1) := by decide +kernel
theorem d12_102 : decode prog_41_method_12_code 102 = .ok (.goto 4, 3) := by decide +kernel
def Q_peqp (Z : State) (p0 : Addr) (p1 : Addr) (pos : Int32) (ch : Int32) (t : Addr) (c : Addr) (cp : Int32) (k : Addr) (d : Addr) (bt : Addr) (kbt : ClassId) (xt : Int32) (bc : Addr) (kbc : ClassId) (xc : Int32) (bk : Addr) (kbk : ClassId) (xk : Int32) (bd : Addr) (kbd : ClassId) (xd : Int32) (pos' : Int32) (ch' : Int32) (t' : Addr) (c' : Addr) (cp' : Int32) (k' : Addr) (d' : Addr) (bt' : Addr) (kbt' : ClassId) (xt' : Int32) (bc' : Addr) (kbc' : ClassId) (xc' : Int32) (bk' : Addr) (kbk' : ClassId) (xk' : Int32) (bd' : Addr) (kbd' : ClassId) (xd' : Int32) (cz : Int32) (h0 : Heap) (n0 : Nat) (v : Option Value) (h : Heap) (L : List Loc) : Prop := v = some (.int (if pos = pos' ∧ ch = ch' ∧ xt = xt' ∧ xc = xc' ∧ cp = cp' ∧ xk = xk' ∧ xd = xd' then 1 else 0 : Int32)) ∧ Fr n0 L ∧ h = h0
set_option maxRecDepth 65536 in
set_option maxHeartbeats 40000000 in
theorem rm_peqp (l : Launch) (Z : State) (a0 : Array Value) (hw : ∀ d ∈ tables_1, d.before a0 Z = true) (ws : List Jvm.Cond) (p0 : Addr) (p1 : Addr) (pos : Int32) (ch : Int32) (t : Addr) (c : Addr) (cp : Int32) (k : Addr) (d : Addr) (bt : Addr) (kbt : ClassId) (xt : Int32) (bc : Addr) (kbc : ClassId) (xc : Int32) (bk : Addr) (kbk : ClassId) (xk : Int32) (bd : Addr) (kbd : ClassId) (xd : Int32) (pos' : Int32) (ch' : Int32) (t' : Addr) (c' : Addr) (cp' : Int32) (k' : Addr) (d' : Addr) (bt' : Addr) (kbt' : ClassId) (xt' : Int32) (bc' : Addr) (kbc' : ClassId) (xc' : Int32) (bk' : Addr) (kbk' : ClassId) (xk' : Int32) (bd' : Addr) (kbd' : ClassId) (xd' : Int32) (cz : Int32) (h0 : Heap) (n0 : Nat) (Z0 : n0 ≤ h0.size) (O2 : Sta Z Z.heap "java/lang/String" "COMPACT_STRINGS" "Z" (.int cz)) (P5 : ¬ cz = (0 : Int32)) (OLD : Old Z n0 h0) (P0 : own_PB Z h0 p0 pos ch t c cp k d) (P1 : own_PB Z h0 p1 pos' ch' t' c' cp' k' d') (Et : Exa Z h0 t "java/lang/String") (Ct : Fld Z h0 t "java/lang/String" "coder" "B" (.int (0 : Int32))) (Vt : Fld Z h0 t "java/lang/String" "value" "[B" (.ref bt)) (Byt : Arv Z h0 bt kbt .byte (1 : Int32) [(.int xt)] (.int (0 : Int32))) (Ec : Exa Z h0 c "java/lang/String") (Cc : Fld Z h0 c "java/lang/String" "coder" "B" (.int (0 : Int32))) (Vc : Fld Z h0 c "java/lang/String" "value" "[B" (.ref bc)) (Byc : Arv Z h0 bc kbc .byte (1 : Int32) [(.int xc)] (.int (0 : Int32))) (Ek : Exa Z h0 k "java/lang/String") (Ck : Fld Z h0 k "java/lang/String" "coder" "B" (.int (0 : Int32))) (Vk : Fld Z h0 k "java/lang/String" "value" "[B" (.ref bk)) (Byk : Arv Z h0 bk kbk .byte (1 : Int32) [(.int xk)] (.int (0 : Int32))) (Ed : Exa Z h0 d "java/lang/String") (Cd : Fld Z h0 d "java/lang/String" "coder" "B" (.int (0 : Int32))) (Vd : Fld Z h0 d "java/lang/String" "value" "[B" (.ref bd)) (Byd : Arv Z h0 bd kbd .byte (1 : Int32) [(.int xd)] (.int (0 : Int32))) (Et' : Exa Z h0 t' "java/lang/String") (Ct' : Fld Z h0 t' "java/lang/String" "coder" "B" (.int (0 : Int32))) (Vt' : Fld Z h0 t' "java/lang/String" "value" "[B" (.ref bt')) (Byt' : Arv Z h0 bt' kbt' .byte (1 : Int32) [(.int xt')] (.int (0 : Int32))) (Ec' : Exa Z h0 c' "java/lang/String") (Cc' : Fld Z h0 c' "java/lang/String" "coder" "B" (.int (0 : Int32))) (Vc' : Fld Z h0 c' "java/lang/String" "value" "[B" (.ref bc')) (Byc' : Arv Z h0 bc' kbc' .byte (1 : Int32) [(.int xc')] (.int (0 : Int32))) (Ek' : Exa Z h0 k' "java/lang/String") (Ck' : Fld Z h0 k' "java/lang/String" "coder" "B" (.int (0 : Int32))) (Vk' : Fld Z h0 k' "java/lang/String" "value" "[B" (.ref bk')) (Byk' : Arv Z h0 bk' kbk' .byte (1 : Int32) [(.int xk')] (.int (0 : Int32))) (Ed' : Exa Z h0 d' "java/lang/String") (Cd' : Fld Z h0 d' "java/lang/String" "coder" "B" (.int (0 : Int32))) (Vd' : Fld Z h0 d' "java/lang/String" "value" "[B" (.ref bd')) (Byd' : Arv Z h0 bd' kbd' .byte (1 : Int32) [(.int xd')] (.int (0 : Int32))) (nt : t ≠ t') (nc : c ≠ c') (nk : k ≠ k') (nd : d ≠ d') :
    MetFree l (⟨"com/example/refloom/refloom/model/Problem", "equals", "(Ljava/lang/Object;)Z"⟩ : MethodName) (head1 (Jvm.Cond.code (⟨"com/example/refloom/refloom/model/Problem", "equals", "(Ljava/lang/Object;)Z"⟩ : MethodName) prog_41_method_12_code 3 (some .boolean) :: ws) ({ frames := 2, cells := 0, slots := 0, locals := 28 } : Room)) (fun aa_ U => aa_ = #[(.ref p0), (.ref p1)] ∧ Z.Warmed39 U.vm ∧ U.heap = h0) (fun _ _ _ _ _ => True) (fun _ U o_ U' => RetG U (Q_peqp Z p0 p1 pos ch t c cp k d bt kbt xt bc kbc xc bk kbk xk bd kbd xd pos' ch' t' c' cp' k' d' bt' kbt' xt' bc' kbc' xc' bk' kbk' xk' bd' kbd' xd' cz h0 n0) 0 0 U' o_) := by
  refine MetFree.of_bodySF (plainFor_of_name own_pn1) hisR ?_
  intro p e s m args below meth c_ s₁ Bd hml0 hP hK
  obtain ⟨rfl, hZ, hh⟩ := hP
  have hx := Bd.exec
  have hby := Bd.bytes
  have hml : c_.maxLocals = 3 := hml0
  have hown : s.vm.findClass "com/example/refloom/refloom/model/Problem" = some m.cls := findClass_of_methodNamed Bd.named
  have hnm := (name_of_methodNamed Bd.named Bd.method).1
  have X0 : Stand p l e ({ frames := 2, cells := 0, slots := 0, locals := 28 } : Room) s m #[(.ref p0), (.ref p1)] below meth c_ s₁ [] 0 0 := Stand.of_body Bd
  have e0 : s₁.heap = h0 := by rw [← hh, Bd.state]; rfl
  have N0 := Fr.nil n0
  have w18_ := hw _ (List.mem_of_getElem? (i := 18) rfl)
  have w49_ := hw _ (List.mem_of_getElem? (i := 49) rfl)
  have w51_ := hw _ (List.mem_of_getElem? (i := 51) rfl)
  have w61_ := hw _ (List.mem_of_getElem? (i := 61) rfl)
  have w64_ := hw _ (List.mem_of_getElem? (i := 64) rfl)
  have w66_ := hw _ (List.mem_of_getElem? (i := 66) rfl)
  have w69_ := hw _ (List.mem_of_getElem? (i := 69) rfl)
  have w72_ := hw _ (List.mem_of_getElem? (i := 72) rfl)
  have w79_ := hw _ (List.mem_of_getElem? (i := 79) rfl)
  have w81_ := hw _ (List.mem_of_getElem? (i := 81) rfl)
  have w82_ := hw _ (List.mem_of_getElem? (i := 82) rfl)
  have w83_ := hw _ (List.mem_of_getElem? (i := 83) rfl)
  have w84_ := hw _ (List.mem_of_getElem? (i := 84) rfl)
  have w85_ := hw _ (List.mem_of_getElem? (i := 85) rfl)
  obtain ⟨pE0, pa0, pb0, pc0, pd0, pe0, pf0, pg0⟩ := P0
  obtain ⟨pE1, pa1, pb1, pc1, pd1, pe1, pf1, pg1⟩ := P1
  show Go p e below (RetG s (Q_peqp Z p0 p1 pos ch t c cp k d bt kbt xt bc kbc xc bk kbk xk bd kbd xd pos' ch' t' c' cp' k' d' bt' kbt' xt' bc' kbc' xc' bk' kbk' xk' bd' kbd' xd' cz h0 n0) 0 0) (s₁.setTop (entryFrame m #[(.ref p0), (.ref p1)] 3))
  rw [show entryFrame m #[(.ref p0), (.ref p1)] 3 = mkF m 0 #[.val (.ref p0), .val (.ref p1), .unset] [] from by first | (simp [entryFrame, mkF, argsToLocals, Value.category]; done) | rfl]
  refine g_aloadN X0 hx hby d12_0 rfl rfl ?_
  refine g_instanceof X0 hx hby hZ hown w79_ e0 (Ins.self pE1) d12_1 (fun T1 X1 e1 => ?_)
  refine g_ifN X1 hx hby d12_4 (feq (by decide : ¬ ((1 : Int32) = (0 : Int32)))).1 ?_
  refine g_aloadN X1 hx hby d12_7 rfl rfl ?_
  refine g_checkcast X1 hx hby hZ hown w79_ e1 (Ins.self pE1) d12_8 (fun T2 X2 e2 => ?_)
  refine g_astoreN X2 hx hby d12_11 rfl (l' := #[.val (.ref p0), .val (.ref p1), .val (.ref p1)]) rfl ?_
  refine g_aloadN X2 hx hby d12_12 rfl rfl ?_
  refine g_getF X2 hx hby hZ hown (host := "") (Or.inl w49_) Via.refl e2 pa0 d12_13 (fun T3 X3 e3 => ?_)
  refine g_aloadN X3 hx hby d12_16 rfl rfl ?_
  refine g_getF X3 hx hby hZ hown (host := "") (Or.inl w49_) Via.refl e3 pa1 d12_17 (fun T4 X4 e4 => ?_)
  by_cases hc20_5 : pos = pos'
  · skip
    refine g_icN X4 hx hby d12_20 (teq hc20_5).2 ?_
    refine g_aloadN X4 hx hby d12_23 rfl rfl ?_
    refine g_getF X4 hx hby hZ hown (host := "") (Or.inl w51_) Via.refl e4 pb0 d12_24 (fun T6 X6 e6 => ?_)
    refine g_aloadN X6 hx hby d12_27 rfl rfl ?_
    refine g_getF X6 hx hby hZ hown (host := "") (Or.inl w51_) Via.refl e6 pb1 d12_28 (fun T7 X7 e7 => ?_)
    by_cases hc31_8 : ch = ch'
    · skip
      refine g_icN X7 hx hby d12_31 (teq hc31_8).2 ?_
      refine g_aloadN X7 hx hby d12_34 rfl rfl ?_
      refine g_getF X7 hx hby hZ hown (host := "") (Or.inl w61_) Via.refl e7 pc0 d12_35 (fun T9 X9 e9 => ?_)
      refine g_aloadN X9 hx hby d12_38 rfl rfl ?_
      refine g_getF X9 hx hby hZ hown (host := "") (Or.inl w61_) Via.refl e9 pc1 d12_39 (fun T10 X10 e10 => ?_)
      refine g_virtual X10 hx hby hZ hown (rm_streq_1 l Z a0 hw [] t t' bt kbt bt' kbt' xt xt' cz h0 n0 Z0 O2 P5 OLD Et Ct Vt Et' Ct' Vt' Byt Byt' nt) w81_ w82_ (notFace_of_selects (args := #[]) (mvT hZ w84_)) w84_ w83_ w18_ w85_ (by decide) e10 Et (by rw [hml]; rfl) [(.ref t')] (lenOf own_pd1 rfl) rfl rfl (Nat.le_of_ble_eq_true rfl) (Nat.le_of_ble_eq_true rfl) (Nat.le_of_ble_eq_true rfl) (Nat.le_of_ble_eq_true rfl) d12_42 (fun v11 T11 L11 X11 hQ11 => ?_)
      obtain ⟨rfl, N11q, eh11⟩ := hQ11
      have N11 := Fr.app N0 N11q
      refine g_at 45 rfl rfl rfl ?_
      by_cases hc45_12 : (if xt = xt' then 1 else 0 : Int32) = (0 : Int32)
      · skip
        refine g_ifY X11 hx hby 105 d12_45 (teq hc45_12).1 (by decide) (by decide) ?_
        refine g_iconst X11 hx hby (0 : Int32) d12_105 rfl ?_
        refine g_nret X11 hx hby (t := .boolean) (by simp) Bd.returns Bd.notSynchronized d12_106 eh11 (by decide) (by decide) ?_
        show (Q_peqp Z p0 p1 pos ch t c cp k d bt kbt xt bc kbc xc bk kbk xk bd kbd xd pos' ch' t' c' cp' k' d' bt' kbt' xt' bc' kbc' xc' bk' kbk' xk' bd' kbd' xd' cz h0 n0) (some (.int (0 : Int32))) _ _
        exact ⟨by simp_all, N11, rfl⟩
      · skip
        refine g_ifN X11 hx hby d12_45 (feq hc45_12).1 ?_
        refine g_aloadN X11 hx hby d12_48 rfl rfl ?_
        refine g_getF X11 hx hby hZ hown (host := "") (Or.inl w64_) Via.refl eh11 pd0 d12_49 (fun T13 X13 e13 => ?_)
        refine g_aloadN X13 hx hby d12_52 rfl rfl ?_
        refine g_getF X13 hx hby hZ hown (host := "") (Or.inl w64_) Via.refl e13 pd1 d12_53 (fun T14 X14 e14 => ?_)
        refine g_virtual X14 hx hby hZ hown (rm_streq_1 l Z a0 hw [] c c' bc kbc bc' kbc' xc xc' cz h0 n0 Z0 O2 P5 OLD Ec Cc Vc Ec' Cc' Vc' Byc Byc' nc) w81_ w82_ (notFace_of_selects (args := #[]) (mvT hZ w84_)) w84_ w83_ w18_ w85_ (by decide) e14 Ec (by rw [hml]; rfl) [(.ref c')] (lenOf own_pd1 rfl) rfl rfl (Nat.le_of_ble_eq_true rfl) (Nat.le_of_ble_eq_true rfl) (Nat.le_of_ble_eq_true rfl) (Nat.le_of_ble_eq_true rfl) d12_56 (fun v15 T15 L15 X15 hQ15 => ?_)
        obtain ⟨rfl, N15q, eh15⟩ := hQ15
        have N15 := Fr.app N11 N15q
        by_cases hc59_16 : (if xc = xc' then 1 else 0 : Int32) = (0 : Int32)
        · skip
          refine g_ifY X15 hx hby 105 d12_59 (teq hc59_16).1 (by decide) (by decide) ?_
          refine g_iconst X15 hx hby (0 : Int32) d12_105 rfl ?_
          refine g_nret X15 hx hby (t := .boolean) (by simp) Bd.returns Bd.notSynchronized d12_106 eh15 (by decide) (by decide) ?_
          show (Q_peqp Z p0 p1 pos ch t c cp k d bt kbt xt bc kbc xc bk kbk xk bd kbd xd pos' ch' t' c' cp' k' d' bt' kbt' xt' bc' kbc' xc' bk' kbk' xk' bd' kbd' xd' cz h0 n0) (some (.int (0 : Int32))) _ _
          exact ⟨by simp_all, N15, rfl⟩
        · skip
          refine g_ifN X15 hx hby d12_59 (feq hc59_16).1 ?_
          refine g_aloadN X15 hx hby d12_62 rfl rfl ?_
          refine g_getF X15 hx hby hZ hown (host := "") (Or.inl w66_) Via.refl eh15 pe0 d12_63 (fun T17 X17 e17 => ?_)
          refine g_aloadN X17 hx hby d12_66 rfl rfl ?_
          refine g_getF X17 hx hby hZ hown (host := "") (Or.inl w66_) Via.refl e17 pe1 d12_67 (fun T18 X18 e18 => ?_)
          by_cases hc70_19 : cp = cp'
          · skip
            refine g_icN X18 hx hby d12_70 (teq hc70_19).2 ?_
            refine g_aloadN X18 hx hby d12_73 rfl rfl ?_
            refine g_getF X18 hx hby hZ hown (host := "") (Or.inl w69_) Via.refl e18 pf0 d12_74 (fun T20 X20 e20 => ?_)
            refine g_aloadN X20 hx hby d12_77 rfl rfl ?_
            refine g_getF X20 hx hby hZ hown (host := "") (Or.inl w69_) Via.refl e20 pf1 d12_78 (fun T21 X21 e21 => ?_)
            refine g_virtual X21 hx hby hZ hown (rm_streq_1 l Z a0 hw [] k k' bk kbk bk' kbk' xk xk' cz h0 n0 Z0 O2 P5 OLD Ek Ck Vk Ek' Ck' Vk' Byk Byk' nk) w81_ w82_ (notFace_of_selects (args := #[]) (mvT hZ w84_)) w84_ w83_ w18_ w85_ (by decide) e21 Ek (by rw [hml]; rfl) [(.ref k')] (lenOf own_pd1 rfl) rfl rfl (Nat.le_of_ble_eq_true rfl) (Nat.le_of_ble_eq_true rfl) (Nat.le_of_ble_eq_true rfl) (Nat.le_of_ble_eq_true rfl) d12_81 (fun v22 T22 L22 X22 hQ22 => ?_)
            obtain ⟨rfl, N22q, eh22⟩ := hQ22
            have N22 := Fr.app N15 N22q
            refine g_at 84 rfl rfl rfl ?_
            by_cases hc84_23 : (if xk = xk' then 1 else 0 : Int32) = (0 : Int32)
            · skip
              refine g_ifY X22 hx hby 105 d12_84 (teq hc84_23).1 (by decide) (by decide) ?_
              refine g_iconst X22 hx hby (0 : Int32) d12_105 rfl ?_
              refine g_nret X22 hx hby (t := .boolean) (by simp) Bd.returns Bd.notSynchronized d12_106 eh22 (by decide) (by decide) ?_
              show (Q_peqp Z p0 p1 pos ch t c cp k d bt kbt xt bc kbc xc bk kbk xk bd kbd xd pos' ch' t' c' cp' k' d' bt' kbt' xt' bc' kbc' xc' bk' kbk' xk' bd' kbd' xd' cz h0 n0) (some (.int (0 : Int32))) _ _
              exact ⟨by simp_all, N22, rfl⟩
            · skip
              refine g_ifN X22 hx hby d12_84 (feq hc84_23).1 ?_
              refine g_aloadN X22 hx hby d12_87 rfl rfl ?_
              refine g_getF X22 hx hby hZ hown (host := "") (Or.inl w72_) Via.refl eh22 pg0 d12_88 (fun T24 X24 e24 => ?_)
              refine g_aloadN X24 hx hby d12_91 rfl rfl ?_
              refine g_getF X24 hx hby hZ hown (host := "") (Or.inl w72_) Via.refl e24 pg1 d12_92 (fun T25 X25 e25 => ?_)
              refine g_virtual X25 hx hby hZ hown (rm_streq_1 l Z a0 hw [] d d' bd kbd bd' kbd' xd xd' cz h0 n0 Z0 O2 P5 OLD Ed Cd Vd Ed' Cd' Vd' Byd Byd' nd) w81_ w82_ (notFace_of_selects (args := #[]) (mvT hZ w84_)) w84_ w83_ w18_ w85_ (by decide) e25 Ed (by rw [hml]; rfl) [(.ref d')] (lenOf own_pd1 rfl) rfl rfl (Nat.le_of_ble_eq_true rfl) (Nat.le_of_ble_eq_true rfl) (Nat.le_of_ble_eq_true rfl) (Nat.le_of_ble_eq_true rfl) d12_95 (fun v26 T26 L26 X26 hQ26 => ?_)
              obtain ⟨rfl, N26q, eh26⟩ := hQ26
              have N26 := Fr.app N22 N26q
              by_cases hc98_27 : (if xd = xd' then 1 else 0 : Int32) = (0 : Int32)
              · skip
                refine g_ifY X26 hx hby 105 d12_98 (teq hc98_27).1 (by decide) (by decide) ?_
                refine g_iconst X26 hx hby (0 : Int32) d12_105 rfl ?_
                refine g_nret X26 hx hby (t := .boolean) (by simp) Bd.returns Bd.notSynchronized d12_106 eh26 (by decide) (by decide) ?_
                show (Q_peqp Z p0 p1 pos ch t c cp k d bt kbt xt bc kbc xc bk kbk xk bd kbd xd pos' ch' t' c' cp' k' d' bt' kbt' xt' bc' kbc' xc' bk' kbk' xk' bd' kbd' xd' cz h0 n0) (some (.int (0 : Int32))) _ _
                exact ⟨by simp_all, N26, rfl⟩
              · skip
                refine g_ifN X26 hx hby d12_98 (feq hc98_27).1 ?_
                refine g_iconst X26 hx hby (1 : Int32) d12_101 rfl ?_
                refine g_goto X26 hx hby 106 d12_102 (by decide) (by decide) ?_
                refine g_nret X26 hx hby (t := .boolean) (by simp) Bd.returns Bd.notSynchronized d12_106 eh26 (by decide) (by decide) ?_
                show (Q_peqp Z p0 p1 pos ch t c cp k d bt kbt xt bc kbc xc bk kbk xk bd kbd xd pos' ch' t' c' cp' k' d' bt' kbt' xt' bc' kbc' xc' bk' kbk' xk' bd' kbd' xd' cz h0 n0) (some (.int (1 : Int32))) _ _
                exact ⟨by simp_all, N26, rfl⟩
          · skip
            refine g_icY X18 hx hby 105 d12_70 (feq hc70_19).2 (by decide) (by decide) ?_
            refine g_iconst X18 hx hby (0 : Int32) d12_105 rfl ?_
            refine g_nret X18 hx hby (t := .boolean) (by simp) Bd.returns Bd.notSynchronized d12_106 e18 (by decide) (by decide) ?_
            show (Q_peqp Z p0 p1 pos ch t c cp k d bt kbt xt bc kbc xc bk kbk xk bd kbd xd pos' ch' t' c' cp' k' d' bt' kbt' xt' bc' kbc' xc' bk' kbk' xk' bd' kbd' xd' cz h0 n0) (some (.int (0 : Int32))) _ _
            exact ⟨by simp_all, N15, rfl⟩
    · skip
      refine g_icY X7 hx hby 105 d12_31 (feq hc31_8).2 (by decide) (by decide) ?_
      refine g_iconst X7 hx hby (0 : Int32) d12_105 rfl ?_
      refine g_nret X7 hx hby (t := .boolean) (by simp) Bd.returns Bd.notSynchronized d12_106 e7 (by decide) (by decide) ?_
      show (Q_peqp Z p0 p1 pos ch t c cp k d bt kbt xt bc kbc xc bk kbk xk bd kbd xd pos' ch' t' c' cp' k' d' bt' kbt' xt' bc' kbc' xc' bk' kbk' xk' bd' kbd' xd' cz h0 n0) (some (.int (0 : Int32))) _ _
      exact ⟨by simp_all, N0, rfl⟩
  · skip
    refine g_icY X4 hx hby 105 d12_20 (feq hc20_5).2 (by decide) (by decide) ?_
    refine g_iconst X4 hx hby (0 : Int32) d12_105 rfl ?_
    refine g_nret X4 hx hby (t := .boolean) (by simp) Bd.returns Bd.notSynchronized d12_106 e4 (by decide) (by decide) ?_
    show (Q_peqp Z p0 p1 pos ch t c cp k d bt kbt xt bc kbc xc bk kbk xk bd kbd xd pos' ch' t' c' cp' k' d' bt' kbt' xt' bc' kbc' xc' bk' kbk' xk' bd' kbd' xd' cz h0 n0) (some (.int (0 : Int32))) _ _
    exact ⟨by simp_all, N0, rfl⟩

theorem d5_0 : decode jdk_43_method_3_code 0 = .ok (.iload_n 0, 1) := by decide +kernel
theorem d5_1 : decode jdk_43_method_3_code 1 = .ok (.sipush 255, 3) := by decide +kernel
theorem d5_4 : decode jdk_43_method_3_code 4 = .ok (.if_icmp .gt 7, 3) := by decide +kernel
theorem d5_7 : decode jdk_43_method_3_code 7 = .ok (.iconst 1, 1) := by decide +kernel
theorem d5_8 : decode jdk_43_method_3_code 8 = .ok (.goto 4, 3) := by decide +kernel
theorem d5_12 : decode jdk_43_method_3_code 12 = .ok (.ireturn, 1) := by decide +kernel
def Q_canenc (Z : State) (c : Int32) (h0 : Heap) (n0 : Nat) (v : Option Value) (h : Heap) (L : List Loc) : Prop := v = some (.int (1 : Int32)) ∧ Fr n0 L ∧ h = h0
set_option maxRecDepth 65536 in
set_option maxHeartbeats 40000000 in
theorem rm_canenc (l : Launch) (Z : State) (a0 : Array Value) (hw : ∀ d ∈ tables_1, d.before a0 Z = true) (ws : List Jvm.Cond) (c : Int32) (h0 : Heap) (n0 : Nat) (Z0 : n0 ≤ h0.size) (hc : ¬ (255 : Int32) < c) :
    MetFree l (⟨"java/lang/StringLatin1", "canEncode", "(C)Z"⟩ : MethodName) (head1 (Jvm.Cond.code (⟨"java/lang/StringLatin1", "canEncode", "(C)Z"⟩ : MethodName) jdk_43_method_3_code 1 (some .boolean) :: ws) ({ frames := 0, cells := 0, slots := 0, locals := 0 } : Room)) (fun aa_ U => aa_ = #[(.int c)] ∧ Z.Warmed39 U.vm ∧ U.heap = h0) (fun _ _ _ _ _ => True) (fun _ U o_ U' => RetG U (Q_canenc Z c h0 n0) 0 0 U' o_) := by
  refine MetFree.of_bodySF (plainFor_of_name own_pn2) hisR ?_
  intro p e s m args below meth c_ s₁ Bd hml0 hP hK
  obtain ⟨rfl, hZ, hh⟩ := hP
  have hx := Bd.exec
  have hby := Bd.bytes
  have hml : c_.maxLocals = 1 := hml0
  have hown : s.vm.findClass "java/lang/StringLatin1" = some m.cls := findClass_of_methodNamed Bd.named
  have hnm := (name_of_methodNamed Bd.named Bd.method).1
  have X0 : Stand p l e ({ frames := 0, cells := 0, slots := 0, locals := 0 } : Room) s m #[(.int c)] below meth c_ s₁ [] 0 0 := Stand.of_body Bd
  have e0 : s₁.heap = h0 := by rw [← hh, Bd.state]; rfl
  have N0 := Fr.nil n0
  show Go p e below (RetG s (Q_canenc Z c h0 n0) 0 0) (s₁.setTop (entryFrame m #[(.int c)] 1))
  rw [show entryFrame m #[(.int c)] 1 = mkF m 0 #[.val (.int c)] [] from by first | (simp [entryFrame, mkF, argsToLocals, Value.category]; done) | rfl]
  refine g_iloadN X0 hx hby d5_0 rfl ?_
  refine g_sipush X0 hx hby (255 : Int32) d5_1 rfl ?_
  refine g_icN X0 hx hby d5_4 (flt (hc : ¬ ((255 : Int32) < c))).2.2.1 ?_
  refine g_iconst X0 hx hby (1 : Int32) d5_7 rfl ?_
  refine g_goto X0 hx hby 12 d5_8 (by decide) (by decide) ?_
  refine g_nret X0 hx hby (t := .boolean) (by simp) Bd.returns Bd.notSynchronized d5_12 e0 (by decide) (by decide) ?_
  show (Q_canenc Z c h0 n0) (some (.int (1 : Int32))) _ _
  exact ⟨rfl, N0, rfl⟩

theorem d6_0 : decode jdk_43_method_46_code 0 = .ok (.iconst 1, 1) := by decide +kernel
theorem d6_1 : decode jdk_43_method_46_code 1 = .ok (.newarray .byte, 2) := by decide +kernel
theorem d6_3 : decode jdk_43_method_46_code 3 = .ok (.dup, 1) := by decide +kernel
theorem d6_4 : decode jdk_43_method_46_code 4 = .ok (.iconst 0, 1) := by decide +kernel
theorem d6_5 : decode jdk_43_method_46_code 5 = .ok (.iload_n 0, 1) := by decide +kernel
theorem d6_6 : decode jdk_43_method_46_code 6 = .ok (.i2b, 1) := by decide +kernel
theorem d6_7 : decode jdk_43_method_46_code 7 = .ok (.bastore, 1) := by decide +kernel
theorem d6_8 : decode jdk_43_method_46_code 8 = .ok (.areturn, 1) := by decide +kernel
def Q_tobytes (Z : State) (c : Int32) (h0 : Heap) (n0 : Nat) (v : Option Value) (h : Heap) (L : List Loc) : Prop := Fr n0 L ∧ Keep h0 h [] ∧ ∃ (b : Addr) (kb : ClassId), v = some (.ref b) ∧ h0.size ≤ b ∧ Arv Z h b kb .byte (1 : Int32) [(.int (nar .byte (c.toInt8.toInt32)))] (.int (0 : Int32))
set_option maxRecDepth 65536 in
set_option maxHeartbeats 40000000 in
theorem rm_tobytes (l : Launch) (Z : State) (a0 : Array Value) (hw : ∀ d ∈ tables_1, d.before a0 Z = true) (ws : List Jvm.Cond) (c : Int32) (h0 : Heap) (n0 : Nat) (Z0 : n0 ≤ h0.size) :
    MetFree l (⟨"java/lang/StringLatin1", "toBytes", "(C)[B"⟩ : MethodName) (head1 (Jvm.Cond.code (⟨"java/lang/StringLatin1", "toBytes", "(C)[B"⟩ : MethodName) jdk_43_method_46_code 1 (some (.array .byte)) :: ws) ({ frames := 0, cells := 1, slots := 1, locals := 0 } : Room)) (fun aa_ U => aa_ = #[(.int c)] ∧ Z.Warmed39 U.vm ∧ U.heap = h0) (fun _ _ _ _ _ => True) (fun _ U o_ U' => RetG U (Q_tobytes Z c h0 n0) 1 1 U' o_) := by
  refine MetFree.of_bodySF (plainFor_of_name own_pn2) hisR ?_
  intro p e s m args below meth c_ s₁ Bd hml0 hP hK
  obtain ⟨rfl, hZ, hh⟩ := hP
  have hx := Bd.exec
  have hby := Bd.bytes
  have hml : c_.maxLocals = 1 := hml0
  have hown : s.vm.findClass "java/lang/StringLatin1" = some m.cls := findClass_of_methodNamed Bd.named
  have hnm := (name_of_methodNamed Bd.named Bd.method).1
  have X0 : Stand p l e ({ frames := 0, cells := 1, slots := 1, locals := 0 } : Room) s m #[(.int c)] below meth c_ s₁ [] 0 0 := Stand.of_body Bd
  have e0 : s₁.heap = h0 := by rw [← hh, Bd.state]; rfl
  have N0 := Fr.nil n0
  have w30_ := hw _ (List.mem_of_getElem? (i := 30) rfl)
  show Go p e below (RetG s (Q_tobytes Z c h0 n0) 1 1) (s₁.setTop (entryFrame m #[(.int c)] 1))
  rw [show entryFrame m #[(.int c)] 1 = mkF m 0 #[.val (.int c)] [] from by first | (simp [entryFrame, mkF, argsToLocals, Value.category]; done) | rfl]
  refine g_iconst X0 hx hby (1 : Int32) d6_0 rfl ?_
  refine g_newarray X0 hx hby hZ .byte .byte (.int (0 : Int32)) [(.int (0 : Int32))] rfl rfl w30_ e0 (by decide) 1 rfl (by decide) (by decide) (by decide) (by decide) d6_1 (fun T1 h1 k1 b1 g1 X1 e1 E1 V1 => ?_)
  refine g_dup X1 hx hby d6_3 rfl ?_
  refine g_iconst X1 hx hby (0 : Int32) d6_4 rfl ?_
  refine g_iloadN X1 hx hby d6_5 rfl ?_
  refine g_i2b X1 hx hby d6_6 ?_
  have g_b1 : n0 ≤ b1 := Nat.le_trans Z0 (Nat.le_of_eq g1)
  refine g_bastore X1 hx hby hZ e1 V1 0 [(.int (nar .byte (c.toInt8.toInt32)))] rfl ⟨by decide, by decide⟩ rfl (Nat.le_of_ble_eq_true rfl) N0 g_b1 d6_7 (fun T2 h2 X2 e2 W2 V2 N2 => ?_)
  refine g_aret X2 hx hby (t := (.array .byte)) rfl rfl rfl Bd.returns Bd.notSynchronized d6_8 e2 (by decide) (by decide) ?_
  show (Q_tobytes Z c h0 n0) (some (.ref b1)) _ _
  exact ⟨N2, (((Keep.refl h0 []).ext E1).wr W2 (Or.inr (Nat.le_trans (Nat.le_refl _) (Nat.le_of_eq g1)))), b1, k1, rfl, (Nat.le_trans (Nat.le_refl _) (Nat.le_of_eq g1)), V2⟩

theorem d7_0 : decode jdk_42_method_151_code 0 = .ok (.aload_n 0, 1) := by decide +kernel
theorem d7_1 : decode jdk_42_method_151_code 1 = .ok (.invokespecial 1, 3) := by decide +kernel
theorem d7_4 : decode jdk_42_method_151_code 4 = .ok (.aload_n 0, 1) := by decide +kernel
theorem d7_5 : decode jdk_42_method_151_code 5 = .ok (.aload_n 1, 1) := by decide +kernel
theorem d7_6 : decode jdk_42_method_151_code 6 = .ok (.putfield 9, 3) := by decide +kernel
theorem d7_9 : decode jdk_42_method_151_code 9 = .ok (.aload_n 0, 1) := by decide +kernel
theorem d7_10 : decode jdk_42_method_151_code 10 = .ok (.iload_n 2, 1) := by decide +kernel
theorem d7_11 : decode jdk_42_method_151_code 11 = .ok (.putfield 15, 3) := by decide +kernel
theorem d7_14 : decode jdk_42_method_151_code 14 = .ok (.return_, 1) := by decide +kernel
def Q_initBB (Z : State) (a : Addr) (b : Addr) (cd : Int32) (h0 : Heap) (n0 : Nat) (v : Option Value) (h : Heap) (L : List Loc) : Prop := v = none ∧ Fr n0 L ∧ Keep h0 h [a] ∧ Exa Z h a "java/lang/String" ∧ Fld Z h a "java/lang/String" "coder" "B" (.int (nar .byte cd)) ∧ Fld Z h a "java/lang/String" "value" "[B" (.ref b)
set_option maxRecDepth 65536 in
set_option maxHeartbeats 40000000 in
theorem rm_initBB (l : Launch) (Z : State) (a0 : Array Value) (hw : ∀ d ∈ tables_1, d.before a0 Z = true) (ws : List Jvm.Cond) (a : Addr) (b : Addr) (cd : Int32) (h0 : Heap) (n0 : Nat) (Z0 : n0 ≤ h0.size) (E : Exa Z h0 a "java/lang/String") (FC : Fld Z h0 a "java/lang/String" "coder" "B" (.int (0 : Int32))) (FV : Fld Z h0 a "java/lang/String" "value" "[B" .null) (ga : n0 ≤ a) :
    MetFree l (⟨"java/lang/String", "<init>", "([BB)V"⟩ : MethodName) (head1 (Jvm.Cond.code (⟨"java/lang/String", "<init>", "([BB)V"⟩ : MethodName) jdk_42_method_151_code 3 none :: ws) ({ frames := 1, cells := 0, slots := 0, locals := 12 } : Room)) (fun aa_ U => aa_ = #[(.ref a), (.ref b), (.int cd)] ∧ Z.Warmed39 U.vm ∧ U.heap = h0) (fun _ _ _ _ _ => True) (fun _ U o_ U' => RetG U (Q_initBB Z a b cd h0 n0) 0 0 U' o_) := by
  refine MetFree.of_bodySF (plainFor_of_name own_pn3) hisR ?_
  intro p e s m args below meth c_ s₁ Bd hml0 hP hK
  obtain ⟨rfl, hZ, hh⟩ := hP
  have hx := Bd.exec
  have hby := Bd.bytes
  have hml : c_.maxLocals = 3 := hml0
  have hown : s.vm.findClass "java/lang/String" = some m.cls := findClass_of_methodNamed Bd.named
  have hnm := (name_of_methodNamed Bd.named Bd.method).1
  have X0 : Stand p l e ({ frames := 1, cells := 0, slots := 0, locals := 12 } : Room) s m #[(.ref a), (.ref b), (.int cd)] below meth c_ s₁ [] 0 0 := Stand.of_body Bd
  have e0 : s₁.heap = h0 := by rw [← hh, Bd.state]; rfl
  have N0 := Fr.nil n0
  have w26_ := hw _ (List.mem_of_getElem? (i := 26) rfl)
  have w35_ := hw _ (List.mem_of_getElem? (i := 35) rfl)
  have w36_ := hw _ (List.mem_of_getElem? (i := 36) rfl)
  have w37_ := hw _ (List.mem_of_getElem? (i := 37) rfl)
  have w38_ := hw _ (List.mem_of_getElem? (i := 38) rfl)
  have w39_ := hw _ (List.mem_of_getElem? (i := 39) rfl)
  have w40_ := hw _ (List.mem_of_getElem? (i := 40) rfl)
  have w41_ := hw _ (List.mem_of_getElem? (i := 41) rfl)
  show Go p e below (RetG s (Q_initBB Z a b cd h0 n0) 0 0) (s₁.setTop (entryFrame m #[(.ref a), (.ref b), (.int cd)] 3))
  rw [show entryFrame m #[(.ref a), (.ref b), (.int cd)] 3 = mkF m 0 #[.val (.ref a), .val (.ref b), .val (.int cd)] [] from by first | (simp [entryFrame, mkF, argsToLocals, Value.category]; done) | rfl]
  refine g_aloadN X0 hx hby d7_0 rfl rfl ?_
  refine g_initO X0 hx hby hZ hown w35_ w36_ w37_ e0 (by rw [hml]; rfl) (Nat.le_of_ble_eq_true rfl) (Nat.le_of_ble_eq_true rfl) d7_1 (fun T1 X1 e1 => ?_)
  refine g_aloadN X1 hx hby d7_4 rfl rfl ?_
  refine g_aloadN X1 hx hby d7_5 rfl rfl ?_
  refine g_putF X1 hx hby hZ hown (host := "") (Or.inl w38_) Via.refl e1 FV E (Or.inr ⟨w39_, rfl, hnm⟩) w26_ (.array .byte) (by decide) rfl rfl N0 ga d7_6 (fun T2 h2 X2 e2 W2 F2 N2 => ?_)
  refine g_aloadN X2 hx hby d7_9 rfl rfl ?_
  refine g_iloadN X2 hx hby d7_10 rfl ?_
  have f3 := (E.wr W2)
  have f4 := (FC.other W2 (Or.inr (slot_ne (Or.inr w41_) (Or.inr w39_) (by decide) (t := .byte) (t' := (.array .byte)) (by decide) (by decide))))
  refine g_putFN X2 hx hby hZ hown w40_ Via.refl e2 f4 f3 (Or.inr ⟨w41_, rfl, hnm⟩) w26_ .byte (by decide) (.int (nar .byte cd)) rfl (fits_nar_byte _) N2 ga d7_11 (fun T5 h5 X5 e5 W5 F5 N5 => ?_)
  have f6 := (f3.wr W5)
  have f7 := (F2.other W5 (Or.inr (slot_ne (Or.inr w39_) (Or.inr w41_) (by decide) (t := (.array .byte)) (t' := .byte) (by decide) (by decide))))
  refine g_ret X5 hx hby Bd.returns Bd.notSynchronized d7_14 e5 (by decide) (by decide) ?_
  show (Q_initBB Z a b cd h0 n0) none _ _
  exact ⟨rfl, N5, (((Keep.refl h0 [a]).wr W2 (Or.inl (List.mem_of_getElem? (i := 0) rfl))).wr W5 (Or.inl (List.mem_of_getElem? (i := 0) rfl))), f6, F5, f7⟩

theorem d4_0 : decode jdk_42_method_139_code 0 = .ok (.getstatic 38, 3) := by decide +kernel
theorem d4_3 : decode jdk_42_method_139_code 3 = .ok (.ifCond .eq 23, 3) := by decide +kernel
theorem d4_6 : decode jdk_42_method_139_code 6 = .ok (.iload_n 0, 1) := by decide +kernel
theorem d4_7 : decode jdk_42_method_139_code 7 = .ok (.invokestatic 1015, 3) := by decide +kernel
theorem own_pd2 : parseMethodDescriptor "(C)Z" = some ⟨[.char], some .boolean⟩ := by decide +kernel
theorem d4_10 : decode jdk_42_method_139_code 10 = .ok (.ifCond .eq 16, 3) := by decide +kernel
theorem d4_13 : decode jdk_42_method_139_code 13 = .ok (.new 10, 3) := by decide +kernel
theorem d4_16 : decode jdk_42_method_139_code 16 = .ok (.dup, 1) := by decide +kernel
theorem d4_17 : decode jdk_42_method_139_code 17 = .ok (.iload_n 0, 1) := by decide +kernel
theorem d4_18 : decode jdk_42_method_139_code 18 = .ok (.invokestatic 1018, 3) := by decide +kernel
theorem own_pd3 : parseMethodDescriptor "(C)[B" = some ⟨[.char], some (.array .byte)⟩ := by decide +kernel
theorem d4_21 : decode jdk_42_method_139_code 21 = .ok (.iconst 0, 1) := by decide +kernel
theorem d4_22 : decode jdk_42_method_139_code 22 = .ok (.invokespecial 209, 3) := by decide +kernel
theorem own_pd4 : parseMethodDescriptor "([BB)V" = some ⟨[(.array .byte), .byte], none⟩ := by decide +kernel
theorem d4_25 : decode jdk_42_method_139_code 25 = .ok (.areturn, 1) := by decide +kernel
def Q_valueof (Z : State) (c : Int32) (cz : Int32) (h0 : Heap) (n0 : Nat) (v : Option Value) (h : Heap) (L : List Loc) : Prop := Fr n0 L ∧ Keep h0 h [] ∧ ∃ (a b : Addr) (kb : ClassId), v = some (.ref a) ∧ h0.size ≤ a ∧ h0.size ≤ b ∧ Exa Z h a "java/lang/String" ∧ Fld Z h a "java/lang/String" "coder" "B" (.int (0 : Int32)) ∧ Fld Z h a "java/lang/String" "value" "[B" (.ref b) ∧ Arv Z h b kb .byte (1 : Int32) [(.int (nar .byte (c.toInt8.toInt32)))] (.int (0 : Int32))
set_option maxRecDepth 65536 in
set_option maxHeartbeats 40000000 in
theorem rm_valueof (l : Launch) (Z : State) (a0 : Array Value) (hw : ∀ d ∈ tables_1, d.before a0 Z = true) (ws : List Jvm.Cond) (c : Int32) (cz : Int32) (h0 : Heap) (n0 : Nat) (Z0 : n0 ≤ h0.size) (O2 : Sta Z Z.heap "java/lang/String" "COMPACT_STRINGS" "Z" (.int cz)) (P5 : ¬ cz = (0 : Int32)) (OLD : Old Z n0 h0) (hc : ¬ (255 : Int32) < c) :
    MetFree l (⟨"java/lang/String", "valueOf", "(C)Ljava/lang/String;"⟩ : MethodName) (head1 (Jvm.Cond.code (⟨"java/lang/String", "valueOf", "(C)Ljava/lang/String;"⟩ : MethodName) jdk_42_method_139_code 1 (some (.object "java/lang/String")) :: ws) ({ frames := 2, cells := 2, slots := 5, locals := 27 } : Room)) (fun aa_ U => aa_ = #[(.int c)] ∧ Z.Warmed39 U.vm ∧ U.heap = h0) (fun _ _ _ _ _ => True) (fun _ U o_ U' => RetG U (Q_valueof Z c cz h0 n0) 2 5 U' o_) := by
  refine MetFree.of_bodySF (plainFor_of_name own_pn3) hisR ?_
  intro p e s m args below meth c_ s₁ Bd hml0 hP hK
  obtain ⟨rfl, hZ, hh⟩ := hP
  have hx := Bd.exec
  have hby := Bd.bytes
  have hml : c_.maxLocals = 1 := hml0
  have hown : s.vm.findClass "java/lang/String" = some m.cls := findClass_of_methodNamed Bd.named
  have hnm := (name_of_methodNamed Bd.named Bd.method).1
  have X0 : Stand p l e ({ frames := 2, cells := 2, slots := 5, locals := 27 } : Room) s m #[(.int c)] below meth c_ s₁ [] 0 0 := Stand.of_body Bd
  have e0 : s₁.heap = h0 := by rw [← hh, Bd.state]; rfl
  have N0 := Fr.nil n0
  have w18_ := hw _ (List.mem_of_getElem? (i := 18) rfl)
  have w20_ := hw _ (List.mem_of_getElem? (i := 20) rfl)
  have w21_ := hw _ (List.mem_of_getElem? (i := 21) rfl)
  have w22_ := hw _ (List.mem_of_getElem? (i := 22) rfl)
  have w23_ := hw _ (List.mem_of_getElem? (i := 23) rfl)
  have w24_ := hw _ (List.mem_of_getElem? (i := 24) rfl)
  have w25_ := hw _ (List.mem_of_getElem? (i := 25) rfl)
  have w26_ := hw _ (List.mem_of_getElem? (i := 26) rfl)
  have w27_ := hw _ (List.mem_of_getElem? (i := 27) rfl)
  have w28_ := hw _ (List.mem_of_getElem? (i := 28) rfl)
  have w29_ := hw _ (List.mem_of_getElem? (i := 29) rfl)
  have w31_ := hw _ (List.mem_of_getElem? (i := 31) rfl)
  have w32_ := hw _ (List.mem_of_getElem? (i := 32) rfl)
  have w34_ := hw _ (List.mem_of_getElem? (i := 34) rfl)
  have w39_ := hw _ (List.mem_of_getElem? (i := 39) rfl)
  have w41_ := hw _ (List.mem_of_getElem? (i := 41) rfl)
  show Go p e below (RetG s (Q_valueof Z c cz h0 n0) 2 5) (s₁.setTop (entryFrame m #[(.int c)] 1))
  rw [show entryFrame m #[(.int c)] 1 = mkF m 0 #[.val (.int c)] [] from by first | (simp [entryFrame, mkF, argsToLocals, Value.category]; done) | rfl]
  refine g_getS X0 hx hby hZ hown (host := "") (Or.inl w20_) Via.refl e0 (O2.ext OLD.2) d4_0 (fun T1 X1 e1 => ?_)
  refine g_ifN X1 hx hby d4_3 (feq (P5 : ¬ (cz = (0 : Int32)))).1 ?_
  refine g_iloadN X1 hx hby d4_6 rfl ?_
  refine g_static X1 hx hby hZ hown (rm_canenc l Z a0 hw [] c h0 n0 Z0 hc) w21_ w22_ w23_ w24_ (by decide) e1 (by rw [hml]; rfl) [(.int c)] (lenOf own_pd2 rfl) rfl rfl (Nat.le_of_ble_eq_true rfl) (Nat.le_of_ble_eq_true rfl) (Nat.le_of_ble_eq_true rfl) (Nat.le_of_ble_eq_true rfl) d4_7 (fun v2 T2 L2 X2 hQ2 => ?_)
  obtain ⟨rfl, N2q, eh2⟩ := hQ2
  have N2 := Fr.app N0 N2q
  refine g_ifN X2 hx hby d4_10 (feq (by decide : ¬ ((1 : Int32) = (0 : Int32)))).1 ?_
  refine g_new X2 hx hby hZ hown w25_ w26_ w18_ eh2 (by decide) (by decide) d4_13 (fun T3 h3 b3 g3 X3 e3 E3 A3 D3 => ?_)
  have F_value_b3 : Fld Z h3 b3 "java/lang/String" "value" "[B" .null := D3 (Or.inr w39_) (ty := (.array .byte)) (by decide)
  have F_coder_b3 : Fld Z h3 b3 "java/lang/String" "coder" "B" (.int (0 : Int32)) := D3 (Or.inr w41_) (ty := .byte) (by decide)
  refine g_dup X3 hx hby d4_16 rfl ?_
  refine g_iloadN X3 hx hby d4_17 rfl ?_
  have z5 := (Nat.le_trans Z0 E3.1)
  refine g_static X3 hx hby hZ hown (rm_tobytes l Z a0 hw [] c h3 n0 z5 ) w27_ w28_ w23_ w29_ (by decide) e3 (by rw [hml]; rfl) [(.int c)] (lenOf own_pd3 rfl) rfl rfl (Nat.le_of_ble_eq_true rfl) (Nat.le_of_ble_eq_true rfl) (Nat.le_of_ble_eq_true rfl) (Nat.le_of_ble_eq_true rfl) d4_18 (fun v4 T4 L4 X4 hQ4 => ?_)
  obtain ⟨N4q, K4, bb, kb, rfl, lob, Vb⟩ := hQ4
  have N4 := Fr.app N2 N4q
  refine g_iconst X4 hx hby (0 : Int32) d4_21 rfl ?_
  have f7 := (A3.keep K4)
  have f8 := (F_coder_b3.keep K4 nin0)
  have f9 := (F_value_b3.keep K4 nin0)
  have g_b3 : n0 ≤ b3 := Nat.le_trans Z0 (Nat.le_of_eq g3)
  have z10 := (Nat.le_trans z5 K4.1)
  refine g_special X4 hx hby hZ hown (rm_initBB l Z a0 hw [] b3 bb (0 : Int32) T4.heap n0 z10 f7 f8 f9 g_b3) rfl rfl w31_ w32_ w18_ w34_ (by decide) rfl (by rw [hml]; rfl) [(.ref bb), (.int (0 : Int32))] (lenOf own_pd4 rfl) rfl rfl (Nat.le_of_ble_eq_true rfl) (Nat.le_of_ble_eq_true rfl) (Nat.le_of_ble_eq_true rfl) (Nat.le_of_ble_eq_true rfl) d4_22 (fun v6 T6 L6 X6 hQ6 => ?_)
  obtain ⟨rfl, N6q, K6, Es6, Cs6, Vs6⟩ := hQ6
  have N6 := Fr.app N4 N6q
  have ne11 : bb ≠ b3 := (Ne.symm (Nat.ne_of_lt (Nat.lt_of_lt_of_le A3.lt lob)))
  have f12 := (Vb.keep K6 (ninS ne11 nin0))
  refine g_aret X6 hx hby (t := (.object "java/lang/String")) rfl rfl rfl Bd.returns Bd.notSynchronized d4_25 rfl (by decide) (by decide) ?_
  show (Q_valueof Z c cz h0 n0) (some (.ref b3)) _ _
  exact ⟨N6, ((((Keep.refl h0 []).ext E3).trans K4 all0).trans K6 (allS (Or.inr (Nat.le_trans (Nat.le_refl _) (Nat.le_of_eq g3))) all0)), b3, bb, kb, rfl, (Nat.le_trans (Nat.le_refl _) (Nat.le_of_eq g3)), (Nat.le_trans E3.1 lob), Es6, Cs6, Vs6, f12⟩

theorem d11_0 : decode jdk_31_method_11_code 0 = .ok (.aload_n 0, 1) := by decide +kernel
theorem d11_1 : decode jdk_31_method_11_code 1 = .ok (.ifnonnull 12, 3) := by decide +kernel
theorem d11_13 : decode jdk_31_method_11_code 13 = .ok (.aload_n 0, 1) := by decide +kernel
theorem d11_14 : decode jdk_31_method_11_code 14 = .ok (.areturn, 1) := by decide +kernel
theorem own_pn4 : plainName "java/util/Objects" = true := by first | (simp [plainName, overriddenIn]; done) | decide +kernel
def Q_reqnn (Z : State) (o : Addr) (mm : Addr) (h0 : Heap) (n0 : Nat) (v : Option Value) (h : Heap) (L : List Loc) : Prop := v = some (.ref o) ∧ Fr n0 L ∧ h = h0
set_option maxRecDepth 65536 in
set_option maxHeartbeats 40000000 in
theorem rm_reqnn (l : Launch) (Z : State) (a0 : Array Value) (hw : ∀ d ∈ tables_1, d.before a0 Z = true) (ws : List Jvm.Cond) (o : Addr) (mm : Addr) (h0 : Heap) (n0 : Nat) (Z0 : n0 ≤ h0.size) :
    MetFree l (⟨"java/util/Objects", "requireNonNull", "(Ljava/lang/Object;Ljava/lang/String;)Ljava/lang/Object;"⟩ : MethodName) (head1 (Jvm.Cond.code (⟨"java/util/Objects", "requireNonNull", "(Ljava/lang/Object;Ljava/lang/String;)Ljava/lang/Object;"⟩ : MethodName) jdk_31_method_11_code 2 (some (.object "java/lang/Object")) :: ws) ({ frames := 0, cells := 0, slots := 0, locals := 0 } : Room)) (fun aa_ U => aa_ = #[(.ref o), (.ref mm)] ∧ Z.Warmed39 U.vm ∧ U.heap = h0) (fun _ _ _ _ _ => True) (fun _ U o_ U' => RetG U (Q_reqnn Z o mm h0 n0) 0 0 U' o_) := by
  refine MetFree.of_bodySF (plainFor_of_name own_pn4) hisR ?_
  intro p e s m args below meth c_ s₁ Bd hml0 hP hK
  obtain ⟨rfl, hZ, hh⟩ := hP
  have hx := Bd.exec
  have hby := Bd.bytes
  have hml : c_.maxLocals = 2 := hml0
  have hown : s.vm.findClass "java/util/Objects" = some m.cls := findClass_of_methodNamed Bd.named
  have hnm := (name_of_methodNamed Bd.named Bd.method).1
  have X0 : Stand p l e ({ frames := 0, cells := 0, slots := 0, locals := 0 } : Room) s m #[(.ref o), (.ref mm)] below meth c_ s₁ [] 0 0 := Stand.of_body Bd
  have e0 : s₁.heap = h0 := by rw [← hh, Bd.state]; rfl
  have N0 := Fr.nil n0
  show Go p e below (RetG s (Q_reqnn Z o mm h0 n0) 0 0) (s₁.setTop (entryFrame m #[(.ref o), (.ref mm)] 2))
  rw [show entryFrame m #[(.ref o), (.ref mm)] 2 = mkF m 0 #[.val (.ref o), .val (.ref mm)] [] from by first | (simp [entryFrame, mkF, argsToLocals, Value.category]; done) | rfl]
  refine g_aloadN X0 hx hby d11_0 rfl rfl ?_
  refine g_ifnonnullY X0 hx hby 13 d11_1 (by decide) (by decide) ?_
  refine g_aloadN X0 hx hby d11_13 rfl rfl ?_
  refine g_aret X0 hx hby (t := (.object "java/lang/Object")) rfl rfl rfl Bd.returns Bd.notSynchronized d11_14 e0 (by decide) (by decide) ?_
  show (Q_reqnn Z o mm h0 n0) (some (.ref o)) _ _
  exact ⟨rfl, N0, rfl⟩

theorem d10_0 : decode prog_41_method_2_code 0 = .ok (.aload_n 0, 1) := by decide +kernel
theorem d10_1 : decode prog_41_method_2_code 1 = .ok (.invokespecial 7, 3) := by decide +kernel
theorem d10_4 : decode prog_41_method_2_code 4 = .ok (.iload_n 1, 1) := by decide +kernel
theorem d10_5 : decode prog_41_method_2_code 5 = .ok (.ifCond .ge 17, 3) := by decide +kernel
theorem d10_22 : decode prog_41_method_2_code 22 = .ok (.iload 5, 2) := by decide +kernel
theorem d10_24 : decode prog_41_method_2_code 24 = .ok (.iconst 1, 1) := by decide +kernel
theorem d10_25 : decode prog_41_method_2_code 25 = .ok (.if_icmp .ge 18, 3) := by decide +kernel
theorem d10_43 : decode prog_41_method_2_code 43 = .ok (.aload_n 0, 1) := by decide +kernel
theorem d10_44 : decode prog_41_method_2_code 44 = .ok (.iload_n 1, 1) := by decide +kernel
theorem d10_45 : decode prog_41_method_2_code 45 = .ok (.putfield 22, 3) := by decide +kernel
theorem d10_48 : decode prog_41_method_2_code 48 = .ok (.aload_n 0, 1) := by decide +kernel
theorem d10_49 : decode prog_41_method_2_code 49 = .ok (.iload_n 2, 1) := by decide +kernel
theorem d10_50 : decode prog_41_method_2_code 50 = .ok (.putfield 26, 3) := by decide +kernel
theorem d10_53 : decode prog_41_method_2_code 53 = .ok (.aload_n 0, 1) := by decide +kernel
theorem d10_54 : decode prog_41_method_2_code 54 = .ok (.aload_n 3, 1) := by decide +kernel
theorem d10_55 : decode prog_41_method_2_code 55 = .ok (.ldc 29, 2) := by decide +kernel
theorem d10_57 : decode prog_41_method_2_code 57 = .ok (.invokestatic 31, 3) := by decide +kernel
theorem own_pd5 : parseMethodDescriptor "(Ljava/lang/Object;Ljava/lang/String;)Ljava/lang/Object;" = some ⟨[(.object "java/lang/Object"), (.object "java/lang/String")], some (.object "java/lang/Object")⟩ := by decide +kernel
theorem d10_60 : decode prog_41_method_2_code 60 = .ok (.checkcast 37, 3) := by decide +kernel
theorem d10_63 : decode prog_41_method_2_code 63 = .ok (.putfield 39, 3) := by decide +kernel
theorem d10_66 : decode prog_41_method_2_code 66 = .ok (.aload_n 0, 1) := by decide +kernel
theorem d10_67 : decode prog_41_method_2_code 67 = .ok (.aload 4, 2) := by decide +kernel
theorem d10_69 : decode prog_41_method_2_code 69 = .ok (.ldc 42, 2) := by decide +kernel
theorem d10_71 : decode prog_41_method_2_code 71 = .ok (.invokestatic 31, 3) := by decide +kernel
theorem d10_74 : decode prog_41_method_2_code 74 = .ok (.checkcast 37, 3) := by decide +kernel
theorem d10_77 : decode prog_41_method_2_code 77 = .ok (.putfield 44, 3) := by decide +kernel
theorem d10_80 : decode prog_41_method_2_code 80 = .ok (.aload_n 0, 1) := by decide +kernel
theorem d10_81 : decode prog_41_method_2_code 81 = .ok (.iload 5, 2) := by decide +kernel
theorem d10_83 : decode prog_41_method_2_code 83 = .ok (.putfield 46, 3) := by decide +kernel
theorem d10_86 : decode prog_41_method_2_code 86 = .ok (.aload_n 0, 1) := by decide +kernel
theorem d10_87 : decode prog_41_method_2_code 87 = .ok (.aload 6, 2) := by decide +kernel
theorem d10_89 : decode prog_41_method_2_code 89 = .ok (.ldc 49, 2) := by decide +kernel
theorem d10_91 : decode prog_41_method_2_code 91 = .ok (.invokestatic 31, 3) := by decide +kernel
theorem d10_94 : decode prog_41_method_2_code 94 = .ok (.checkcast 37, 3) := by decide +kernel
theorem d10_97 : decode prog_41_method_2_code 97 = .ok (.putfield 51, 3) := by decide +kernel
theorem d10_100 : decode prog_41_method_2_code 100 = .ok (.aload_n 0, 1) := by decide +kernel
theorem d10_101 : decode prog_41_method_2_code 101 = .ok (.aload 7, 2) := by decide +kernel
theorem d10_103 : decode prog_41_method_2_code 103 = .ok (.ldc 53, 2) := by decide +kernel
theorem d10_105 : decode prog_41_method_2_code 105 = .ok (.invokestatic 31, 3) := by decide +kernel
theorem d10_108 : decode prog_41_method_2_code 108 = .ok (.checkcast 37, 3) := by decide +kernel
theorem d10_111 : decode prog_41_method_2_code 111 = .ok (.putfield 55, 3) := by decide +kernel
theorem d10_114 : decode prog_41_method_2_code 114 = .ok (.return_, 1) := by decide +kernel
def Q_pini8 (Z : State) (p0 : Addr) (pos : Int32) (ch : Int32) (t : Addr) (c : Addr) (cp : Int32) (k : Addr) (d : Addr) (h0 : Heap) (n0 : Nat) (v : Option Value) (h : Heap) (L : List Loc) : Prop := v = none ∧ Fr n0 L ∧ Keep h0 h [p0] ∧ own_PB Z h p0 pos ch t c cp k d
set_option maxRecDepth 65536 in
set_option maxHeartbeats 40000000 in
theorem rm_pini8 (l : Launch) (Z : State) (a0 : Array Value) (hw : ∀ d ∈ tables_1, d.before a0 Z = true) (ws : List Jvm.Cond) (p0 : Addr) (pos : Int32) (ch : Int32) (t : Addr) (c : Addr) (cp : Int32) (k : Addr) (d : Addr) (h0 : Heap) (n0 : Nat) (Z0 : n0 ≤ h0.size) (E : Exa Z h0 p0 "com/example/refloom/refloom/model/Problem") (Fposition : Fld Z h0 p0 "com/example/refloom/refloom/model/Problem" "position" "I" (.int (0 : Int32))) (FchildPosition : Fld Z h0 p0 "com/example/refloom/refloom/model/Problem" "childPosition" "I" (.int (0 : Int32))) (Ftable : Fld Z h0 p0 "com/example/refloom/refloom/model/Problem" "table" "Ljava/lang/String;" .null) (Fcolumn : Fld Z h0 p0 "com/example/refloom/refloom/model/Problem" "column" "Ljava/lang/String;" .null) (FcolumnPosition : Fld Z h0 p0 "com/example/refloom/refloom/model/Problem" "columnPosition" "I" (.int (0 : Int32))) (Fkind : Fld Z h0 p0 "com/example/refloom/refloom/model/Problem" "kind" "Ljava/lang/String;" .null) (Fdetail : Fld Z h0 p0 "com/example/refloom/refloom/model/Problem" "detail" "Ljava/lang/String;" .null) (gp : n0 ≤ p0) (Et : Exa Z h0 t "java/lang/String") (Ec : Exa Z h0 c "java/lang/String") (Ek : Exa Z h0 k "java/lang/String") (Ed : Exa Z h0 d "java/lang/String") (hpos : ¬ pos < 0) (hcp : ¬ cp < 1) :
    MetFree l (⟨"com/example/refloom/refloom/model/Problem", "<init>", "(IILjava/lang/String;Ljava/lang/String;ILjava/lang/String;Ljava/lang/String;)V"⟩ : MethodName) (head1 (Jvm.Cond.code (⟨"com/example/refloom/refloom/model/Problem", "<init>", "(IILjava/lang/String;Ljava/lang/String;ILjava/lang/String;Ljava/lang/String;)V"⟩ : MethodName) prog_41_method_2_code 8 none :: ws) ({ frames := 1, cells := 8, slots := 100, locals := 14 } : Room)) (fun aa_ U => aa_ = #[(.ref p0), (.int pos), (.int ch), (.ref t), (.ref c), (.int cp), (.ref k), (.ref d)] ∧ Z.Warmed39 U.vm ∧ U.heap = h0) (fun _ _ _ _ _ => True) (fun _ U o_ U' => RetW U (Q_pini8 Z p0 pos ch t c cp k d h0 n0) 8 100 U' o_) := by
  refine MetFree.of_bodySF (plainFor_of_name own_pn1) hisR ?_
  intro p e s m args below meth c_ s₁ Bd hml0 hP hK
  obtain ⟨rfl, hZ, hh⟩ := hP
  have hx := Bd.exec
  have hby := Bd.bytes
  have hml : c_.maxLocals = 8 := hml0
  have hS0 : s.Since s.vm 0 := (State.WarmedH.refl s).since 0
  have hown : s.vm.findClass "com/example/refloom/refloom/model/Problem" = some m.cls := findClass_of_methodNamed Bd.named
  have hnm := (name_of_methodNamed Bd.named Bd.method).1
  have X0 : Stand p l e ({ frames := 1, cells := 8, slots := 100, locals := 14 } : Room) (s.setVm s.vm) m #[(.ref p0), (.int pos), (.int ch), (.ref t), (.ref c), (.int cp), (.ref k), (.ref d)] below meth c_ s₁ [] 0 0 := Stand.of_body Bd
  have e0 : s₁.heap = h0 := by rw [← hh, Bd.state]; rfl
  have N0 := Fr.nil n0
  have w14_ := hw _ (List.mem_of_getElem? (i := 14) rfl)
  have w36_ := hw _ (List.mem_of_getElem? (i := 36) rfl)
  have w37_ := hw _ (List.mem_of_getElem? (i := 37) rfl)
  have w48_ := hw _ (List.mem_of_getElem? (i := 48) rfl)
  have w49_ := hw _ (List.mem_of_getElem? (i := 49) rfl)
  have w50_ := hw _ (List.mem_of_getElem? (i := 50) rfl)
  have w51_ := hw _ (List.mem_of_getElem? (i := 51) rfl)
  have w52_ := hw _ (List.mem_of_getElem? (i := 52) rfl)
  have w53_ := hw _ (List.mem_of_getElem? (i := 53) rfl)
  have w56_ := hw _ (List.mem_of_getElem? (i := 56) rfl)
  have w57_ := hw _ (List.mem_of_getElem? (i := 57) rfl)
  have w58_ := hw _ (List.mem_of_getElem? (i := 58) rfl)
  have w59_ := hw _ (List.mem_of_getElem? (i := 59) rfl)
  have w60_ := hw _ (List.mem_of_getElem? (i := 60) rfl)
  have w61_ := hw _ (List.mem_of_getElem? (i := 61) rfl)
  have w62_ := hw _ (List.mem_of_getElem? (i := 62) rfl)
  have w63_ := hw _ (List.mem_of_getElem? (i := 63) rfl)
  have w64_ := hw _ (List.mem_of_getElem? (i := 64) rfl)
  have w65_ := hw _ (List.mem_of_getElem? (i := 65) rfl)
  have w66_ := hw _ (List.mem_of_getElem? (i := 66) rfl)
  have w67_ := hw _ (List.mem_of_getElem? (i := 67) rfl)
  have w68_ := hw _ (List.mem_of_getElem? (i := 68) rfl)
  have w69_ := hw _ (List.mem_of_getElem? (i := 69) rfl)
  have w70_ := hw _ (List.mem_of_getElem? (i := 70) rfl)
  have w71_ := hw _ (List.mem_of_getElem? (i := 71) rfl)
  have w72_ := hw _ (List.mem_of_getElem? (i := 72) rfl)
  have w73_ := hw _ (List.mem_of_getElem? (i := 73) rfl)
  have wS : ∀ d ∈ Bundle.stringAtoms, d.before a0 Z = true := fun d hd => hw d ((by decide +kernel : ∀ d ∈ Bundle.stringAtoms, d ∈ tables_1) d hd)
  show Go p e below (RetW s (Q_pini8 Z p0 pos ch t c cp k d h0 n0) 8 100) (s₁.setTop (entryFrame m #[(.ref p0), (.int pos), (.int ch), (.ref t), (.ref c), (.int cp), (.ref k), (.ref d)] 8))
  rw [show entryFrame m #[(.ref p0), (.int pos), (.int ch), (.ref t), (.ref c), (.int cp), (.ref k), (.ref d)] 8 = mkF m 0 #[.val (.ref p0), .val (.int pos), .val (.int ch), .val (.ref t), .val (.ref c), .val (.int cp), .val (.ref k), .val (.ref d)] [] from by first | (simp [entryFrame, mkF, argsToLocals, Value.category]; done) | rfl]
  refine g_aloadN X0 hx hby d10_0 rfl rfl ?_
  refine g_initO X0 hx hby hZ hown w48_ w36_ w37_ e0 (by rw [hml]; rfl) (Nat.le_of_ble_eq_true rfl) (Nat.le_of_ble_eq_true rfl) d10_1 (fun T1 X1 e1 => ?_)
  refine g_iloadN X1 hx hby d10_4 rfl ?_
  refine g_ifY X1 hx hby 22 d10_5 (flt (hpos : ¬ (pos < (0 : Int32)))).2.1 (by decide) (by decide) ?_
  refine g_iload X1 hx hby d10_22 rfl ?_
  refine g_iconst X1 hx hby (1 : Int32) d10_24 rfl ?_
  refine g_icY X1 hx hby 43 d10_25 (flt (hcp : ¬ (cp < (1 : Int32)))).2.1 (by decide) (by decide) ?_
  refine g_aloadN X1 hx hby d10_43 rfl rfl ?_
  refine g_iloadN X1 hx hby d10_44 rfl ?_
  refine g_putF X1 hx hby hZ hown (host := "") (Or.inl w49_) Via.refl e1 Fposition E (Or.inr ⟨w50_, rfl, hnm⟩) w14_ .int (by decide) rfl rfl N0 gp d10_45 (fun T2 h2 X2 e2 W2 F2 N2 => ?_)
  refine g_aloadN X2 hx hby d10_48 rfl rfl ?_
  refine g_iloadN X2 hx hby d10_49 rfl ?_
  have f3 := (E.wr W2)
  have f4 := (FchildPosition.other W2 (Or.inr (slot_ne (Or.inr w52_) (Or.inr w50_) (by decide) (t := .int) (t' := .int) (by decide) (by decide))))
  refine g_putF X2 hx hby hZ hown (host := "") (Or.inl w51_) Via.refl e2 f4 f3 (Or.inr ⟨w52_, rfl, hnm⟩) w14_ .int (by decide) rfl rfl N2 gp d10_50 (fun T5 h5 X5 e5 W5 F5 N5 => ?_)
  refine g_aloadN X5 hx hby d10_53 rfl rfl ?_
  refine g_aloadN X5 hx hby d10_54 rfl rfl ?_
  refine g_ldcS X5 hx hby hZ hown w53_ wS e5 hS0 (Nat.zero_le _) 20 (by decide) (by decide) (by decide) (by decide) d10_55 (fun a6 T6 h6 kk6 X6 e6 E6 hS6 hk6 hZ6 ho6 => ?_)
  have z8 := (Nat.le_trans Z0 (Nat.le_trans (Nat.le_trans (Keep.of_wr W2).1 (Keep.of_wr W5).1) E6.1))
  refine g_static X6 hx hby hZ6 ho6 (rm_reqnn l Z a0 hw [] t a6 h6 n0 z8 ) w56_ w57_ w58_ w59_ (by decide) e6 (by rw [hml]; rfl) [(.ref t), (.ref a6)] (lenOf own_pd5 rfl) rfl rfl (Nat.le_of_ble_eq_true rfl) (Nat.le_of_ble_eq_true rfl) (Nat.le_of_ble_eq_true rfl) (Nat.le_of_ble_eq_true rfl) d10_57 (fun v7 T7 L7 X7 hQ7 => ?_)
  obtain ⟨rfl, N7q, eh7⟩ := hQ7
  have N7 := Fr.app N5 N7q
  have f9 := (((Et.wr W2).wr W5).ext E6)
  refine g_checkcast X7 hx hby hZ6 ho6 w60_ eh7 (Ins.self f9) d10_60 (fun T10 X10 e10 => ?_)
  have f11 := ((f3.wr W5).ext E6)
  have f12 := (((Ftable.other W2 (Or.inr (slot_ne (Or.inr w62_) (Or.inr w50_) (by decide) (t := (.object "java/lang/String")) (t' := .int) (by decide) (by decide)))).other W5 (Or.inr (slot_ne (Or.inr w62_) (Or.inr w52_) (by decide) (t := (.object "java/lang/String")) (t' := .int) (by decide) (by decide)))).ext E6)
  refine g_putF X10 hx hby hZ6 ho6 (host := "") (Or.inl w61_) Via.refl e10 f12 f11 (Or.inr ⟨w62_, rfl, hnm⟩) w14_ (.object "java/lang/String") (by decide) rfl rfl N7 gp d10_63 (fun T13 h13 X13 e13 W13 F13 N13 => ?_)
  refine g_aloadN X13 hx hby d10_66 rfl rfl ?_
  refine g_aload X13 hx hby d10_67 rfl rfl ?_
  refine g_ldcS X13 hx hby hZ6 ho6 w63_ wS e13 hS6 (Nat.le_trans hk6 (Keep.of_wr W13).1) 24 (by decide) (by decide) (by decide) (by decide) d10_69 (fun a14 T14 h14 kk14 X14 e14 E14 hS14 hk14 hZ14 ho14 => ?_)
  have z16 := (Nat.le_trans z8 (Nat.le_trans (Keep.of_wr W13).1 E14.1))
  refine g_static X14 hx hby hZ14 ho14 (rm_reqnn l Z a0 hw [] c a14 h14 n0 z16 ) w56_ w57_ w58_ w59_ (by decide) e14 (by rw [hml]; rfl) [(.ref c), (.ref a14)] (lenOf own_pd5 rfl) rfl rfl (Nat.le_of_ble_eq_true rfl) (Nat.le_of_ble_eq_true rfl) (Nat.le_of_ble_eq_true rfl) (Nat.le_of_ble_eq_true rfl) d10_71 (fun v15 T15 L15 X15 hQ15 => ?_)
  obtain ⟨rfl, N15q, eh15⟩ := hQ15
  have N15 := Fr.app N13 N15q
  refine g_at 74 rfl rfl rfl ?_
  have f17 := (((((Ec.wr W2).wr W5).ext E6).wr W13).ext E14)
  refine g_checkcast X15 hx hby hZ14 ho14 w60_ eh15 (Ins.self f17) d10_74 (fun T18 X18 e18 => ?_)
  have f19 := ((f11.wr W13).ext E14)
  have f20 := (((((Fcolumn.other W2 (Or.inr (slot_ne (Or.inr w65_) (Or.inr w50_) (by decide) (t := (.object "java/lang/String")) (t' := .int) (by decide) (by decide)))).other W5 (Or.inr (slot_ne (Or.inr w65_) (Or.inr w52_) (by decide) (t := (.object "java/lang/String")) (t' := .int) (by decide) (by decide)))).ext E6).other W13 (Or.inr (slot_ne (Or.inr w65_) (Or.inr w62_) (by decide) (t := (.object "java/lang/String")) (t' := (.object "java/lang/String")) (by decide) (by decide)))).ext E14)
  refine g_putF X18 hx hby hZ14 ho14 (host := "") (Or.inl w64_) Via.refl e18 f20 f19 (Or.inr ⟨w65_, rfl, hnm⟩) w14_ (.object "java/lang/String") (by decide) rfl rfl N15 gp d10_77 (fun T21 h21 X21 e21 W21 F21 N21 => ?_)
  refine g_aloadN X21 hx hby d10_80 rfl rfl ?_
  refine g_iload X21 hx hby d10_81 rfl ?_
  have f22 := (f19.wr W21)
  have f23 := ((((((FcolumnPosition.other W2 (Or.inr (slot_ne (Or.inr w67_) (Or.inr w50_) (by decide) (t := .int) (t' := .int) (by decide) (by decide)))).other W5 (Or.inr (slot_ne (Or.inr w67_) (Or.inr w52_) (by decide) (t := .int) (t' := .int) (by decide) (by decide)))).ext E6).other W13 (Or.inr (slot_ne (Or.inr w67_) (Or.inr w62_) (by decide) (t := .int) (t' := (.object "java/lang/String")) (by decide) (by decide)))).ext E14).other W21 (Or.inr (slot_ne (Or.inr w67_) (Or.inr w65_) (by decide) (t := .int) (t' := (.object "java/lang/String")) (by decide) (by decide))))
  refine g_putF X21 hx hby hZ14 ho14 (host := "") (Or.inl w66_) Via.refl e21 f23 f22 (Or.inr ⟨w67_, rfl, hnm⟩) w14_ .int (by decide) rfl rfl N21 gp d10_83 (fun T24 h24 X24 e24 W24 F24 N24 => ?_)
  refine g_aloadN X24 hx hby d10_86 rfl rfl ?_
  refine g_aload X24 hx hby d10_87 rfl rfl ?_
  refine g_ldcS X24 hx hby hZ14 ho14 w68_ wS e24 hS14 (Nat.le_trans hk14 (Nat.le_trans (Keep.of_wr W21).1 (Keep.of_wr W24).1)) 16 (by decide) (by decide) (by decide) (by decide) d10_89 (fun a25 T25 h25 kk25 X25 e25 E25 hS25 hk25 hZ25 ho25 => ?_)
  have z27 := (Nat.le_trans z16 (Nat.le_trans (Nat.le_trans (Keep.of_wr W21).1 (Keep.of_wr W24).1) E25.1))
  refine g_static X25 hx hby hZ25 ho25 (rm_reqnn l Z a0 hw [] k a25 h25 n0 z27 ) w56_ w57_ w58_ w59_ (by decide) e25 (by rw [hml]; rfl) [(.ref k), (.ref a25)] (lenOf own_pd5 rfl) rfl rfl (Nat.le_of_ble_eq_true rfl) (Nat.le_of_ble_eq_true rfl) (Nat.le_of_ble_eq_true rfl) (Nat.le_of_ble_eq_true rfl) d10_91 (fun v26 T26 L26 X26 hQ26 => ?_)
  obtain ⟨rfl, N26q, eh26⟩ := hQ26
  have N26 := Fr.app N24 N26q
  have f28 := ((((((((Ek.wr W2).wr W5).ext E6).wr W13).ext E14).wr W21).wr W24).ext E25)
  refine g_checkcast X26 hx hby hZ25 ho25 w60_ eh26 (Ins.self f28) d10_94 (fun T29 X29 e29 => ?_)
  have f30 := ((f22.wr W24).ext E25)
  have f31 := ((((((((Fkind.other W2 (Or.inr (slot_ne (Or.inr w70_) (Or.inr w50_) (by decide) (t := (.object "java/lang/String")) (t' := .int) (by decide) (by decide)))).other W5 (Or.inr (slot_ne (Or.inr w70_) (Or.inr w52_) (by decide) (t := (.object "java/lang/String")) (t' := .int) (by decide) (by decide)))).ext E6).other W13 (Or.inr (slot_ne (Or.inr w70_) (Or.inr w62_) (by decide) (t := (.object "java/lang/String")) (t' := (.object "java/lang/String")) (by decide) (by decide)))).ext E14).other W21 (Or.inr (slot_ne (Or.inr w70_) (Or.inr w65_) (by decide) (t := (.object "java/lang/String")) (t' := (.object "java/lang/String")) (by decide) (by decide)))).other W24 (Or.inr (slot_ne (Or.inr w70_) (Or.inr w67_) (by decide) (t := (.object "java/lang/String")) (t' := .int) (by decide) (by decide)))).ext E25)
  refine g_putF X29 hx hby hZ25 ho25 (host := "") (Or.inl w69_) Via.refl e29 f31 f30 (Or.inr ⟨w70_, rfl, hnm⟩) w14_ (.object "java/lang/String") (by decide) rfl rfl N26 gp d10_97 (fun T32 h32 X32 e32 W32 F32 N32 => ?_)
  refine g_aloadN X32 hx hby d10_100 rfl rfl ?_
  refine g_aload X32 hx hby d10_101 rfl rfl ?_
  refine g_ldcS X32 hx hby hZ25 ho25 w71_ wS e32 hS25 (Nat.le_trans hk25 (Keep.of_wr W32).1) 24 (by decide) (by decide) (by decide) (by decide) d10_103 (fun a33 T33 h33 kk33 X33 e33 E33 hS33 hk33 hZ33 ho33 => ?_)
  have z35 := (Nat.le_trans z27 (Nat.le_trans (Keep.of_wr W32).1 E33.1))
  refine g_static X33 hx hby hZ33 ho33 (rm_reqnn l Z a0 hw [] d a33 h33 n0 z35 ) w56_ w57_ w58_ w59_ (by decide) e33 (by rw [hml]; rfl) [(.ref d), (.ref a33)] (lenOf own_pd5 rfl) rfl rfl (Nat.le_of_ble_eq_true rfl) (Nat.le_of_ble_eq_true rfl) (Nat.le_of_ble_eq_true rfl) (Nat.le_of_ble_eq_true rfl) d10_105 (fun v34 T34 L34 X34 hQ34 => ?_)
  obtain ⟨rfl, N34q, eh34⟩ := hQ34
  have N34 := Fr.app N32 N34q
  have f36 := ((((((((((Ed.wr W2).wr W5).ext E6).wr W13).ext E14).wr W21).wr W24).ext E25).wr W32).ext E33)
  refine g_checkcast X34 hx hby hZ33 ho33 w60_ eh34 (Ins.self f36) d10_108 (fun T37 X37 e37 => ?_)
  refine g_at 111 rfl rfl rfl ?_
  have f38 := ((f30.wr W32).ext E33)
  have f39 := ((((((((((Fdetail.other W2 (Or.inr (slot_ne (Or.inr w73_) (Or.inr w50_) (by decide) (t := (.object "java/lang/String")) (t' := .int) (by decide) (by decide)))).other W5 (Or.inr (slot_ne (Or.inr w73_) (Or.inr w52_) (by decide) (t := (.object "java/lang/String")) (t' := .int) (by decide) (by decide)))).ext E6).other W13 (Or.inr (slot_ne (Or.inr w73_) (Or.inr w62_) (by decide) (t := (.object "java/lang/String")) (t' := (.object "java/lang/String")) (by decide) (by decide)))).ext E14).other W21 (Or.inr (slot_ne (Or.inr w73_) (Or.inr w65_) (by decide) (t := (.object "java/lang/String")) (t' := (.object "java/lang/String")) (by decide) (by decide)))).other W24 (Or.inr (slot_ne (Or.inr w73_) (Or.inr w67_) (by decide) (t := (.object "java/lang/String")) (t' := .int) (by decide) (by decide)))).ext E25).other W32 (Or.inr (slot_ne (Or.inr w73_) (Or.inr w70_) (by decide) (t := (.object "java/lang/String")) (t' := (.object "java/lang/String")) (by decide) (by decide)))).ext E33)
  refine g_putF X37 hx hby hZ33 ho33 (host := "") (Or.inl w72_) Via.refl e37 f39 f38 (Or.inr ⟨w73_, rfl, hnm⟩) w14_ (.object "java/lang/String") (by decide) rfl rfl N34 gp d10_111 (fun T40 h40 X40 e40 W40 F40 N40 => ?_)
  have f41 := (f38.wr W40)
  have f42 := ((((((((((F2.other W5 (Or.inr (slot_ne (Or.inr w50_) (Or.inr w52_) (by decide) (t := .int) (t' := .int) (by decide) (by decide)))).ext E6).other W13 (Or.inr (slot_ne (Or.inr w50_) (Or.inr w62_) (by decide) (t := .int) (t' := (.object "java/lang/String")) (by decide) (by decide)))).ext E14).other W21 (Or.inr (slot_ne (Or.inr w50_) (Or.inr w65_) (by decide) (t := .int) (t' := (.object "java/lang/String")) (by decide) (by decide)))).other W24 (Or.inr (slot_ne (Or.inr w50_) (Or.inr w67_) (by decide) (t := .int) (t' := .int) (by decide) (by decide)))).ext E25).other W32 (Or.inr (slot_ne (Or.inr w50_) (Or.inr w70_) (by decide) (t := .int) (t' := (.object "java/lang/String")) (by decide) (by decide)))).ext E33).other W40 (Or.inr (slot_ne (Or.inr w50_) (Or.inr w73_) (by decide) (t := .int) (t' := (.object "java/lang/String")) (by decide) (by decide))))
  have f43 := (((((((((F5.ext E6).other W13 (Or.inr (slot_ne (Or.inr w52_) (Or.inr w62_) (by decide) (t := .int) (t' := (.object "java/lang/String")) (by decide) (by decide)))).ext E14).other W21 (Or.inr (slot_ne (Or.inr w52_) (Or.inr w65_) (by decide) (t := .int) (t' := (.object "java/lang/String")) (by decide) (by decide)))).other W24 (Or.inr (slot_ne (Or.inr w52_) (Or.inr w67_) (by decide) (t := .int) (t' := .int) (by decide) (by decide)))).ext E25).other W32 (Or.inr (slot_ne (Or.inr w52_) (Or.inr w70_) (by decide) (t := .int) (t' := (.object "java/lang/String")) (by decide) (by decide)))).ext E33).other W40 (Or.inr (slot_ne (Or.inr w52_) (Or.inr w73_) (by decide) (t := .int) (t' := (.object "java/lang/String")) (by decide) (by decide))))
  have f44 := (((((((F13.ext E14).other W21 (Or.inr (slot_ne (Or.inr w62_) (Or.inr w65_) (by decide) (t := (.object "java/lang/String")) (t' := (.object "java/lang/String")) (by decide) (by decide)))).other W24 (Or.inr (slot_ne (Or.inr w62_) (Or.inr w67_) (by decide) (t := (.object "java/lang/String")) (t' := .int) (by decide) (by decide)))).ext E25).other W32 (Or.inr (slot_ne (Or.inr w62_) (Or.inr w70_) (by decide) (t := (.object "java/lang/String")) (t' := (.object "java/lang/String")) (by decide) (by decide)))).ext E33).other W40 (Or.inr (slot_ne (Or.inr w62_) (Or.inr w73_) (by decide) (t := (.object "java/lang/String")) (t' := (.object "java/lang/String")) (by decide) (by decide))))
  have f45 := (((((F21.other W24 (Or.inr (slot_ne (Or.inr w65_) (Or.inr w67_) (by decide) (t := (.object "java/lang/String")) (t' := .int) (by decide) (by decide)))).ext E25).other W32 (Or.inr (slot_ne (Or.inr w65_) (Or.inr w70_) (by decide) (t := (.object "java/lang/String")) (t' := (.object "java/lang/String")) (by decide) (by decide)))).ext E33).other W40 (Or.inr (slot_ne (Or.inr w65_) (Or.inr w73_) (by decide) (t := (.object "java/lang/String")) (t' := (.object "java/lang/String")) (by decide) (by decide))))
  have f46 := ((((F24.ext E25).other W32 (Or.inr (slot_ne (Or.inr w67_) (Or.inr w70_) (by decide) (t := .int) (t' := (.object "java/lang/String")) (by decide) (by decide)))).ext E33).other W40 (Or.inr (slot_ne (Or.inr w67_) (Or.inr w73_) (by decide) (t := .int) (t' := (.object "java/lang/String")) (by decide) (by decide))))
  have f47 := ((F32.ext E33).other W40 (Or.inr (slot_ne (Or.inr w70_) (Or.inr w73_) (by decide) (t := (.object "java/lang/String")) (t' := (.object "java/lang/String")) (by decide) (by decide))))
  refine g_retW X40 hx hby Bd.returns Bd.notSynchronized hS33 d10_114 e40 (Nat.le_trans hk33 (Keep.of_wr W40).1) (by decide) (by decide) ?_
  show (Q_pini8 Z p0 pos ch t c cp k d h0 n0) none _ _
  exact ⟨rfl, N40, ((((((((((((Keep.refl h0 [p0]).wr W2 (Or.inl (List.mem_of_getElem? (i := 0) rfl))).wr W5 (Or.inl (List.mem_of_getElem? (i := 0) rfl))).ext E6).wr W13 (Or.inl (List.mem_of_getElem? (i := 0) rfl))).ext E14).wr W21 (Or.inl (List.mem_of_getElem? (i := 0) rfl))).wr W24 (Or.inl (List.mem_of_getElem? (i := 0) rfl))).ext E25).wr W32 (Or.inl (List.mem_of_getElem? (i := 0) rfl))).ext E33).wr W40 (Or.inl (List.mem_of_getElem? (i := 0) rfl))), f41, f42, f43, f44, f45, f46, f47, F40⟩

theorem d9_0 : decode prog_41_method_1_code 0 = .ok (.aload_n 0, 1) := by decide +kernel
theorem d9_1 : decode prog_41_method_1_code 1 = .ok (.iload_n 1, 1) := by decide +kernel
theorem d9_2 : decode prog_41_method_1_code 2 = .ok (.iconst (-1), 1) := by decide +kernel
theorem d9_3 : decode prog_41_method_1_code 3 = .ok (.aload_n 2, 1) := by decide +kernel
theorem d9_4 : decode prog_41_method_1_code 4 = .ok (.aload_n 3, 1) := by decide +kernel
theorem d9_5 : decode prog_41_method_1_code 5 = .ok (.iload 4, 2) := by decide +kernel
theorem d9_7 : decode prog_41_method_1_code 7 = .ok (.aload 5, 2) := by decide +kernel
theorem d9_9 : decode prog_41_method_1_code 9 = .ok (.aload 6, 2) := by decide +kernel
theorem d9_11 : decode prog_41_method_1_code 11 = .ok (.invokespecial 1, 3) := by decide +kernel
theorem own_pd6 : parseMethodDescriptor "(IILjava/lang/String;Ljava/lang/String;ILjava/lang/String;Ljava/lang/String;)V" = some ⟨[.int, .int, (.object "java/lang/String"), (.object "java/lang/String"), .int, (.object "java/lang/String"), (.object "java/lang/String")], none⟩ := by decide +kernel
theorem d9_14 : decode prog_41_method_1_code 14 = .ok (.return_, 1) := by decide +kernel
def Q_pini7 (Z : State) (p0 : Addr) (pos : Int32) (t : Addr) (c : Addr) (cp : Int32) (k : Addr) (d : Addr) (h0 : Heap) (n0 : Nat) (v : Option Value) (h : Heap) (L : List Loc) : Prop := v = none ∧ Fr n0 L ∧ Keep h0 h [p0] ∧ own_PB Z h p0 pos (-1) t c cp k d
set_option maxRecDepth 65536 in
set_option maxHeartbeats 40000000 in
theorem rm_pini7 (l : Launch) (Z : State) (a0 : Array Value) (hw : ∀ d ∈ tables_1, d.before a0 Z = true) (ws : List Jvm.Cond) (p0 : Addr) (pos : Int32) (t : Addr) (c : Addr) (cp : Int32) (k : Addr) (d : Addr) (h0 : Heap) (n0 : Nat) (Z0 : n0 ≤ h0.size) (E : Exa Z h0 p0 "com/example/refloom/refloom/model/Problem") (Fposition : Fld Z h0 p0 "com/example/refloom/refloom/model/Problem" "position" "I" (.int (0 : Int32))) (FchildPosition : Fld Z h0 p0 "com/example/refloom/refloom/model/Problem" "childPosition" "I" (.int (0 : Int32))) (Ftable : Fld Z h0 p0 "com/example/refloom/refloom/model/Problem" "table" "Ljava/lang/String;" .null) (Fcolumn : Fld Z h0 p0 "com/example/refloom/refloom/model/Problem" "column" "Ljava/lang/String;" .null) (FcolumnPosition : Fld Z h0 p0 "com/example/refloom/refloom/model/Problem" "columnPosition" "I" (.int (0 : Int32))) (Fkind : Fld Z h0 p0 "com/example/refloom/refloom/model/Problem" "kind" "Ljava/lang/String;" .null) (Fdetail : Fld Z h0 p0 "com/example/refloom/refloom/model/Problem" "detail" "Ljava/lang/String;" .null) (gp : n0 ≤ p0) (Et : Exa Z h0 t "java/lang/String") (Ec : Exa Z h0 c "java/lang/String") (Ek : Exa Z h0 k "java/lang/String") (Ed : Exa Z h0 d "java/lang/String") (hpos : ¬ pos < 0) (hcp : ¬ cp < 1) :
    MetFree l (⟨"com/example/refloom/refloom/model/Problem", "<init>", "(ILjava/lang/String;Ljava/lang/String;ILjava/lang/String;Ljava/lang/String;)V"⟩ : MethodName) (head1 (Jvm.Cond.code (⟨"com/example/refloom/refloom/model/Problem", "<init>", "(ILjava/lang/String;Ljava/lang/String;ILjava/lang/String;Ljava/lang/String;)V"⟩ : MethodName) prog_41_method_1_code 7 none :: ws) ({ frames := 2, cells := 8, slots := 100, locals := 33 } : Room)) (fun aa_ U => aa_ = #[(.ref p0), (.int pos), (.ref t), (.ref c), (.int cp), (.ref k), (.ref d)] ∧ Z.Warmed39 U.vm ∧ U.heap = h0) (fun _ _ _ _ _ => True) (fun _ U o_ U' => RetW U (Q_pini7 Z p0 pos t c cp k d h0 n0) 8 100 U' o_) := by
  refine MetFree.of_bodySF (plainFor_of_name own_pn1) hisR ?_
  intro p e s m args below meth c_ s₁ Bd hml0 hP hK
  obtain ⟨rfl, hZ, hh⟩ := hP
  have hx := Bd.exec
  have hby := Bd.bytes
  have hml : c_.maxLocals = 7 := hml0
  have hS0 : s.Since s.vm 0 := (State.WarmedH.refl s).since 0
  have hown : s.vm.findClass "com/example/refloom/refloom/model/Problem" = some m.cls := findClass_of_methodNamed Bd.named
  have hnm := (name_of_methodNamed Bd.named Bd.method).1
  have X0 : Stand p l e ({ frames := 2, cells := 8, slots := 100, locals := 33 } : Room) (s.setVm s.vm) m #[(.ref p0), (.int pos), (.ref t), (.ref c), (.int cp), (.ref k), (.ref d)] below meth c_ s₁ [] 0 0 := Stand.of_body Bd
  have e0 : s₁.heap = h0 := by rw [← hh, Bd.state]; rfl
  have N0 := Fr.nil n0
  have w15_ := hw _ (List.mem_of_getElem? (i := 15) rfl)
  have w45_ := hw _ (List.mem_of_getElem? (i := 45) rfl)
  have w46_ := hw _ (List.mem_of_getElem? (i := 46) rfl)
  have w47_ := hw _ (List.mem_of_getElem? (i := 47) rfl)
  show Go p e below (RetW s (Q_pini7 Z p0 pos t c cp k d h0 n0) 8 100) (s₁.setTop (entryFrame m #[(.ref p0), (.int pos), (.ref t), (.ref c), (.int cp), (.ref k), (.ref d)] 7))
  rw [show entryFrame m #[(.ref p0), (.int pos), (.ref t), (.ref c), (.int cp), (.ref k), (.ref d)] 7 = mkF m 0 #[.val (.ref p0), .val (.int pos), .val (.ref t), .val (.ref c), .val (.int cp), .val (.ref k), .val (.ref d)] [] from by first | (simp [entryFrame, mkF, argsToLocals, Value.category]; done) | rfl]
  refine g_aloadN X0 hx hby d9_0 rfl rfl ?_
  refine g_iloadN X0 hx hby d9_1 rfl ?_
  refine g_iconst X0 hx hby (-1 : Int32) d9_2 rfl ?_
  refine g_aloadN X0 hx hby d9_3 rfl rfl ?_
  refine g_aloadN X0 hx hby d9_4 rfl rfl ?_
  refine g_iload X0 hx hby d9_5 rfl ?_
  refine g_aload X0 hx hby d9_7 rfl rfl ?_
  refine g_aload X0 hx hby d9_9 rfl rfl ?_
  refine g_specialW X0 hx hby hZ hown (PV := fun vm => Z.Warmed39 vm) (rm_pini8 l Z a0 hw [] p0 pos (-1 : Int32) t c cp k d h0 n0 Z0 E Fposition FchildPosition Ftable Fcolumn FcolumnPosition Fkind Fdetail gp Et Ec Ek Ed hpos hcp) (fun _ q => State.Warmed39.trans hZ q.wide) hS0 (Nat.zero_le _) rfl rfl w45_ w46_ w15_ w47_ (by decide) e0 (by rw [hml]; rfl) [(.int pos), (.int (-1 : Int32)), (.ref t), (.ref c), (.int cp), (.ref k), (.ref d)] (lenOf own_pd6 rfl) rfl rfl (Nat.le_of_ble_eq_true rfl) (Nat.le_of_ble_eq_true rfl) (Nat.le_of_ble_eq_true rfl) (Nat.le_of_ble_eq_true rfl) d9_11 (fun v1 T1 L1 X1 hS1 hZ1 ho1 hQ1 => ?_)
  obtain ⟨rfl, N1q, R1⟩ := hQ1
  have N1 := Fr.app N0 N1q
  refine g_retW X1 hx hby Bd.returns Bd.notSynchronized hS1 d9_14 rfl (Nat.le_refl _) (by decide) (by decide) ?_
  show (Q_pini7 Z p0 pos t c cp k d h0 n0) none _ _
  exact ⟨rfl, N1, R1⟩

theorem d15_0 : decode prog_41_method_3_code 0 = .ok (.iload_n 2, 1) := by decide +kernel
theorem d15_1 : decode prog_41_method_3_code 1 = .ok (.ifCond .ge 17, 3) := by decide +kernel
theorem d15_18 : decode prog_41_method_3_code 18 = .ok (.new 2, 3) := by decide +kernel
theorem d15_21 : decode prog_41_method_3_code 21 = .ok (.dup, 1) := by decide +kernel
theorem d15_22 : decode prog_41_method_3_code 22 = .ok (.iload_n 1, 1) := by decide +kernel
theorem d15_23 : decode prog_41_method_3_code 23 = .ok (.iload_n 2, 1) := by decide +kernel
theorem d15_24 : decode prog_41_method_3_code 24 = .ok (.aload_n 0, 1) := by decide +kernel
theorem d15_25 : decode prog_41_method_3_code 25 = .ok (.getfield 39, 3) := by decide +kernel
theorem d15_28 : decode prog_41_method_3_code 28 = .ok (.aload_n 0, 1) := by decide +kernel
theorem d15_29 : decode prog_41_method_3_code 29 = .ok (.getfield 44, 3) := by decide +kernel
theorem d15_32 : decode prog_41_method_3_code 32 = .ok (.aload_n 0, 1) := by decide +kernel
theorem d15_33 : decode prog_41_method_3_code 33 = .ok (.getfield 46, 3) := by decide +kernel
theorem d15_36 : decode prog_41_method_3_code 36 = .ok (.aload_n 0, 1) := by decide +kernel
theorem d15_37 : decode prog_41_method_3_code 37 = .ok (.getfield 51, 3) := by decide +kernel
theorem d15_40 : decode prog_41_method_3_code 40 = .ok (.aload_n 0, 1) := by decide +kernel
theorem d15_41 : decode prog_41_method_3_code 41 = .ok (.getfield 55, 3) := by decide +kernel
theorem d15_44 : decode prog_41_method_3_code 44 = .ok (.invokespecial 1, 3) := by decide +kernel
theorem d15_47 : decode prog_41_method_3_code 47 = .ok (.areturn, 1) := by decide +kernel
def Q_ofchild (Z : State) (p0 : Addr) (par : Int32) (chi : Int32) (pos : Int32) (ch : Int32) (t : Addr) (c : Addr) (cp : Int32) (k : Addr) (d : Addr) (h0 : Heap) (n0 : Nat) (v : Option Value) (h : Heap) (L : List Loc) : Prop := Fr n0 L ∧ Keep h0 h [] ∧ ∃ q : Addr, v = some (.ref q) ∧ h0.size ≤ q ∧ own_PB Z h q par chi t c cp k d
set_option maxRecDepth 65536 in
set_option maxHeartbeats 40000000 in
theorem rm_ofchild (l : Launch) (Z : State) (a0 : Array Value) (hw : ∀ d ∈ tables_1, d.before a0 Z = true) (ws : List Jvm.Cond) (p0 : Addr) (par : Int32) (chi : Int32) (pos : Int32) (ch : Int32) (t : Addr) (c : Addr) (cp : Int32) (k : Addr) (d : Addr) (h0 : Heap) (n0 : Nat) (Z0 : n0 ≤ h0.size) (PBp : own_PB Z h0 p0 pos ch t c cp k d) (Et : Exa Z h0 t "java/lang/String") (Ec : Exa Z h0 c "java/lang/String") (Ek : Exa Z h0 k "java/lang/String") (Ed : Exa Z h0 d "java/lang/String") (hpar : ¬ par < 0) (hchi : ¬ chi < 0) (hcp : ¬ cp < 1) :
    MetFree l (⟨"com/example/refloom/refloom/model/Problem", "ofChild", "(II)Lcom/example/refloom/refloom/model/Problem;"⟩ : MethodName) (head1 (Jvm.Cond.code (⟨"com/example/refloom/refloom/model/Problem", "ofChild", "(II)Lcom/example/refloom/refloom/model/Problem;"⟩ : MethodName) prog_41_method_3_code 3 (some (.object "com/example/refloom/refloom/model/Problem")) :: ws) ({ frames := 2, cells := 9, slots := 107, locals := 34 } : Room)) (fun aa_ U => aa_ = #[(.ref p0), (.int par), (.int chi)] ∧ Z.Warmed39 U.vm ∧ U.heap = h0) (fun _ _ _ _ _ => True) (fun _ U o_ U' => RetW U (Q_ofchild Z p0 par chi pos ch t c cp k d h0 n0) 9 107 U' o_) := by
  refine MetFree.of_bodySF (plainFor_of_name own_pn1) hisR ?_
  intro p e s m args below meth c_ s₁ Bd hml0 hP hK
  obtain ⟨rfl, hZ, hh⟩ := hP
  have hx := Bd.exec
  have hby := Bd.bytes
  have hml : c_.maxLocals = 3 := hml0
  have hS0 : s.Since s.vm 0 := (State.WarmedH.refl s).since 0
  have hown : s.vm.findClass "com/example/refloom/refloom/model/Problem" = some m.cls := findClass_of_methodNamed Bd.named
  have hnm := (name_of_methodNamed Bd.named Bd.method).1
  have X0 : Stand p l e ({ frames := 2, cells := 9, slots := 107, locals := 34 } : Room) (s.setVm s.vm) m #[(.ref p0), (.int par), (.int chi)] below meth c_ s₁ [] 0 0 := Stand.of_body Bd
  have e0 : s₁.heap = h0 := by rw [← hh, Bd.state]; rfl
  have N0 := Fr.nil n0
  have w14_ := hw _ (List.mem_of_getElem? (i := 14) rfl)
  have w15_ := hw _ (List.mem_of_getElem? (i := 15) rfl)
  have w45_ := hw _ (List.mem_of_getElem? (i := 45) rfl)
  have w46_ := hw _ (List.mem_of_getElem? (i := 46) rfl)
  have w47_ := hw _ (List.mem_of_getElem? (i := 47) rfl)
  have w50_ := hw _ (List.mem_of_getElem? (i := 50) rfl)
  have w52_ := hw _ (List.mem_of_getElem? (i := 52) rfl)
  have w61_ := hw _ (List.mem_of_getElem? (i := 61) rfl)
  have w62_ := hw _ (List.mem_of_getElem? (i := 62) rfl)
  have w64_ := hw _ (List.mem_of_getElem? (i := 64) rfl)
  have w65_ := hw _ (List.mem_of_getElem? (i := 65) rfl)
  have w66_ := hw _ (List.mem_of_getElem? (i := 66) rfl)
  have w67_ := hw _ (List.mem_of_getElem? (i := 67) rfl)
  have w69_ := hw _ (List.mem_of_getElem? (i := 69) rfl)
  have w70_ := hw _ (List.mem_of_getElem? (i := 70) rfl)
  have w72_ := hw _ (List.mem_of_getElem? (i := 72) rfl)
  have w73_ := hw _ (List.mem_of_getElem? (i := 73) rfl)
  have w79_ := hw _ (List.mem_of_getElem? (i := 79) rfl)
  obtain ⟨pE, pa, pb, pc, pd, pe, pf, pg⟩ := PBp
  show Go p e below (RetW s (Q_ofchild Z p0 par chi pos ch t c cp k d h0 n0) 9 107) (s₁.setTop (entryFrame m #[(.ref p0), (.int par), (.int chi)] 3))
  rw [show entryFrame m #[(.ref p0), (.int par), (.int chi)] 3 = mkF m 0 #[.val (.ref p0), .val (.int par), .val (.int chi)] [] from by first | (simp [entryFrame, mkF, argsToLocals, Value.category]; done) | rfl]
  refine g_iloadN X0 hx hby d15_0 rfl ?_
  refine g_ifY X0 hx hby 18 d15_1 (flt (hchi : ¬ (chi < (0 : Int32)))).2.1 (by decide) (by decide) ?_
  refine g_new X0 hx hby hZ hown w79_ w14_ w15_ e0 (by decide) (by decide) d15_18 (fun T1 h1 b1 g1 X1 e1 E1 A1 D1 => ?_)
  have F_position_b1 : Fld Z h1 b1 "com/example/refloom/refloom/model/Problem" "position" "I" (.int (0 : Int32)) := D1 (Or.inr w50_) (ty := .int) (by decide)
  have F_childPosition_b1 : Fld Z h1 b1 "com/example/refloom/refloom/model/Problem" "childPosition" "I" (.int (0 : Int32)) := D1 (Or.inr w52_) (ty := .int) (by decide)
  have F_table_b1 : Fld Z h1 b1 "com/example/refloom/refloom/model/Problem" "table" "Ljava/lang/String;" .null := D1 (Or.inr w62_) (ty := (.object "java/lang/String")) (by decide)
  have F_column_b1 : Fld Z h1 b1 "com/example/refloom/refloom/model/Problem" "column" "Ljava/lang/String;" .null := D1 (Or.inr w65_) (ty := (.object "java/lang/String")) (by decide)
  have F_columnPosition_b1 : Fld Z h1 b1 "com/example/refloom/refloom/model/Problem" "columnPosition" "I" (.int (0 : Int32)) := D1 (Or.inr w67_) (ty := .int) (by decide)
  have F_kind_b1 : Fld Z h1 b1 "com/example/refloom/refloom/model/Problem" "kind" "Ljava/lang/String;" .null := D1 (Or.inr w70_) (ty := (.object "java/lang/String")) (by decide)
  have F_detail_b1 : Fld Z h1 b1 "com/example/refloom/refloom/model/Problem" "detail" "Ljava/lang/String;" .null := D1 (Or.inr w73_) (ty := (.object "java/lang/String")) (by decide)
  refine g_dup X1 hx hby d15_21 rfl ?_
  refine g_iloadN X1 hx hby d15_22 rfl ?_
  refine g_iloadN X1 hx hby d15_23 rfl ?_
  refine g_aloadN X1 hx hby d15_24 rfl rfl ?_
  have f2 := (pc.ext E1)
  refine g_getF X1 hx hby hZ hown (host := "") (Or.inl w61_) Via.refl e1 f2 d15_25 (fun T3 X3 e3 => ?_)
  refine g_aloadN X3 hx hby d15_28 rfl rfl ?_
  have f4 := (pd.ext E1)
  refine g_getF X3 hx hby hZ hown (host := "") (Or.inl w64_) Via.refl e3 f4 d15_29 (fun T5 X5 e5 => ?_)
  refine g_aloadN X5 hx hby d15_32 rfl rfl ?_
  have f6 := (pe.ext E1)
  refine g_getF X5 hx hby hZ hown (host := "") (Or.inl w66_) Via.refl e5 f6 d15_33 (fun T7 X7 e7 => ?_)
  refine g_aloadN X7 hx hby d15_36 rfl rfl ?_
  have f8 := (pf.ext E1)
  refine g_getF X7 hx hby hZ hown (host := "") (Or.inl w69_) Via.refl e7 f8 d15_37 (fun T9 X9 e9 => ?_)
  refine g_aloadN X9 hx hby d15_40 rfl rfl ?_
  have f10 := (pg.ext E1)
  refine g_getF X9 hx hby hZ hown (host := "") (Or.inl w72_) Via.refl e9 f10 d15_41 (fun T11 X11 e11 => ?_)
  have g_b1 : n0 ≤ b1 := Nat.le_trans Z0 (Nat.le_of_eq g1)
  have f13 := (Et.ext E1)
  have f14 := (Ec.ext E1)
  have f15 := (Ek.ext E1)
  have f16 := (Ed.ext E1)
  have z17 := (Nat.le_trans Z0 E1.1)
  refine g_specialW X11 hx hby hZ hown (PV := fun vm => Z.Warmed39 vm) (rm_pini8 l Z a0 hw [] b1 par chi t c cp k d h1 n0 z17 A1 F_position_b1 F_childPosition_b1 F_table_b1 F_column_b1 F_columnPosition_b1 F_kind_b1 F_detail_b1 g_b1 f13 f14 f15 f16 hpar hcp) (fun _ q => State.Warmed39.trans hZ q.wide) hS0 (Nat.zero_le _) rfl rfl w45_ w46_ w15_ w47_ (by decide) e11 (by rw [hml]; rfl) [(.int par), (.int chi), (.ref t), (.ref c), (.int cp), (.ref k), (.ref d)] (lenOf own_pd6 rfl) rfl rfl (Nat.le_of_ble_eq_true rfl) (Nat.le_of_ble_eq_true rfl) (Nat.le_of_ble_eq_true rfl) (Nat.le_of_ble_eq_true rfl) d15_44 (fun v12 T12 L12 X12 hS12 hZ12 ho12 hQ12 => ?_)
  obtain ⟨rfl, N12q, K12, pE12, pa12, pb12, pc12, pd12, pe12, pf12, pg12⟩ := hQ12
  have N12 := Fr.app N0 N12q
  refine g_aretW X12 hx hby (t := (.object "com/example/refloom/refloom/model/Problem")) rfl rfl rfl Bd.returns Bd.notSynchronized hS12 d15_47 rfl (Nat.le_refl _) (by decide) (by decide) ?_
  show (Q_ofchild Z p0 par chi pos ch t c cp k d h0 n0) (some (.ref b1)) _ _
  exact ⟨N12, (((Keep.refl h0 []).ext E1).trans K12 (allS (Or.inr (Nat.le_trans (Nat.le_refl _) (Nat.le_of_eq g1))) all0)), b1, rfl, (Nat.le_trans (Nat.le_refl _) (Nat.le_of_eq g1)), pE12, pa12, pb12, pc12, pd12, pe12, pf12, pg12⟩


theorem own_which {x : Int32} (h7 : ¬ (x &&& (7 : Int32)) = (7 : Int32)) (h6 : ¬ (x &&& (7 : Int32)) = (6 : Int32)) : (x &&& (7 : Int32)) < (6 : Int32) := by
  have h := c_mask x 7 3 (by decide) (by decide)
  have n7 : ¬ (x &&& (7 : Int32)).toInt = 7 := fun q => h7 (Int32.toInt_inj.mp q)
  have n6 : ¬ (x &&& (7 : Int32)).toInt = 6 := fun q => h6 (Int32.toInt_inj.mp q)
  have e : (6 : Int32).toInt = 6 := rfl
  rw [Int32.lt_iff_toInt_lt, e]; omega

theorem own_pd7 : parseMethodDescriptor "(II)Z" = some ⟨[.int, .int], some .boolean⟩ := by decide +kernel
theorem own_pd8 : parseMethodDescriptor "(II)I" = some ⟨[.int, .int], some .int⟩ := by decide +kernel
theorem own_pd9 : parseMethodDescriptor "(JI)C" = some ⟨[.long, .int], some .char⟩ := by decide +kernel
theorem own_pd10 : parseMethodDescriptor "(C)Ljava/lang/String;" = some ⟨[.char], some (.object "java/lang/String")⟩ := by decide +kernel
theorem own_pd11 : parseMethodDescriptor "(ILjava/lang/String;Ljava/lang/String;ILjava/lang/String;Ljava/lang/String;)V" = some ⟨[.int, (.object "java/lang/String"), (.object "java/lang/String"), .int, (.object "java/lang/String"), (.object "java/lang/String")], none⟩ := by decide +kernel
theorem own_pd12 : parseMethodDescriptor "(II)Lcom/example/refloom/refloom/model/Problem;" = some ⟨[.int, .int], some (.object "com/example/refloom/refloom/model/Problem")⟩ := by decide +kernel
def Q_law (Z : State) (y0 : Int64) (y1 : Int64) (y2 : Int64) (y3 : Int64) (sel : Int32) (cz : Int32) (h0 : Heap) (n0 : Nat) (v : Option Value) (h : Heap) (L : List Loc) : Prop := v = some (.int 1) ∧ Fr n0 L
set_option maxRecDepth 65536 in
set_option maxHeartbeats 40000000 in
theorem rm_law (l : Launch) (Z : State) (a0 : Array Value) (hw : ∀ d ∈ tables_1, d.before a0 Z = true) (ws : List Jvm.Cond) (y0 : Int64) (y1 : Int64) (y2 : Int64) (y3 : Int64) (sel : Int32) (cz : Int32) (h0 : Heap) (n0 : Nat) (Z0 : n0 ≤ h0.size) (O2 : Sta Z Z.heap "java/lang/String" "COMPACT_STRINGS" "Z" (.int cz)) (P5 : ¬ cz = (0 : Int32)) (OLD : Old Z n0 h0) :
    MetFree l Jvm.Pilot.@@N@@.x (head1 (Jvm.Cond.code Jvm.Pilot.@@N@@.x Jvm.Pilot.@@N@@.code Jvm.Pilot.@@N@@.maxLocals Jvm.Pilot.@@N@@.ret :: ws) room_1) (fun aa_ U => aa_ = #[(.long y0), (.long y1), (.long y2), (.long y3), (.int sel)] ∧ Z.Warmed39 U.vm ∧ U.heap = h0) (fun _ _ _ _ _ => True) (fun _ U o_ U' => RetW U (Q_law Z y0 y1 y2 y3 sel cz h0 n0) 64 4352 U' o_) := by
  refine MetFree.of_bodySF (plainFor_of_name own_pn0) hisR ?_
  intro p e s m args below meth c_ s₁ Bd hml0 hP hK
  obtain ⟨rfl, hZ, hh⟩ := hP
  have hx := Bd.exec
  have hby := Bd.bytes
  have hml : c_.maxLocals = 32 := hml0
  have hS0 : s.Since s.vm 0 := (State.WarmedH.refl s).since 0
  have hown : s.vm.findClass "com/example/refloom/refloom/model/ProblemEqualsPinLaw" = some m.cls := findClass_of_methodNamed Bd.named
  have hnm := (name_of_methodNamed Bd.named Bd.method).1
  have X0 : Stand p l e room_1 (s.setVm s.vm) m #[(.long y0), (.long y1), (.long y2), (.long y3), (.int sel)] below meth c_ s₁ [] 0 0 := Stand.of_body Bd
  have e0 : s₁.heap = h0 := by rw [← hh, Bd.state]; rfl
  have N0 := Fr.nil n0
  have w0_ := hw _ (List.mem_of_getElem? (i := 0) rfl)
  have w1_ := hw _ (List.mem_of_getElem? (i := 1) rfl)
  have w2_ := hw _ (List.mem_of_getElem? (i := 2) rfl)
  have w3_ := hw _ (List.mem_of_getElem? (i := 3) rfl)
  have w4_ := hw _ (List.mem_of_getElem? (i := 4) rfl)
  have w5_ := hw _ (List.mem_of_getElem? (i := 5) rfl)
  have w6_ := hw _ (List.mem_of_getElem? (i := 6) rfl)
  have w7_ := hw _ (List.mem_of_getElem? (i := 7) rfl)
  have w8_ := hw _ (List.mem_of_getElem? (i := 8) rfl)
  have w9_ := hw _ (List.mem_of_getElem? (i := 9) rfl)
  have w10_ := hw _ (List.mem_of_getElem? (i := 10) rfl)
  have w11_ := hw _ (List.mem_of_getElem? (i := 11) rfl)
  have w13_ := hw _ (List.mem_of_getElem? (i := 13) rfl)
  have w14_ := hw _ (List.mem_of_getElem? (i := 14) rfl)
  have w15_ := hw _ (List.mem_of_getElem? (i := 15) rfl)
  have w16_ := hw _ (List.mem_of_getElem? (i := 16) rfl)
  have w17_ := hw _ (List.mem_of_getElem? (i := 17) rfl)
  have w18_ := hw _ (List.mem_of_getElem? (i := 18) rfl)
  have w19_ := hw _ (List.mem_of_getElem? (i := 19) rfl)
  have w42_ := hw _ (List.mem_of_getElem? (i := 42) rfl)
  have w43_ := hw _ (List.mem_of_getElem? (i := 43) rfl)
  have w44_ := hw _ (List.mem_of_getElem? (i := 44) rfl)
  have w50_ := hw _ (List.mem_of_getElem? (i := 50) rfl)
  have w52_ := hw _ (List.mem_of_getElem? (i := 52) rfl)
  have w62_ := hw _ (List.mem_of_getElem? (i := 62) rfl)
  have w65_ := hw _ (List.mem_of_getElem? (i := 65) rfl)
  have w67_ := hw _ (List.mem_of_getElem? (i := 67) rfl)
  have w70_ := hw _ (List.mem_of_getElem? (i := 70) rfl)
  have w73_ := hw _ (List.mem_of_getElem? (i := 73) rfl)
  have w74_ := hw _ (List.mem_of_getElem? (i := 74) rfl)
  have w75_ := hw _ (List.mem_of_getElem? (i := 75) rfl)
  have w76_ := hw _ (List.mem_of_getElem? (i := 76) rfl)
  have w77_ := hw _ (List.mem_of_getElem? (i := 77) rfl)
  have w78_ := hw _ (List.mem_of_getElem? (i := 78) rfl)
  have w89_ := hw _ (List.mem_of_getElem? (i := 89) rfl)
  have w90_ := hw _ (List.mem_of_getElem? (i := 90) rfl)
  have w91_ := hw _ (List.mem_of_getElem? (i := 91) rfl)
  have w92_ := hw _ (List.mem_of_getElem? (i := 92) rfl)
  have w93_ := hw _ (List.mem_of_getElem? (i := 93) rfl)
  show Go p e below (RetW s (Q_law Z y0 y1 y2 y3 sel cz h0 n0) 64 4352) (s₁.setTop (entryFrame m #[(.long y0), (.long y1), (.long y2), (.long y3), (.int sel)] maxLocals))
  rw [show entryFrame m #[(.long y0), (.long y1), (.long y2), (.long y3), (.int sel)] maxLocals = mkF m 0 #[.val (.long y0), .second, .val (.long y1), .second, .val (.long y2), .second, .val (.long y3), .second, .val (.int sel), .unset, .unset, .unset, .unset, .unset, .unset, .unset, .unset, .unset, .unset, .unset, .unset, .unset, .unset, .unset, .unset, .unset, .unset, .unset, .unset, .unset, .unset, .unset] [] from by first | (simp [entryFrame, mkF, argsToLocals, Value.category, maxLocals]; done) | rfl]
  refine g_lloadN X0 hx hby at_0 rfl ?_
  refine g_ldc2J X0 hx hby hZ hown w0_ at_1 ?_
  refine g_land X0 hx hby at_4 ?_
  refine g_l2i X0 hx hby at_5 ?_
  refine g_istore X0 hx hby at_6 (l' := #[.val (.long y0), .second, .val (.long y1), .second, .val (.long y2), .second, .val (.long y3), .second, .val (.int sel), .val (.int ((y0 &&& (2147483647 : Int64)).toInt32)), .unset, .unset, .unset, .unset, .unset, .unset, .unset, .unset, .unset, .unset, .unset, .unset, .unset, .unset, .unset, .unset, .unset, .unset, .unset, .unset, .unset, .unset]) rfl ?_
  obtain ⟨posA, e_posA⟩ : ∃ z, z = ((y0 &&& (2147483647 : Int64)).toInt32) := ⟨_, rfl⟩
  have h_posA : ¬ posA < 0 := by rw [e_posA]; exact own_l31 _
  rw [← e_posA]
  clear e_posA
  refine g_iload X0 hx hby at_8 rfl ?_
  refine g_iconst X0 hx hby (3 : Int32) at_10 rfl ?_
  refine g_static X0 hx hby hZ hown (rm_bit l Z a0 hw [] sel (3 : Int32) h0 n0 Z0 ) w1_ w2_ w3_ w4_ (by decide) e0 (by rw [hml]; rfl) [(.int sel), (.int (3 : Int32))] (lenOf own_pd7 rfl) rfl rfl (Nat.le_of_ble_eq_true rfl) (Nat.le_of_ble_eq_true rfl) (Nat.le_of_ble_eq_true rfl) (Nat.le_of_ble_eq_true rfl) at_11 (fun v1 T1 L1 X1 hQ1 => ?_)
  obtain ⟨rfl, N1q, eh1⟩ := hQ1
  have N1 := Fr.app N0 N1q
  have J2 : ∀ (T2 : State) (L2 : List Loc) (posB : Int32), Stand p l e room_1 (s.setVm s.vm) m #[(.long y0), (.long y1), (.long y2), (.long y3), (.int sel)] below meth c_ T2 L2 0 0 → T2.heap = h0 → Fr n0 L2 → (¬ posB < 0) → Go p e below (RetW s (Q_law Z y0 y1 y2 y3 sel cz h0 n0) 64 4352) (T2.setTop (mkF m 31 #[.val (.long y0), .second, .val (.long y1), .second, .val (.long y2), .second, .val (.long y3), .second, .val (.int sel), .val (.int posA), .unset, .unset, .unset, .unset, .unset, .unset, .unset, .unset, .unset, .unset, .unset, .unset, .unset, .unset, .unset, .unset, .unset, .unset, .unset, .unset, .unset, .unset] [(.int posB)])) := by
    intro T2 L2 posB X2 e2 N2 h_posB
    refine g_istore X2 hx hby at_31 (l' := #[.val (.long y0), .second, .val (.long y1), .second, .val (.long y2), .second, .val (.long y3), .second, .val (.int sel), .val (.int posA), .val (.int posB), .unset, .unset, .unset, .unset, .unset, .unset, .unset, .unset, .unset, .unset, .unset, .unset, .unset, .unset, .unset, .unset, .unset, .unset, .unset, .unset, .unset]) rfl ?_
    refine g_iconst X2 hx hby (1 : Int32) at_33 rfl ?_
    refine g_lloadN X2 hx hby at_34 rfl ?_
    refine g_ldc2J X2 hx hby hZ hown w0_ at_35 ?_
    refine g_land X2 hx hby at_38 ?_
    refine g_l2i X2 hx hby at_39 ?_
    refine g_static X2 hx hby hZ hown (rm_mmax l Z a0 hw [] (1 : Int32) ((y1 &&& (2147483647 : Int64)).toInt32) h0 n0 Z0 ) w5_ w6_ w7_ w8_ (by decide) e2 (by rw [hml]; rfl) [(.int (1 : Int32)), (.int ((y1 &&& (2147483647 : Int64)).toInt32))] (lenOf own_pd8 rfl) rfl rfl (Nat.le_of_ble_eq_true rfl) (Nat.le_of_ble_eq_true rfl) (Nat.le_of_ble_eq_true rfl) (Nat.le_of_ble_eq_true rfl) at_40 (fun v3 T3 L3 X3 hQ3 => ?_)
    obtain ⟨rfl, N3q, eh3⟩ := hQ3
    have N3 := Fr.app N2 N3q
    refine g_istore X3 hx hby at_43 (l' := #[.val (.long y0), .second, .val (.long y1), .second, .val (.long y2), .second, .val (.long y3), .second, .val (.int sel), .val (.int posA), .val (.int posB), .val (.int (own_max (1 : Int32) ((y1 &&& (2147483647 : Int64)).toInt32))), .unset, .unset, .unset, .unset, .unset, .unset, .unset, .unset, .unset, .unset, .unset, .unset, .unset, .unset, .unset, .unset, .unset, .unset, .unset, .unset]) rfl ?_
    obtain ⟨colA, e_colA⟩ : ∃ z, z = (own_max (1 : Int32) ((y1 &&& (2147483647 : Int64)).toInt32)) := ⟨_, rfl⟩
    have h_colA : ¬ colA < 1 := by rw [e_colA]; exact own_max1 _
    rw [← e_colA]
    clear e_colA
    refine g_iload X3 hx hby at_45 rfl ?_
    refine g_bipush X3 hx hby (7 : Int32) at_47 rfl ?_
    refine g_static X3 hx hby hZ hown (rm_bit l Z a0 hw [] sel (7 : Int32) h0 n0 Z0 ) w1_ w2_ w3_ w4_ (by decide) eh3 (by rw [hml]; rfl) [(.int sel), (.int (7 : Int32))] (lenOf own_pd7 rfl) rfl rfl (Nat.le_of_ble_eq_true rfl) (Nat.le_of_ble_eq_true rfl) (Nat.le_of_ble_eq_true rfl) (Nat.le_of_ble_eq_true rfl) at_49 (fun v4 T4 L4 X4 hQ4 => ?_)
    obtain ⟨rfl, N4q, eh4⟩ := hQ4
    have N4 := Fr.app N3 N4q
    have J5 : ∀ (T5 : State) (L5 : List Loc) (colB : Int32), Stand p l e room_1 (s.setVm s.vm) m #[(.long y0), (.long y1), (.long y2), (.long y3), (.int sel)] below meth c_ T5 L5 0 0 → T5.heap = h0 → Fr n0 L5 → (¬ colB < 1) → Go p e below (RetW s (Q_law Z y0 y1 y2 y3 sel cz h0 n0) 64 4352) (T5.setTop (mkF m 73 #[.val (.long y0), .second, .val (.long y1), .second, .val (.long y2), .second, .val (.long y3), .second, .val (.int sel), .val (.int posA), .val (.int posB), .val (.int colA), .unset, .unset, .unset, .unset, .unset, .unset, .unset, .unset, .unset, .unset, .unset, .unset, .unset, .unset, .unset, .unset, .unset, .unset, .unset, .unset] [(.int colB)])) := by
      intro T5 L5 colB X5 e5 N5 h_colB
      refine g_istore X5 hx hby at_73 (l' := #[.val (.long y0), .second, .val (.long y1), .second, .val (.long y2), .second, .val (.long y3), .second, .val (.int sel), .val (.int posA), .val (.int posB), .val (.int colA), .val (.int colB), .unset, .unset, .unset, .unset, .unset, .unset, .unset, .unset, .unset, .unset, .unset, .unset, .unset, .unset, .unset, .unset, .unset, .unset, .unset]) rfl ?_
      refine g_iload X5 hx hby at_75 rfl ?_
      refine g_iconst X5 hx hby (4 : Int32) at_77 rfl ?_
      refine g_static X5 hx hby hZ hown (rm_bit l Z a0 hw [] sel (4 : Int32) h0 n0 Z0 ) w1_ w2_ w3_ w4_ (by decide) e5 (by rw [hml]; rfl) [(.int sel), (.int (4 : Int32))] (lenOf own_pd7 rfl) rfl rfl (Nat.le_of_ble_eq_true rfl) (Nat.le_of_ble_eq_true rfl) (Nat.le_of_ble_eq_true rfl) (Nat.le_of_ble_eq_true rfl) at_78 (fun v6 T6 L6 X6 hQ6 => ?_)
      obtain ⟨rfl, N6q, eh6⟩ := hQ6
      have N6 := Fr.app N5 N6q
      refine g_istore X6 hx hby at_81 (l' := #[.val (.long y0), .second, .val (.long y1), .second, .val (.long y2), .second, .val (.long y3), .second, .val (.int sel), .val (.int posA), .val (.int posB), .val (.int colA), .val (.int colB), .val (.int (own_bit sel (4 : Int32))), .unset, .unset, .unset, .unset, .unset, .unset, .unset, .unset, .unset, .unset, .unset, .unset, .unset, .unset, .unset, .unset, .unset, .unset]) rfl ?_
      refine g_iload X6 hx hby at_83 rfl ?_
      refine g_iconst X6 hx hby (5 : Int32) at_85 rfl ?_
      refine g_static X6 hx hby hZ hown (rm_bit l Z a0 hw [] sel (5 : Int32) h0 n0 Z0 ) w1_ w2_ w3_ w4_ (by decide) eh6 (by rw [hml]; rfl) [(.int sel), (.int (5 : Int32))] (lenOf own_pd7 rfl) rfl rfl (Nat.le_of_ble_eq_true rfl) (Nat.le_of_ble_eq_true rfl) (Nat.le_of_ble_eq_true rfl) (Nat.le_of_ble_eq_true rfl) at_86 (fun v7 T7 L7 X7 hQ7 => ?_)
      obtain ⟨rfl, N7q, eh7⟩ := hQ7
      have N7 := Fr.app N6 N7q
      refine g_istore X7 hx hby at_89 (l' := #[.val (.long y0), .second, .val (.long y1), .second, .val (.long y2), .second, .val (.long y3), .second, .val (.int sel), .val (.int posA), .val (.int posB), .val (.int colA), .val (.int colB), .val (.int (own_bit sel (4 : Int32))), .val (.int (own_bit sel (5 : Int32))), .unset, .unset, .unset, .unset, .unset, .unset, .unset, .unset, .unset, .unset, .unset, .unset, .unset, .unset, .unset, .unset, .unset]) rfl ?_
      refine g_lload X7 hx hby at_91 rfl ?_
      refine g_ldc2J X7 hx hby hZ hown w0_ at_93 ?_
      refine g_land X7 hx hby at_96 ?_
      refine g_l2i X7 hx hby at_97 ?_
      refine g_istore X7 hx hby at_98 (l' := #[.val (.long y0), .second, .val (.long y1), .second, .val (.long y2), .second, .val (.long y3), .second, .val (.int sel), .val (.int posA), .val (.int posB), .val (.int colA), .val (.int colB), .val (.int (own_bit sel (4 : Int32))), .val (.int (own_bit sel (5 : Int32))), .val (.int ((y3 &&& (2147483647 : Int64)).toInt32)), .unset, .unset, .unset, .unset, .unset, .unset, .unset, .unset, .unset, .unset, .unset, .unset, .unset, .unset, .unset, .unset]) rfl ?_
      obtain ⟨chA, e_chA⟩ : ∃ z, z = ((y3 &&& (2147483647 : Int64)).toInt32) := ⟨_, rfl⟩
      have h_chA : ¬ chA < 0 := by rw [e_chA]; exact own_l31 _
      rw [← e_chA]
      clear e_chA
      refine g_iload X7 hx hby at_100 rfl ?_
      refine g_at 102 rfl rfl rfl ?_
      refine g_bipush X7 hx hby (6 : Int32) at_102 rfl ?_
      refine g_static X7 hx hby hZ hown (rm_bit l Z a0 hw [] sel (6 : Int32) h0 n0 Z0 ) w1_ w2_ w3_ w4_ (by decide) eh7 (by rw [hml]; rfl) [(.int sel), (.int (6 : Int32))] (lenOf own_pd7 rfl) rfl rfl (Nat.le_of_ble_eq_true rfl) (Nat.le_of_ble_eq_true rfl) (Nat.le_of_ble_eq_true rfl) (Nat.le_of_ble_eq_true rfl) at_104 (fun v8 T8 L8 X8 hQ8 => ?_)
      obtain ⟨rfl, N8q, eh8⟩ := hQ8
      have N8 := Fr.app N7 N8q
      have J9 : ∀ (T9 : State) (L9 : List Loc) (chB : Int32), Stand p l e room_1 (s.setVm s.vm) m #[(.long y0), (.long y1), (.long y2), (.long y3), (.int sel)] below meth c_ T9 L9 0 0 → T9.heap = h0 → Fr n0 L9 → (¬ chB < 0) → Go p e below (RetW s (Q_law Z y0 y1 y2 y3 sel cz h0 n0) 64 4352) (T9.setTop (mkF m 125 #[.val (.long y0), .second, .val (.long y1), .second, .val (.long y2), .second, .val (.long y3), .second, .val (.int sel), .val (.int posA), .val (.int posB), .val (.int colA), .val (.int colB), .val (.int (own_bit sel (4 : Int32))), .val (.int (own_bit sel (5 : Int32))), .val (.int chA), .unset, .unset, .unset, .unset, .unset, .unset, .unset, .unset, .unset, .unset, .unset, .unset, .unset, .unset, .unset, .unset] [(.int chB)])) := by
        intro T9 L9 chB X9 e9 N9 h_chB
        refine g_istore X9 hx hby at_125 (l' := #[.val (.long y0), .second, .val (.long y1), .second, .val (.long y2), .second, .val (.long y3), .second, .val (.int sel), .val (.int posA), .val (.int posB), .val (.int colA), .val (.int colB), .val (.int (own_bit sel (4 : Int32))), .val (.int (own_bit sel (5 : Int32))), .val (.int chA), .val (.int chB), .unset, .unset, .unset, .unset, .unset, .unset, .unset, .unset, .unset, .unset, .unset, .unset, .unset, .unset, .unset]) rfl ?_
        refine g_lload X9 hx hby at_127 rfl ?_
        refine g_iconst X9 hx hby (0 : Int32) at_129 rfl ?_
        refine g_static X9 hx hby hZ hown (rm_chh l Z a0 hw [] y2 (0 : Int32) h0 n0 Z0 ) w9_ w10_ w3_ w11_ (by decide) e9 (by rw [hml]; rfl) [(.long y2), (.int (0 : Int32))] (lenOf own_pd9 rfl) rfl rfl (Nat.le_of_ble_eq_true rfl) (Nat.le_of_ble_eq_true rfl) (Nat.le_of_ble_eq_true rfl) (Nat.le_of_ble_eq_true rfl) at_130 (fun v10 T10 L10 X10 hQ10 => ?_)
        obtain ⟨rfl, N10q, eh10⟩ := hQ10
        have N10 := Fr.app N9 N10q
        refine g_istore X10 hx hby at_133 (l' := #[.val (.long y0), .second, .val (.long y1), .second, .val (.long y2), .second, .val (.long y3), .second, .val (.int sel), .val (.int posA), .val (.int posB), .val (.int colA), .val (.int colB), .val (.int (own_bit sel (4 : Int32))), .val (.int (own_bit sel (5 : Int32))), .val (.int chA), .val (.int chB), .val (.int (own_ch y2 (0 : Int32))), .unset, .unset, .unset, .unset, .unset, .unset, .unset, .unset, .unset, .unset, .unset, .unset, .unset, .unset]) rfl ?_
        obtain ⟨tA, e_tA⟩ : ∃ z, z = (own_ch y2 (0 : Int32)) := ⟨_, rfl⟩
        have h_tA : 0 ≤ tA.toInt ∧ tA.toInt ≤ 255 := by rw [e_tA]; exact own_chr _ _
        rw [← e_tA]
        clear e_tA
        refine g_lload X10 hx hby at_135 rfl ?_
        refine g_bipush X10 hx hby (8 : Int32) at_137 rfl ?_
        refine g_static X10 hx hby hZ hown (rm_chh l Z a0 hw [] y2 (8 : Int32) h0 n0 Z0 ) w9_ w10_ w3_ w11_ (by decide) eh10 (by rw [hml]; rfl) [(.long y2), (.int (8 : Int32))] (lenOf own_pd9 rfl) rfl rfl (Nat.le_of_ble_eq_true rfl) (Nat.le_of_ble_eq_true rfl) (Nat.le_of_ble_eq_true rfl) (Nat.le_of_ble_eq_true rfl) at_139 (fun v11 T11 L11 X11 hQ11 => ?_)
        obtain ⟨rfl, N11q, eh11⟩ := hQ11
        have N11 := Fr.app N10 N11q
        refine g_istore X11 hx hby at_142 (l' := #[.val (.long y0), .second, .val (.long y1), .second, .val (.long y2), .second, .val (.long y3), .second, .val (.int sel), .val (.int posA), .val (.int posB), .val (.int colA), .val (.int colB), .val (.int (own_bit sel (4 : Int32))), .val (.int (own_bit sel (5 : Int32))), .val (.int chA), .val (.int chB), .val (.int tA), .val (.int (own_ch y2 (8 : Int32))), .unset, .unset, .unset, .unset, .unset, .unset, .unset, .unset, .unset, .unset, .unset, .unset, .unset]) rfl ?_
        obtain ⟨cA, e_cA⟩ : ∃ z, z = (own_ch y2 (8 : Int32)) := ⟨_, rfl⟩
        have h_cA : 0 ≤ cA.toInt ∧ cA.toInt ≤ 255 := by rw [e_cA]; exact own_chr _ _
        rw [← e_cA]
        clear e_cA
        refine g_lload X11 hx hby at_144 rfl ?_
        refine g_bipush X11 hx hby (16 : Int32) at_146 rfl ?_
        refine g_static X11 hx hby hZ hown (rm_chh l Z a0 hw [] y2 (16 : Int32) h0 n0 Z0 ) w9_ w10_ w3_ w11_ (by decide) eh11 (by rw [hml]; rfl) [(.long y2), (.int (16 : Int32))] (lenOf own_pd9 rfl) rfl rfl (Nat.le_of_ble_eq_true rfl) (Nat.le_of_ble_eq_true rfl) (Nat.le_of_ble_eq_true rfl) (Nat.le_of_ble_eq_true rfl) at_148 (fun v12 T12 L12 X12 hQ12 => ?_)
        obtain ⟨rfl, N12q, eh12⟩ := hQ12
        have N12 := Fr.app N11 N12q
        refine g_at 151 rfl rfl rfl ?_
        refine g_istore X12 hx hby at_151 (l' := #[.val (.long y0), .second, .val (.long y1), .second, .val (.long y2), .second, .val (.long y3), .second, .val (.int sel), .val (.int posA), .val (.int posB), .val (.int colA), .val (.int colB), .val (.int (own_bit sel (4 : Int32))), .val (.int (own_bit sel (5 : Int32))), .val (.int chA), .val (.int chB), .val (.int tA), .val (.int cA), .val (.int (own_ch y2 (16 : Int32))), .unset, .unset, .unset, .unset, .unset, .unset, .unset, .unset, .unset, .unset, .unset, .unset]) rfl ?_
        obtain ⟨kA, e_kA⟩ : ∃ z, z = (own_ch y2 (16 : Int32)) := ⟨_, rfl⟩
        have h_kA : 0 ≤ kA.toInt ∧ kA.toInt ≤ 255 := by rw [e_kA]; exact own_chr _ _
        rw [← e_kA]
        clear e_kA
        refine g_lload X12 hx hby at_153 rfl ?_
        refine g_bipush X12 hx hby (24 : Int32) at_155 rfl ?_
        refine g_static X12 hx hby hZ hown (rm_chh l Z a0 hw [] y2 (24 : Int32) h0 n0 Z0 ) w9_ w10_ w3_ w11_ (by decide) eh12 (by rw [hml]; rfl) [(.long y2), (.int (24 : Int32))] (lenOf own_pd9 rfl) rfl rfl (Nat.le_of_ble_eq_true rfl) (Nat.le_of_ble_eq_true rfl) (Nat.le_of_ble_eq_true rfl) (Nat.le_of_ble_eq_true rfl) at_157 (fun v13 T13 L13 X13 hQ13 => ?_)
        obtain ⟨rfl, N13q, eh13⟩ := hQ13
        have N13 := Fr.app N12 N13q
        refine g_istore X13 hx hby at_160 (l' := #[.val (.long y0), .second, .val (.long y1), .second, .val (.long y2), .second, .val (.long y3), .second, .val (.int sel), .val (.int posA), .val (.int posB), .val (.int colA), .val (.int colB), .val (.int (own_bit sel (4 : Int32))), .val (.int (own_bit sel (5 : Int32))), .val (.int chA), .val (.int chB), .val (.int tA), .val (.int cA), .val (.int kA), .val (.int (own_ch y2 (24 : Int32))), .unset, .unset, .unset, .unset, .unset, .unset, .unset, .unset, .unset, .unset, .unset]) rfl ?_
        obtain ⟨dA, e_dA⟩ : ∃ z, z = (own_ch y2 (24 : Int32)) := ⟨_, rfl⟩
        have h_dA : 0 ≤ dA.toInt ∧ dA.toInt ≤ 255 := by rw [e_dA]; exact own_chr _ _
        rw [← e_dA]
        clear e_dA
        refine g_iload X13 hx hby at_162 rfl ?_
        refine g_bipush X13 hx hby (8 : Int32) at_164 rfl ?_
        refine g_static X13 hx hby hZ hown (rm_bit l Z a0 hw [] sel (8 : Int32) h0 n0 Z0 ) w1_ w2_ w3_ w4_ (by decide) eh13 (by rw [hml]; rfl) [(.int sel), (.int (8 : Int32))] (lenOf own_pd7 rfl) rfl rfl (Nat.le_of_ble_eq_true rfl) (Nat.le_of_ble_eq_true rfl) (Nat.le_of_ble_eq_true rfl) (Nat.le_of_ble_eq_true rfl) at_166 (fun v14 T14 L14 X14 hQ14 => ?_)
        obtain ⟨rfl, N14q, eh14⟩ := hQ14
        have N14 := Fr.app N13 N14q
        have J15 : ∀ (T15 : State) (L15 : List Loc) (tB : Int32), Stand p l e room_1 (s.setVm s.vm) m #[(.long y0), (.long y1), (.long y2), (.long y3), (.int sel)] below meth c_ T15 L15 0 0 → T15.heap = h0 → Fr n0 L15 → (0 ≤ tB.toInt ∧ tB.toInt ≤ 255) → Go p e below (RetW s (Q_law Z y0 y1 y2 y3 sel cz h0 n0) 64 4352) (T15.setTop (mkF m 184 #[.val (.long y0), .second, .val (.long y1), .second, .val (.long y2), .second, .val (.long y3), .second, .val (.int sel), .val (.int posA), .val (.int posB), .val (.int colA), .val (.int colB), .val (.int (own_bit sel (4 : Int32))), .val (.int (own_bit sel (5 : Int32))), .val (.int chA), .val (.int chB), .val (.int tA), .val (.int cA), .val (.int kA), .val (.int dA), .unset, .unset, .unset, .unset, .unset, .unset, .unset, .unset, .unset, .unset, .unset] [(.int tB)])) := by
          intro T15 L15 tB X15 e15 N15 h_tB
          refine g_istore X15 hx hby at_184 (l' := #[.val (.long y0), .second, .val (.long y1), .second, .val (.long y2), .second, .val (.long y3), .second, .val (.int sel), .val (.int posA), .val (.int posB), .val (.int colA), .val (.int colB), .val (.int (own_bit sel (4 : Int32))), .val (.int (own_bit sel (5 : Int32))), .val (.int chA), .val (.int chB), .val (.int tA), .val (.int cA), .val (.int kA), .val (.int dA), .val (.int tB), .unset, .unset, .unset, .unset, .unset, .unset, .unset, .unset, .unset, .unset]) rfl ?_
          refine g_iload X15 hx hby at_186 rfl ?_
          refine g_bipush X15 hx hby (9 : Int32) at_188 rfl ?_
          refine g_static X15 hx hby hZ hown (rm_bit l Z a0 hw [] sel (9 : Int32) h0 n0 Z0 ) w1_ w2_ w3_ w4_ (by decide) e15 (by rw [hml]; rfl) [(.int sel), (.int (9 : Int32))] (lenOf own_pd7 rfl) rfl rfl (Nat.le_of_ble_eq_true rfl) (Nat.le_of_ble_eq_true rfl) (Nat.le_of_ble_eq_true rfl) (Nat.le_of_ble_eq_true rfl) at_190 (fun v16 T16 L16 X16 hQ16 => ?_)
          obtain ⟨rfl, N16q, eh16⟩ := hQ16
          have N16 := Fr.app N15 N16q
          have J17 : ∀ (T17 : State) (L17 : List Loc) (cB : Int32), Stand p l e room_1 (s.setVm s.vm) m #[(.long y0), (.long y1), (.long y2), (.long y3), (.int sel)] below meth c_ T17 L17 0 0 → T17.heap = h0 → Fr n0 L17 → (0 ≤ cB.toInt ∧ cB.toInt ≤ 255) → Go p e below (RetW s (Q_law Z y0 y1 y2 y3 sel cz h0 n0) 64 4352) (T17.setTop (mkF m 208 #[.val (.long y0), .second, .val (.long y1), .second, .val (.long y2), .second, .val (.long y3), .second, .val (.int sel), .val (.int posA), .val (.int posB), .val (.int colA), .val (.int colB), .val (.int (own_bit sel (4 : Int32))), .val (.int (own_bit sel (5 : Int32))), .val (.int chA), .val (.int chB), .val (.int tA), .val (.int cA), .val (.int kA), .val (.int dA), .val (.int tB), .unset, .unset, .unset, .unset, .unset, .unset, .unset, .unset, .unset, .unset] [(.int cB)])) := by
            intro T17 L17 cB X17 e17 N17 h_cB
            refine g_istore X17 hx hby at_208 (l' := #[.val (.long y0), .second, .val (.long y1), .second, .val (.long y2), .second, .val (.long y3), .second, .val (.int sel), .val (.int posA), .val (.int posB), .val (.int colA), .val (.int colB), .val (.int (own_bit sel (4 : Int32))), .val (.int (own_bit sel (5 : Int32))), .val (.int chA), .val (.int chB), .val (.int tA), .val (.int cA), .val (.int kA), .val (.int dA), .val (.int tB), .val (.int cB), .unset, .unset, .unset, .unset, .unset, .unset, .unset, .unset, .unset]) rfl ?_
            refine g_iload X17 hx hby at_210 rfl ?_
            refine g_bipush X17 hx hby (10 : Int32) at_212 rfl ?_
            refine g_static X17 hx hby hZ hown (rm_bit l Z a0 hw [] sel (10 : Int32) h0 n0 Z0 ) w1_ w2_ w3_ w4_ (by decide) e17 (by rw [hml]; rfl) [(.int sel), (.int (10 : Int32))] (lenOf own_pd7 rfl) rfl rfl (Nat.le_of_ble_eq_true rfl) (Nat.le_of_ble_eq_true rfl) (Nat.le_of_ble_eq_true rfl) (Nat.le_of_ble_eq_true rfl) at_214 (fun v18 T18 L18 X18 hQ18 => ?_)
            obtain ⟨rfl, N18q, eh18⟩ := hQ18
            have N18 := Fr.app N17 N18q
            have J19 : ∀ (T19 : State) (L19 : List Loc) (kB : Int32), Stand p l e room_1 (s.setVm s.vm) m #[(.long y0), (.long y1), (.long y2), (.long y3), (.int sel)] below meth c_ T19 L19 0 0 → T19.heap = h0 → Fr n0 L19 → (0 ≤ kB.toInt ∧ kB.toInt ≤ 255) → Go p e below (RetW s (Q_law Z y0 y1 y2 y3 sel cz h0 n0) 64 4352) (T19.setTop (mkF m 232 #[.val (.long y0), .second, .val (.long y1), .second, .val (.long y2), .second, .val (.long y3), .second, .val (.int sel), .val (.int posA), .val (.int posB), .val (.int colA), .val (.int colB), .val (.int (own_bit sel (4 : Int32))), .val (.int (own_bit sel (5 : Int32))), .val (.int chA), .val (.int chB), .val (.int tA), .val (.int cA), .val (.int kA), .val (.int dA), .val (.int tB), .val (.int cB), .unset, .unset, .unset, .unset, .unset, .unset, .unset, .unset, .unset] [(.int kB)])) := by
              intro T19 L19 kB X19 e19 N19 h_kB
              refine g_istore X19 hx hby at_232 (l' := #[.val (.long y0), .second, .val (.long y1), .second, .val (.long y2), .second, .val (.long y3), .second, .val (.int sel), .val (.int posA), .val (.int posB), .val (.int colA), .val (.int colB), .val (.int (own_bit sel (4 : Int32))), .val (.int (own_bit sel (5 : Int32))), .val (.int chA), .val (.int chB), .val (.int tA), .val (.int cA), .val (.int kA), .val (.int dA), .val (.int tB), .val (.int cB), .val (.int kB), .unset, .unset, .unset, .unset, .unset, .unset, .unset, .unset]) rfl ?_
              refine g_iload X19 hx hby at_234 rfl ?_
              refine g_bipush X19 hx hby (11 : Int32) at_236 rfl ?_
              refine g_static X19 hx hby hZ hown (rm_bit l Z a0 hw [] sel (11 : Int32) h0 n0 Z0 ) w1_ w2_ w3_ w4_ (by decide) e19 (by rw [hml]; rfl) [(.int sel), (.int (11 : Int32))] (lenOf own_pd7 rfl) rfl rfl (Nat.le_of_ble_eq_true rfl) (Nat.le_of_ble_eq_true rfl) (Nat.le_of_ble_eq_true rfl) (Nat.le_of_ble_eq_true rfl) at_238 (fun v20 T20 L20 X20 hQ20 => ?_)
              obtain ⟨rfl, N20q, eh20⟩ := hQ20
              have N20 := Fr.app N19 N20q
              have J21 : ∀ (T21 : State) (L21 : List Loc) (dB : Int32), Stand p l e room_1 (s.setVm s.vm) m #[(.long y0), (.long y1), (.long y2), (.long y3), (.int sel)] below meth c_ T21 L21 0 0 → T21.heap = h0 → Fr n0 L21 → (0 ≤ dB.toInt ∧ dB.toInt ≤ 255) → Go p e below (RetW s (Q_law Z y0 y1 y2 y3 sel cz h0 n0) 64 4352) (T21.setTop (mkF m 256 #[.val (.long y0), .second, .val (.long y1), .second, .val (.long y2), .second, .val (.long y3), .second, .val (.int sel), .val (.int posA), .val (.int posB), .val (.int colA), .val (.int colB), .val (.int (own_bit sel (4 : Int32))), .val (.int (own_bit sel (5 : Int32))), .val (.int chA), .val (.int chB), .val (.int tA), .val (.int cA), .val (.int kA), .val (.int dA), .val (.int tB), .val (.int cB), .val (.int kB), .unset, .unset, .unset, .unset, .unset, .unset, .unset, .unset] [(.int dB)])) := by
                intro T21 L21 dB X21 e21 N21 h_dB
                refine g_istore X21 hx hby at_256 (l' := #[.val (.long y0), .second, .val (.long y1), .second, .val (.long y2), .second, .val (.long y3), .second, .val (.int sel), .val (.int posA), .val (.int posB), .val (.int colA), .val (.int colB), .val (.int (own_bit sel (4 : Int32))), .val (.int (own_bit sel (5 : Int32))), .val (.int chA), .val (.int chB), .val (.int tA), .val (.int cA), .val (.int kA), .val (.int dA), .val (.int tB), .val (.int cB), .val (.int kB), .val (.int dB), .unset, .unset, .unset, .unset, .unset, .unset, .unset]) rfl ?_
                refine g_new X21 hx hby hZ hown w13_ w14_ w15_ e21 (by decide) (by decide) at_258 (fun T22 h22 b22 g22 X22 e22 E22 A22 D22 => ?_)
                have F_position_b22 : Fld Z h22 b22 "com/example/refloom/refloom/model/Problem" "position" "I" (.int (0 : Int32)) := D22 (Or.inr w50_) (ty := .int) (by decide)
                have F_childPosition_b22 : Fld Z h22 b22 "com/example/refloom/refloom/model/Problem" "childPosition" "I" (.int (0 : Int32)) := D22 (Or.inr w52_) (ty := .int) (by decide)
                have F_table_b22 : Fld Z h22 b22 "com/example/refloom/refloom/model/Problem" "table" "Ljava/lang/String;" .null := D22 (Or.inr w62_) (ty := (.object "java/lang/String")) (by decide)
                have F_column_b22 : Fld Z h22 b22 "com/example/refloom/refloom/model/Problem" "column" "Ljava/lang/String;" .null := D22 (Or.inr w65_) (ty := (.object "java/lang/String")) (by decide)
                have F_columnPosition_b22 : Fld Z h22 b22 "com/example/refloom/refloom/model/Problem" "columnPosition" "I" (.int (0 : Int32)) := D22 (Or.inr w67_) (ty := .int) (by decide)
                have F_kind_b22 : Fld Z h22 b22 "com/example/refloom/refloom/model/Problem" "kind" "Ljava/lang/String;" .null := D22 (Or.inr w70_) (ty := (.object "java/lang/String")) (by decide)
                have F_detail_b22 : Fld Z h22 b22 "com/example/refloom/refloom/model/Problem" "detail" "Ljava/lang/String;" .null := D22 (Or.inr w73_) (ty := (.object "java/lang/String")) (by decide)
                refine g_dup X22 hx hby at_261 rfl ?_
                refine g_iload X22 hx hby at_262 rfl ?_
                refine g_iload X22 hx hby at_264 rfl ?_
                have f24 := (OLD.ext E22)
                have z25 := (Nat.le_trans Z0 E22.1)
                refine g_static X22 hx hby hZ hown (rm_valueof l Z a0 hw [] tA cz h22 n0 z25 O2 P5 f24 (own_c255 h_tA)) w16_ w17_ w18_ w19_ (by decide) e22 (by rw [hml]; rfl) [(.int tA)] (lenOf own_pd10 rfl) rfl rfl (Nat.le_of_ble_eq_true rfl) (Nat.le_of_ble_eq_true rfl) (Nat.le_of_ble_eq_true rfl) (Nat.le_of_ble_eq_true rfl) at_266 (fun v23 T23 L23 X23 hQ23 => ?_)
                obtain ⟨N23q, K23, s23, t23, kb23, rfl, ls23, lo23, Es23, Cs23, Vs23, Bs23⟩ := hQ23
                have N23 := Fr.app N21 N23q
                refine g_iload X23 hx hby at_269 rfl ?_
                have f27 := (f24.keep K23 all0)
                have z28 := (Nat.le_trans z25 K23.1)
                refine g_static X23 hx hby hZ hown (rm_valueof l Z a0 hw [] cA cz T23.heap n0 z28 O2 P5 f27 (own_c255 h_cA)) w16_ w17_ w18_ w19_ (by decide) rfl (by rw [hml]; rfl) [(.int cA)] (lenOf own_pd10 rfl) rfl rfl (Nat.le_of_ble_eq_true rfl) (Nat.le_of_ble_eq_true rfl) (Nat.le_of_ble_eq_true rfl) (Nat.le_of_ble_eq_true rfl) at_271 (fun v26 T26 L26 X26 hQ26 => ?_)
                obtain ⟨N26q, K26, s26, t26, kb26, rfl, ls26, lo26, Es26, Cs26, Vs26, Bs26⟩ := hQ26
                have N26 := Fr.app N23 N26q
                refine g_iload X26 hx hby at_274 rfl ?_
                refine g_iload X26 hx hby at_276 rfl ?_
                have f30 := (f27.keep K26 all0)
                have z31 := (Nat.le_trans z28 K26.1)
                refine g_static X26 hx hby hZ hown (rm_valueof l Z a0 hw [] kA cz T26.heap n0 z31 O2 P5 f30 (own_c255 h_kA)) w16_ w17_ w18_ w19_ (by decide) rfl (by rw [hml]; rfl) [(.int kA)] (lenOf own_pd10 rfl) rfl rfl (Nat.le_of_ble_eq_true rfl) (Nat.le_of_ble_eq_true rfl) (Nat.le_of_ble_eq_true rfl) (Nat.le_of_ble_eq_true rfl) at_278 (fun v29 T29 L29 X29 hQ29 => ?_)
                obtain ⟨N29q, K29, s29, t29, kb29, rfl, ls29, lo29, Es29, Cs29, Vs29, Bs29⟩ := hQ29
                have N29 := Fr.app N26 N29q
                refine g_at 281 rfl rfl rfl ?_
                refine g_iload X29 hx hby at_281 rfl ?_
                have f33 := (f30.keep K29 all0)
                have z34 := (Nat.le_trans z31 K29.1)
                refine g_static X29 hx hby hZ hown (rm_valueof l Z a0 hw [] dA cz T29.heap n0 z34 O2 P5 f33 (own_c255 h_dA)) w16_ w17_ w18_ w19_ (by decide) rfl (by rw [hml]; rfl) [(.int dA)] (lenOf own_pd10 rfl) rfl rfl (Nat.le_of_ble_eq_true rfl) (Nat.le_of_ble_eq_true rfl) (Nat.le_of_ble_eq_true rfl) (Nat.le_of_ble_eq_true rfl) at_283 (fun v32 T32 L32 X32 hQ32 => ?_)
                obtain ⟨N32q, K32, s32, t32, kb32, rfl, ls32, lo32, Es32, Cs32, Vs32, Bs32⟩ := hQ32
                have N32 := Fr.app N29 N32q
                have f36 := ((((A22.keep K23).keep K26).keep K29).keep K32)
                have f37 := ((((F_position_b22.keep K23 nin0).keep K26 nin0).keep K29 nin0).keep K32 nin0)
                have f38 := ((((F_childPosition_b22.keep K23 nin0).keep K26 nin0).keep K29 nin0).keep K32 nin0)
                have f39 := ((((F_table_b22.keep K23 nin0).keep K26 nin0).keep K29 nin0).keep K32 nin0)
                have f40 := ((((F_column_b22.keep K23 nin0).keep K26 nin0).keep K29 nin0).keep K32 nin0)
                have f41 := ((((F_columnPosition_b22.keep K23 nin0).keep K26 nin0).keep K29 nin0).keep K32 nin0)
                have f42 := ((((F_kind_b22.keep K23 nin0).keep K26 nin0).keep K29 nin0).keep K32 nin0)
                have f43 := ((((F_detail_b22.keep K23 nin0).keep K26 nin0).keep K29 nin0).keep K32 nin0)
                have g_b22 : n0 ≤ b22 := Nat.le_trans Z0 (Nat.le_of_eq g22)
                have f44 := (((Es23.keep K26).keep K29).keep K32)
                have f45 := ((Es26.keep K29).keep K32)
                have f46 := (Es29.keep K32)
                have z47 := (Nat.le_trans z34 K32.1)
                refine g_specialW X32 hx hby hZ hown (PV := fun vm => Z.Warmed39 vm) (rm_pini7 l Z a0 hw [] b22 posA s23 s26 colA s29 s32 T32.heap n0 z47 f36 f37 f38 f39 f40 f41 f42 f43 g_b22 f44 f45 f46 Es32 h_posA h_colA) (fun _ q => State.Warmed39.trans hZ q.wide) hS0 (Nat.zero_le _) rfl rfl w42_ w43_ w15_ w44_ (by decide) rfl (by rw [hml]; rfl) [(.int posA), (.ref s23), (.ref s26), (.int colA), (.ref s29), (.ref s32)] (lenOf own_pd11 rfl) rfl rfl (Nat.le_of_ble_eq_true rfl) (Nat.le_of_ble_eq_true rfl) (Nat.le_of_ble_eq_true rfl) (Nat.le_of_ble_eq_true rfl) at_286 (fun v35 T35 L35 X35 hS35 hZ35 ho35 hQ35 => ?_)
                obtain ⟨rfl, N35q, K35, pE35, pa35, pb35, pc35, pd35, pe35, pf35, pg35⟩ := hQ35
                have N35 := Fr.app N32 N35q
                refine g_astore X35 hx hby at_289 rfl (l' := #[.val (.long y0), .second, .val (.long y1), .second, .val (.long y2), .second, .val (.long y3), .second, .val (.int sel), .val (.int posA), .val (.int posB), .val (.int colA), .val (.int colB), .val (.int (own_bit sel (4 : Int32))), .val (.int (own_bit sel (5 : Int32))), .val (.int chA), .val (.int chB), .val (.int tA), .val (.int cA), .val (.int kA), .val (.int dA), .val (.int tB), .val (.int cB), .val (.int kB), .val (.int dB), .val (.ref b22), .unset, .unset, .unset, .unset, .unset, .unset]) rfl ?_
                refine g_iload X35 hx hby at_291 rfl ?_
                by_cases hc293_48 : (own_bit sel (4 : Int32)) = (0 : Int32)
                · skip
                  refine g_ifY X35 hx hby 307 at_293 (teq hc293_48).1 (by decide) (by decide) ?_
                  refine g_new X35 hx hby hZ35 ho35 w13_ w14_ w15_ rfl (by decide) (by decide) at_307 (fun T49 h49 b49 g49 X49 e49 E49 A49 D49 => ?_)
                  have F_position_b49 : Fld Z h49 b49 "com/example/refloom/refloom/model/Problem" "position" "I" (.int (0 : Int32)) := D49 (Or.inr w50_) (ty := .int) (by decide)
                  have F_childPosition_b49 : Fld Z h49 b49 "com/example/refloom/refloom/model/Problem" "childPosition" "I" (.int (0 : Int32)) := D49 (Or.inr w52_) (ty := .int) (by decide)
                  have F_table_b49 : Fld Z h49 b49 "com/example/refloom/refloom/model/Problem" "table" "Ljava/lang/String;" .null := D49 (Or.inr w62_) (ty := (.object "java/lang/String")) (by decide)
                  have F_column_b49 : Fld Z h49 b49 "com/example/refloom/refloom/model/Problem" "column" "Ljava/lang/String;" .null := D49 (Or.inr w65_) (ty := (.object "java/lang/String")) (by decide)
                  have F_columnPosition_b49 : Fld Z h49 b49 "com/example/refloom/refloom/model/Problem" "columnPosition" "I" (.int (0 : Int32)) := D49 (Or.inr w67_) (ty := .int) (by decide)
                  have F_kind_b49 : Fld Z h49 b49 "com/example/refloom/refloom/model/Problem" "kind" "Ljava/lang/String;" .null := D49 (Or.inr w70_) (ty := (.object "java/lang/String")) (by decide)
                  have F_detail_b49 : Fld Z h49 b49 "com/example/refloom/refloom/model/Problem" "detail" "Ljava/lang/String;" .null := D49 (Or.inr w73_) (ty := (.object "java/lang/String")) (by decide)
                  refine g_dup X49 hx hby at_310 rfl ?_
                  refine g_iload X49 hx hby at_311 rfl ?_
                  refine g_iload X49 hx hby at_313 rfl ?_
                  have f51 := (((f33.keep K32 all0).keep K35 (allS g_b22 all0)).ext E49)
                  have z52 := (Nat.le_trans z47 (Nat.le_trans K35.1 E49.1))
                  refine g_static X49 hx hby hZ35 ho35 (rm_valueof l Z a0 hw [] tB cz h49 n0 z52 O2 P5 f51 (own_c255 h_tB)) w16_ w17_ w18_ w19_ (by decide) e49 (by rw [hml]; rfl) [(.int tB)] (lenOf own_pd10 rfl) rfl rfl (Nat.le_of_ble_eq_true rfl) (Nat.le_of_ble_eq_true rfl) (Nat.le_of_ble_eq_true rfl) (Nat.le_of_ble_eq_true rfl) at_315 (fun v50 T50 L50 X50 hQ50 => ?_)
                  obtain ⟨N50q, K50, s50, t50, kb50, rfl, ls50, lo50, Es50, Cs50, Vs50, Bs50⟩ := hQ50
                  have N50 := Fr.app N35 N50q
                  refine g_iload X50 hx hby at_318 rfl ?_
                  have f54 := (f51.keep K50 all0)
                  have z55 := (Nat.le_trans z52 K50.1)
                  refine g_static X50 hx hby hZ35 ho35 (rm_valueof l Z a0 hw [] cB cz T50.heap n0 z55 O2 P5 f54 (own_c255 h_cB)) w16_ w17_ w18_ w19_ (by decide) rfl (by rw [hml]; rfl) [(.int cB)] (lenOf own_pd10 rfl) rfl rfl (Nat.le_of_ble_eq_true rfl) (Nat.le_of_ble_eq_true rfl) (Nat.le_of_ble_eq_true rfl) (Nat.le_of_ble_eq_true rfl) at_320 (fun v53 T53 L53 X53 hQ53 => ?_)
                  obtain ⟨N53q, K53, s53, t53, kb53, rfl, ls53, lo53, Es53, Cs53, Vs53, Bs53⟩ := hQ53
                  have N53 := Fr.app N50 N53q
                  refine g_iload X53 hx hby at_323 rfl ?_
                  refine g_iload X53 hx hby at_325 rfl ?_
                  have f57 := (f54.keep K53 all0)
                  have z58 := (Nat.le_trans z55 K53.1)
                  refine g_static X53 hx hby hZ35 ho35 (rm_valueof l Z a0 hw [] kB cz T53.heap n0 z58 O2 P5 f57 (own_c255 h_kB)) w16_ w17_ w18_ w19_ (by decide) rfl (by rw [hml]; rfl) [(.int kB)] (lenOf own_pd10 rfl) rfl rfl (Nat.le_of_ble_eq_true rfl) (Nat.le_of_ble_eq_true rfl) (Nat.le_of_ble_eq_true rfl) (Nat.le_of_ble_eq_true rfl) at_327 (fun v56 T56 L56 X56 hQ56 => ?_)
                  obtain ⟨N56q, K56, s56, t56, kb56, rfl, ls56, lo56, Es56, Cs56, Vs56, Bs56⟩ := hQ56
                  have N56 := Fr.app N53 N56q
                  refine g_at 330 rfl rfl rfl ?_
                  refine g_iload X56 hx hby at_330 rfl ?_
                  have f60 := (f57.keep K56 all0)
                  have z61 := (Nat.le_trans z58 K56.1)
                  refine g_static X56 hx hby hZ35 ho35 (rm_valueof l Z a0 hw [] dB cz T56.heap n0 z61 O2 P5 f60 (own_c255 h_dB)) w16_ w17_ w18_ w19_ (by decide) rfl (by rw [hml]; rfl) [(.int dB)] (lenOf own_pd10 rfl) rfl rfl (Nat.le_of_ble_eq_true rfl) (Nat.le_of_ble_eq_true rfl) (Nat.le_of_ble_eq_true rfl) (Nat.le_of_ble_eq_true rfl) at_332 (fun v59 T59 L59 X59 hQ59 => ?_)
                  obtain ⟨N59q, K59, s59, t59, kb59, rfl, ls59, lo59, Es59, Cs59, Vs59, Bs59⟩ := hQ59
                  have N59 := Fr.app N56 N59q
                  have f63 := ((((A49.keep K50).keep K53).keep K56).keep K59)
                  have f64 := ((((F_position_b49.keep K50 nin0).keep K53 nin0).keep K56 nin0).keep K59 nin0)
                  have f65 := ((((F_childPosition_b49.keep K50 nin0).keep K53 nin0).keep K56 nin0).keep K59 nin0)
                  have f66 := ((((F_table_b49.keep K50 nin0).keep K53 nin0).keep K56 nin0).keep K59 nin0)
                  have f67 := ((((F_column_b49.keep K50 nin0).keep K53 nin0).keep K56 nin0).keep K59 nin0)
                  have f68 := ((((F_columnPosition_b49.keep K50 nin0).keep K53 nin0).keep K56 nin0).keep K59 nin0)
                  have f69 := ((((F_kind_b49.keep K50 nin0).keep K53 nin0).keep K56 nin0).keep K59 nin0)
                  have f70 := ((((F_detail_b49.keep K50 nin0).keep K53 nin0).keep K56 nin0).keep K59 nin0)
                  have g_b49 : n0 ≤ b49 := Nat.le_trans (Nat.le_trans z47 K35.1) (Nat.le_of_eq g49)
                  have f71 := (((Es50.keep K53).keep K56).keep K59)
                  have f72 := ((Es53.keep K56).keep K59)
                  have f73 := (Es56.keep K59)
                  have z74 := (Nat.le_trans z61 K59.1)
                  refine g_specialW X59 hx hby hZ35 ho35 (PV := fun vm => Z.Warmed39 vm) (rm_pini7 l Z a0 hw [] b49 posB s50 s53 colB s56 s59 T59.heap n0 z74 f63 f64 f65 f66 f67 f68 f69 f70 g_b49 f71 f72 f73 Es59 h_posB h_colB) (fun _ q => State.Warmed39.trans hZ35 q.wide) hS35 (Nat.le_trans (Nat.le_refl _) (Nat.le_trans (Nat.le_trans (Nat.le_trans (Nat.le_trans E49.1 K50.1) K53.1) K56.1) K59.1)) rfl rfl w42_ w43_ w15_ w44_ (by decide) rfl (by rw [hml]; rfl) [(.int posB), (.ref s50), (.ref s53), (.int colB), (.ref s56), (.ref s59)] (lenOf own_pd11 rfl) rfl rfl (Nat.le_of_ble_eq_true rfl) (Nat.le_of_ble_eq_true rfl) (Nat.le_of_ble_eq_true rfl) (Nat.le_of_ble_eq_true rfl) at_335 (fun v62 T62 L62 X62 hS62 hZ62 ho62 hQ62 => ?_)
                  obtain ⟨rfl, N62q, K62, pE62, pa62, pb62, pc62, pd62, pe62, pf62, pg62⟩ := hQ62
                  have N62 := Fr.app N59 N62q
                  refine g_astore X62 hx hby at_338 rfl (l' := #[.val (.long y0), .second, .val (.long y1), .second, .val (.long y2), .second, .val (.long y3), .second, .val (.int sel), .val (.int posA), .val (.int posB), .val (.int colA), .val (.int colB), .val (.int (own_bit sel (4 : Int32))), .val (.int (own_bit sel (5 : Int32))), .val (.int chA), .val (.int chB), .val (.int tA), .val (.int cA), .val (.int kA), .val (.int dA), .val (.int tB), .val (.int cB), .val (.int kB), .val (.int dB), .val (.ref b22), .val (.ref b49), .unset, .unset, .unset, .unset, .unset]) rfl ?_
                  refine g_iload X62 hx hby at_340 rfl ?_
                  by_cases hc342_75 : (own_bit sel (5 : Int32)) = (0 : Int32)
                  · skip
                    refine g_ifY X62 hx hby 356 at_342 (teq hc342_75).1 (by decide) (by decide) ?_
                    refine g_iload X62 hx hby at_356 rfl ?_
                    refine g_bipush X62 hx hby (7 : Int32) at_358 rfl ?_
                    refine g_iand X62 hx hby at_360 ?_
                    refine g_istore X62 hx hby at_361 (l' := #[.val (.long y0), .second, .val (.long y1), .second, .val (.long y2), .second, .val (.long y3), .second, .val (.int sel), .val (.int posA), .val (.int posB), .val (.int colA), .val (.int colB), .val (.int (own_bit sel (4 : Int32))), .val (.int (own_bit sel (5 : Int32))), .val (.int chA), .val (.int chB), .val (.int tA), .val (.int cA), .val (.int kA), .val (.int dA), .val (.int tB), .val (.int cB), .val (.int kB), .val (.int dB), .val (.ref b22), .val (.ref b49), .val (.int (sel &&& (7 : Int32))), .unset, .unset, .unset, .unset]) rfl ?_
                    refine g_iload X62 hx hby at_363 rfl ?_
                    refine g_bipush X62 hx hby (7 : Int32) at_365 rfl ?_
                    by_cases hc367_76 : (sel &&& (7 : Int32)) = (7 : Int32)
                    · skip
                      refine g_icN X62 hx hby at_367 (teq hc367_76).2 ?_
                      refine g_aconst_null X62 hx hby at_370 ?_
                      refine g_goto X62 hx hby 391 at_371 (by decide) (by decide) ?_
                      refine g_astore X62 hx hby at_391 rfl (l' := #[.val (.long y0), .second, .val (.long y1), .second, .val (.long y2), .second, .val (.long y3), .second, .val (.int sel), .val (.int posA), .val (.int posB), .val (.int colA), .val (.int colB), .val (.int (own_bit sel (4 : Int32))), .val (.int (own_bit sel (5 : Int32))), .val (.int chA), .val (.int chB), .val (.int tA), .val (.int cA), .val (.int kA), .val (.int dA), .val (.int tB), .val (.int cB), .val (.int kB), .val (.int dB), .val (.ref b22), .val (.ref b49), .val (.int (sel &&& (7 : Int32))), .val .null, .unset, .unset, .unset]) rfl ?_
                      refine g_iload X62 hx hby at_393 rfl ?_
                      refine g_ifY X62 hx hby 403 at_395 (teq (hc293_48 : (own_bit sel (4 : Int32)) = (0 : Int32))).1 (by decide) (by decide) ?_
                      refine g_iconst X62 hx hby (-1 : Int32) at_403 rfl ?_
                      refine g_istore X62 hx hby at_404 (l' := #[.val (.long y0), .second, .val (.long y1), .second, .val (.long y2), .second, .val (.long y3), .second, .val (.int sel), .val (.int posA), .val (.int posB), .val (.int colA), .val (.int colB), .val (.int (own_bit sel (4 : Int32))), .val (.int (own_bit sel (5 : Int32))), .val (.int chA), .val (.int chB), .val (.int tA), .val (.int cA), .val (.int kA), .val (.int dA), .val (.int tB), .val (.int cB), .val (.int kB), .val (.int dB), .val (.ref b22), .val (.ref b49), .val (.int (sel &&& (7 : Int32))), .val .null, .val (.int (-1 : Int32)), .unset, .unset]) rfl ?_
                      refine g_iload X62 hx hby at_406 rfl ?_
                      refine g_ifY X62 hx hby 416 at_408 (teq (hc342_75 : (own_bit sel (5 : Int32)) = (0 : Int32))).1 (by decide) (by decide) ?_
                      refine g_iconst X62 hx hby (-1 : Int32) at_416 rfl ?_
                      refine g_istore X62 hx hby at_417 (l' := #[.val (.long y0), .second, .val (.long y1), .second, .val (.long y2), .second, .val (.long y3), .second, .val (.int sel), .val (.int posA), .val (.int posB), .val (.int colA), .val (.int colB), .val (.int (own_bit sel (4 : Int32))), .val (.int (own_bit sel (5 : Int32))), .val (.int chA), .val (.int chB), .val (.int tA), .val (.int cA), .val (.int kA), .val (.int dA), .val (.int tB), .val (.int cB), .val (.int kB), .val (.int dB), .val (.ref b22), .val (.ref b49), .val (.int (sel &&& (7 : Int32))), .val .null, .val (.int (-1 : Int32)), .val (.int (-1 : Int32)), .unset]) rfl ?_
                      refine g_iload X62 hx hby at_419 rfl ?_
                      refine g_bipush X62 hx hby (6 : Int32) at_421 rfl ?_
                      refine g_icY X62 hx hby 479 at_423 (flt (by rw [hc367_76]; decide : ¬ ((sel &&& (7 : Int32)) < (6 : Int32)))).2.1 (by decide) (by decide) ?_
                      refine g_iconst X62 hx hby (0 : Int32) at_479 rfl ?_
                      refine g_istore X62 hx hby at_480 (l' := #[.val (.long y0), .second, .val (.long y1), .second, .val (.long y2), .second, .val (.long y3), .second, .val (.int sel), .val (.int posA), .val (.int posB), .val (.int colA), .val (.int colB), .val (.int (own_bit sel (4 : Int32))), .val (.int (own_bit sel (5 : Int32))), .val (.int chA), .val (.int chB), .val (.int tA), .val (.int cA), .val (.int kA), .val (.int dA), .val (.int tB), .val (.int cB), .val (.int kB), .val (.int dB), .val (.ref b22), .val (.ref b49), .val (.int (sel &&& (7 : Int32))), .val .null, .val (.int (-1 : Int32)), .val (.int (-1 : Int32)), .val (.int (0 : Int32))]) rfl ?_
                      refine g_aload X62 hx hby at_482 rfl rfl ?_
                      refine g_aload X62 hx hby at_484 rfl rfl ?_
                      have z78 := (Nat.le_trans z74 K62.1)
                      have f79 := ((((((pE35.ext E49).keep K50).keep K53).keep K56).keep K59).keep K62)
                      refine g_virtual X62 hx hby hZ62 ho62 (rm_peqn l Z a0 hw [] b22 T62.heap n0 z78 ) w74_ w75_ (notFace_of_selects (args := #[]) (mvT hZ62 w77_)) w77_ w76_ w15_ w78_ (by decide) rfl f79 (by rw [hml]; rfl) [.null] (lenOf own_pd1 rfl) rfl rfl (Nat.le_of_ble_eq_true rfl) (Nat.le_of_ble_eq_true rfl) (Nat.le_of_ble_eq_true rfl) (Nat.le_of_ble_eq_true rfl) at_486 (fun v77 T77 L77 X77 hQ77 => ?_)
                      obtain ⟨rfl, N77q, eh77⟩ := hQ77
                      have N77 := Fr.app N62 N77q
                      refine g_iload X77 hx hby at_489 rfl ?_
                      refine g_icN X77 hx hby at_491 (teq (by decide : (0 : Int32) = (0 : Int32))).2 ?_
                      refine g_iconst X77 hx hby (1 : Int32) at_494 rfl ?_
                      refine g_goto X77 hx hby 499 at_495 (by decide) (by decide) ?_
                      refine g_nretW X77 hx hby (t := .boolean) (by simp) Bd.returns Bd.notSynchronized hS62 at_499 eh77 (Nat.le_refl _) (by decide) (by decide) ?_
                      show (Q_law Z y0 y1 y2 y3 sel cz h0 n0) (some (.int (1 : Int32))) _ _
                      exact ⟨rfl, N77⟩
                    · skip
                      refine g_icY X62 hx hby 374 at_367 (feq hc367_76).2 (by decide) (by decide) ?_
                      refine g_iload X62 hx hby at_374 rfl ?_
                      refine g_bipush X62 hx hby (6 : Int32) at_376 rfl ?_
                      by_cases hc378_80 : (sel &&& (7 : Int32)) = (6 : Int32)
                      · skip
                        refine g_icN X62 hx hby at_378 (teq hc378_80).2 ?_
                        refine g_iload X62 hx hby at_381 rfl ?_
                        have f82 := ((f60.keep K59 all0).keep K62 (allS g_b49 all0))
                        have z83 := (Nat.le_trans z74 K62.1)
                        refine g_static X62 hx hby hZ62 ho62 (rm_valueof l Z a0 hw [] tA cz T62.heap n0 z83 O2 P5 f82 (own_c255 h_tA)) w16_ w17_ w18_ w19_ (by decide) rfl (by rw [hml]; rfl) [(.int tA)] (lenOf own_pd10 rfl) rfl rfl (Nat.le_of_ble_eq_true rfl) (Nat.le_of_ble_eq_true rfl) (Nat.le_of_ble_eq_true rfl) (Nat.le_of_ble_eq_true rfl) at_383 (fun v81 T81 L81 X81 hQ81 => ?_)
                        obtain ⟨N81q, K81, s81, t81, kb81, rfl, ls81, lo81, Es81, Cs81, Vs81, Bs81⟩ := hQ81
                        have N81 := Fr.app N62 N81q
                        refine g_goto X81 hx hby 391 at_386 (by decide) (by decide) ?_
                        refine g_astore X81 hx hby at_391 rfl (l' := #[.val (.long y0), .second, .val (.long y1), .second, .val (.long y2), .second, .val (.long y3), .second, .val (.int sel), .val (.int posA), .val (.int posB), .val (.int colA), .val (.int colB), .val (.int (own_bit sel (4 : Int32))), .val (.int (own_bit sel (5 : Int32))), .val (.int chA), .val (.int chB), .val (.int tA), .val (.int cA), .val (.int kA), .val (.int dA), .val (.int tB), .val (.int cB), .val (.int kB), .val (.int dB), .val (.ref b22), .val (.ref b49), .val (.int (sel &&& (7 : Int32))), .val (.ref s81), .unset, .unset, .unset]) rfl ?_
                        refine g_iload X81 hx hby at_393 rfl ?_
                        refine g_ifY X81 hx hby 403 at_395 (teq (hc293_48 : (own_bit sel (4 : Int32)) = (0 : Int32))).1 (by decide) (by decide) ?_
                        refine g_iconst X81 hx hby (-1 : Int32) at_403 rfl ?_
                        refine g_istore X81 hx hby at_404 (l' := #[.val (.long y0), .second, .val (.long y1), .second, .val (.long y2), .second, .val (.long y3), .second, .val (.int sel), .val (.int posA), .val (.int posB), .val (.int colA), .val (.int colB), .val (.int (own_bit sel (4 : Int32))), .val (.int (own_bit sel (5 : Int32))), .val (.int chA), .val (.int chB), .val (.int tA), .val (.int cA), .val (.int kA), .val (.int dA), .val (.int tB), .val (.int cB), .val (.int kB), .val (.int dB), .val (.ref b22), .val (.ref b49), .val (.int (sel &&& (7 : Int32))), .val (.ref s81), .val (.int (-1 : Int32)), .unset, .unset]) rfl ?_
                        refine g_iload X81 hx hby at_406 rfl ?_
                        refine g_ifY X81 hx hby 416 at_408 (teq (hc342_75 : (own_bit sel (5 : Int32)) = (0 : Int32))).1 (by decide) (by decide) ?_
                        refine g_iconst X81 hx hby (-1 : Int32) at_416 rfl ?_
                        refine g_istore X81 hx hby at_417 (l' := #[.val (.long y0), .second, .val (.long y1), .second, .val (.long y2), .second, .val (.long y3), .second, .val (.int sel), .val (.int posA), .val (.int posB), .val (.int colA), .val (.int colB), .val (.int (own_bit sel (4 : Int32))), .val (.int (own_bit sel (5 : Int32))), .val (.int chA), .val (.int chB), .val (.int tA), .val (.int cA), .val (.int kA), .val (.int dA), .val (.int tB), .val (.int cB), .val (.int kB), .val (.int dB), .val (.ref b22), .val (.ref b49), .val (.int (sel &&& (7 : Int32))), .val (.ref s81), .val (.int (-1 : Int32)), .val (.int (-1 : Int32)), .unset]) rfl ?_
                        refine g_iload X81 hx hby at_419 rfl ?_
                        refine g_bipush X81 hx hby (6 : Int32) at_421 rfl ?_
                        refine g_icY X81 hx hby 479 at_423 (flt (by rw [hc378_80]; decide : ¬ ((sel &&& (7 : Int32)) < (6 : Int32)))).2.1 (by decide) (by decide) ?_
                        refine g_iconst X81 hx hby (0 : Int32) at_479 rfl ?_
                        refine g_istore X81 hx hby at_480 (l' := #[.val (.long y0), .second, .val (.long y1), .second, .val (.long y2), .second, .val (.long y3), .second, .val (.int sel), .val (.int posA), .val (.int posB), .val (.int colA), .val (.int colB), .val (.int (own_bit sel (4 : Int32))), .val (.int (own_bit sel (5 : Int32))), .val (.int chA), .val (.int chB), .val (.int tA), .val (.int cA), .val (.int kA), .val (.int dA), .val (.int tB), .val (.int cB), .val (.int kB), .val (.int dB), .val (.ref b22), .val (.ref b49), .val (.int (sel &&& (7 : Int32))), .val (.ref s81), .val (.int (-1 : Int32)), .val (.int (-1 : Int32)), .val (.int (0 : Int32))]) rfl ?_
                        refine g_aload X81 hx hby at_482 rfl rfl ?_
                        refine g_aload X81 hx hby at_484 rfl rfl ?_
                        have z85 := (Nat.le_trans z83 K81.1)
                        have f86 := (((((((pE35.ext E49).keep K50).keep K53).keep K56).keep K59).keep K62).keep K81)
                        refine g_virtual X81 hx hby hZ62 ho62 (rm_peqs l Z a0 hw [] b22 s81 T81.heap n0 z85 Es81) w74_ w75_ (notFace_of_selects (args := #[]) (mvT hZ62 w77_)) w77_ w76_ w15_ w78_ (by decide) rfl f86 (by rw [hml]; rfl) [(.ref s81)] (lenOf own_pd1 rfl) rfl rfl (Nat.le_of_ble_eq_true rfl) (Nat.le_of_ble_eq_true rfl) (Nat.le_of_ble_eq_true rfl) (Nat.le_of_ble_eq_true rfl) at_486 (fun v84 T84 L84 X84 hQ84 => ?_)
                        obtain ⟨rfl, N84q, eh84⟩ := hQ84
                        have N84 := Fr.app N81 N84q
                        refine g_iload X84 hx hby at_489 rfl ?_
                        refine g_icN X84 hx hby at_491 (teq (by decide : (0 : Int32) = (0 : Int32))).2 ?_
                        refine g_iconst X84 hx hby (1 : Int32) at_494 rfl ?_
                        refine g_goto X84 hx hby 499 at_495 (by decide) (by decide) ?_
                        refine g_nretW X84 hx hby (t := .boolean) (by simp) Bd.returns Bd.notSynchronized hS62 at_499 eh84 (Nat.le_trans (Nat.le_refl _) K81.1) (by decide) (by decide) ?_
                        show (Q_law Z y0 y1 y2 y3 sel cz h0 n0) (some (.int (1 : Int32))) _ _
                        exact ⟨rfl, N84⟩
                      · skip
                        refine g_icY X62 hx hby 389 at_378 (feq hc378_80).2 (by decide) (by decide) ?_
                        refine g_aload X62 hx hby at_389 rfl rfl ?_
                        refine g_astore X62 hx hby at_391 rfl (l' := #[.val (.long y0), .second, .val (.long y1), .second, .val (.long y2), .second, .val (.long y3), .second, .val (.int sel), .val (.int posA), .val (.int posB), .val (.int colA), .val (.int colB), .val (.int (own_bit sel (4 : Int32))), .val (.int (own_bit sel (5 : Int32))), .val (.int chA), .val (.int chB), .val (.int tA), .val (.int cA), .val (.int kA), .val (.int dA), .val (.int tB), .val (.int cB), .val (.int kB), .val (.int dB), .val (.ref b22), .val (.ref b49), .val (.int (sel &&& (7 : Int32))), .val (.ref b49), .unset, .unset, .unset]) rfl ?_
                        refine g_iload X62 hx hby at_393 rfl ?_
                        refine g_ifY X62 hx hby 403 at_395 (teq (hc293_48 : (own_bit sel (4 : Int32)) = (0 : Int32))).1 (by decide) (by decide) ?_
                        refine g_iconst X62 hx hby (-1 : Int32) at_403 rfl ?_
                        refine g_istore X62 hx hby at_404 (l' := #[.val (.long y0), .second, .val (.long y1), .second, .val (.long y2), .second, .val (.long y3), .second, .val (.int sel), .val (.int posA), .val (.int posB), .val (.int colA), .val (.int colB), .val (.int (own_bit sel (4 : Int32))), .val (.int (own_bit sel (5 : Int32))), .val (.int chA), .val (.int chB), .val (.int tA), .val (.int cA), .val (.int kA), .val (.int dA), .val (.int tB), .val (.int cB), .val (.int kB), .val (.int dB), .val (.ref b22), .val (.ref b49), .val (.int (sel &&& (7 : Int32))), .val (.ref b49), .val (.int (-1 : Int32)), .unset, .unset]) rfl ?_
                        refine g_iload X62 hx hby at_406 rfl ?_
                        refine g_ifY X62 hx hby 416 at_408 (teq (hc342_75 : (own_bit sel (5 : Int32)) = (0 : Int32))).1 (by decide) (by decide) ?_
                        refine g_iconst X62 hx hby (-1 : Int32) at_416 rfl ?_
                        refine g_istore X62 hx hby at_417 (l' := #[.val (.long y0), .second, .val (.long y1), .second, .val (.long y2), .second, .val (.long y3), .second, .val (.int sel), .val (.int posA), .val (.int posB), .val (.int colA), .val (.int colB), .val (.int (own_bit sel (4 : Int32))), .val (.int (own_bit sel (5 : Int32))), .val (.int chA), .val (.int chB), .val (.int tA), .val (.int cA), .val (.int kA), .val (.int dA), .val (.int tB), .val (.int cB), .val (.int kB), .val (.int dB), .val (.ref b22), .val (.ref b49), .val (.int (sel &&& (7 : Int32))), .val (.ref b49), .val (.int (-1 : Int32)), .val (.int (-1 : Int32)), .unset]) rfl ?_
                        refine g_iload X62 hx hby at_419 rfl ?_
                        refine g_bipush X62 hx hby (6 : Int32) at_421 rfl ?_
                        refine g_icN X62 hx hby at_423 (tlt (own_which hc367_76 hc378_80 : (sel &&& (7 : Int32)) < (6 : Int32))).2.1 ?_
                        refine g_iload X62 hx hby at_426 rfl ?_
                        refine g_iload X62 hx hby at_428 rfl ?_
                        by_cases hc430_87 : posA = posB
                        · skip
                          refine g_icN X62 hx hby at_430 (teq hc430_87).2 ?_
                          refine g_iload X62 hx hby at_433 rfl ?_
                          refine g_iload X62 hx hby at_435 rfl ?_
                          refine g_icN X62 hx hby at_437 (teq (by decide : (-1 : Int32) = (-1 : Int32))).2 ?_
                          refine g_iload X62 hx hby at_440 rfl ?_
                          refine g_iload X62 hx hby at_442 rfl ?_
                          by_cases hc444_88 : tA = tB
                          · skip
                            refine g_icN X62 hx hby at_444 (teq hc444_88).2 ?_
                            refine g_iload X62 hx hby at_447 rfl ?_
                            refine g_iload X62 hx hby at_449 rfl ?_
                            by_cases hc451_89 : cA = cB
                            · skip
                              refine g_icN X62 hx hby at_451 (teq hc451_89).2 ?_
                              refine g_iload X62 hx hby at_454 rfl ?_
                              refine g_iload X62 hx hby at_456 rfl ?_
                              by_cases hc458_90 : colA = colB
                              · skip
                                refine g_icN X62 hx hby at_458 (teq hc458_90).2 ?_
                                refine g_iload X62 hx hby at_461 rfl ?_
                                refine g_iload X62 hx hby at_463 rfl ?_
                                by_cases hc465_91 : kA = kB
                                · skip
                                  refine g_icN X62 hx hby at_465 (teq hc465_91).2 ?_
                                  refine g_iload X62 hx hby at_468 rfl ?_
                                  refine g_iload X62 hx hby at_470 rfl ?_
                                  refine g_at 472 rfl rfl rfl ?_
                                  by_cases hc472_92 : dA = dB
                                  · skip
                                    refine g_icN X62 hx hby at_472 (teq hc472_92).2 ?_
                                    refine g_iconst X62 hx hby (1 : Int32) at_475 rfl ?_
                                    refine g_goto X62 hx hby 480 at_476 (by decide) (by decide) ?_
                                    refine g_istore X62 hx hby at_480 (l' := #[.val (.long y0), .second, .val (.long y1), .second, .val (.long y2), .second, .val (.long y3), .second, .val (.int sel), .val (.int posA), .val (.int posB), .val (.int colA), .val (.int colB), .val (.int (own_bit sel (4 : Int32))), .val (.int (own_bit sel (5 : Int32))), .val (.int chA), .val (.int chB), .val (.int tA), .val (.int cA), .val (.int kA), .val (.int dA), .val (.int tB), .val (.int cB), .val (.int kB), .val (.int dB), .val (.ref b22), .val (.ref b49), .val (.int (sel &&& (7 : Int32))), .val (.ref b49), .val (.int (-1 : Int32)), .val (.int (-1 : Int32)), .val (.int (1 : Int32))]) rfl ?_
                                    refine g_aload X62 hx hby at_482 rfl rfl ?_
                                    refine g_aload X62 hx hby at_484 rfl rfl ?_
                                    have f94 := ((((((pE35.ext E49).keep K50).keep K53).keep K56).keep K59).keep K62)
                                    have ne95 : b22 ≠ b49 := (Nat.ne_of_lt (Nat.lt_of_lt_of_le A22.lt (Nat.le_trans (Nat.le_trans (Nat.le_trans (Nat.le_trans (Nat.le_trans K23.1 K26.1) K29.1) K32.1) K35.1) (Nat.le_of_eq g49))))
                                    have f96 := ((((((pa35.ext E49).keep K50 nin0).keep K53 nin0).keep K56 nin0).keep K59 nin0).keep K62 (ninS ne95 nin0))
                                    have f97 := ((((((pb35.ext E49).keep K50 nin0).keep K53 nin0).keep K56 nin0).keep K59 nin0).keep K62 (ninS ne95 nin0))
                                    have f98 := ((((((pc35.ext E49).keep K50 nin0).keep K53 nin0).keep K56 nin0).keep K59 nin0).keep K62 (ninS ne95 nin0))
                                    have f99 := ((((((pd35.ext E49).keep K50 nin0).keep K53 nin0).keep K56 nin0).keep K59 nin0).keep K62 (ninS ne95 nin0))
                                    have f100 := ((((((pe35.ext E49).keep K50 nin0).keep K53 nin0).keep K56 nin0).keep K59 nin0).keep K62 (ninS ne95 nin0))
                                    have f101 := ((((((pf35.ext E49).keep K50 nin0).keep K53 nin0).keep K56 nin0).keep K59 nin0).keep K62 (ninS ne95 nin0))
                                    have f102 := ((((((pg35.ext E49).keep K50 nin0).keep K53 nin0).keep K56 nin0).keep K59 nin0).keep K62 (ninS ne95 nin0))
                                    have f103 := (((((((f44.keep K35).ext E49).keep K50).keep K53).keep K56).keep K59).keep K62)
                                    have ne104 : s23 ≠ b22 := (Ne.symm (Nat.ne_of_lt (Nat.lt_of_lt_of_le A22.lt ls23)))
                                    have ne105 : s23 ≠ b49 := (Nat.ne_of_lt (Nat.lt_of_lt_of_le Es23.lt (Nat.le_trans (Nat.le_trans (Nat.le_trans (Nat.le_trans K26.1 K29.1) K32.1) K35.1) (Nat.le_of_eq g49))))
                                    have f106 := ((((((((((Cs23.keep K26 nin0).keep K29 nin0).keep K32 nin0).keep K35 (ninS ne104 nin0)).ext E49).keep K50 nin0).keep K53 nin0).keep K56 nin0).keep K59 nin0).keep K62 (ninS ne105 nin0))
                                    have f107 := ((((((((((Vs23.keep K26 nin0).keep K29 nin0).keep K32 nin0).keep K35 (ninS ne104 nin0)).ext E49).keep K50 nin0).keep K53 nin0).keep K56 nin0).keep K59 nin0).keep K62 (ninS ne105 nin0))
                                    have ne108 : t23 ≠ b22 := (Ne.symm (Nat.ne_of_lt (Nat.lt_of_lt_of_le A22.lt lo23)))
                                    have ne109 : t23 ≠ b49 := (Nat.ne_of_lt (Nat.lt_of_lt_of_le Bs23.lt (Nat.le_trans (Nat.le_trans (Nat.le_trans (Nat.le_trans K26.1 K29.1) K32.1) K35.1) (Nat.le_of_eq g49))))
                                    have f110 := ((((((((((Bs23.keep K26 nin0).keep K29 nin0).keep K32 nin0).keep K35 (ninS ne108 nin0)).ext E49).keep K50 nin0).keep K53 nin0).keep K56 nin0).keep K59 nin0).keep K62 (ninS ne109 nin0))
                                    have f111 := (((((((f45.keep K35).ext E49).keep K50).keep K53).keep K56).keep K59).keep K62)
                                    have ne112 : s26 ≠ b22 := (Ne.symm (Nat.ne_of_lt (Nat.lt_of_lt_of_le A22.lt (Nat.le_trans K23.1 ls26))))
                                    have ne113 : s26 ≠ b49 := (Nat.ne_of_lt (Nat.lt_of_lt_of_le Es26.lt (Nat.le_trans (Nat.le_trans (Nat.le_trans K29.1 K32.1) K35.1) (Nat.le_of_eq g49))))
                                    have f114 := (((((((((Cs26.keep K29 nin0).keep K32 nin0).keep K35 (ninS ne112 nin0)).ext E49).keep K50 nin0).keep K53 nin0).keep K56 nin0).keep K59 nin0).keep K62 (ninS ne113 nin0))
                                    have f115 := (((((((((Vs26.keep K29 nin0).keep K32 nin0).keep K35 (ninS ne112 nin0)).ext E49).keep K50 nin0).keep K53 nin0).keep K56 nin0).keep K59 nin0).keep K62 (ninS ne113 nin0))
                                    have ne116 : t26 ≠ b22 := (Ne.symm (Nat.ne_of_lt (Nat.lt_of_lt_of_le A22.lt (Nat.le_trans K23.1 lo26))))
                                    have ne117 : t26 ≠ b49 := (Nat.ne_of_lt (Nat.lt_of_lt_of_le Bs26.lt (Nat.le_trans (Nat.le_trans (Nat.le_trans K29.1 K32.1) K35.1) (Nat.le_of_eq g49))))
                                    have f118 := (((((((((Bs26.keep K29 nin0).keep K32 nin0).keep K35 (ninS ne116 nin0)).ext E49).keep K50 nin0).keep K53 nin0).keep K56 nin0).keep K59 nin0).keep K62 (ninS ne117 nin0))
                                    have f119 := (((((((f46.keep K35).ext E49).keep K50).keep K53).keep K56).keep K59).keep K62)
                                    have ne120 : s29 ≠ b22 := (Ne.symm (Nat.ne_of_lt (Nat.lt_of_lt_of_le A22.lt (Nat.le_trans (Nat.le_trans K23.1 K26.1) ls29))))
                                    have ne121 : s29 ≠ b49 := (Nat.ne_of_lt (Nat.lt_of_lt_of_le Es29.lt (Nat.le_trans (Nat.le_trans K32.1 K35.1) (Nat.le_of_eq g49))))
                                    have f122 := ((((((((Cs29.keep K32 nin0).keep K35 (ninS ne120 nin0)).ext E49).keep K50 nin0).keep K53 nin0).keep K56 nin0).keep K59 nin0).keep K62 (ninS ne121 nin0))
                                    have f123 := ((((((((Vs29.keep K32 nin0).keep K35 (ninS ne120 nin0)).ext E49).keep K50 nin0).keep K53 nin0).keep K56 nin0).keep K59 nin0).keep K62 (ninS ne121 nin0))
                                    have ne124 : t29 ≠ b22 := (Ne.symm (Nat.ne_of_lt (Nat.lt_of_lt_of_le A22.lt (Nat.le_trans (Nat.le_trans K23.1 K26.1) lo29))))
                                    have ne125 : t29 ≠ b49 := (Nat.ne_of_lt (Nat.lt_of_lt_of_le Bs29.lt (Nat.le_trans (Nat.le_trans K32.1 K35.1) (Nat.le_of_eq g49))))
                                    have f126 := ((((((((Bs29.keep K32 nin0).keep K35 (ninS ne124 nin0)).ext E49).keep K50 nin0).keep K53 nin0).keep K56 nin0).keep K59 nin0).keep K62 (ninS ne125 nin0))
                                    have f127 := (((((((Es32.keep K35).ext E49).keep K50).keep K53).keep K56).keep K59).keep K62)
                                    have ne128 : s32 ≠ b22 := (Ne.symm (Nat.ne_of_lt (Nat.lt_of_lt_of_le A22.lt (Nat.le_trans (Nat.le_trans (Nat.le_trans K23.1 K26.1) K29.1) ls32))))
                                    have ne129 : s32 ≠ b49 := (Nat.ne_of_lt (Nat.lt_of_lt_of_le Es32.lt (Nat.le_trans K35.1 (Nat.le_of_eq g49))))
                                    have f130 := (((((((Cs32.keep K35 (ninS ne128 nin0)).ext E49).keep K50 nin0).keep K53 nin0).keep K56 nin0).keep K59 nin0).keep K62 (ninS ne129 nin0))
                                    have f131 := (((((((Vs32.keep K35 (ninS ne128 nin0)).ext E49).keep K50 nin0).keep K53 nin0).keep K56 nin0).keep K59 nin0).keep K62 (ninS ne129 nin0))
                                    have ne132 : t32 ≠ b22 := (Ne.symm (Nat.ne_of_lt (Nat.lt_of_lt_of_le A22.lt (Nat.le_trans (Nat.le_trans (Nat.le_trans K23.1 K26.1) K29.1) lo32))))
                                    have ne133 : t32 ≠ b49 := (Nat.ne_of_lt (Nat.lt_of_lt_of_le Bs32.lt (Nat.le_trans K35.1 (Nat.le_of_eq g49))))
                                    have f134 := (((((((Bs32.keep K35 (ninS ne132 nin0)).ext E49).keep K50 nin0).keep K53 nin0).keep K56 nin0).keep K59 nin0).keep K62 (ninS ne133 nin0))
                                    have f135 := (f71.keep K62)
                                    have ne136 : s50 ≠ b49 := (Ne.symm (Nat.ne_of_lt (Nat.lt_of_lt_of_le A49.lt ls50)))
                                    have f137 := ((((Cs50.keep K53 nin0).keep K56 nin0).keep K59 nin0).keep K62 (ninS ne136 nin0))
                                    have f138 := ((((Vs50.keep K53 nin0).keep K56 nin0).keep K59 nin0).keep K62 (ninS ne136 nin0))
                                    have ne139 : t50 ≠ b49 := (Ne.symm (Nat.ne_of_lt (Nat.lt_of_lt_of_le A49.lt lo50)))
                                    have f140 := ((((Bs50.keep K53 nin0).keep K56 nin0).keep K59 nin0).keep K62 (ninS ne139 nin0))
                                    have f141 := (f72.keep K62)
                                    have ne142 : s53 ≠ b49 := (Ne.symm (Nat.ne_of_lt (Nat.lt_of_lt_of_le A49.lt (Nat.le_trans K50.1 ls53))))
                                    have f143 := (((Cs53.keep K56 nin0).keep K59 nin0).keep K62 (ninS ne142 nin0))
                                    have f144 := (((Vs53.keep K56 nin0).keep K59 nin0).keep K62 (ninS ne142 nin0))
                                    have ne145 : t53 ≠ b49 := (Ne.symm (Nat.ne_of_lt (Nat.lt_of_lt_of_le A49.lt (Nat.le_trans K50.1 lo53))))
                                    have f146 := (((Bs53.keep K56 nin0).keep K59 nin0).keep K62 (ninS ne145 nin0))
                                    have f147 := (f73.keep K62)
                                    have ne148 : s56 ≠ b49 := (Ne.symm (Nat.ne_of_lt (Nat.lt_of_lt_of_le A49.lt (Nat.le_trans (Nat.le_trans K50.1 K53.1) ls56))))
                                    have f149 := ((Cs56.keep K59 nin0).keep K62 (ninS ne148 nin0))
                                    have f150 := ((Vs56.keep K59 nin0).keep K62 (ninS ne148 nin0))
                                    have ne151 : t56 ≠ b49 := (Ne.symm (Nat.ne_of_lt (Nat.lt_of_lt_of_le A49.lt (Nat.le_trans (Nat.le_trans K50.1 K53.1) lo56))))
                                    have f152 := ((Bs56.keep K59 nin0).keep K62 (ninS ne151 nin0))
                                    have f153 := (Es59.keep K62)
                                    have ne154 : s59 ≠ b49 := (Ne.symm (Nat.ne_of_lt (Nat.lt_of_lt_of_le A49.lt (Nat.le_trans (Nat.le_trans (Nat.le_trans K50.1 K53.1) K56.1) ls59))))
                                    have f155 := (Cs59.keep K62 (ninS ne154 nin0))
                                    have f156 := (Vs59.keep K62 (ninS ne154 nin0))
                                    have ne157 : t59 ≠ b49 := (Ne.symm (Nat.ne_of_lt (Nat.lt_of_lt_of_le A49.lt (Nat.le_trans (Nat.le_trans (Nat.le_trans K50.1 K53.1) K56.1) lo59))))
                                    have f158 := (Bs59.keep K62 (ninS ne157 nin0))
                                    have ne159 : s23 ≠ s50 := (Nat.ne_of_lt (Nat.lt_of_lt_of_le Es23.lt (Nat.le_trans (Nat.le_trans (Nat.le_trans (Nat.le_trans (Nat.le_trans K26.1 K29.1) K32.1) K35.1) E49.1) ls50)))
                                    have ne160 : s26 ≠ s53 := (Nat.ne_of_lt (Nat.lt_of_lt_of_le Es26.lt (Nat.le_trans (Nat.le_trans (Nat.le_trans (Nat.le_trans (Nat.le_trans K29.1 K32.1) K35.1) E49.1) K50.1) ls53)))
                                    have ne161 : s29 ≠ s56 := (Nat.ne_of_lt (Nat.lt_of_lt_of_le Es29.lt (Nat.le_trans (Nat.le_trans (Nat.le_trans (Nat.le_trans (Nat.le_trans K32.1 K35.1) E49.1) K50.1) K53.1) ls56)))
                                    have ne162 : s32 ≠ s59 := (Nat.ne_of_lt (Nat.lt_of_lt_of_le Es32.lt (Nat.le_trans (Nat.le_trans (Nat.le_trans (Nat.le_trans (Nat.le_trans K35.1 E49.1) K50.1) K53.1) K56.1) ls59)))
                                    have f163 := ((f60.keep K59 all0).keep K62 (allS g_b49 all0))
                                    have z164 := (Nat.le_trans z74 K62.1)
                                    refine g_virtual X62 hx hby hZ62 ho62 (rm_peqp l Z a0 hw [] b22 b49 posA (-1 : Int32) s23 s26 colA s29 s32 t23 kb23 (nar .byte (tA.toInt8.toInt32)) t26 kb26 (nar .byte (cA.toInt8.toInt32)) t29 kb29 (nar .byte (kA.toInt8.toInt32)) t32 kb32 (nar .byte (dA.toInt8.toInt32)) posB (-1 : Int32) s50 s53 colB s56 s59 t50 kb50 (nar .byte (tB.toInt8.toInt32)) t53 kb53 (nar .byte (cB.toInt8.toInt32)) t56 kb56 (nar .byte (kB.toInt8.toInt32)) t59 kb59 (nar .byte (dB.toInt8.toInt32)) cz T62.heap n0 z164 O2 P5 f163 ⟨f94, f96, f97, f98, f99, f100, f101, f102⟩ ⟨pE62, pa62, pb62, pc62, pd62, pe62, pf62, pg62⟩ f103 f106 f107 f110 f111 f114 f115 f118 f119 f122 f123 f126 f127 f130 f131 f134 f135 f137 f138 f140 f141 f143 f144 f146 f147 f149 f150 f152 f153 f155 f156 f158 ne159 ne160 ne161 ne162) w74_ w75_ (notFace_of_selects (args := #[]) (mvT hZ62 w77_)) w77_ w76_ w15_ w78_ (by decide) rfl f94 (by rw [hml]; rfl) [(.ref b49)] (lenOf own_pd1 rfl) rfl rfl (Nat.le_of_ble_eq_true rfl) (Nat.le_of_ble_eq_true rfl) (Nat.le_of_ble_eq_true rfl) (Nat.le_of_ble_eq_true rfl) at_486 (fun v93 T93 L93 X93 hQ93 => ?_)
                                    obtain ⟨rfl, N93q, eh93⟩ := hQ93
                                    have N93 := Fr.app N62 N93q
                                    refine g_iload X93 hx hby at_489 rfl ?_
                                    refine g_icN X93 hx hby at_491 (teq (by simp [own_beq h_tA h_tB, own_beq h_cA h_cB, own_beq h_kA h_kB, own_beq h_dA h_dB, own_m1 h_chA, own_m1' h_chA, own_m1 h_chB, own_m1' h_chB, hc430_87, hc444_88, hc451_89, hc458_90, hc465_91, hc472_92] : (if posA = posB ∧ (-1 : Int32) = (-1 : Int32) ∧ (nar .byte (tA.toInt8.toInt32)) = (nar .byte (tB.toInt8.toInt32)) ∧ (nar .byte (cA.toInt8.toInt32)) = (nar .byte (cB.toInt8.toInt32)) ∧ colA = colB ∧ (nar .byte (kA.toInt8.toInt32)) = (nar .byte (kB.toInt8.toInt32)) ∧ (nar .byte (dA.toInt8.toInt32)) = (nar .byte (dB.toInt8.toInt32)) then 1 else 0 : Int32) = (1 : Int32))).2 ?_
                                    refine g_iconst X93 hx hby (1 : Int32) at_494 rfl ?_
                                    refine g_goto X93 hx hby 499 at_495 (by decide) (by decide) ?_
                                    refine g_nretW X93 hx hby (t := .boolean) (by simp) Bd.returns Bd.notSynchronized hS62 at_499 eh93 (Nat.le_refl _) (by decide) (by decide) ?_
                                    show (Q_law Z y0 y1 y2 y3 sel cz h0 n0) (some (.int (1 : Int32))) _ _
                                    exact ⟨rfl, N93⟩
                                  · skip
                                    refine g_icY X62 hx hby 479 at_472 (feq hc472_92).2 (by decide) (by decide) ?_
                                    refine g_iconst X62 hx hby (0 : Int32) at_479 rfl ?_
                                    refine g_istore X62 hx hby at_480 (l' := #[.val (.long y0), .second, .val (.long y1), .second, .val (.long y2), .second, .val (.long y3), .second, .val (.int sel), .val (.int posA), .val (.int posB), .val (.int colA), .val (.int colB), .val (.int (own_bit sel (4 : Int32))), .val (.int (own_bit sel (5 : Int32))), .val (.int chA), .val (.int chB), .val (.int tA), .val (.int cA), .val (.int kA), .val (.int dA), .val (.int tB), .val (.int cB), .val (.int kB), .val (.int dB), .val (.ref b22), .val (.ref b49), .val (.int (sel &&& (7 : Int32))), .val (.ref b49), .val (.int (-1 : Int32)), .val (.int (-1 : Int32)), .val (.int (0 : Int32))]) rfl ?_
                                    refine g_aload X62 hx hby at_482 rfl rfl ?_
                                    refine g_aload X62 hx hby at_484 rfl rfl ?_
                                    have f166 := ((((((pE35.ext E49).keep K50).keep K53).keep K56).keep K59).keep K62)
                                    have ne167 : b22 ≠ b49 := (Nat.ne_of_lt (Nat.lt_of_lt_of_le A22.lt (Nat.le_trans (Nat.le_trans (Nat.le_trans (Nat.le_trans (Nat.le_trans K23.1 K26.1) K29.1) K32.1) K35.1) (Nat.le_of_eq g49))))
                                    have f168 := ((((((pa35.ext E49).keep K50 nin0).keep K53 nin0).keep K56 nin0).keep K59 nin0).keep K62 (ninS ne167 nin0))
                                    have f169 := ((((((pb35.ext E49).keep K50 nin0).keep K53 nin0).keep K56 nin0).keep K59 nin0).keep K62 (ninS ne167 nin0))
                                    have f170 := ((((((pc35.ext E49).keep K50 nin0).keep K53 nin0).keep K56 nin0).keep K59 nin0).keep K62 (ninS ne167 nin0))
                                    have f171 := ((((((pd35.ext E49).keep K50 nin0).keep K53 nin0).keep K56 nin0).keep K59 nin0).keep K62 (ninS ne167 nin0))
                                    have f172 := ((((((pe35.ext E49).keep K50 nin0).keep K53 nin0).keep K56 nin0).keep K59 nin0).keep K62 (ninS ne167 nin0))
                                    have f173 := ((((((pf35.ext E49).keep K50 nin0).keep K53 nin0).keep K56 nin0).keep K59 nin0).keep K62 (ninS ne167 nin0))
                                    have f174 := ((((((pg35.ext E49).keep K50 nin0).keep K53 nin0).keep K56 nin0).keep K59 nin0).keep K62 (ninS ne167 nin0))
                                    have f175 := (((((((f44.keep K35).ext E49).keep K50).keep K53).keep K56).keep K59).keep K62)
                                    have ne176 : s23 ≠ b22 := (Ne.symm (Nat.ne_of_lt (Nat.lt_of_lt_of_le A22.lt ls23)))
                                    have ne177 : s23 ≠ b49 := (Nat.ne_of_lt (Nat.lt_of_lt_of_le Es23.lt (Nat.le_trans (Nat.le_trans (Nat.le_trans (Nat.le_trans K26.1 K29.1) K32.1) K35.1) (Nat.le_of_eq g49))))
                                    have f178 := ((((((((((Cs23.keep K26 nin0).keep K29 nin0).keep K32 nin0).keep K35 (ninS ne176 nin0)).ext E49).keep K50 nin0).keep K53 nin0).keep K56 nin0).keep K59 nin0).keep K62 (ninS ne177 nin0))
                                    have f179 := ((((((((((Vs23.keep K26 nin0).keep K29 nin0).keep K32 nin0).keep K35 (ninS ne176 nin0)).ext E49).keep K50 nin0).keep K53 nin0).keep K56 nin0).keep K59 nin0).keep K62 (ninS ne177 nin0))
                                    have ne180 : t23 ≠ b22 := (Ne.symm (Nat.ne_of_lt (Nat.lt_of_lt_of_le A22.lt lo23)))
                                    have ne181 : t23 ≠ b49 := (Nat.ne_of_lt (Nat.lt_of_lt_of_le Bs23.lt (Nat.le_trans (Nat.le_trans (Nat.le_trans (Nat.le_trans K26.1 K29.1) K32.1) K35.1) (Nat.le_of_eq g49))))
                                    have f182 := ((((((((((Bs23.keep K26 nin0).keep K29 nin0).keep K32 nin0).keep K35 (ninS ne180 nin0)).ext E49).keep K50 nin0).keep K53 nin0).keep K56 nin0).keep K59 nin0).keep K62 (ninS ne181 nin0))
                                    have f183 := (((((((f45.keep K35).ext E49).keep K50).keep K53).keep K56).keep K59).keep K62)
                                    have ne184 : s26 ≠ b22 := (Ne.symm (Nat.ne_of_lt (Nat.lt_of_lt_of_le A22.lt (Nat.le_trans K23.1 ls26))))
                                    have ne185 : s26 ≠ b49 := (Nat.ne_of_lt (Nat.lt_of_lt_of_le Es26.lt (Nat.le_trans (Nat.le_trans (Nat.le_trans K29.1 K32.1) K35.1) (Nat.le_of_eq g49))))
                                    have f186 := (((((((((Cs26.keep K29 nin0).keep K32 nin0).keep K35 (ninS ne184 nin0)).ext E49).keep K50 nin0).keep K53 nin0).keep K56 nin0).keep K59 nin0).keep K62 (ninS ne185 nin0))
                                    have f187 := (((((((((Vs26.keep K29 nin0).keep K32 nin0).keep K35 (ninS ne184 nin0)).ext E49).keep K50 nin0).keep K53 nin0).keep K56 nin0).keep K59 nin0).keep K62 (ninS ne185 nin0))
                                    have ne188 : t26 ≠ b22 := (Ne.symm (Nat.ne_of_lt (Nat.lt_of_lt_of_le A22.lt (Nat.le_trans K23.1 lo26))))
                                    have ne189 : t26 ≠ b49 := (Nat.ne_of_lt (Nat.lt_of_lt_of_le Bs26.lt (Nat.le_trans (Nat.le_trans (Nat.le_trans K29.1 K32.1) K35.1) (Nat.le_of_eq g49))))
                                    have f190 := (((((((((Bs26.keep K29 nin0).keep K32 nin0).keep K35 (ninS ne188 nin0)).ext E49).keep K50 nin0).keep K53 nin0).keep K56 nin0).keep K59 nin0).keep K62 (ninS ne189 nin0))
                                    have f191 := (((((((f46.keep K35).ext E49).keep K50).keep K53).keep K56).keep K59).keep K62)
                                    have ne192 : s29 ≠ b22 := (Ne.symm (Nat.ne_of_lt (Nat.lt_of_lt_of_le A22.lt (Nat.le_trans (Nat.le_trans K23.1 K26.1) ls29))))
                                    have ne193 : s29 ≠ b49 := (Nat.ne_of_lt (Nat.lt_of_lt_of_le Es29.lt (Nat.le_trans (Nat.le_trans K32.1 K35.1) (Nat.le_of_eq g49))))
                                    have f194 := ((((((((Cs29.keep K32 nin0).keep K35 (ninS ne192 nin0)).ext E49).keep K50 nin0).keep K53 nin0).keep K56 nin0).keep K59 nin0).keep K62 (ninS ne193 nin0))
                                    have f195 := ((((((((Vs29.keep K32 nin0).keep K35 (ninS ne192 nin0)).ext E49).keep K50 nin0).keep K53 nin0).keep K56 nin0).keep K59 nin0).keep K62 (ninS ne193 nin0))
                                    have ne196 : t29 ≠ b22 := (Ne.symm (Nat.ne_of_lt (Nat.lt_of_lt_of_le A22.lt (Nat.le_trans (Nat.le_trans K23.1 K26.1) lo29))))
                                    have ne197 : t29 ≠ b49 := (Nat.ne_of_lt (Nat.lt_of_lt_of_le Bs29.lt (Nat.le_trans (Nat.le_trans K32.1 K35.1) (Nat.le_of_eq g49))))
                                    have f198 := ((((((((Bs29.keep K32 nin0).keep K35 (ninS ne196 nin0)).ext E49).keep K50 nin0).keep K53 nin0).keep K56 nin0).keep K59 nin0).keep K62 (ninS ne197 nin0))
                                    have f199 := (((((((Es32.keep K35).ext E49).keep K50).keep K53).keep K56).keep K59).keep K62)
                                    have ne200 : s32 ≠ b22 := (Ne.symm (Nat.ne_of_lt (Nat.lt_of_lt_of_le A22.lt (Nat.le_trans (Nat.le_trans (Nat.le_trans K23.1 K26.1) K29.1) ls32))))
                                    have ne201 : s32 ≠ b49 := (Nat.ne_of_lt (Nat.lt_of_lt_of_le Es32.lt (Nat.le_trans K35.1 (Nat.le_of_eq g49))))
                                    have f202 := (((((((Cs32.keep K35 (ninS ne200 nin0)).ext E49).keep K50 nin0).keep K53 nin0).keep K56 nin0).keep K59 nin0).keep K62 (ninS ne201 nin0))
                                    have f203 := (((((((Vs32.keep K35 (ninS ne200 nin0)).ext E49).keep K50 nin0).keep K53 nin0).keep K56 nin0).keep K59 nin0).keep K62 (ninS ne201 nin0))
                                    have ne204 : t32 ≠ b22 := (Ne.symm (Nat.ne_of_lt (Nat.lt_of_lt_of_le A22.lt (Nat.le_trans (Nat.le_trans (Nat.le_trans K23.1 K26.1) K29.1) lo32))))
                                    have ne205 : t32 ≠ b49 := (Nat.ne_of_lt (Nat.lt_of_lt_of_le Bs32.lt (Nat.le_trans K35.1 (Nat.le_of_eq g49))))
                                    have f206 := (((((((Bs32.keep K35 (ninS ne204 nin0)).ext E49).keep K50 nin0).keep K53 nin0).keep K56 nin0).keep K59 nin0).keep K62 (ninS ne205 nin0))
                                    have f207 := (f71.keep K62)
                                    have ne208 : s50 ≠ b49 := (Ne.symm (Nat.ne_of_lt (Nat.lt_of_lt_of_le A49.lt ls50)))
                                    have f209 := ((((Cs50.keep K53 nin0).keep K56 nin0).keep K59 nin0).keep K62 (ninS ne208 nin0))
                                    have f210 := ((((Vs50.keep K53 nin0).keep K56 nin0).keep K59 nin0).keep K62 (ninS ne208 nin0))
                                    have ne211 : t50 ≠ b49 := (Ne.symm (Nat.ne_of_lt (Nat.lt_of_lt_of_le A49.lt lo50)))
                                    have f212 := ((((Bs50.keep K53 nin0).keep K56 nin0).keep K59 nin0).keep K62 (ninS ne211 nin0))
                                    have f213 := (f72.keep K62)
                                    have ne214 : s53 ≠ b49 := (Ne.symm (Nat.ne_of_lt (Nat.lt_of_lt_of_le A49.lt (Nat.le_trans K50.1 ls53))))
                                    have f215 := (((Cs53.keep K56 nin0).keep K59 nin0).keep K62 (ninS ne214 nin0))
                                    have f216 := (((Vs53.keep K56 nin0).keep K59 nin0).keep K62 (ninS ne214 nin0))
                                    have ne217 : t53 ≠ b49 := (Ne.symm (Nat.ne_of_lt (Nat.lt_of_lt_of_le A49.lt (Nat.le_trans K50.1 lo53))))
                                    have f218 := (((Bs53.keep K56 nin0).keep K59 nin0).keep K62 (ninS ne217 nin0))
                                    have f219 := (f73.keep K62)
                                    have ne220 : s56 ≠ b49 := (Ne.symm (Nat.ne_of_lt (Nat.lt_of_lt_of_le A49.lt (Nat.le_trans (Nat.le_trans K50.1 K53.1) ls56))))
                                    have f221 := ((Cs56.keep K59 nin0).keep K62 (ninS ne220 nin0))
                                    have f222 := ((Vs56.keep K59 nin0).keep K62 (ninS ne220 nin0))
                                    have ne223 : t56 ≠ b49 := (Ne.symm (Nat.ne_of_lt (Nat.lt_of_lt_of_le A49.lt (Nat.le_trans (Nat.le_trans K50.1 K53.1) lo56))))
                                    have f224 := ((Bs56.keep K59 nin0).keep K62 (ninS ne223 nin0))
                                    have f225 := (Es59.keep K62)
                                    have ne226 : s59 ≠ b49 := (Ne.symm (Nat.ne_of_lt (Nat.lt_of_lt_of_le A49.lt (Nat.le_trans (Nat.le_trans (Nat.le_trans K50.1 K53.1) K56.1) ls59))))
                                    have f227 := (Cs59.keep K62 (ninS ne226 nin0))
                                    have f228 := (Vs59.keep K62 (ninS ne226 nin0))
                                    have ne229 : t59 ≠ b49 := (Ne.symm (Nat.ne_of_lt (Nat.lt_of_lt_of_le A49.lt (Nat.le_trans (Nat.le_trans (Nat.le_trans K50.1 K53.1) K56.1) lo59))))
                                    have f230 := (Bs59.keep K62 (ninS ne229 nin0))
                                    have ne231 : s23 ≠ s50 := (Nat.ne_of_lt (Nat.lt_of_lt_of_le Es23.lt (Nat.le_trans (Nat.le_trans (Nat.le_trans (Nat.le_trans (Nat.le_trans K26.1 K29.1) K32.1) K35.1) E49.1) ls50)))
                                    have ne232 : s26 ≠ s53 := (Nat.ne_of_lt (Nat.lt_of_lt_of_le Es26.lt (Nat.le_trans (Nat.le_trans (Nat.le_trans (Nat.le_trans (Nat.le_trans K29.1 K32.1) K35.1) E49.1) K50.1) ls53)))
                                    have ne233 : s29 ≠ s56 := (Nat.ne_of_lt (Nat.lt_of_lt_of_le Es29.lt (Nat.le_trans (Nat.le_trans (Nat.le_trans (Nat.le_trans (Nat.le_trans K32.1 K35.1) E49.1) K50.1) K53.1) ls56)))
                                    have ne234 : s32 ≠ s59 := (Nat.ne_of_lt (Nat.lt_of_lt_of_le Es32.lt (Nat.le_trans (Nat.le_trans (Nat.le_trans (Nat.le_trans (Nat.le_trans K35.1 E49.1) K50.1) K53.1) K56.1) ls59)))
                                    have f235 := ((f60.keep K59 all0).keep K62 (allS g_b49 all0))
                                    have z236 := (Nat.le_trans z74 K62.1)
                                    refine g_virtual X62 hx hby hZ62 ho62 (rm_peqp l Z a0 hw [] b22 b49 posA (-1 : Int32) s23 s26 colA s29 s32 t23 kb23 (nar .byte (tA.toInt8.toInt32)) t26 kb26 (nar .byte (cA.toInt8.toInt32)) t29 kb29 (nar .byte (kA.toInt8.toInt32)) t32 kb32 (nar .byte (dA.toInt8.toInt32)) posB (-1 : Int32) s50 s53 colB s56 s59 t50 kb50 (nar .byte (tB.toInt8.toInt32)) t53 kb53 (nar .byte (cB.toInt8.toInt32)) t56 kb56 (nar .byte (kB.toInt8.toInt32)) t59 kb59 (nar .byte (dB.toInt8.toInt32)) cz T62.heap n0 z236 O2 P5 f235 ⟨f166, f168, f169, f170, f171, f172, f173, f174⟩ ⟨pE62, pa62, pb62, pc62, pd62, pe62, pf62, pg62⟩ f175 f178 f179 f182 f183 f186 f187 f190 f191 f194 f195 f198 f199 f202 f203 f206 f207 f209 f210 f212 f213 f215 f216 f218 f219 f221 f222 f224 f225 f227 f228 f230 ne231 ne232 ne233 ne234) w74_ w75_ (notFace_of_selects (args := #[]) (mvT hZ62 w77_)) w77_ w76_ w15_ w78_ (by decide) rfl f166 (by rw [hml]; rfl) [(.ref b49)] (lenOf own_pd1 rfl) rfl rfl (Nat.le_of_ble_eq_true rfl) (Nat.le_of_ble_eq_true rfl) (Nat.le_of_ble_eq_true rfl) (Nat.le_of_ble_eq_true rfl) at_486 (fun v165 T165 L165 X165 hQ165 => ?_)
                                    obtain ⟨rfl, N165q, eh165⟩ := hQ165
                                    have N165 := Fr.app N62 N165q
                                    refine g_iload X165 hx hby at_489 rfl ?_
                                    refine g_icN X165 hx hby at_491 (teq (by simp [own_beq h_tA h_tB, own_beq h_cA h_cB, own_beq h_kA h_kB, own_beq h_dA h_dB, own_m1 h_chA, own_m1' h_chA, own_m1 h_chB, own_m1' h_chB, hc430_87, hc444_88, hc451_89, hc458_90, hc465_91, hc472_92] : (if posA = posB ∧ (-1 : Int32) = (-1 : Int32) ∧ (nar .byte (tA.toInt8.toInt32)) = (nar .byte (tB.toInt8.toInt32)) ∧ (nar .byte (cA.toInt8.toInt32)) = (nar .byte (cB.toInt8.toInt32)) ∧ colA = colB ∧ (nar .byte (kA.toInt8.toInt32)) = (nar .byte (kB.toInt8.toInt32)) ∧ (nar .byte (dA.toInt8.toInt32)) = (nar .byte (dB.toInt8.toInt32)) then 1 else 0 : Int32) = (0 : Int32))).2 ?_
                                    refine g_iconst X165 hx hby (1 : Int32) at_494 rfl ?_
                                    refine g_goto X165 hx hby 499 at_495 (by decide) (by decide) ?_
                                    refine g_nretW X165 hx hby (t := .boolean) (by simp) Bd.returns Bd.notSynchronized hS62 at_499 eh165 (Nat.le_refl _) (by decide) (by decide) ?_
                                    show (Q_law Z y0 y1 y2 y3 sel cz h0 n0) (some (.int (1 : Int32))) _ _
                                    exact ⟨rfl, N165⟩
                                · skip
                                  refine g_icY X62 hx hby 479 at_465 (feq hc465_91).2 (by decide) (by decide) ?_
                                  refine g_iconst X62 hx hby (0 : Int32) at_479 rfl ?_
                                  refine g_istore X62 hx hby at_480 (l' := #[.val (.long y0), .second, .val (.long y1), .second, .val (.long y2), .second, .val (.long y3), .second, .val (.int sel), .val (.int posA), .val (.int posB), .val (.int colA), .val (.int colB), .val (.int (own_bit sel (4 : Int32))), .val (.int (own_bit sel (5 : Int32))), .val (.int chA), .val (.int chB), .val (.int tA), .val (.int cA), .val (.int kA), .val (.int dA), .val (.int tB), .val (.int cB), .val (.int kB), .val (.int dB), .val (.ref b22), .val (.ref b49), .val (.int (sel &&& (7 : Int32))), .val (.ref b49), .val (.int (-1 : Int32)), .val (.int (-1 : Int32)), .val (.int (0 : Int32))]) rfl ?_
                                  refine g_aload X62 hx hby at_482 rfl rfl ?_
                                  refine g_aload X62 hx hby at_484 rfl rfl ?_
                                  have f238 := ((((((pE35.ext E49).keep K50).keep K53).keep K56).keep K59).keep K62)
                                  have ne239 : b22 ≠ b49 := (Nat.ne_of_lt (Nat.lt_of_lt_of_le A22.lt (Nat.le_trans (Nat.le_trans (Nat.le_trans (Nat.le_trans (Nat.le_trans K23.1 K26.1) K29.1) K32.1) K35.1) (Nat.le_of_eq g49))))
                                  have f240 := ((((((pa35.ext E49).keep K50 nin0).keep K53 nin0).keep K56 nin0).keep K59 nin0).keep K62 (ninS ne239 nin0))
                                  have f241 := ((((((pb35.ext E49).keep K50 nin0).keep K53 nin0).keep K56 nin0).keep K59 nin0).keep K62 (ninS ne239 nin0))
                                  have f242 := ((((((pc35.ext E49).keep K50 nin0).keep K53 nin0).keep K56 nin0).keep K59 nin0).keep K62 (ninS ne239 nin0))
                                  have f243 := ((((((pd35.ext E49).keep K50 nin0).keep K53 nin0).keep K56 nin0).keep K59 nin0).keep K62 (ninS ne239 nin0))
                                  have f244 := ((((((pe35.ext E49).keep K50 nin0).keep K53 nin0).keep K56 nin0).keep K59 nin0).keep K62 (ninS ne239 nin0))
                                  have f245 := ((((((pf35.ext E49).keep K50 nin0).keep K53 nin0).keep K56 nin0).keep K59 nin0).keep K62 (ninS ne239 nin0))
                                  have f246 := ((((((pg35.ext E49).keep K50 nin0).keep K53 nin0).keep K56 nin0).keep K59 nin0).keep K62 (ninS ne239 nin0))
                                  have f247 := (((((((f44.keep K35).ext E49).keep K50).keep K53).keep K56).keep K59).keep K62)
                                  have ne248 : s23 ≠ b22 := (Ne.symm (Nat.ne_of_lt (Nat.lt_of_lt_of_le A22.lt ls23)))
                                  have ne249 : s23 ≠ b49 := (Nat.ne_of_lt (Nat.lt_of_lt_of_le Es23.lt (Nat.le_trans (Nat.le_trans (Nat.le_trans (Nat.le_trans K26.1 K29.1) K32.1) K35.1) (Nat.le_of_eq g49))))
                                  have f250 := ((((((((((Cs23.keep K26 nin0).keep K29 nin0).keep K32 nin0).keep K35 (ninS ne248 nin0)).ext E49).keep K50 nin0).keep K53 nin0).keep K56 nin0).keep K59 nin0).keep K62 (ninS ne249 nin0))
                                  have f251 := ((((((((((Vs23.keep K26 nin0).keep K29 nin0).keep K32 nin0).keep K35 (ninS ne248 nin0)).ext E49).keep K50 nin0).keep K53 nin0).keep K56 nin0).keep K59 nin0).keep K62 (ninS ne249 nin0))
                                  have ne252 : t23 ≠ b22 := (Ne.symm (Nat.ne_of_lt (Nat.lt_of_lt_of_le A22.lt lo23)))
                                  have ne253 : t23 ≠ b49 := (Nat.ne_of_lt (Nat.lt_of_lt_of_le Bs23.lt (Nat.le_trans (Nat.le_trans (Nat.le_trans (Nat.le_trans K26.1 K29.1) K32.1) K35.1) (Nat.le_of_eq g49))))
                                  have f254 := ((((((((((Bs23.keep K26 nin0).keep K29 nin0).keep K32 nin0).keep K35 (ninS ne252 nin0)).ext E49).keep K50 nin0).keep K53 nin0).keep K56 nin0).keep K59 nin0).keep K62 (ninS ne253 nin0))
                                  have f255 := (((((((f45.keep K35).ext E49).keep K50).keep K53).keep K56).keep K59).keep K62)
                                  have ne256 : s26 ≠ b22 := (Ne.symm (Nat.ne_of_lt (Nat.lt_of_lt_of_le A22.lt (Nat.le_trans K23.1 ls26))))
                                  have ne257 : s26 ≠ b49 := (Nat.ne_of_lt (Nat.lt_of_lt_of_le Es26.lt (Nat.le_trans (Nat.le_trans (Nat.le_trans K29.1 K32.1) K35.1) (Nat.le_of_eq g49))))
                                  have f258 := (((((((((Cs26.keep K29 nin0).keep K32 nin0).keep K35 (ninS ne256 nin0)).ext E49).keep K50 nin0).keep K53 nin0).keep K56 nin0).keep K59 nin0).keep K62 (ninS ne257 nin0))
                                  have f259 := (((((((((Vs26.keep K29 nin0).keep K32 nin0).keep K35 (ninS ne256 nin0)).ext E49).keep K50 nin0).keep K53 nin0).keep K56 nin0).keep K59 nin0).keep K62 (ninS ne257 nin0))
                                  have ne260 : t26 ≠ b22 := (Ne.symm (Nat.ne_of_lt (Nat.lt_of_lt_of_le A22.lt (Nat.le_trans K23.1 lo26))))
                                  have ne261 : t26 ≠ b49 := (Nat.ne_of_lt (Nat.lt_of_lt_of_le Bs26.lt (Nat.le_trans (Nat.le_trans (Nat.le_trans K29.1 K32.1) K35.1) (Nat.le_of_eq g49))))
                                  have f262 := (((((((((Bs26.keep K29 nin0).keep K32 nin0).keep K35 (ninS ne260 nin0)).ext E49).keep K50 nin0).keep K53 nin0).keep K56 nin0).keep K59 nin0).keep K62 (ninS ne261 nin0))
                                  have f263 := (((((((f46.keep K35).ext E49).keep K50).keep K53).keep K56).keep K59).keep K62)
                                  have ne264 : s29 ≠ b22 := (Ne.symm (Nat.ne_of_lt (Nat.lt_of_lt_of_le A22.lt (Nat.le_trans (Nat.le_trans K23.1 K26.1) ls29))))
                                  have ne265 : s29 ≠ b49 := (Nat.ne_of_lt (Nat.lt_of_lt_of_le Es29.lt (Nat.le_trans (Nat.le_trans K32.1 K35.1) (Nat.le_of_eq g49))))
                                  have f266 := ((((((((Cs29.keep K32 nin0).keep K35 (ninS ne264 nin0)).ext E49).keep K50 nin0).keep K53 nin0).keep K56 nin0).keep K59 nin0).keep K62 (ninS ne265 nin0))
                                  have f267 := ((((((((Vs29.keep K32 nin0).keep K35 (ninS ne264 nin0)).ext E49).keep K50 nin0).keep K53 nin0).keep K56 nin0).keep K59 nin0).keep K62 (ninS ne265 nin0))
                                  have ne268 : t29 ≠ b22 := (Ne.symm (Nat.ne_of_lt (Nat.lt_of_lt_of_le A22.lt (Nat.le_trans (Nat.le_trans K23.1 K26.1) lo29))))
                                  have ne269 : t29 ≠ b49 := (Nat.ne_of_lt (Nat.lt_of_lt_of_le Bs29.lt (Nat.le_trans (Nat.le_trans K32.1 K35.1) (Nat.le_of_eq g49))))
                                  have f270 := ((((((((Bs29.keep K32 nin0).keep K35 (ninS ne268 nin0)).ext E49).keep K50 nin0).keep K53 nin0).keep K56 nin0).keep K59 nin0).keep K62 (ninS ne269 nin0))
                                  have f271 := (((((((Es32.keep K35).ext E49).keep K50).keep K53).keep K56).keep K59).keep K62)
                                  have ne272 : s32 ≠ b22 := (Ne.symm (Nat.ne_of_lt (Nat.lt_of_lt_of_le A22.lt (Nat.le_trans (Nat.le_trans (Nat.le_trans K23.1 K26.1) K29.1) ls32))))
                                  have ne273 : s32 ≠ b49 := (Nat.ne_of_lt (Nat.lt_of_lt_of_le Es32.lt (Nat.le_trans K35.1 (Nat.le_of_eq g49))))
                                  have f274 := (((((((Cs32.keep K35 (ninS ne272 nin0)).ext E49).keep K50 nin0).keep K53 nin0).keep K56 nin0).keep K59 nin0).keep K62 (ninS ne273 nin0))
                                  have f275 := (((((((Vs32.keep K35 (ninS ne272 nin0)).ext E49).keep K50 nin0).keep K53 nin0).keep K56 nin0).keep K59 nin0).keep K62 (ninS ne273 nin0))
                                  have ne276 : t32 ≠ b22 := (Ne.symm (Nat.ne_of_lt (Nat.lt_of_lt_of_le A22.lt (Nat.le_trans (Nat.le_trans (Nat.le_trans K23.1 K26.1) K29.1) lo32))))
                                  have ne277 : t32 ≠ b49 := (Nat.ne_of_lt (Nat.lt_of_lt_of_le Bs32.lt (Nat.le_trans K35.1 (Nat.le_of_eq g49))))
                                  have f278 := (((((((Bs32.keep K35 (ninS ne276 nin0)).ext E49).keep K50 nin0).keep K53 nin0).keep K56 nin0).keep K59 nin0).keep K62 (ninS ne277 nin0))
                                  have f279 := (f71.keep K62)
                                  have ne280 : s50 ≠ b49 := (Ne.symm (Nat.ne_of_lt (Nat.lt_of_lt_of_le A49.lt ls50)))
                                  have f281 := ((((Cs50.keep K53 nin0).keep K56 nin0).keep K59 nin0).keep K62 (ninS ne280 nin0))
                                  have f282 := ((((Vs50.keep K53 nin0).keep K56 nin0).keep K59 nin0).keep K62 (ninS ne280 nin0))
                                  have ne283 : t50 ≠ b49 := (Ne.symm (Nat.ne_of_lt (Nat.lt_of_lt_of_le A49.lt lo50)))
                                  have f284 := ((((Bs50.keep K53 nin0).keep K56 nin0).keep K59 nin0).keep K62 (ninS ne283 nin0))
                                  have f285 := (f72.keep K62)
                                  have ne286 : s53 ≠ b49 := (Ne.symm (Nat.ne_of_lt (Nat.lt_of_lt_of_le A49.lt (Nat.le_trans K50.1 ls53))))
                                  have f287 := (((Cs53.keep K56 nin0).keep K59 nin0).keep K62 (ninS ne286 nin0))
                                  have f288 := (((Vs53.keep K56 nin0).keep K59 nin0).keep K62 (ninS ne286 nin0))
                                  have ne289 : t53 ≠ b49 := (Ne.symm (Nat.ne_of_lt (Nat.lt_of_lt_of_le A49.lt (Nat.le_trans K50.1 lo53))))
                                  have f290 := (((Bs53.keep K56 nin0).keep K59 nin0).keep K62 (ninS ne289 nin0))
                                  have f291 := (f73.keep K62)
                                  have ne292 : s56 ≠ b49 := (Ne.symm (Nat.ne_of_lt (Nat.lt_of_lt_of_le A49.lt (Nat.le_trans (Nat.le_trans K50.1 K53.1) ls56))))
                                  have f293 := ((Cs56.keep K59 nin0).keep K62 (ninS ne292 nin0))
                                  have f294 := ((Vs56.keep K59 nin0).keep K62 (ninS ne292 nin0))
                                  have ne295 : t56 ≠ b49 := (Ne.symm (Nat.ne_of_lt (Nat.lt_of_lt_of_le A49.lt (Nat.le_trans (Nat.le_trans K50.1 K53.1) lo56))))
                                  have f296 := ((Bs56.keep K59 nin0).keep K62 (ninS ne295 nin0))
                                  have f297 := (Es59.keep K62)
                                  have ne298 : s59 ≠ b49 := (Ne.symm (Nat.ne_of_lt (Nat.lt_of_lt_of_le A49.lt (Nat.le_trans (Nat.le_trans (Nat.le_trans K50.1 K53.1) K56.1) ls59))))
                                  have f299 := (Cs59.keep K62 (ninS ne298 nin0))
                                  have f300 := (Vs59.keep K62 (ninS ne298 nin0))
                                  have ne301 : t59 ≠ b49 := (Ne.symm (Nat.ne_of_lt (Nat.lt_of_lt_of_le A49.lt (Nat.le_trans (Nat.le_trans (Nat.le_trans K50.1 K53.1) K56.1) lo59))))
                                  have f302 := (Bs59.keep K62 (ninS ne301 nin0))
                                  have ne303 : s23 ≠ s50 := (Nat.ne_of_lt (Nat.lt_of_lt_of_le Es23.lt (Nat.le_trans (Nat.le_trans (Nat.le_trans (Nat.le_trans (Nat.le_trans K26.1 K29.1) K32.1) K35.1) E49.1) ls50)))
                                  have ne304 : s26 ≠ s53 := (Nat.ne_of_lt (Nat.lt_of_lt_of_le Es26.lt (Nat.le_trans (Nat.le_trans (Nat.le_trans (Nat.le_trans (Nat.le_trans K29.1 K32.1) K35.1) E49.1) K50.1) ls53)))
                                  have ne305 : s29 ≠ s56 := (Nat.ne_of_lt (Nat.lt_of_lt_of_le Es29.lt (Nat.le_trans (Nat.le_trans (Nat.le_trans (Nat.le_trans (Nat.le_trans K32.1 K35.1) E49.1) K50.1) K53.1) ls56)))
                                  have ne306 : s32 ≠ s59 := (Nat.ne_of_lt (Nat.lt_of_lt_of_le Es32.lt (Nat.le_trans (Nat.le_trans (Nat.le_trans (Nat.le_trans (Nat.le_trans K35.1 E49.1) K50.1) K53.1) K56.1) ls59)))
                                  have f307 := ((f60.keep K59 all0).keep K62 (allS g_b49 all0))
                                  have z308 := (Nat.le_trans z74 K62.1)
                                  refine g_virtual X62 hx hby hZ62 ho62 (rm_peqp l Z a0 hw [] b22 b49 posA (-1 : Int32) s23 s26 colA s29 s32 t23 kb23 (nar .byte (tA.toInt8.toInt32)) t26 kb26 (nar .byte (cA.toInt8.toInt32)) t29 kb29 (nar .byte (kA.toInt8.toInt32)) t32 kb32 (nar .byte (dA.toInt8.toInt32)) posB (-1 : Int32) s50 s53 colB s56 s59 t50 kb50 (nar .byte (tB.toInt8.toInt32)) t53 kb53 (nar .byte (cB.toInt8.toInt32)) t56 kb56 (nar .byte (kB.toInt8.toInt32)) t59 kb59 (nar .byte (dB.toInt8.toInt32)) cz T62.heap n0 z308 O2 P5 f307 ⟨f238, f240, f241, f242, f243, f244, f245, f246⟩ ⟨pE62, pa62, pb62, pc62, pd62, pe62, pf62, pg62⟩ f247 f250 f251 f254 f255 f258 f259 f262 f263 f266 f267 f270 f271 f274 f275 f278 f279 f281 f282 f284 f285 f287 f288 f290 f291 f293 f294 f296 f297 f299 f300 f302 ne303 ne304 ne305 ne306) w74_ w75_ (notFace_of_selects (args := #[]) (mvT hZ62 w77_)) w77_ w76_ w15_ w78_ (by decide) rfl f238 (by rw [hml]; rfl) [(.ref b49)] (lenOf own_pd1 rfl) rfl rfl (Nat.le_of_ble_eq_true rfl) (Nat.le_of_ble_eq_true rfl) (Nat.le_of_ble_eq_true rfl) (Nat.le_of_ble_eq_true rfl) at_486 (fun v237 T237 L237 X237 hQ237 => ?_)
                                  obtain ⟨rfl, N237q, eh237⟩ := hQ237
                                  have N237 := Fr.app N62 N237q
                                  refine g_iload X237 hx hby at_489 rfl ?_
                                  refine g_icN X237 hx hby at_491 (teq (by simp [own_beq h_tA h_tB, own_beq h_cA h_cB, own_beq h_kA h_kB, own_beq h_dA h_dB, own_m1 h_chA, own_m1' h_chA, own_m1 h_chB, own_m1' h_chB, hc430_87, hc444_88, hc451_89, hc458_90, hc465_91] : (if posA = posB ∧ (-1 : Int32) = (-1 : Int32) ∧ (nar .byte (tA.toInt8.toInt32)) = (nar .byte (tB.toInt8.toInt32)) ∧ (nar .byte (cA.toInt8.toInt32)) = (nar .byte (cB.toInt8.toInt32)) ∧ colA = colB ∧ (nar .byte (kA.toInt8.toInt32)) = (nar .byte (kB.toInt8.toInt32)) ∧ (nar .byte (dA.toInt8.toInt32)) = (nar .byte (dB.toInt8.toInt32)) then 1 else 0 : Int32) = (0 : Int32))).2 ?_
                                  refine g_iconst X237 hx hby (1 : Int32) at_494 rfl ?_
                                  refine g_goto X237 hx hby 499 at_495 (by decide) (by decide) ?_
                                  refine g_nretW X237 hx hby (t := .boolean) (by simp) Bd.returns Bd.notSynchronized hS62 at_499 eh237 (Nat.le_refl _) (by decide) (by decide) ?_
                                  show (Q_law Z y0 y1 y2 y3 sel cz h0 n0) (some (.int (1 : Int32))) _ _
                                  exact ⟨rfl, N237⟩
                              · skip
                                refine g_icY X62 hx hby 479 at_458 (feq hc458_90).2 (by decide) (by decide) ?_
                                refine g_iconst X62 hx hby (0 : Int32) at_479 rfl ?_
                                refine g_istore X62 hx hby at_480 (l' := #[.val (.long y0), .second, .val (.long y1), .second, .val (.long y2), .second, .val (.long y3), .second, .val (.int sel), .val (.int posA), .val (.int posB), .val (.int colA), .val (.int colB), .val (.int (own_bit sel (4 : Int32))), .val (.int (own_bit sel (5 : Int32))), .val (.int chA), .val (.int chB), .val (.int tA), .val (.int cA), .val (.int kA), .val (.int dA), .val (.int tB), .val (.int cB), .val (.int kB), .val (.int dB), .val (.ref b22), .val (.ref b49), .val (.int (sel &&& (7 : Int32))), .val (.ref b49), .val (.int (-1 : Int32)), .val (.int (-1 : Int32)), .val (.int (0 : Int32))]) rfl ?_
                                refine g_aload X62 hx hby at_482 rfl rfl ?_
                                refine g_aload X62 hx hby at_484 rfl rfl ?_
                                have f310 := ((((((pE35.ext E49).keep K50).keep K53).keep K56).keep K59).keep K62)
                                have ne311 : b22 ≠ b49 := (Nat.ne_of_lt (Nat.lt_of_lt_of_le A22.lt (Nat.le_trans (Nat.le_trans (Nat.le_trans (Nat.le_trans (Nat.le_trans K23.1 K26.1) K29.1) K32.1) K35.1) (Nat.le_of_eq g49))))
                                have f312 := ((((((pa35.ext E49).keep K50 nin0).keep K53 nin0).keep K56 nin0).keep K59 nin0).keep K62 (ninS ne311 nin0))
                                have f313 := ((((((pb35.ext E49).keep K50 nin0).keep K53 nin0).keep K56 nin0).keep K59 nin0).keep K62 (ninS ne311 nin0))
                                have f314 := ((((((pc35.ext E49).keep K50 nin0).keep K53 nin0).keep K56 nin0).keep K59 nin0).keep K62 (ninS ne311 nin0))
                                have f315 := ((((((pd35.ext E49).keep K50 nin0).keep K53 nin0).keep K56 nin0).keep K59 nin0).keep K62 (ninS ne311 nin0))
                                have f316 := ((((((pe35.ext E49).keep K50 nin0).keep K53 nin0).keep K56 nin0).keep K59 nin0).keep K62 (ninS ne311 nin0))
                                have f317 := ((((((pf35.ext E49).keep K50 nin0).keep K53 nin0).keep K56 nin0).keep K59 nin0).keep K62 (ninS ne311 nin0))
                                have f318 := ((((((pg35.ext E49).keep K50 nin0).keep K53 nin0).keep K56 nin0).keep K59 nin0).keep K62 (ninS ne311 nin0))
                                have f319 := (((((((f44.keep K35).ext E49).keep K50).keep K53).keep K56).keep K59).keep K62)
                                have ne320 : s23 ≠ b22 := (Ne.symm (Nat.ne_of_lt (Nat.lt_of_lt_of_le A22.lt ls23)))
                                have ne321 : s23 ≠ b49 := (Nat.ne_of_lt (Nat.lt_of_lt_of_le Es23.lt (Nat.le_trans (Nat.le_trans (Nat.le_trans (Nat.le_trans K26.1 K29.1) K32.1) K35.1) (Nat.le_of_eq g49))))
                                have f322 := ((((((((((Cs23.keep K26 nin0).keep K29 nin0).keep K32 nin0).keep K35 (ninS ne320 nin0)).ext E49).keep K50 nin0).keep K53 nin0).keep K56 nin0).keep K59 nin0).keep K62 (ninS ne321 nin0))
                                have f323 := ((((((((((Vs23.keep K26 nin0).keep K29 nin0).keep K32 nin0).keep K35 (ninS ne320 nin0)).ext E49).keep K50 nin0).keep K53 nin0).keep K56 nin0).keep K59 nin0).keep K62 (ninS ne321 nin0))
                                have ne324 : t23 ≠ b22 := (Ne.symm (Nat.ne_of_lt (Nat.lt_of_lt_of_le A22.lt lo23)))
                                have ne325 : t23 ≠ b49 := (Nat.ne_of_lt (Nat.lt_of_lt_of_le Bs23.lt (Nat.le_trans (Nat.le_trans (Nat.le_trans (Nat.le_trans K26.1 K29.1) K32.1) K35.1) (Nat.le_of_eq g49))))
                                have f326 := ((((((((((Bs23.keep K26 nin0).keep K29 nin0).keep K32 nin0).keep K35 (ninS ne324 nin0)).ext E49).keep K50 nin0).keep K53 nin0).keep K56 nin0).keep K59 nin0).keep K62 (ninS ne325 nin0))
                                have f327 := (((((((f45.keep K35).ext E49).keep K50).keep K53).keep K56).keep K59).keep K62)
                                have ne328 : s26 ≠ b22 := (Ne.symm (Nat.ne_of_lt (Nat.lt_of_lt_of_le A22.lt (Nat.le_trans K23.1 ls26))))
                                have ne329 : s26 ≠ b49 := (Nat.ne_of_lt (Nat.lt_of_lt_of_le Es26.lt (Nat.le_trans (Nat.le_trans (Nat.le_trans K29.1 K32.1) K35.1) (Nat.le_of_eq g49))))
                                have f330 := (((((((((Cs26.keep K29 nin0).keep K32 nin0).keep K35 (ninS ne328 nin0)).ext E49).keep K50 nin0).keep K53 nin0).keep K56 nin0).keep K59 nin0).keep K62 (ninS ne329 nin0))
                                have f331 := (((((((((Vs26.keep K29 nin0).keep K32 nin0).keep K35 (ninS ne328 nin0)).ext E49).keep K50 nin0).keep K53 nin0).keep K56 nin0).keep K59 nin0).keep K62 (ninS ne329 nin0))
                                have ne332 : t26 ≠ b22 := (Ne.symm (Nat.ne_of_lt (Nat.lt_of_lt_of_le A22.lt (Nat.le_trans K23.1 lo26))))
                                have ne333 : t26 ≠ b49 := (Nat.ne_of_lt (Nat.lt_of_lt_of_le Bs26.lt (Nat.le_trans (Nat.le_trans (Nat.le_trans K29.1 K32.1) K35.1) (Nat.le_of_eq g49))))
                                have f334 := (((((((((Bs26.keep K29 nin0).keep K32 nin0).keep K35 (ninS ne332 nin0)).ext E49).keep K50 nin0).keep K53 nin0).keep K56 nin0).keep K59 nin0).keep K62 (ninS ne333 nin0))
                                have f335 := (((((((f46.keep K35).ext E49).keep K50).keep K53).keep K56).keep K59).keep K62)
                                have ne336 : s29 ≠ b22 := (Ne.symm (Nat.ne_of_lt (Nat.lt_of_lt_of_le A22.lt (Nat.le_trans (Nat.le_trans K23.1 K26.1) ls29))))
                                have ne337 : s29 ≠ b49 := (Nat.ne_of_lt (Nat.lt_of_lt_of_le Es29.lt (Nat.le_trans (Nat.le_trans K32.1 K35.1) (Nat.le_of_eq g49))))
                                have f338 := ((((((((Cs29.keep K32 nin0).keep K35 (ninS ne336 nin0)).ext E49).keep K50 nin0).keep K53 nin0).keep K56 nin0).keep K59 nin0).keep K62 (ninS ne337 nin0))
                                have f339 := ((((((((Vs29.keep K32 nin0).keep K35 (ninS ne336 nin0)).ext E49).keep K50 nin0).keep K53 nin0).keep K56 nin0).keep K59 nin0).keep K62 (ninS ne337 nin0))
                                have ne340 : t29 ≠ b22 := (Ne.symm (Nat.ne_of_lt (Nat.lt_of_lt_of_le A22.lt (Nat.le_trans (Nat.le_trans K23.1 K26.1) lo29))))
                                have ne341 : t29 ≠ b49 := (Nat.ne_of_lt (Nat.lt_of_lt_of_le Bs29.lt (Nat.le_trans (Nat.le_trans K32.1 K35.1) (Nat.le_of_eq g49))))
                                have f342 := ((((((((Bs29.keep K32 nin0).keep K35 (ninS ne340 nin0)).ext E49).keep K50 nin0).keep K53 nin0).keep K56 nin0).keep K59 nin0).keep K62 (ninS ne341 nin0))
                                have f343 := (((((((Es32.keep K35).ext E49).keep K50).keep K53).keep K56).keep K59).keep K62)
                                have ne344 : s32 ≠ b22 := (Ne.symm (Nat.ne_of_lt (Nat.lt_of_lt_of_le A22.lt (Nat.le_trans (Nat.le_trans (Nat.le_trans K23.1 K26.1) K29.1) ls32))))
                                have ne345 : s32 ≠ b49 := (Nat.ne_of_lt (Nat.lt_of_lt_of_le Es32.lt (Nat.le_trans K35.1 (Nat.le_of_eq g49))))
                                have f346 := (((((((Cs32.keep K35 (ninS ne344 nin0)).ext E49).keep K50 nin0).keep K53 nin0).keep K56 nin0).keep K59 nin0).keep K62 (ninS ne345 nin0))
                                have f347 := (((((((Vs32.keep K35 (ninS ne344 nin0)).ext E49).keep K50 nin0).keep K53 nin0).keep K56 nin0).keep K59 nin0).keep K62 (ninS ne345 nin0))
                                have ne348 : t32 ≠ b22 := (Ne.symm (Nat.ne_of_lt (Nat.lt_of_lt_of_le A22.lt (Nat.le_trans (Nat.le_trans (Nat.le_trans K23.1 K26.1) K29.1) lo32))))
                                have ne349 : t32 ≠ b49 := (Nat.ne_of_lt (Nat.lt_of_lt_of_le Bs32.lt (Nat.le_trans K35.1 (Nat.le_of_eq g49))))
                                have f350 := (((((((Bs32.keep K35 (ninS ne348 nin0)).ext E49).keep K50 nin0).keep K53 nin0).keep K56 nin0).keep K59 nin0).keep K62 (ninS ne349 nin0))
                                have f351 := (f71.keep K62)
                                have ne352 : s50 ≠ b49 := (Ne.symm (Nat.ne_of_lt (Nat.lt_of_lt_of_le A49.lt ls50)))
                                have f353 := ((((Cs50.keep K53 nin0).keep K56 nin0).keep K59 nin0).keep K62 (ninS ne352 nin0))
                                have f354 := ((((Vs50.keep K53 nin0).keep K56 nin0).keep K59 nin0).keep K62 (ninS ne352 nin0))
                                have ne355 : t50 ≠ b49 := (Ne.symm (Nat.ne_of_lt (Nat.lt_of_lt_of_le A49.lt lo50)))
                                have f356 := ((((Bs50.keep K53 nin0).keep K56 nin0).keep K59 nin0).keep K62 (ninS ne355 nin0))
                                have f357 := (f72.keep K62)
                                have ne358 : s53 ≠ b49 := (Ne.symm (Nat.ne_of_lt (Nat.lt_of_lt_of_le A49.lt (Nat.le_trans K50.1 ls53))))
                                have f359 := (((Cs53.keep K56 nin0).keep K59 nin0).keep K62 (ninS ne358 nin0))
                                have f360 := (((Vs53.keep K56 nin0).keep K59 nin0).keep K62 (ninS ne358 nin0))
                                have ne361 : t53 ≠ b49 := (Ne.symm (Nat.ne_of_lt (Nat.lt_of_lt_of_le A49.lt (Nat.le_trans K50.1 lo53))))
                                have f362 := (((Bs53.keep K56 nin0).keep K59 nin0).keep K62 (ninS ne361 nin0))
                                have f363 := (f73.keep K62)
                                have ne364 : s56 ≠ b49 := (Ne.symm (Nat.ne_of_lt (Nat.lt_of_lt_of_le A49.lt (Nat.le_trans (Nat.le_trans K50.1 K53.1) ls56))))
                                have f365 := ((Cs56.keep K59 nin0).keep K62 (ninS ne364 nin0))
                                have f366 := ((Vs56.keep K59 nin0).keep K62 (ninS ne364 nin0))
                                have ne367 : t56 ≠ b49 := (Ne.symm (Nat.ne_of_lt (Nat.lt_of_lt_of_le A49.lt (Nat.le_trans (Nat.le_trans K50.1 K53.1) lo56))))
                                have f368 := ((Bs56.keep K59 nin0).keep K62 (ninS ne367 nin0))
                                have f369 := (Es59.keep K62)
                                have ne370 : s59 ≠ b49 := (Ne.symm (Nat.ne_of_lt (Nat.lt_of_lt_of_le A49.lt (Nat.le_trans (Nat.le_trans (Nat.le_trans K50.1 K53.1) K56.1) ls59))))
                                have f371 := (Cs59.keep K62 (ninS ne370 nin0))
                                have f372 := (Vs59.keep K62 (ninS ne370 nin0))
                                have ne373 : t59 ≠ b49 := (Ne.symm (Nat.ne_of_lt (Nat.lt_of_lt_of_le A49.lt (Nat.le_trans (Nat.le_trans (Nat.le_trans K50.1 K53.1) K56.1) lo59))))
                                have f374 := (Bs59.keep K62 (ninS ne373 nin0))
                                have ne375 : s23 ≠ s50 := (Nat.ne_of_lt (Nat.lt_of_lt_of_le Es23.lt (Nat.le_trans (Nat.le_trans (Nat.le_trans (Nat.le_trans (Nat.le_trans K26.1 K29.1) K32.1) K35.1) E49.1) ls50)))
                                have ne376 : s26 ≠ s53 := (Nat.ne_of_lt (Nat.lt_of_lt_of_le Es26.lt (Nat.le_trans (Nat.le_trans (Nat.le_trans (Nat.le_trans (Nat.le_trans K29.1 K32.1) K35.1) E49.1) K50.1) ls53)))
                                have ne377 : s29 ≠ s56 := (Nat.ne_of_lt (Nat.lt_of_lt_of_le Es29.lt (Nat.le_trans (Nat.le_trans (Nat.le_trans (Nat.le_trans (Nat.le_trans K32.1 K35.1) E49.1) K50.1) K53.1) ls56)))
                                have ne378 : s32 ≠ s59 := (Nat.ne_of_lt (Nat.lt_of_lt_of_le Es32.lt (Nat.le_trans (Nat.le_trans (Nat.le_trans (Nat.le_trans (Nat.le_trans K35.1 E49.1) K50.1) K53.1) K56.1) ls59)))
                                have f379 := ((f60.keep K59 all0).keep K62 (allS g_b49 all0))
                                have z380 := (Nat.le_trans z74 K62.1)
                                refine g_virtual X62 hx hby hZ62 ho62 (rm_peqp l Z a0 hw [] b22 b49 posA (-1 : Int32) s23 s26 colA s29 s32 t23 kb23 (nar .byte (tA.toInt8.toInt32)) t26 kb26 (nar .byte (cA.toInt8.toInt32)) t29 kb29 (nar .byte (kA.toInt8.toInt32)) t32 kb32 (nar .byte (dA.toInt8.toInt32)) posB (-1 : Int32) s50 s53 colB s56 s59 t50 kb50 (nar .byte (tB.toInt8.toInt32)) t53 kb53 (nar .byte (cB.toInt8.toInt32)) t56 kb56 (nar .byte (kB.toInt8.toInt32)) t59 kb59 (nar .byte (dB.toInt8.toInt32)) cz T62.heap n0 z380 O2 P5 f379 ⟨f310, f312, f313, f314, f315, f316, f317, f318⟩ ⟨pE62, pa62, pb62, pc62, pd62, pe62, pf62, pg62⟩ f319 f322 f323 f326 f327 f330 f331 f334 f335 f338 f339 f342 f343 f346 f347 f350 f351 f353 f354 f356 f357 f359 f360 f362 f363 f365 f366 f368 f369 f371 f372 f374 ne375 ne376 ne377 ne378) w74_ w75_ (notFace_of_selects (args := #[]) (mvT hZ62 w77_)) w77_ w76_ w15_ w78_ (by decide) rfl f310 (by rw [hml]; rfl) [(.ref b49)] (lenOf own_pd1 rfl) rfl rfl (Nat.le_of_ble_eq_true rfl) (Nat.le_of_ble_eq_true rfl) (Nat.le_of_ble_eq_true rfl) (Nat.le_of_ble_eq_true rfl) at_486 (fun v309 T309 L309 X309 hQ309 => ?_)
                                obtain ⟨rfl, N309q, eh309⟩ := hQ309
                                have N309 := Fr.app N62 N309q
                                refine g_iload X309 hx hby at_489 rfl ?_
                                refine g_icN X309 hx hby at_491 (teq (by simp [own_beq h_tA h_tB, own_beq h_cA h_cB, own_beq h_kA h_kB, own_beq h_dA h_dB, own_m1 h_chA, own_m1' h_chA, own_m1 h_chB, own_m1' h_chB, hc430_87, hc444_88, hc451_89, hc458_90] : (if posA = posB ∧ (-1 : Int32) = (-1 : Int32) ∧ (nar .byte (tA.toInt8.toInt32)) = (nar .byte (tB.toInt8.toInt32)) ∧ (nar .byte (cA.toInt8.toInt32)) = (nar .byte (cB.toInt8.toInt32)) ∧ colA = colB ∧ (nar .byte (kA.toInt8.toInt32)) = (nar .byte (kB.toInt8.toInt32)) ∧ (nar .byte (dA.toInt8.toInt32)) = (nar .byte (dB.toInt8.toInt32)) then 1 else 0 : Int32) = (0 : Int32))).2 ?_
                                refine g_iconst X309 hx hby (1 : Int32) at_494 rfl ?_
                                refine g_goto X309 hx hby 499 at_495 (by decide) (by decide) ?_
                                refine g_nretW X309 hx hby (t := .boolean) (by simp) Bd.returns Bd.notSynchronized hS62 at_499 eh309 (Nat.le_refl _) (by decide) (by decide) ?_
                                show (Q_law Z y0 y1 y2 y3 sel cz h0 n0) (some (.int (1 : Int32))) _ _
                                exact ⟨rfl, N309⟩
                            · skip
                              refine g_icY X62 hx hby 479 at_451 (feq hc451_89).2 (by decide) (by decide) ?_
                              refine g_iconst X62 hx hby (0 : Int32) at_479 rfl ?_
                              refine g_istore X62 hx hby at_480 (l' := #[.val (.long y0), .second, .val (.long y1), .second, .val (.long y2), .second, .val (.long y3), .second, .val (.int sel), .val (.int posA), .val (.int posB), .val (.int colA), .val (.int colB), .val (.int (own_bit sel (4 : Int32))), .val (.int (own_bit sel (5 : Int32))), .val (.int chA), .val (.int chB), .val (.int tA), .val (.int cA), .val (.int kA), .val (.int dA), .val (.int tB), .val (.int cB), .val (.int kB), .val (.int dB), .val (.ref b22), .val (.ref b49), .val (.int (sel &&& (7 : Int32))), .val (.ref b49), .val (.int (-1 : Int32)), .val (.int (-1 : Int32)), .val (.int (0 : Int32))]) rfl ?_
                              refine g_aload X62 hx hby at_482 rfl rfl ?_
                              refine g_aload X62 hx hby at_484 rfl rfl ?_
                              have f382 := ((((((pE35.ext E49).keep K50).keep K53).keep K56).keep K59).keep K62)
                              have ne383 : b22 ≠ b49 := (Nat.ne_of_lt (Nat.lt_of_lt_of_le A22.lt (Nat.le_trans (Nat.le_trans (Nat.le_trans (Nat.le_trans (Nat.le_trans K23.1 K26.1) K29.1) K32.1) K35.1) (Nat.le_of_eq g49))))
                              have f384 := ((((((pa35.ext E49).keep K50 nin0).keep K53 nin0).keep K56 nin0).keep K59 nin0).keep K62 (ninS ne383 nin0))
                              have f385 := ((((((pb35.ext E49).keep K50 nin0).keep K53 nin0).keep K56 nin0).keep K59 nin0).keep K62 (ninS ne383 nin0))
                              have f386 := ((((((pc35.ext E49).keep K50 nin0).keep K53 nin0).keep K56 nin0).keep K59 nin0).keep K62 (ninS ne383 nin0))
                              have f387 := ((((((pd35.ext E49).keep K50 nin0).keep K53 nin0).keep K56 nin0).keep K59 nin0).keep K62 (ninS ne383 nin0))
                              have f388 := ((((((pe35.ext E49).keep K50 nin0).keep K53 nin0).keep K56 nin0).keep K59 nin0).keep K62 (ninS ne383 nin0))
                              have f389 := ((((((pf35.ext E49).keep K50 nin0).keep K53 nin0).keep K56 nin0).keep K59 nin0).keep K62 (ninS ne383 nin0))
                              have f390 := ((((((pg35.ext E49).keep K50 nin0).keep K53 nin0).keep K56 nin0).keep K59 nin0).keep K62 (ninS ne383 nin0))
                              have f391 := (((((((f44.keep K35).ext E49).keep K50).keep K53).keep K56).keep K59).keep K62)
                              have ne392 : s23 ≠ b22 := (Ne.symm (Nat.ne_of_lt (Nat.lt_of_lt_of_le A22.lt ls23)))
                              have ne393 : s23 ≠ b49 := (Nat.ne_of_lt (Nat.lt_of_lt_of_le Es23.lt (Nat.le_trans (Nat.le_trans (Nat.le_trans (Nat.le_trans K26.1 K29.1) K32.1) K35.1) (Nat.le_of_eq g49))))
                              have f394 := ((((((((((Cs23.keep K26 nin0).keep K29 nin0).keep K32 nin0).keep K35 (ninS ne392 nin0)).ext E49).keep K50 nin0).keep K53 nin0).keep K56 nin0).keep K59 nin0).keep K62 (ninS ne393 nin0))
                              have f395 := ((((((((((Vs23.keep K26 nin0).keep K29 nin0).keep K32 nin0).keep K35 (ninS ne392 nin0)).ext E49).keep K50 nin0).keep K53 nin0).keep K56 nin0).keep K59 nin0).keep K62 (ninS ne393 nin0))
                              have ne396 : t23 ≠ b22 := (Ne.symm (Nat.ne_of_lt (Nat.lt_of_lt_of_le A22.lt lo23)))
                              have ne397 : t23 ≠ b49 := (Nat.ne_of_lt (Nat.lt_of_lt_of_le Bs23.lt (Nat.le_trans (Nat.le_trans (Nat.le_trans (Nat.le_trans K26.1 K29.1) K32.1) K35.1) (Nat.le_of_eq g49))))
                              have f398 := ((((((((((Bs23.keep K26 nin0).keep K29 nin0).keep K32 nin0).keep K35 (ninS ne396 nin0)).ext E49).keep K50 nin0).keep K53 nin0).keep K56 nin0).keep K59 nin0).keep K62 (ninS ne397 nin0))
                              have f399 := (((((((f45.keep K35).ext E49).keep K50).keep K53).keep K56).keep K59).keep K62)
                              have ne400 : s26 ≠ b22 := (Ne.symm (Nat.ne_of_lt (Nat.lt_of_lt_of_le A22.lt (Nat.le_trans K23.1 ls26))))
                              have ne401 : s26 ≠ b49 := (Nat.ne_of_lt (Nat.lt_of_lt_of_le Es26.lt (Nat.le_trans (Nat.le_trans (Nat.le_trans K29.1 K32.1) K35.1) (Nat.le_of_eq g49))))
                              have f402 := (((((((((Cs26.keep K29 nin0).keep K32 nin0).keep K35 (ninS ne400 nin0)).ext E49).keep K50 nin0).keep K53 nin0).keep K56 nin0).keep K59 nin0).keep K62 (ninS ne401 nin0))
                              have f403 := (((((((((Vs26.keep K29 nin0).keep K32 nin0).keep K35 (ninS ne400 nin0)).ext E49).keep K50 nin0).keep K53 nin0).keep K56 nin0).keep K59 nin0).keep K62 (ninS ne401 nin0))
                              have ne404 : t26 ≠ b22 := (Ne.symm (Nat.ne_of_lt (Nat.lt_of_lt_of_le A22.lt (Nat.le_trans K23.1 lo26))))
                              have ne405 : t26 ≠ b49 := (Nat.ne_of_lt (Nat.lt_of_lt_of_le Bs26.lt (Nat.le_trans (Nat.le_trans (Nat.le_trans K29.1 K32.1) K35.1) (Nat.le_of_eq g49))))
                              have f406 := (((((((((Bs26.keep K29 nin0).keep K32 nin0).keep K35 (ninS ne404 nin0)).ext E49).keep K50 nin0).keep K53 nin0).keep K56 nin0).keep K59 nin0).keep K62 (ninS ne405 nin0))
                              have f407 := (((((((f46.keep K35).ext E49).keep K50).keep K53).keep K56).keep K59).keep K62)
                              have ne408 : s29 ≠ b22 := (Ne.symm (Nat.ne_of_lt (Nat.lt_of_lt_of_le A22.lt (Nat.le_trans (Nat.le_trans K23.1 K26.1) ls29))))
                              have ne409 : s29 ≠ b49 := (Nat.ne_of_lt (Nat.lt_of_lt_of_le Es29.lt (Nat.le_trans (Nat.le_trans K32.1 K35.1) (Nat.le_of_eq g49))))
                              have f410 := ((((((((Cs29.keep K32 nin0).keep K35 (ninS ne408 nin0)).ext E49).keep K50 nin0).keep K53 nin0).keep K56 nin0).keep K59 nin0).keep K62 (ninS ne409 nin0))
                              have f411 := ((((((((Vs29.keep K32 nin0).keep K35 (ninS ne408 nin0)).ext E49).keep K50 nin0).keep K53 nin0).keep K56 nin0).keep K59 nin0).keep K62 (ninS ne409 nin0))
                              have ne412 : t29 ≠ b22 := (Ne.symm (Nat.ne_of_lt (Nat.lt_of_lt_of_le A22.lt (Nat.le_trans (Nat.le_trans K23.1 K26.1) lo29))))
                              have ne413 : t29 ≠ b49 := (Nat.ne_of_lt (Nat.lt_of_lt_of_le Bs29.lt (Nat.le_trans (Nat.le_trans K32.1 K35.1) (Nat.le_of_eq g49))))
                              have f414 := ((((((((Bs29.keep K32 nin0).keep K35 (ninS ne412 nin0)).ext E49).keep K50 nin0).keep K53 nin0).keep K56 nin0).keep K59 nin0).keep K62 (ninS ne413 nin0))
                              have f415 := (((((((Es32.keep K35).ext E49).keep K50).keep K53).keep K56).keep K59).keep K62)
                              have ne416 : s32 ≠ b22 := (Ne.symm (Nat.ne_of_lt (Nat.lt_of_lt_of_le A22.lt (Nat.le_trans (Nat.le_trans (Nat.le_trans K23.1 K26.1) K29.1) ls32))))
                              have ne417 : s32 ≠ b49 := (Nat.ne_of_lt (Nat.lt_of_lt_of_le Es32.lt (Nat.le_trans K35.1 (Nat.le_of_eq g49))))
                              have f418 := (((((((Cs32.keep K35 (ninS ne416 nin0)).ext E49).keep K50 nin0).keep K53 nin0).keep K56 nin0).keep K59 nin0).keep K62 (ninS ne417 nin0))
                              have f419 := (((((((Vs32.keep K35 (ninS ne416 nin0)).ext E49).keep K50 nin0).keep K53 nin0).keep K56 nin0).keep K59 nin0).keep K62 (ninS ne417 nin0))
                              have ne420 : t32 ≠ b22 := (Ne.symm (Nat.ne_of_lt (Nat.lt_of_lt_of_le A22.lt (Nat.le_trans (Nat.le_trans (Nat.le_trans K23.1 K26.1) K29.1) lo32))))
                              have ne421 : t32 ≠ b49 := (Nat.ne_of_lt (Nat.lt_of_lt_of_le Bs32.lt (Nat.le_trans K35.1 (Nat.le_of_eq g49))))
                              have f422 := (((((((Bs32.keep K35 (ninS ne420 nin0)).ext E49).keep K50 nin0).keep K53 nin0).keep K56 nin0).keep K59 nin0).keep K62 (ninS ne421 nin0))
                              have f423 := (f71.keep K62)
                              have ne424 : s50 ≠ b49 := (Ne.symm (Nat.ne_of_lt (Nat.lt_of_lt_of_le A49.lt ls50)))
                              have f425 := ((((Cs50.keep K53 nin0).keep K56 nin0).keep K59 nin0).keep K62 (ninS ne424 nin0))
                              have f426 := ((((Vs50.keep K53 nin0).keep K56 nin0).keep K59 nin0).keep K62 (ninS ne424 nin0))
                              have ne427 : t50 ≠ b49 := (Ne.symm (Nat.ne_of_lt (Nat.lt_of_lt_of_le A49.lt lo50)))
                              have f428 := ((((Bs50.keep K53 nin0).keep K56 nin0).keep K59 nin0).keep K62 (ninS ne427 nin0))
                              have f429 := (f72.keep K62)
                              have ne430 : s53 ≠ b49 := (Ne.symm (Nat.ne_of_lt (Nat.lt_of_lt_of_le A49.lt (Nat.le_trans K50.1 ls53))))
                              have f431 := (((Cs53.keep K56 nin0).keep K59 nin0).keep K62 (ninS ne430 nin0))
                              have f432 := (((Vs53.keep K56 nin0).keep K59 nin0).keep K62 (ninS ne430 nin0))
                              have ne433 : t53 ≠ b49 := (Ne.symm (Nat.ne_of_lt (Nat.lt_of_lt_of_le A49.lt (Nat.le_trans K50.1 lo53))))
                              have f434 := (((Bs53.keep K56 nin0).keep K59 nin0).keep K62 (ninS ne433 nin0))
                              have f435 := (f73.keep K62)
                              have ne436 : s56 ≠ b49 := (Ne.symm (Nat.ne_of_lt (Nat.lt_of_lt_of_le A49.lt (Nat.le_trans (Nat.le_trans K50.1 K53.1) ls56))))
                              have f437 := ((Cs56.keep K59 nin0).keep K62 (ninS ne436 nin0))
                              have f438 := ((Vs56.keep K59 nin0).keep K62 (ninS ne436 nin0))
                              have ne439 : t56 ≠ b49 := (Ne.symm (Nat.ne_of_lt (Nat.lt_of_lt_of_le A49.lt (Nat.le_trans (Nat.le_trans K50.1 K53.1) lo56))))
                              have f440 := ((Bs56.keep K59 nin0).keep K62 (ninS ne439 nin0))
                              have f441 := (Es59.keep K62)
                              have ne442 : s59 ≠ b49 := (Ne.symm (Nat.ne_of_lt (Nat.lt_of_lt_of_le A49.lt (Nat.le_trans (Nat.le_trans (Nat.le_trans K50.1 K53.1) K56.1) ls59))))
                              have f443 := (Cs59.keep K62 (ninS ne442 nin0))
                              have f444 := (Vs59.keep K62 (ninS ne442 nin0))
                              have ne445 : t59 ≠ b49 := (Ne.symm (Nat.ne_of_lt (Nat.lt_of_lt_of_le A49.lt (Nat.le_trans (Nat.le_trans (Nat.le_trans K50.1 K53.1) K56.1) lo59))))
                              have f446 := (Bs59.keep K62 (ninS ne445 nin0))
                              have ne447 : s23 ≠ s50 := (Nat.ne_of_lt (Nat.lt_of_lt_of_le Es23.lt (Nat.le_trans (Nat.le_trans (Nat.le_trans (Nat.le_trans (Nat.le_trans K26.1 K29.1) K32.1) K35.1) E49.1) ls50)))
                              have ne448 : s26 ≠ s53 := (Nat.ne_of_lt (Nat.lt_of_lt_of_le Es26.lt (Nat.le_trans (Nat.le_trans (Nat.le_trans (Nat.le_trans (Nat.le_trans K29.1 K32.1) K35.1) E49.1) K50.1) ls53)))
                              have ne449 : s29 ≠ s56 := (Nat.ne_of_lt (Nat.lt_of_lt_of_le Es29.lt (Nat.le_trans (Nat.le_trans (Nat.le_trans (Nat.le_trans (Nat.le_trans K32.1 K35.1) E49.1) K50.1) K53.1) ls56)))
                              have ne450 : s32 ≠ s59 := (Nat.ne_of_lt (Nat.lt_of_lt_of_le Es32.lt (Nat.le_trans (Nat.le_trans (Nat.le_trans (Nat.le_trans (Nat.le_trans K35.1 E49.1) K50.1) K53.1) K56.1) ls59)))
                              have f451 := ((f60.keep K59 all0).keep K62 (allS g_b49 all0))
                              have z452 := (Nat.le_trans z74 K62.1)
                              refine g_virtual X62 hx hby hZ62 ho62 (rm_peqp l Z a0 hw [] b22 b49 posA (-1 : Int32) s23 s26 colA s29 s32 t23 kb23 (nar .byte (tA.toInt8.toInt32)) t26 kb26 (nar .byte (cA.toInt8.toInt32)) t29 kb29 (nar .byte (kA.toInt8.toInt32)) t32 kb32 (nar .byte (dA.toInt8.toInt32)) posB (-1 : Int32) s50 s53 colB s56 s59 t50 kb50 (nar .byte (tB.toInt8.toInt32)) t53 kb53 (nar .byte (cB.toInt8.toInt32)) t56 kb56 (nar .byte (kB.toInt8.toInt32)) t59 kb59 (nar .byte (dB.toInt8.toInt32)) cz T62.heap n0 z452 O2 P5 f451 ⟨f382, f384, f385, f386, f387, f388, f389, f390⟩ ⟨pE62, pa62, pb62, pc62, pd62, pe62, pf62, pg62⟩ f391 f394 f395 f398 f399 f402 f403 f406 f407 f410 f411 f414 f415 f418 f419 f422 f423 f425 f426 f428 f429 f431 f432 f434 f435 f437 f438 f440 f441 f443 f444 f446 ne447 ne448 ne449 ne450) w74_ w75_ (notFace_of_selects (args := #[]) (mvT hZ62 w77_)) w77_ w76_ w15_ w78_ (by decide) rfl f382 (by rw [hml]; rfl) [(.ref b49)] (lenOf own_pd1 rfl) rfl rfl (Nat.le_of_ble_eq_true rfl) (Nat.le_of_ble_eq_true rfl) (Nat.le_of_ble_eq_true rfl) (Nat.le_of_ble_eq_true rfl) at_486 (fun v381 T381 L381 X381 hQ381 => ?_)
                              obtain ⟨rfl, N381q, eh381⟩ := hQ381
                              have N381 := Fr.app N62 N381q
                              refine g_iload X381 hx hby at_489 rfl ?_
                              refine g_icN X381 hx hby at_491 (teq (by simp [own_beq h_tA h_tB, own_beq h_cA h_cB, own_beq h_kA h_kB, own_beq h_dA h_dB, own_m1 h_chA, own_m1' h_chA, own_m1 h_chB, own_m1' h_chB, hc430_87, hc444_88, hc451_89] : (if posA = posB ∧ (-1 : Int32) = (-1 : Int32) ∧ (nar .byte (tA.toInt8.toInt32)) = (nar .byte (tB.toInt8.toInt32)) ∧ (nar .byte (cA.toInt8.toInt32)) = (nar .byte (cB.toInt8.toInt32)) ∧ colA = colB ∧ (nar .byte (kA.toInt8.toInt32)) = (nar .byte (kB.toInt8.toInt32)) ∧ (nar .byte (dA.toInt8.toInt32)) = (nar .byte (dB.toInt8.toInt32)) then 1 else 0 : Int32) = (0 : Int32))).2 ?_
                              refine g_iconst X381 hx hby (1 : Int32) at_494 rfl ?_
                              refine g_goto X381 hx hby 499 at_495 (by decide) (by decide) ?_
                              refine g_nretW X381 hx hby (t := .boolean) (by simp) Bd.returns Bd.notSynchronized hS62 at_499 eh381 (Nat.le_refl _) (by decide) (by decide) ?_
                              show (Q_law Z y0 y1 y2 y3 sel cz h0 n0) (some (.int (1 : Int32))) _ _
                              exact ⟨rfl, N381⟩
                          · skip
                            refine g_icY X62 hx hby 479 at_444 (feq hc444_88).2 (by decide) (by decide) ?_
                            refine g_iconst X62 hx hby (0 : Int32) at_479 rfl ?_
                            refine g_istore X62 hx hby at_480 (l' := #[.val (.long y0), .second, .val (.long y1), .second, .val (.long y2), .second, .val (.long y3), .second, .val (.int sel), .val (.int posA), .val (.int posB), .val (.int colA), .val (.int colB), .val (.int (own_bit sel (4 : Int32))), .val (.int (own_bit sel (5 : Int32))), .val (.int chA), .val (.int chB), .val (.int tA), .val (.int cA), .val (.int kA), .val (.int dA), .val (.int tB), .val (.int cB), .val (.int kB), .val (.int dB), .val (.ref b22), .val (.ref b49), .val (.int (sel &&& (7 : Int32))), .val (.ref b49), .val (.int (-1 : Int32)), .val (.int (-1 : Int32)), .val (.int (0 : Int32))]) rfl ?_
                            refine g_aload X62 hx hby at_482 rfl rfl ?_
                            refine g_aload X62 hx hby at_484 rfl rfl ?_
                            have f454 := ((((((pE35.ext E49).keep K50).keep K53).keep K56).keep K59).keep K62)
                            have ne455 : b22 ≠ b49 := (Nat.ne_of_lt (Nat.lt_of_lt_of_le A22.lt (Nat.le_trans (Nat.le_trans (Nat.le_trans (Nat.le_trans (Nat.le_trans K23.1 K26.1) K29.1) K32.1) K35.1) (Nat.le_of_eq g49))))
                            have f456 := ((((((pa35.ext E49).keep K50 nin0).keep K53 nin0).keep K56 nin0).keep K59 nin0).keep K62 (ninS ne455 nin0))
                            have f457 := ((((((pb35.ext E49).keep K50 nin0).keep K53 nin0).keep K56 nin0).keep K59 nin0).keep K62 (ninS ne455 nin0))
                            have f458 := ((((((pc35.ext E49).keep K50 nin0).keep K53 nin0).keep K56 nin0).keep K59 nin0).keep K62 (ninS ne455 nin0))
                            have f459 := ((((((pd35.ext E49).keep K50 nin0).keep K53 nin0).keep K56 nin0).keep K59 nin0).keep K62 (ninS ne455 nin0))
                            have f460 := ((((((pe35.ext E49).keep K50 nin0).keep K53 nin0).keep K56 nin0).keep K59 nin0).keep K62 (ninS ne455 nin0))
                            have f461 := ((((((pf35.ext E49).keep K50 nin0).keep K53 nin0).keep K56 nin0).keep K59 nin0).keep K62 (ninS ne455 nin0))
                            have f462 := ((((((pg35.ext E49).keep K50 nin0).keep K53 nin0).keep K56 nin0).keep K59 nin0).keep K62 (ninS ne455 nin0))
                            have f463 := (((((((f44.keep K35).ext E49).keep K50).keep K53).keep K56).keep K59).keep K62)
                            have ne464 : s23 ≠ b22 := (Ne.symm (Nat.ne_of_lt (Nat.lt_of_lt_of_le A22.lt ls23)))
                            have ne465 : s23 ≠ b49 := (Nat.ne_of_lt (Nat.lt_of_lt_of_le Es23.lt (Nat.le_trans (Nat.le_trans (Nat.le_trans (Nat.le_trans K26.1 K29.1) K32.1) K35.1) (Nat.le_of_eq g49))))
                            have f466 := ((((((((((Cs23.keep K26 nin0).keep K29 nin0).keep K32 nin0).keep K35 (ninS ne464 nin0)).ext E49).keep K50 nin0).keep K53 nin0).keep K56 nin0).keep K59 nin0).keep K62 (ninS ne465 nin0))
                            have f467 := ((((((((((Vs23.keep K26 nin0).keep K29 nin0).keep K32 nin0).keep K35 (ninS ne464 nin0)).ext E49).keep K50 nin0).keep K53 nin0).keep K56 nin0).keep K59 nin0).keep K62 (ninS ne465 nin0))
                            have ne468 : t23 ≠ b22 := (Ne.symm (Nat.ne_of_lt (Nat.lt_of_lt_of_le A22.lt lo23)))
                            have ne469 : t23 ≠ b49 := (Nat.ne_of_lt (Nat.lt_of_lt_of_le Bs23.lt (Nat.le_trans (Nat.le_trans (Nat.le_trans (Nat.le_trans K26.1 K29.1) K32.1) K35.1) (Nat.le_of_eq g49))))
                            have f470 := ((((((((((Bs23.keep K26 nin0).keep K29 nin0).keep K32 nin0).keep K35 (ninS ne468 nin0)).ext E49).keep K50 nin0).keep K53 nin0).keep K56 nin0).keep K59 nin0).keep K62 (ninS ne469 nin0))
                            have f471 := (((((((f45.keep K35).ext E49).keep K50).keep K53).keep K56).keep K59).keep K62)
                            have ne472 : s26 ≠ b22 := (Ne.symm (Nat.ne_of_lt (Nat.lt_of_lt_of_le A22.lt (Nat.le_trans K23.1 ls26))))
                            have ne473 : s26 ≠ b49 := (Nat.ne_of_lt (Nat.lt_of_lt_of_le Es26.lt (Nat.le_trans (Nat.le_trans (Nat.le_trans K29.1 K32.1) K35.1) (Nat.le_of_eq g49))))
                            have f474 := (((((((((Cs26.keep K29 nin0).keep K32 nin0).keep K35 (ninS ne472 nin0)).ext E49).keep K50 nin0).keep K53 nin0).keep K56 nin0).keep K59 nin0).keep K62 (ninS ne473 nin0))
                            have f475 := (((((((((Vs26.keep K29 nin0).keep K32 nin0).keep K35 (ninS ne472 nin0)).ext E49).keep K50 nin0).keep K53 nin0).keep K56 nin0).keep K59 nin0).keep K62 (ninS ne473 nin0))
                            have ne476 : t26 ≠ b22 := (Ne.symm (Nat.ne_of_lt (Nat.lt_of_lt_of_le A22.lt (Nat.le_trans K23.1 lo26))))
                            have ne477 : t26 ≠ b49 := (Nat.ne_of_lt (Nat.lt_of_lt_of_le Bs26.lt (Nat.le_trans (Nat.le_trans (Nat.le_trans K29.1 K32.1) K35.1) (Nat.le_of_eq g49))))
                            have f478 := (((((((((Bs26.keep K29 nin0).keep K32 nin0).keep K35 (ninS ne476 nin0)).ext E49).keep K50 nin0).keep K53 nin0).keep K56 nin0).keep K59 nin0).keep K62 (ninS ne477 nin0))
                            have f479 := (((((((f46.keep K35).ext E49).keep K50).keep K53).keep K56).keep K59).keep K62)
                            have ne480 : s29 ≠ b22 := (Ne.symm (Nat.ne_of_lt (Nat.lt_of_lt_of_le A22.lt (Nat.le_trans (Nat.le_trans K23.1 K26.1) ls29))))
                            have ne481 : s29 ≠ b49 := (Nat.ne_of_lt (Nat.lt_of_lt_of_le Es29.lt (Nat.le_trans (Nat.le_trans K32.1 K35.1) (Nat.le_of_eq g49))))
                            have f482 := ((((((((Cs29.keep K32 nin0).keep K35 (ninS ne480 nin0)).ext E49).keep K50 nin0).keep K53 nin0).keep K56 nin0).keep K59 nin0).keep K62 (ninS ne481 nin0))
                            have f483 := ((((((((Vs29.keep K32 nin0).keep K35 (ninS ne480 nin0)).ext E49).keep K50 nin0).keep K53 nin0).keep K56 nin0).keep K59 nin0).keep K62 (ninS ne481 nin0))
                            have ne484 : t29 ≠ b22 := (Ne.symm (Nat.ne_of_lt (Nat.lt_of_lt_of_le A22.lt (Nat.le_trans (Nat.le_trans K23.1 K26.1) lo29))))
                            have ne485 : t29 ≠ b49 := (Nat.ne_of_lt (Nat.lt_of_lt_of_le Bs29.lt (Nat.le_trans (Nat.le_trans K32.1 K35.1) (Nat.le_of_eq g49))))
                            have f486 := ((((((((Bs29.keep K32 nin0).keep K35 (ninS ne484 nin0)).ext E49).keep K50 nin0).keep K53 nin0).keep K56 nin0).keep K59 nin0).keep K62 (ninS ne485 nin0))
                            have f487 := (((((((Es32.keep K35).ext E49).keep K50).keep K53).keep K56).keep K59).keep K62)
                            have ne488 : s32 ≠ b22 := (Ne.symm (Nat.ne_of_lt (Nat.lt_of_lt_of_le A22.lt (Nat.le_trans (Nat.le_trans (Nat.le_trans K23.1 K26.1) K29.1) ls32))))
                            have ne489 : s32 ≠ b49 := (Nat.ne_of_lt (Nat.lt_of_lt_of_le Es32.lt (Nat.le_trans K35.1 (Nat.le_of_eq g49))))
                            have f490 := (((((((Cs32.keep K35 (ninS ne488 nin0)).ext E49).keep K50 nin0).keep K53 nin0).keep K56 nin0).keep K59 nin0).keep K62 (ninS ne489 nin0))
                            have f491 := (((((((Vs32.keep K35 (ninS ne488 nin0)).ext E49).keep K50 nin0).keep K53 nin0).keep K56 nin0).keep K59 nin0).keep K62 (ninS ne489 nin0))
                            have ne492 : t32 ≠ b22 := (Ne.symm (Nat.ne_of_lt (Nat.lt_of_lt_of_le A22.lt (Nat.le_trans (Nat.le_trans (Nat.le_trans K23.1 K26.1) K29.1) lo32))))
                            have ne493 : t32 ≠ b49 := (Nat.ne_of_lt (Nat.lt_of_lt_of_le Bs32.lt (Nat.le_trans K35.1 (Nat.le_of_eq g49))))
                            have f494 := (((((((Bs32.keep K35 (ninS ne492 nin0)).ext E49).keep K50 nin0).keep K53 nin0).keep K56 nin0).keep K59 nin0).keep K62 (ninS ne493 nin0))
                            have f495 := (f71.keep K62)
                            have ne496 : s50 ≠ b49 := (Ne.symm (Nat.ne_of_lt (Nat.lt_of_lt_of_le A49.lt ls50)))
                            have f497 := ((((Cs50.keep K53 nin0).keep K56 nin0).keep K59 nin0).keep K62 (ninS ne496 nin0))
                            have f498 := ((((Vs50.keep K53 nin0).keep K56 nin0).keep K59 nin0).keep K62 (ninS ne496 nin0))
                            have ne499 : t50 ≠ b49 := (Ne.symm (Nat.ne_of_lt (Nat.lt_of_lt_of_le A49.lt lo50)))
                            have f500 := ((((Bs50.keep K53 nin0).keep K56 nin0).keep K59 nin0).keep K62 (ninS ne499 nin0))
                            have f501 := (f72.keep K62)
                            have ne502 : s53 ≠ b49 := (Ne.symm (Nat.ne_of_lt (Nat.lt_of_lt_of_le A49.lt (Nat.le_trans K50.1 ls53))))
                            have f503 := (((Cs53.keep K56 nin0).keep K59 nin0).keep K62 (ninS ne502 nin0))
                            have f504 := (((Vs53.keep K56 nin0).keep K59 nin0).keep K62 (ninS ne502 nin0))
                            have ne505 : t53 ≠ b49 := (Ne.symm (Nat.ne_of_lt (Nat.lt_of_lt_of_le A49.lt (Nat.le_trans K50.1 lo53))))
                            have f506 := (((Bs53.keep K56 nin0).keep K59 nin0).keep K62 (ninS ne505 nin0))
                            have f507 := (f73.keep K62)
                            have ne508 : s56 ≠ b49 := (Ne.symm (Nat.ne_of_lt (Nat.lt_of_lt_of_le A49.lt (Nat.le_trans (Nat.le_trans K50.1 K53.1) ls56))))
                            have f509 := ((Cs56.keep K59 nin0).keep K62 (ninS ne508 nin0))
                            have f510 := ((Vs56.keep K59 nin0).keep K62 (ninS ne508 nin0))
                            have ne511 : t56 ≠ b49 := (Ne.symm (Nat.ne_of_lt (Nat.lt_of_lt_of_le A49.lt (Nat.le_trans (Nat.le_trans K50.1 K53.1) lo56))))
                            have f512 := ((Bs56.keep K59 nin0).keep K62 (ninS ne511 nin0))
                            have f513 := (Es59.keep K62)
                            have ne514 : s59 ≠ b49 := (Ne.symm (Nat.ne_of_lt (Nat.lt_of_lt_of_le A49.lt (Nat.le_trans (Nat.le_trans (Nat.le_trans K50.1 K53.1) K56.1) ls59))))
                            have f515 := (Cs59.keep K62 (ninS ne514 nin0))
                            have f516 := (Vs59.keep K62 (ninS ne514 nin0))
                            have ne517 : t59 ≠ b49 := (Ne.symm (Nat.ne_of_lt (Nat.lt_of_lt_of_le A49.lt (Nat.le_trans (Nat.le_trans (Nat.le_trans K50.1 K53.1) K56.1) lo59))))
                            have f518 := (Bs59.keep K62 (ninS ne517 nin0))
                            have ne519 : s23 ≠ s50 := (Nat.ne_of_lt (Nat.lt_of_lt_of_le Es23.lt (Nat.le_trans (Nat.le_trans (Nat.le_trans (Nat.le_trans (Nat.le_trans K26.1 K29.1) K32.1) K35.1) E49.1) ls50)))
                            have ne520 : s26 ≠ s53 := (Nat.ne_of_lt (Nat.lt_of_lt_of_le Es26.lt (Nat.le_trans (Nat.le_trans (Nat.le_trans (Nat.le_trans (Nat.le_trans K29.1 K32.1) K35.1) E49.1) K50.1) ls53)))
                            have ne521 : s29 ≠ s56 := (Nat.ne_of_lt (Nat.lt_of_lt_of_le Es29.lt (Nat.le_trans (Nat.le_trans (Nat.le_trans (Nat.le_trans (Nat.le_trans K32.1 K35.1) E49.1) K50.1) K53.1) ls56)))
                            have ne522 : s32 ≠ s59 := (Nat.ne_of_lt (Nat.lt_of_lt_of_le Es32.lt (Nat.le_trans (Nat.le_trans (Nat.le_trans (Nat.le_trans (Nat.le_trans K35.1 E49.1) K50.1) K53.1) K56.1) ls59)))
                            have f523 := ((f60.keep K59 all0).keep K62 (allS g_b49 all0))
                            have z524 := (Nat.le_trans z74 K62.1)
                            refine g_virtual X62 hx hby hZ62 ho62 (rm_peqp l Z a0 hw [] b22 b49 posA (-1 : Int32) s23 s26 colA s29 s32 t23 kb23 (nar .byte (tA.toInt8.toInt32)) t26 kb26 (nar .byte (cA.toInt8.toInt32)) t29 kb29 (nar .byte (kA.toInt8.toInt32)) t32 kb32 (nar .byte (dA.toInt8.toInt32)) posB (-1 : Int32) s50 s53 colB s56 s59 t50 kb50 (nar .byte (tB.toInt8.toInt32)) t53 kb53 (nar .byte (cB.toInt8.toInt32)) t56 kb56 (nar .byte (kB.toInt8.toInt32)) t59 kb59 (nar .byte (dB.toInt8.toInt32)) cz T62.heap n0 z524 O2 P5 f523 ⟨f454, f456, f457, f458, f459, f460, f461, f462⟩ ⟨pE62, pa62, pb62, pc62, pd62, pe62, pf62, pg62⟩ f463 f466 f467 f470 f471 f474 f475 f478 f479 f482 f483 f486 f487 f490 f491 f494 f495 f497 f498 f500 f501 f503 f504 f506 f507 f509 f510 f512 f513 f515 f516 f518 ne519 ne520 ne521 ne522) w74_ w75_ (notFace_of_selects (args := #[]) (mvT hZ62 w77_)) w77_ w76_ w15_ w78_ (by decide) rfl f454 (by rw [hml]; rfl) [(.ref b49)] (lenOf own_pd1 rfl) rfl rfl (Nat.le_of_ble_eq_true rfl) (Nat.le_of_ble_eq_true rfl) (Nat.le_of_ble_eq_true rfl) (Nat.le_of_ble_eq_true rfl) at_486 (fun v453 T453 L453 X453 hQ453 => ?_)
                            obtain ⟨rfl, N453q, eh453⟩ := hQ453
                            have N453 := Fr.app N62 N453q
                            refine g_iload X453 hx hby at_489 rfl ?_
                            refine g_icN X453 hx hby at_491 (teq (by simp [own_beq h_tA h_tB, own_beq h_cA h_cB, own_beq h_kA h_kB, own_beq h_dA h_dB, own_m1 h_chA, own_m1' h_chA, own_m1 h_chB, own_m1' h_chB, hc430_87, hc444_88] : (if posA = posB ∧ (-1 : Int32) = (-1 : Int32) ∧ (nar .byte (tA.toInt8.toInt32)) = (nar .byte (tB.toInt8.toInt32)) ∧ (nar .byte (cA.toInt8.toInt32)) = (nar .byte (cB.toInt8.toInt32)) ∧ colA = colB ∧ (nar .byte (kA.toInt8.toInt32)) = (nar .byte (kB.toInt8.toInt32)) ∧ (nar .byte (dA.toInt8.toInt32)) = (nar .byte (dB.toInt8.toInt32)) then 1 else 0 : Int32) = (0 : Int32))).2 ?_
                            refine g_iconst X453 hx hby (1 : Int32) at_494 rfl ?_
                            refine g_goto X453 hx hby 499 at_495 (by decide) (by decide) ?_
                            refine g_nretW X453 hx hby (t := .boolean) (by simp) Bd.returns Bd.notSynchronized hS62 at_499 eh453 (Nat.le_refl _) (by decide) (by decide) ?_
                            show (Q_law Z y0 y1 y2 y3 sel cz h0 n0) (some (.int (1 : Int32))) _ _
                            exact ⟨rfl, N453⟩
                        · skip
                          refine g_icY X62 hx hby 479 at_430 (feq hc430_87).2 (by decide) (by decide) ?_
                          refine g_iconst X62 hx hby (0 : Int32) at_479 rfl ?_
                          refine g_istore X62 hx hby at_480 (l' := #[.val (.long y0), .second, .val (.long y1), .second, .val (.long y2), .second, .val (.long y3), .second, .val (.int sel), .val (.int posA), .val (.int posB), .val (.int colA), .val (.int colB), .val (.int (own_bit sel (4 : Int32))), .val (.int (own_bit sel (5 : Int32))), .val (.int chA), .val (.int chB), .val (.int tA), .val (.int cA), .val (.int kA), .val (.int dA), .val (.int tB), .val (.int cB), .val (.int kB), .val (.int dB), .val (.ref b22), .val (.ref b49), .val (.int (sel &&& (7 : Int32))), .val (.ref b49), .val (.int (-1 : Int32)), .val (.int (-1 : Int32)), .val (.int (0 : Int32))]) rfl ?_
                          refine g_aload X62 hx hby at_482 rfl rfl ?_
                          refine g_aload X62 hx hby at_484 rfl rfl ?_
                          have f526 := ((((((pE35.ext E49).keep K50).keep K53).keep K56).keep K59).keep K62)
                          have ne527 : b22 ≠ b49 := (Nat.ne_of_lt (Nat.lt_of_lt_of_le A22.lt (Nat.le_trans (Nat.le_trans (Nat.le_trans (Nat.le_trans (Nat.le_trans K23.1 K26.1) K29.1) K32.1) K35.1) (Nat.le_of_eq g49))))
                          have f528 := ((((((pa35.ext E49).keep K50 nin0).keep K53 nin0).keep K56 nin0).keep K59 nin0).keep K62 (ninS ne527 nin0))
                          have f529 := ((((((pb35.ext E49).keep K50 nin0).keep K53 nin0).keep K56 nin0).keep K59 nin0).keep K62 (ninS ne527 nin0))
                          have f530 := ((((((pc35.ext E49).keep K50 nin0).keep K53 nin0).keep K56 nin0).keep K59 nin0).keep K62 (ninS ne527 nin0))
                          have f531 := ((((((pd35.ext E49).keep K50 nin0).keep K53 nin0).keep K56 nin0).keep K59 nin0).keep K62 (ninS ne527 nin0))
                          have f532 := ((((((pe35.ext E49).keep K50 nin0).keep K53 nin0).keep K56 nin0).keep K59 nin0).keep K62 (ninS ne527 nin0))
                          have f533 := ((((((pf35.ext E49).keep K50 nin0).keep K53 nin0).keep K56 nin0).keep K59 nin0).keep K62 (ninS ne527 nin0))
                          have f534 := ((((((pg35.ext E49).keep K50 nin0).keep K53 nin0).keep K56 nin0).keep K59 nin0).keep K62 (ninS ne527 nin0))
                          have f535 := (((((((f44.keep K35).ext E49).keep K50).keep K53).keep K56).keep K59).keep K62)
                          have ne536 : s23 ≠ b22 := (Ne.symm (Nat.ne_of_lt (Nat.lt_of_lt_of_le A22.lt ls23)))
                          have ne537 : s23 ≠ b49 := (Nat.ne_of_lt (Nat.lt_of_lt_of_le Es23.lt (Nat.le_trans (Nat.le_trans (Nat.le_trans (Nat.le_trans K26.1 K29.1) K32.1) K35.1) (Nat.le_of_eq g49))))
                          have f538 := ((((((((((Cs23.keep K26 nin0).keep K29 nin0).keep K32 nin0).keep K35 (ninS ne536 nin0)).ext E49).keep K50 nin0).keep K53 nin0).keep K56 nin0).keep K59 nin0).keep K62 (ninS ne537 nin0))
                          have f539 := ((((((((((Vs23.keep K26 nin0).keep K29 nin0).keep K32 nin0).keep K35 (ninS ne536 nin0)).ext E49).keep K50 nin0).keep K53 nin0).keep K56 nin0).keep K59 nin0).keep K62 (ninS ne537 nin0))
                          have ne540 : t23 ≠ b22 := (Ne.symm (Nat.ne_of_lt (Nat.lt_of_lt_of_le A22.lt lo23)))
                          have ne541 : t23 ≠ b49 := (Nat.ne_of_lt (Nat.lt_of_lt_of_le Bs23.lt (Nat.le_trans (Nat.le_trans (Nat.le_trans (Nat.le_trans K26.1 K29.1) K32.1) K35.1) (Nat.le_of_eq g49))))
                          have f542 := ((((((((((Bs23.keep K26 nin0).keep K29 nin0).keep K32 nin0).keep K35 (ninS ne540 nin0)).ext E49).keep K50 nin0).keep K53 nin0).keep K56 nin0).keep K59 nin0).keep K62 (ninS ne541 nin0))
                          have f543 := (((((((f45.keep K35).ext E49).keep K50).keep K53).keep K56).keep K59).keep K62)
                          have ne544 : s26 ≠ b22 := (Ne.symm (Nat.ne_of_lt (Nat.lt_of_lt_of_le A22.lt (Nat.le_trans K23.1 ls26))))
                          have ne545 : s26 ≠ b49 := (Nat.ne_of_lt (Nat.lt_of_lt_of_le Es26.lt (Nat.le_trans (Nat.le_trans (Nat.le_trans K29.1 K32.1) K35.1) (Nat.le_of_eq g49))))
                          have f546 := (((((((((Cs26.keep K29 nin0).keep K32 nin0).keep K35 (ninS ne544 nin0)).ext E49).keep K50 nin0).keep K53 nin0).keep K56 nin0).keep K59 nin0).keep K62 (ninS ne545 nin0))
                          have f547 := (((((((((Vs26.keep K29 nin0).keep K32 nin0).keep K35 (ninS ne544 nin0)).ext E49).keep K50 nin0).keep K53 nin0).keep K56 nin0).keep K59 nin0).keep K62 (ninS ne545 nin0))
                          have ne548 : t26 ≠ b22 := (Ne.symm (Nat.ne_of_lt (Nat.lt_of_lt_of_le A22.lt (Nat.le_trans K23.1 lo26))))
                          have ne549 : t26 ≠ b49 := (Nat.ne_of_lt (Nat.lt_of_lt_of_le Bs26.lt (Nat.le_trans (Nat.le_trans (Nat.le_trans K29.1 K32.1) K35.1) (Nat.le_of_eq g49))))
                          have f550 := (((((((((Bs26.keep K29 nin0).keep K32 nin0).keep K35 (ninS ne548 nin0)).ext E49).keep K50 nin0).keep K53 nin0).keep K56 nin0).keep K59 nin0).keep K62 (ninS ne549 nin0))
                          have f551 := (((((((f46.keep K35).ext E49).keep K50).keep K53).keep K56).keep K59).keep K62)
                          have ne552 : s29 ≠ b22 := (Ne.symm (Nat.ne_of_lt (Nat.lt_of_lt_of_le A22.lt (Nat.le_trans (Nat.le_trans K23.1 K26.1) ls29))))
                          have ne553 : s29 ≠ b49 := (Nat.ne_of_lt (Nat.lt_of_lt_of_le Es29.lt (Nat.le_trans (Nat.le_trans K32.1 K35.1) (Nat.le_of_eq g49))))
                          have f554 := ((((((((Cs29.keep K32 nin0).keep K35 (ninS ne552 nin0)).ext E49).keep K50 nin0).keep K53 nin0).keep K56 nin0).keep K59 nin0).keep K62 (ninS ne553 nin0))
                          have f555 := ((((((((Vs29.keep K32 nin0).keep K35 (ninS ne552 nin0)).ext E49).keep K50 nin0).keep K53 nin0).keep K56 nin0).keep K59 nin0).keep K62 (ninS ne553 nin0))
                          have ne556 : t29 ≠ b22 := (Ne.symm (Nat.ne_of_lt (Nat.lt_of_lt_of_le A22.lt (Nat.le_trans (Nat.le_trans K23.1 K26.1) lo29))))
                          have ne557 : t29 ≠ b49 := (Nat.ne_of_lt (Nat.lt_of_lt_of_le Bs29.lt (Nat.le_trans (Nat.le_trans K32.1 K35.1) (Nat.le_of_eq g49))))
                          have f558 := ((((((((Bs29.keep K32 nin0).keep K35 (ninS ne556 nin0)).ext E49).keep K50 nin0).keep K53 nin0).keep K56 nin0).keep K59 nin0).keep K62 (ninS ne557 nin0))
                          have f559 := (((((((Es32.keep K35).ext E49).keep K50).keep K53).keep K56).keep K59).keep K62)
                          have ne560 : s32 ≠ b22 := (Ne.symm (Nat.ne_of_lt (Nat.lt_of_lt_of_le A22.lt (Nat.le_trans (Nat.le_trans (Nat.le_trans K23.1 K26.1) K29.1) ls32))))
                          have ne561 : s32 ≠ b49 := (Nat.ne_of_lt (Nat.lt_of_lt_of_le Es32.lt (Nat.le_trans K35.1 (Nat.le_of_eq g49))))
                          have f562 := (((((((Cs32.keep K35 (ninS ne560 nin0)).ext E49).keep K50 nin0).keep K53 nin0).keep K56 nin0).keep K59 nin0).keep K62 (ninS ne561 nin0))
                          have f563 := (((((((Vs32.keep K35 (ninS ne560 nin0)).ext E49).keep K50 nin0).keep K53 nin0).keep K56 nin0).keep K59 nin0).keep K62 (ninS ne561 nin0))
                          have ne564 : t32 ≠ b22 := (Ne.symm (Nat.ne_of_lt (Nat.lt_of_lt_of_le A22.lt (Nat.le_trans (Nat.le_trans (Nat.le_trans K23.1 K26.1) K29.1) lo32))))
                          have ne565 : t32 ≠ b49 := (Nat.ne_of_lt (Nat.lt_of_lt_of_le Bs32.lt (Nat.le_trans K35.1 (Nat.le_of_eq g49))))
                          have f566 := (((((((Bs32.keep K35 (ninS ne564 nin0)).ext E49).keep K50 nin0).keep K53 nin0).keep K56 nin0).keep K59 nin0).keep K62 (ninS ne565 nin0))
                          have f567 := (f71.keep K62)
                          have ne568 : s50 ≠ b49 := (Ne.symm (Nat.ne_of_lt (Nat.lt_of_lt_of_le A49.lt ls50)))
                          have f569 := ((((Cs50.keep K53 nin0).keep K56 nin0).keep K59 nin0).keep K62 (ninS ne568 nin0))
                          have f570 := ((((Vs50.keep K53 nin0).keep K56 nin0).keep K59 nin0).keep K62 (ninS ne568 nin0))
                          have ne571 : t50 ≠ b49 := (Ne.symm (Nat.ne_of_lt (Nat.lt_of_lt_of_le A49.lt lo50)))
                          have f572 := ((((Bs50.keep K53 nin0).keep K56 nin0).keep K59 nin0).keep K62 (ninS ne571 nin0))
                          have f573 := (f72.keep K62)
                          have ne574 : s53 ≠ b49 := (Ne.symm (Nat.ne_of_lt (Nat.lt_of_lt_of_le A49.lt (Nat.le_trans K50.1 ls53))))
                          have f575 := (((Cs53.keep K56 nin0).keep K59 nin0).keep K62 (ninS ne574 nin0))
                          have f576 := (((Vs53.keep K56 nin0).keep K59 nin0).keep K62 (ninS ne574 nin0))
                          have ne577 : t53 ≠ b49 := (Ne.symm (Nat.ne_of_lt (Nat.lt_of_lt_of_le A49.lt (Nat.le_trans K50.1 lo53))))
                          have f578 := (((Bs53.keep K56 nin0).keep K59 nin0).keep K62 (ninS ne577 nin0))
                          have f579 := (f73.keep K62)
                          have ne580 : s56 ≠ b49 := (Ne.symm (Nat.ne_of_lt (Nat.lt_of_lt_of_le A49.lt (Nat.le_trans (Nat.le_trans K50.1 K53.1) ls56))))
                          have f581 := ((Cs56.keep K59 nin0).keep K62 (ninS ne580 nin0))
                          have f582 := ((Vs56.keep K59 nin0).keep K62 (ninS ne580 nin0))
                          have ne583 : t56 ≠ b49 := (Ne.symm (Nat.ne_of_lt (Nat.lt_of_lt_of_le A49.lt (Nat.le_trans (Nat.le_trans K50.1 K53.1) lo56))))
                          have f584 := ((Bs56.keep K59 nin0).keep K62 (ninS ne583 nin0))
                          have f585 := (Es59.keep K62)
                          have ne586 : s59 ≠ b49 := (Ne.symm (Nat.ne_of_lt (Nat.lt_of_lt_of_le A49.lt (Nat.le_trans (Nat.le_trans (Nat.le_trans K50.1 K53.1) K56.1) ls59))))
                          have f587 := (Cs59.keep K62 (ninS ne586 nin0))
                          have f588 := (Vs59.keep K62 (ninS ne586 nin0))
                          have ne589 : t59 ≠ b49 := (Ne.symm (Nat.ne_of_lt (Nat.lt_of_lt_of_le A49.lt (Nat.le_trans (Nat.le_trans (Nat.le_trans K50.1 K53.1) K56.1) lo59))))
                          have f590 := (Bs59.keep K62 (ninS ne589 nin0))
                          have ne591 : s23 ≠ s50 := (Nat.ne_of_lt (Nat.lt_of_lt_of_le Es23.lt (Nat.le_trans (Nat.le_trans (Nat.le_trans (Nat.le_trans (Nat.le_trans K26.1 K29.1) K32.1) K35.1) E49.1) ls50)))
                          have ne592 : s26 ≠ s53 := (Nat.ne_of_lt (Nat.lt_of_lt_of_le Es26.lt (Nat.le_trans (Nat.le_trans (Nat.le_trans (Nat.le_trans (Nat.le_trans K29.1 K32.1) K35.1) E49.1) K50.1) ls53)))
                          have ne593 : s29 ≠ s56 := (Nat.ne_of_lt (Nat.lt_of_lt_of_le Es29.lt (Nat.le_trans (Nat.le_trans (Nat.le_trans (Nat.le_trans (Nat.le_trans K32.1 K35.1) E49.1) K50.1) K53.1) ls56)))
                          have ne594 : s32 ≠ s59 := (Nat.ne_of_lt (Nat.lt_of_lt_of_le Es32.lt (Nat.le_trans (Nat.le_trans (Nat.le_trans (Nat.le_trans (Nat.le_trans K35.1 E49.1) K50.1) K53.1) K56.1) ls59)))
                          have f595 := ((f60.keep K59 all0).keep K62 (allS g_b49 all0))
                          have z596 := (Nat.le_trans z74 K62.1)
                          refine g_virtual X62 hx hby hZ62 ho62 (rm_peqp l Z a0 hw [] b22 b49 posA (-1 : Int32) s23 s26 colA s29 s32 t23 kb23 (nar .byte (tA.toInt8.toInt32)) t26 kb26 (nar .byte (cA.toInt8.toInt32)) t29 kb29 (nar .byte (kA.toInt8.toInt32)) t32 kb32 (nar .byte (dA.toInt8.toInt32)) posB (-1 : Int32) s50 s53 colB s56 s59 t50 kb50 (nar .byte (tB.toInt8.toInt32)) t53 kb53 (nar .byte (cB.toInt8.toInt32)) t56 kb56 (nar .byte (kB.toInt8.toInt32)) t59 kb59 (nar .byte (dB.toInt8.toInt32)) cz T62.heap n0 z596 O2 P5 f595 ⟨f526, f528, f529, f530, f531, f532, f533, f534⟩ ⟨pE62, pa62, pb62, pc62, pd62, pe62, pf62, pg62⟩ f535 f538 f539 f542 f543 f546 f547 f550 f551 f554 f555 f558 f559 f562 f563 f566 f567 f569 f570 f572 f573 f575 f576 f578 f579 f581 f582 f584 f585 f587 f588 f590 ne591 ne592 ne593 ne594) w74_ w75_ (notFace_of_selects (args := #[]) (mvT hZ62 w77_)) w77_ w76_ w15_ w78_ (by decide) rfl f526 (by rw [hml]; rfl) [(.ref b49)] (lenOf own_pd1 rfl) rfl rfl (Nat.le_of_ble_eq_true rfl) (Nat.le_of_ble_eq_true rfl) (Nat.le_of_ble_eq_true rfl) (Nat.le_of_ble_eq_true rfl) at_486 (fun v525 T525 L525 X525 hQ525 => ?_)
                          obtain ⟨rfl, N525q, eh525⟩ := hQ525
                          have N525 := Fr.app N62 N525q
                          refine g_iload X525 hx hby at_489 rfl ?_
                          refine g_icN X525 hx hby at_491 (teq (by simp [own_beq h_tA h_tB, own_beq h_cA h_cB, own_beq h_kA h_kB, own_beq h_dA h_dB, own_m1 h_chA, own_m1' h_chA, own_m1 h_chB, own_m1' h_chB, hc430_87] : (if posA = posB ∧ (-1 : Int32) = (-1 : Int32) ∧ (nar .byte (tA.toInt8.toInt32)) = (nar .byte (tB.toInt8.toInt32)) ∧ (nar .byte (cA.toInt8.toInt32)) = (nar .byte (cB.toInt8.toInt32)) ∧ colA = colB ∧ (nar .byte (kA.toInt8.toInt32)) = (nar .byte (kB.toInt8.toInt32)) ∧ (nar .byte (dA.toInt8.toInt32)) = (nar .byte (dB.toInt8.toInt32)) then 1 else 0 : Int32) = (0 : Int32))).2 ?_
                          refine g_iconst X525 hx hby (1 : Int32) at_494 rfl ?_
                          refine g_goto X525 hx hby 499 at_495 (by decide) (by decide) ?_
                          refine g_nretW X525 hx hby (t := .boolean) (by simp) Bd.returns Bd.notSynchronized hS62 at_499 eh525 (Nat.le_refl _) (by decide) (by decide) ?_
                          show (Q_law Z y0 y1 y2 y3 sel cz h0 n0) (some (.int (1 : Int32))) _ _
                          exact ⟨rfl, N525⟩
                  · skip
                    refine g_ifN X62 hx hby at_342 (feq hc342_75).1 ?_
                    refine g_aload X62 hx hby at_345 rfl rfl ?_
                    refine g_iload X62 hx hby at_347 rfl ?_
                    refine g_iload X62 hx hby at_349 rfl ?_
                    have f598 := (f71.keep K62)
                    have f599 := (f72.keep K62)
                    have f600 := (f73.keep K62)
                    have f601 := (Es59.keep K62)
                    have z602 := (Nat.le_trans z74 K62.1)
                    refine g_virtualW X62 hx hby hZ62 ho62 (PV := fun vm => Z.Warmed39 vm) (rm_ofchild l Z a0 hw [] b49 posB chB posB (-1 : Int32) s50 s53 colB s56 s59 T62.heap n0 z602 ⟨pE62, pa62, pb62, pc62, pd62, pe62, pf62, pg62⟩ f598 f599 f600 f601 h_posB h_chB h_colB) (fun _ q => State.Warmed39.trans hZ62 q.wide) hS62 (Nat.le_refl _) w89_ w90_ (notFace_of_selects (args := #[]) (mvT hZ62 w92_)) w92_ w91_ w15_ w93_ (by decide) rfl pE62 (by rw [hml]; rfl) [(.int posB), (.int chB)] (lenOf own_pd12 rfl) rfl rfl (Nat.le_of_ble_eq_true rfl) (Nat.le_of_ble_eq_true rfl) (Nat.le_of_ble_eq_true rfl) (Nat.le_of_ble_eq_true rfl) at_351 (fun v597 T597 L597 X597 hS597 hZ597 ho597 hQ597 => ?_)
                    obtain ⟨N597q, K597, q597, rfl, lq597, pE597, pa597, pb597, pc597, pd597, pe597, pf597, pg597⟩ := hQ597
                    have N597 := Fr.app N62 N597q
                    refine g_astore X597 hx hby at_354 rfl (l' := #[.val (.long y0), .second, .val (.long y1), .second, .val (.long y2), .second, .val (.long y3), .second, .val (.int sel), .val (.int posA), .val (.int posB), .val (.int colA), .val (.int colB), .val (.int (own_bit sel (4 : Int32))), .val (.int (own_bit sel (5 : Int32))), .val (.int chA), .val (.int chB), .val (.int tA), .val (.int cA), .val (.int kA), .val (.int dA), .val (.int tB), .val (.int cB), .val (.int kB), .val (.int dB), .val (.ref b22), .val (.ref q597), .unset, .unset, .unset, .unset, .unset]) rfl ?_
                    refine g_at 356 rfl rfl rfl ?_
                    refine g_iload X597 hx hby at_356 rfl ?_
                    refine g_bipush X597 hx hby (7 : Int32) at_358 rfl ?_
                    refine g_iand X597 hx hby at_360 ?_
                    refine g_istore X597 hx hby at_361 (l' := #[.val (.long y0), .second, .val (.long y1), .second, .val (.long y2), .second, .val (.long y3), .second, .val (.int sel), .val (.int posA), .val (.int posB), .val (.int colA), .val (.int colB), .val (.int (own_bit sel (4 : Int32))), .val (.int (own_bit sel (5 : Int32))), .val (.int chA), .val (.int chB), .val (.int tA), .val (.int cA), .val (.int kA), .val (.int dA), .val (.int tB), .val (.int cB), .val (.int kB), .val (.int dB), .val (.ref b22), .val (.ref q597), .val (.int (sel &&& (7 : Int32))), .unset, .unset, .unset, .unset]) rfl ?_
                    refine g_iload X597 hx hby at_363 rfl ?_
                    refine g_bipush X597 hx hby (7 : Int32) at_365 rfl ?_
                    by_cases hc367_603 : (sel &&& (7 : Int32)) = (7 : Int32)
                    · skip
                      refine g_icN X597 hx hby at_367 (teq hc367_603).2 ?_
                      refine g_aconst_null X597 hx hby at_370 ?_
                      refine g_goto X597 hx hby 391 at_371 (by decide) (by decide) ?_
                      refine g_astore X597 hx hby at_391 rfl (l' := #[.val (.long y0), .second, .val (.long y1), .second, .val (.long y2), .second, .val (.long y3), .second, .val (.int sel), .val (.int posA), .val (.int posB), .val (.int colA), .val (.int colB), .val (.int (own_bit sel (4 : Int32))), .val (.int (own_bit sel (5 : Int32))), .val (.int chA), .val (.int chB), .val (.int tA), .val (.int cA), .val (.int kA), .val (.int dA), .val (.int tB), .val (.int cB), .val (.int kB), .val (.int dB), .val (.ref b22), .val (.ref q597), .val (.int (sel &&& (7 : Int32))), .val .null, .unset, .unset, .unset]) rfl ?_
                      refine g_iload X597 hx hby at_393 rfl ?_
                      refine g_ifY X597 hx hby 403 at_395 (teq (hc293_48 : (own_bit sel (4 : Int32)) = (0 : Int32))).1 (by decide) (by decide) ?_
                      refine g_iconst X597 hx hby (-1 : Int32) at_403 rfl ?_
                      refine g_istore X597 hx hby at_404 (l' := #[.val (.long y0), .second, .val (.long y1), .second, .val (.long y2), .second, .val (.long y3), .second, .val (.int sel), .val (.int posA), .val (.int posB), .val (.int colA), .val (.int colB), .val (.int (own_bit sel (4 : Int32))), .val (.int (own_bit sel (5 : Int32))), .val (.int chA), .val (.int chB), .val (.int tA), .val (.int cA), .val (.int kA), .val (.int dA), .val (.int tB), .val (.int cB), .val (.int kB), .val (.int dB), .val (.ref b22), .val (.ref q597), .val (.int (sel &&& (7 : Int32))), .val .null, .val (.int (-1 : Int32)), .unset, .unset]) rfl ?_
                      refine g_iload X597 hx hby at_406 rfl ?_
                      refine g_ifN X597 hx hby at_408 (feq (hc342_75 : ¬ ((own_bit sel (5 : Int32)) = (0 : Int32)))).1 ?_
                      refine g_iload X597 hx hby at_411 rfl ?_
                      refine g_goto X597 hx hby 417 at_413 (by decide) (by decide) ?_
                      refine g_istore X597 hx hby at_417 (l' := #[.val (.long y0), .second, .val (.long y1), .second, .val (.long y2), .second, .val (.long y3), .second, .val (.int sel), .val (.int posA), .val (.int posB), .val (.int colA), .val (.int colB), .val (.int (own_bit sel (4 : Int32))), .val (.int (own_bit sel (5 : Int32))), .val (.int chA), .val (.int chB), .val (.int tA), .val (.int cA), .val (.int kA), .val (.int dA), .val (.int tB), .val (.int cB), .val (.int kB), .val (.int dB), .val (.ref b22), .val (.ref q597), .val (.int (sel &&& (7 : Int32))), .val .null, .val (.int (-1 : Int32)), .val (.int chB), .unset]) rfl ?_
                      refine g_iload X597 hx hby at_419 rfl ?_
                      refine g_bipush X597 hx hby (6 : Int32) at_421 rfl ?_
                      refine g_icY X597 hx hby 479 at_423 (flt (by rw [hc367_603]; decide : ¬ ((sel &&& (7 : Int32)) < (6 : Int32)))).2.1 (by decide) (by decide) ?_
                      refine g_iconst X597 hx hby (0 : Int32) at_479 rfl ?_
                      refine g_istore X597 hx hby at_480 (l' := #[.val (.long y0), .second, .val (.long y1), .second, .val (.long y2), .second, .val (.long y3), .second, .val (.int sel), .val (.int posA), .val (.int posB), .val (.int colA), .val (.int colB), .val (.int (own_bit sel (4 : Int32))), .val (.int (own_bit sel (5 : Int32))), .val (.int chA), .val (.int chB), .val (.int tA), .val (.int cA), .val (.int kA), .val (.int dA), .val (.int tB), .val (.int cB), .val (.int kB), .val (.int dB), .val (.ref b22), .val (.ref q597), .val (.int (sel &&& (7 : Int32))), .val .null, .val (.int (-1 : Int32)), .val (.int chB), .val (.int (0 : Int32))]) rfl ?_
                      refine g_aload X597 hx hby at_482 rfl rfl ?_
                      refine g_aload X597 hx hby at_484 rfl rfl ?_
                      have z605 := (Nat.le_trans z602 K597.1)
                      have f606 := (((((((pE35.ext E49).keep K50).keep K53).keep K56).keep K59).keep K62).keep K597)
                      refine g_virtual X597 hx hby hZ597 ho597 (rm_peqn l Z a0 hw [] b22 T597.heap n0 z605 ) w74_ w75_ (notFace_of_selects (args := #[]) (mvT hZ597 w77_)) w77_ w76_ w15_ w78_ (by decide) rfl f606 (by rw [hml]; rfl) [.null] (lenOf own_pd1 rfl) rfl rfl (Nat.le_of_ble_eq_true rfl) (Nat.le_of_ble_eq_true rfl) (Nat.le_of_ble_eq_true rfl) (Nat.le_of_ble_eq_true rfl) at_486 (fun v604 T604 L604 X604 hQ604 => ?_)
                      obtain ⟨rfl, N604q, eh604⟩ := hQ604
                      have N604 := Fr.app N597 N604q
                      refine g_iload X604 hx hby at_489 rfl ?_
                      refine g_icN X604 hx hby at_491 (teq (by decide : (0 : Int32) = (0 : Int32))).2 ?_
                      refine g_iconst X604 hx hby (1 : Int32) at_494 rfl ?_
                      refine g_goto X604 hx hby 499 at_495 (by decide) (by decide) ?_
                      refine g_nretW X604 hx hby (t := .boolean) (by simp) Bd.returns Bd.notSynchronized hS597 at_499 eh604 (Nat.le_refl _) (by decide) (by decide) ?_
                      show (Q_law Z y0 y1 y2 y3 sel cz h0 n0) (some (.int (1 : Int32))) _ _
                      exact ⟨rfl, N604⟩
                    · skip
                      refine g_icY X597 hx hby 374 at_367 (feq hc367_603).2 (by decide) (by decide) ?_
                      refine g_iload X597 hx hby at_374 rfl ?_
                      refine g_bipush X597 hx hby (6 : Int32) at_376 rfl ?_
                      by_cases hc378_607 : (sel &&& (7 : Int32)) = (6 : Int32)
                      · skip
                        refine g_icN X597 hx hby at_378 (teq hc378_607).2 ?_
                        refine g_iload X597 hx hby at_381 rfl ?_
                        have f609 := (((f60.keep K59 all0).keep K62 (allS g_b49 all0)).keep K597 all0)
                        have z610 := (Nat.le_trans z602 K597.1)
                        refine g_static X597 hx hby hZ597 ho597 (rm_valueof l Z a0 hw [] tA cz T597.heap n0 z610 O2 P5 f609 (own_c255 h_tA)) w16_ w17_ w18_ w19_ (by decide) rfl (by rw [hml]; rfl) [(.int tA)] (lenOf own_pd10 rfl) rfl rfl (Nat.le_of_ble_eq_true rfl) (Nat.le_of_ble_eq_true rfl) (Nat.le_of_ble_eq_true rfl) (Nat.le_of_ble_eq_true rfl) at_383 (fun v608 T608 L608 X608 hQ608 => ?_)
                        obtain ⟨N608q, K608, s608, t608, kb608, rfl, ls608, lo608, Es608, Cs608, Vs608, Bs608⟩ := hQ608
                        have N608 := Fr.app N597 N608q
                        refine g_goto X608 hx hby 391 at_386 (by decide) (by decide) ?_
                        refine g_astore X608 hx hby at_391 rfl (l' := #[.val (.long y0), .second, .val (.long y1), .second, .val (.long y2), .second, .val (.long y3), .second, .val (.int sel), .val (.int posA), .val (.int posB), .val (.int colA), .val (.int colB), .val (.int (own_bit sel (4 : Int32))), .val (.int (own_bit sel (5 : Int32))), .val (.int chA), .val (.int chB), .val (.int tA), .val (.int cA), .val (.int kA), .val (.int dA), .val (.int tB), .val (.int cB), .val (.int kB), .val (.int dB), .val (.ref b22), .val (.ref q597), .val (.int (sel &&& (7 : Int32))), .val (.ref s608), .unset, .unset, .unset]) rfl ?_
                        refine g_iload X608 hx hby at_393 rfl ?_
                        refine g_ifY X608 hx hby 403 at_395 (teq (hc293_48 : (own_bit sel (4 : Int32)) = (0 : Int32))).1 (by decide) (by decide) ?_
                        refine g_iconst X608 hx hby (-1 : Int32) at_403 rfl ?_
                        refine g_istore X608 hx hby at_404 (l' := #[.val (.long y0), .second, .val (.long y1), .second, .val (.long y2), .second, .val (.long y3), .second, .val (.int sel), .val (.int posA), .val (.int posB), .val (.int colA), .val (.int colB), .val (.int (own_bit sel (4 : Int32))), .val (.int (own_bit sel (5 : Int32))), .val (.int chA), .val (.int chB), .val (.int tA), .val (.int cA), .val (.int kA), .val (.int dA), .val (.int tB), .val (.int cB), .val (.int kB), .val (.int dB), .val (.ref b22), .val (.ref q597), .val (.int (sel &&& (7 : Int32))), .val (.ref s608), .val (.int (-1 : Int32)), .unset, .unset]) rfl ?_
                        refine g_iload X608 hx hby at_406 rfl ?_
                        refine g_ifN X608 hx hby at_408 (feq (hc342_75 : ¬ ((own_bit sel (5 : Int32)) = (0 : Int32)))).1 ?_
                        refine g_iload X608 hx hby at_411 rfl ?_
                        refine g_goto X608 hx hby 417 at_413 (by decide) (by decide) ?_
                        refine g_istore X608 hx hby at_417 (l' := #[.val (.long y0), .second, .val (.long y1), .second, .val (.long y2), .second, .val (.long y3), .second, .val (.int sel), .val (.int posA), .val (.int posB), .val (.int colA), .val (.int colB), .val (.int (own_bit sel (4 : Int32))), .val (.int (own_bit sel (5 : Int32))), .val (.int chA), .val (.int chB), .val (.int tA), .val (.int cA), .val (.int kA), .val (.int dA), .val (.int tB), .val (.int cB), .val (.int kB), .val (.int dB), .val (.ref b22), .val (.ref q597), .val (.int (sel &&& (7 : Int32))), .val (.ref s608), .val (.int (-1 : Int32)), .val (.int chB), .unset]) rfl ?_
                        refine g_iload X608 hx hby at_419 rfl ?_
                        refine g_bipush X608 hx hby (6 : Int32) at_421 rfl ?_
                        refine g_icY X608 hx hby 479 at_423 (flt (by rw [hc378_607]; decide : ¬ ((sel &&& (7 : Int32)) < (6 : Int32)))).2.1 (by decide) (by decide) ?_
                        refine g_iconst X608 hx hby (0 : Int32) at_479 rfl ?_
                        refine g_istore X608 hx hby at_480 (l' := #[.val (.long y0), .second, .val (.long y1), .second, .val (.long y2), .second, .val (.long y3), .second, .val (.int sel), .val (.int posA), .val (.int posB), .val (.int colA), .val (.int colB), .val (.int (own_bit sel (4 : Int32))), .val (.int (own_bit sel (5 : Int32))), .val (.int chA), .val (.int chB), .val (.int tA), .val (.int cA), .val (.int kA), .val (.int dA), .val (.int tB), .val (.int cB), .val (.int kB), .val (.int dB), .val (.ref b22), .val (.ref q597), .val (.int (sel &&& (7 : Int32))), .val (.ref s608), .val (.int (-1 : Int32)), .val (.int chB), .val (.int (0 : Int32))]) rfl ?_
                        refine g_aload X608 hx hby at_482 rfl rfl ?_
                        refine g_aload X608 hx hby at_484 rfl rfl ?_
                        have z612 := (Nat.le_trans z610 K608.1)
                        have f613 := ((((((((pE35.ext E49).keep K50).keep K53).keep K56).keep K59).keep K62).keep K597).keep K608)
                        refine g_virtual X608 hx hby hZ597 ho597 (rm_peqs l Z a0 hw [] b22 s608 T608.heap n0 z612 Es608) w74_ w75_ (notFace_of_selects (args := #[]) (mvT hZ597 w77_)) w77_ w76_ w15_ w78_ (by decide) rfl f613 (by rw [hml]; rfl) [(.ref s608)] (lenOf own_pd1 rfl) rfl rfl (Nat.le_of_ble_eq_true rfl) (Nat.le_of_ble_eq_true rfl) (Nat.le_of_ble_eq_true rfl) (Nat.le_of_ble_eq_true rfl) at_486 (fun v611 T611 L611 X611 hQ611 => ?_)
                        obtain ⟨rfl, N611q, eh611⟩ := hQ611
                        have N611 := Fr.app N608 N611q
                        refine g_iload X611 hx hby at_489 rfl ?_
                        refine g_icN X611 hx hby at_491 (teq (by decide : (0 : Int32) = (0 : Int32))).2 ?_
                        refine g_iconst X611 hx hby (1 : Int32) at_494 rfl ?_
                        refine g_goto X611 hx hby 499 at_495 (by decide) (by decide) ?_
                        refine g_nretW X611 hx hby (t := .boolean) (by simp) Bd.returns Bd.notSynchronized hS597 at_499 eh611 (Nat.le_trans (Nat.le_refl _) K608.1) (by decide) (by decide) ?_
                        show (Q_law Z y0 y1 y2 y3 sel cz h0 n0) (some (.int (1 : Int32))) _ _
                        exact ⟨rfl, N611⟩
                      · skip
                        refine g_icY X597 hx hby 389 at_378 (feq hc378_607).2 (by decide) (by decide) ?_
                        refine g_aload X597 hx hby at_389 rfl rfl ?_
                        refine g_astore X597 hx hby at_391 rfl (l' := #[.val (.long y0), .second, .val (.long y1), .second, .val (.long y2), .second, .val (.long y3), .second, .val (.int sel), .val (.int posA), .val (.int posB), .val (.int colA), .val (.int colB), .val (.int (own_bit sel (4 : Int32))), .val (.int (own_bit sel (5 : Int32))), .val (.int chA), .val (.int chB), .val (.int tA), .val (.int cA), .val (.int kA), .val (.int dA), .val (.int tB), .val (.int cB), .val (.int kB), .val (.int dB), .val (.ref b22), .val (.ref q597), .val (.int (sel &&& (7 : Int32))), .val (.ref q597), .unset, .unset, .unset]) rfl ?_
                        refine g_iload X597 hx hby at_393 rfl ?_
                        refine g_ifY X597 hx hby 403 at_395 (teq (hc293_48 : (own_bit sel (4 : Int32)) = (0 : Int32))).1 (by decide) (by decide) ?_
                        refine g_iconst X597 hx hby (-1 : Int32) at_403 rfl ?_
                        refine g_istore X597 hx hby at_404 (l' := #[.val (.long y0), .second, .val (.long y1), .second, .val (.long y2), .second, .val (.long y3), .second, .val (.int sel), .val (.int posA), .val (.int posB), .val (.int colA), .val (.int colB), .val (.int (own_bit sel (4 : Int32))), .val (.int (own_bit sel (5 : Int32))), .val (.int chA), .val (.int chB), .val (.int tA), .val (.int cA), .val (.int kA), .val (.int dA), .val (.int tB), .val (.int cB), .val (.int kB), .val (.int dB), .val (.ref b22), .val (.ref q597), .val (.int (sel &&& (7 : Int32))), .val (.ref q597), .val (.int (-1 : Int32)), .unset, .unset]) rfl ?_
                        refine g_iload X597 hx hby at_406 rfl ?_
                        refine g_ifN X597 hx hby at_408 (feq (hc342_75 : ¬ ((own_bit sel (5 : Int32)) = (0 : Int32)))).1 ?_
                        refine g_iload X597 hx hby at_411 rfl ?_
                        refine g_goto X597 hx hby 417 at_413 (by decide) (by decide) ?_
                        refine g_istore X597 hx hby at_417 (l' := #[.val (.long y0), .second, .val (.long y1), .second, .val (.long y2), .second, .val (.long y3), .second, .val (.int sel), .val (.int posA), .val (.int posB), .val (.int colA), .val (.int colB), .val (.int (own_bit sel (4 : Int32))), .val (.int (own_bit sel (5 : Int32))), .val (.int chA), .val (.int chB), .val (.int tA), .val (.int cA), .val (.int kA), .val (.int dA), .val (.int tB), .val (.int cB), .val (.int kB), .val (.int dB), .val (.ref b22), .val (.ref q597), .val (.int (sel &&& (7 : Int32))), .val (.ref q597), .val (.int (-1 : Int32)), .val (.int chB), .unset]) rfl ?_
                        refine g_iload X597 hx hby at_419 rfl ?_
                        refine g_bipush X597 hx hby (6 : Int32) at_421 rfl ?_
                        refine g_icN X597 hx hby at_423 (tlt (own_which hc367_603 hc378_607 : (sel &&& (7 : Int32)) < (6 : Int32))).2.1 ?_
                        refine g_iload X597 hx hby at_426 rfl ?_
                        refine g_iload X597 hx hby at_428 rfl ?_
                        by_cases hc430_614 : posA = posB
                        · skip
                          refine g_icN X597 hx hby at_430 (teq hc430_614).2 ?_
                          refine g_iload X597 hx hby at_433 rfl ?_
                          refine g_iload X597 hx hby at_435 rfl ?_
                          refine g_icY X597 hx hby 479 at_437 (feq (own_m1' h_chB : ¬ ((-1 : Int32) = chB))).2 (by decide) (by decide) ?_
                          refine g_iconst X597 hx hby (0 : Int32) at_479 rfl ?_
                          refine g_istore X597 hx hby at_480 (l' := #[.val (.long y0), .second, .val (.long y1), .second, .val (.long y2), .second, .val (.long y3), .second, .val (.int sel), .val (.int posA), .val (.int posB), .val (.int colA), .val (.int colB), .val (.int (own_bit sel (4 : Int32))), .val (.int (own_bit sel (5 : Int32))), .val (.int chA), .val (.int chB), .val (.int tA), .val (.int cA), .val (.int kA), .val (.int dA), .val (.int tB), .val (.int cB), .val (.int kB), .val (.int dB), .val (.ref b22), .val (.ref q597), .val (.int (sel &&& (7 : Int32))), .val (.ref q597), .val (.int (-1 : Int32)), .val (.int chB), .val (.int (0 : Int32))]) rfl ?_
                          refine g_aload X597 hx hby at_482 rfl rfl ?_
                          refine g_aload X597 hx hby at_484 rfl rfl ?_
                          have f616 := (((((((pE35.ext E49).keep K50).keep K53).keep K56).keep K59).keep K62).keep K597)
                          have ne617 : b22 ≠ b49 := (Nat.ne_of_lt (Nat.lt_of_lt_of_le A22.lt (Nat.le_trans (Nat.le_trans (Nat.le_trans (Nat.le_trans (Nat.le_trans K23.1 K26.1) K29.1) K32.1) K35.1) (Nat.le_of_eq g49))))
                          have f618 := (((((((pa35.ext E49).keep K50 nin0).keep K53 nin0).keep K56 nin0).keep K59 nin0).keep K62 (ninS ne617 nin0)).keep K597 nin0)
                          have f619 := (((((((pb35.ext E49).keep K50 nin0).keep K53 nin0).keep K56 nin0).keep K59 nin0).keep K62 (ninS ne617 nin0)).keep K597 nin0)
                          have f620 := (((((((pc35.ext E49).keep K50 nin0).keep K53 nin0).keep K56 nin0).keep K59 nin0).keep K62 (ninS ne617 nin0)).keep K597 nin0)
                          have f621 := (((((((pd35.ext E49).keep K50 nin0).keep K53 nin0).keep K56 nin0).keep K59 nin0).keep K62 (ninS ne617 nin0)).keep K597 nin0)
                          have f622 := (((((((pe35.ext E49).keep K50 nin0).keep K53 nin0).keep K56 nin0).keep K59 nin0).keep K62 (ninS ne617 nin0)).keep K597 nin0)
                          have f623 := (((((((pf35.ext E49).keep K50 nin0).keep K53 nin0).keep K56 nin0).keep K59 nin0).keep K62 (ninS ne617 nin0)).keep K597 nin0)
                          have f624 := (((((((pg35.ext E49).keep K50 nin0).keep K53 nin0).keep K56 nin0).keep K59 nin0).keep K62 (ninS ne617 nin0)).keep K597 nin0)
                          have f625 := ((((((((f44.keep K35).ext E49).keep K50).keep K53).keep K56).keep K59).keep K62).keep K597)
                          have ne626 : s23 ≠ b22 := (Ne.symm (Nat.ne_of_lt (Nat.lt_of_lt_of_le A22.lt ls23)))
                          have ne627 : s23 ≠ b49 := (Nat.ne_of_lt (Nat.lt_of_lt_of_le Es23.lt (Nat.le_trans (Nat.le_trans (Nat.le_trans (Nat.le_trans K26.1 K29.1) K32.1) K35.1) (Nat.le_of_eq g49))))
                          have f628 := (((((((((((Cs23.keep K26 nin0).keep K29 nin0).keep K32 nin0).keep K35 (ninS ne626 nin0)).ext E49).keep K50 nin0).keep K53 nin0).keep K56 nin0).keep K59 nin0).keep K62 (ninS ne627 nin0)).keep K597 nin0)
                          have f629 := (((((((((((Vs23.keep K26 nin0).keep K29 nin0).keep K32 nin0).keep K35 (ninS ne626 nin0)).ext E49).keep K50 nin0).keep K53 nin0).keep K56 nin0).keep K59 nin0).keep K62 (ninS ne627 nin0)).keep K597 nin0)
                          have ne630 : t23 ≠ b22 := (Ne.symm (Nat.ne_of_lt (Nat.lt_of_lt_of_le A22.lt lo23)))
                          have ne631 : t23 ≠ b49 := (Nat.ne_of_lt (Nat.lt_of_lt_of_le Bs23.lt (Nat.le_trans (Nat.le_trans (Nat.le_trans (Nat.le_trans K26.1 K29.1) K32.1) K35.1) (Nat.le_of_eq g49))))
                          have f632 := (((((((((((Bs23.keep K26 nin0).keep K29 nin0).keep K32 nin0).keep K35 (ninS ne630 nin0)).ext E49).keep K50 nin0).keep K53 nin0).keep K56 nin0).keep K59 nin0).keep K62 (ninS ne631 nin0)).keep K597 nin0)
                          have f633 := ((((((((f45.keep K35).ext E49).keep K50).keep K53).keep K56).keep K59).keep K62).keep K597)
                          have ne634 : s26 ≠ b22 := (Ne.symm (Nat.ne_of_lt (Nat.lt_of_lt_of_le A22.lt (Nat.le_trans K23.1 ls26))))
                          have ne635 : s26 ≠ b49 := (Nat.ne_of_lt (Nat.lt_of_lt_of_le Es26.lt (Nat.le_trans (Nat.le_trans (Nat.le_trans K29.1 K32.1) K35.1) (Nat.le_of_eq g49))))
                          have f636 := ((((((((((Cs26.keep K29 nin0).keep K32 nin0).keep K35 (ninS ne634 nin0)).ext E49).keep K50 nin0).keep K53 nin0).keep K56 nin0).keep K59 nin0).keep K62 (ninS ne635 nin0)).keep K597 nin0)
                          have f637 := ((((((((((Vs26.keep K29 nin0).keep K32 nin0).keep K35 (ninS ne634 nin0)).ext E49).keep K50 nin0).keep K53 nin0).keep K56 nin0).keep K59 nin0).keep K62 (ninS ne635 nin0)).keep K597 nin0)
                          have ne638 : t26 ≠ b22 := (Ne.symm (Nat.ne_of_lt (Nat.lt_of_lt_of_le A22.lt (Nat.le_trans K23.1 lo26))))
                          have ne639 : t26 ≠ b49 := (Nat.ne_of_lt (Nat.lt_of_lt_of_le Bs26.lt (Nat.le_trans (Nat.le_trans (Nat.le_trans K29.1 K32.1) K35.1) (Nat.le_of_eq g49))))
                          have f640 := ((((((((((Bs26.keep K29 nin0).keep K32 nin0).keep K35 (ninS ne638 nin0)).ext E49).keep K50 nin0).keep K53 nin0).keep K56 nin0).keep K59 nin0).keep K62 (ninS ne639 nin0)).keep K597 nin0)
                          have f641 := ((((((((f46.keep K35).ext E49).keep K50).keep K53).keep K56).keep K59).keep K62).keep K597)
                          have ne642 : s29 ≠ b22 := (Ne.symm (Nat.ne_of_lt (Nat.lt_of_lt_of_le A22.lt (Nat.le_trans (Nat.le_trans K23.1 K26.1) ls29))))
                          have ne643 : s29 ≠ b49 := (Nat.ne_of_lt (Nat.lt_of_lt_of_le Es29.lt (Nat.le_trans (Nat.le_trans K32.1 K35.1) (Nat.le_of_eq g49))))
                          have f644 := (((((((((Cs29.keep K32 nin0).keep K35 (ninS ne642 nin0)).ext E49).keep K50 nin0).keep K53 nin0).keep K56 nin0).keep K59 nin0).keep K62 (ninS ne643 nin0)).keep K597 nin0)
                          have f645 := (((((((((Vs29.keep K32 nin0).keep K35 (ninS ne642 nin0)).ext E49).keep K50 nin0).keep K53 nin0).keep K56 nin0).keep K59 nin0).keep K62 (ninS ne643 nin0)).keep K597 nin0)
                          have ne646 : t29 ≠ b22 := (Ne.symm (Nat.ne_of_lt (Nat.lt_of_lt_of_le A22.lt (Nat.le_trans (Nat.le_trans K23.1 K26.1) lo29))))
                          have ne647 : t29 ≠ b49 := (Nat.ne_of_lt (Nat.lt_of_lt_of_le Bs29.lt (Nat.le_trans (Nat.le_trans K32.1 K35.1) (Nat.le_of_eq g49))))
                          have f648 := (((((((((Bs29.keep K32 nin0).keep K35 (ninS ne646 nin0)).ext E49).keep K50 nin0).keep K53 nin0).keep K56 nin0).keep K59 nin0).keep K62 (ninS ne647 nin0)).keep K597 nin0)
                          have f649 := ((((((((Es32.keep K35).ext E49).keep K50).keep K53).keep K56).keep K59).keep K62).keep K597)
                          have ne650 : s32 ≠ b22 := (Ne.symm (Nat.ne_of_lt (Nat.lt_of_lt_of_le A22.lt (Nat.le_trans (Nat.le_trans (Nat.le_trans K23.1 K26.1) K29.1) ls32))))
                          have ne651 : s32 ≠ b49 := (Nat.ne_of_lt (Nat.lt_of_lt_of_le Es32.lt (Nat.le_trans K35.1 (Nat.le_of_eq g49))))
                          have f652 := ((((((((Cs32.keep K35 (ninS ne650 nin0)).ext E49).keep K50 nin0).keep K53 nin0).keep K56 nin0).keep K59 nin0).keep K62 (ninS ne651 nin0)).keep K597 nin0)
                          have f653 := ((((((((Vs32.keep K35 (ninS ne650 nin0)).ext E49).keep K50 nin0).keep K53 nin0).keep K56 nin0).keep K59 nin0).keep K62 (ninS ne651 nin0)).keep K597 nin0)
                          have ne654 : t32 ≠ b22 := (Ne.symm (Nat.ne_of_lt (Nat.lt_of_lt_of_le A22.lt (Nat.le_trans (Nat.le_trans (Nat.le_trans K23.1 K26.1) K29.1) lo32))))
                          have ne655 : t32 ≠ b49 := (Nat.ne_of_lt (Nat.lt_of_lt_of_le Bs32.lt (Nat.le_trans K35.1 (Nat.le_of_eq g49))))
                          have f656 := ((((((((Bs32.keep K35 (ninS ne654 nin0)).ext E49).keep K50 nin0).keep K53 nin0).keep K56 nin0).keep K59 nin0).keep K62 (ninS ne655 nin0)).keep K597 nin0)
                          have f657 := (f598.keep K597)
                          have ne658 : s50 ≠ b49 := (Ne.symm (Nat.ne_of_lt (Nat.lt_of_lt_of_le A49.lt ls50)))
                          have f659 := (((((Cs50.keep K53 nin0).keep K56 nin0).keep K59 nin0).keep K62 (ninS ne658 nin0)).keep K597 nin0)
                          have f660 := (((((Vs50.keep K53 nin0).keep K56 nin0).keep K59 nin0).keep K62 (ninS ne658 nin0)).keep K597 nin0)
                          have ne661 : t50 ≠ b49 := (Ne.symm (Nat.ne_of_lt (Nat.lt_of_lt_of_le A49.lt lo50)))
                          have f662 := (((((Bs50.keep K53 nin0).keep K56 nin0).keep K59 nin0).keep K62 (ninS ne661 nin0)).keep K597 nin0)
                          have f663 := (f599.keep K597)
                          have ne664 : s53 ≠ b49 := (Ne.symm (Nat.ne_of_lt (Nat.lt_of_lt_of_le A49.lt (Nat.le_trans K50.1 ls53))))
                          have f665 := ((((Cs53.keep K56 nin0).keep K59 nin0).keep K62 (ninS ne664 nin0)).keep K597 nin0)
                          have f666 := ((((Vs53.keep K56 nin0).keep K59 nin0).keep K62 (ninS ne664 nin0)).keep K597 nin0)
                          have ne667 : t53 ≠ b49 := (Ne.symm (Nat.ne_of_lt (Nat.lt_of_lt_of_le A49.lt (Nat.le_trans K50.1 lo53))))
                          have f668 := ((((Bs53.keep K56 nin0).keep K59 nin0).keep K62 (ninS ne667 nin0)).keep K597 nin0)
                          have f669 := (f600.keep K597)
                          have ne670 : s56 ≠ b49 := (Ne.symm (Nat.ne_of_lt (Nat.lt_of_lt_of_le A49.lt (Nat.le_trans (Nat.le_trans K50.1 K53.1) ls56))))
                          have f671 := (((Cs56.keep K59 nin0).keep K62 (ninS ne670 nin0)).keep K597 nin0)
                          have f672 := (((Vs56.keep K59 nin0).keep K62 (ninS ne670 nin0)).keep K597 nin0)
                          have ne673 : t56 ≠ b49 := (Ne.symm (Nat.ne_of_lt (Nat.lt_of_lt_of_le A49.lt (Nat.le_trans (Nat.le_trans K50.1 K53.1) lo56))))
                          have f674 := (((Bs56.keep K59 nin0).keep K62 (ninS ne673 nin0)).keep K597 nin0)
                          have f675 := (f601.keep K597)
                          have ne676 : s59 ≠ b49 := (Ne.symm (Nat.ne_of_lt (Nat.lt_of_lt_of_le A49.lt (Nat.le_trans (Nat.le_trans (Nat.le_trans K50.1 K53.1) K56.1) ls59))))
                          have f677 := ((Cs59.keep K62 (ninS ne676 nin0)).keep K597 nin0)
                          have f678 := ((Vs59.keep K62 (ninS ne676 nin0)).keep K597 nin0)
                          have ne679 : t59 ≠ b49 := (Ne.symm (Nat.ne_of_lt (Nat.lt_of_lt_of_le A49.lt (Nat.le_trans (Nat.le_trans (Nat.le_trans K50.1 K53.1) K56.1) lo59))))
                          have f680 := ((Bs59.keep K62 (ninS ne679 nin0)).keep K597 nin0)
                          have ne681 : s23 ≠ s50 := (Nat.ne_of_lt (Nat.lt_of_lt_of_le Es23.lt (Nat.le_trans (Nat.le_trans (Nat.le_trans (Nat.le_trans (Nat.le_trans K26.1 K29.1) K32.1) K35.1) E49.1) ls50)))
                          have ne682 : s26 ≠ s53 := (Nat.ne_of_lt (Nat.lt_of_lt_of_le Es26.lt (Nat.le_trans (Nat.le_trans (Nat.le_trans (Nat.le_trans (Nat.le_trans K29.1 K32.1) K35.1) E49.1) K50.1) ls53)))
                          have ne683 : s29 ≠ s56 := (Nat.ne_of_lt (Nat.lt_of_lt_of_le Es29.lt (Nat.le_trans (Nat.le_trans (Nat.le_trans (Nat.le_trans (Nat.le_trans K32.1 K35.1) E49.1) K50.1) K53.1) ls56)))
                          have ne684 : s32 ≠ s59 := (Nat.ne_of_lt (Nat.lt_of_lt_of_le Es32.lt (Nat.le_trans (Nat.le_trans (Nat.le_trans (Nat.le_trans (Nat.le_trans K35.1 E49.1) K50.1) K53.1) K56.1) ls59)))
                          have f685 := (((f60.keep K59 all0).keep K62 (allS g_b49 all0)).keep K597 all0)
                          have z686 := (Nat.le_trans z602 K597.1)
                          refine g_virtual X597 hx hby hZ597 ho597 (rm_peqp l Z a0 hw [] b22 q597 posA (-1 : Int32) s23 s26 colA s29 s32 t23 kb23 (nar .byte (tA.toInt8.toInt32)) t26 kb26 (nar .byte (cA.toInt8.toInt32)) t29 kb29 (nar .byte (kA.toInt8.toInt32)) t32 kb32 (nar .byte (dA.toInt8.toInt32)) posB chB s50 s53 colB s56 s59 t50 kb50 (nar .byte (tB.toInt8.toInt32)) t53 kb53 (nar .byte (cB.toInt8.toInt32)) t56 kb56 (nar .byte (kB.toInt8.toInt32)) t59 kb59 (nar .byte (dB.toInt8.toInt32)) cz T597.heap n0 z686 O2 P5 f685 ⟨f616, f618, f619, f620, f621, f622, f623, f624⟩ ⟨pE597, pa597, pb597, pc597, pd597, pe597, pf597, pg597⟩ f625 f628 f629 f632 f633 f636 f637 f640 f641 f644 f645 f648 f649 f652 f653 f656 f657 f659 f660 f662 f663 f665 f666 f668 f669 f671 f672 f674 f675 f677 f678 f680 ne681 ne682 ne683 ne684) w74_ w75_ (notFace_of_selects (args := #[]) (mvT hZ597 w77_)) w77_ w76_ w15_ w78_ (by decide) rfl f616 (by rw [hml]; rfl) [(.ref q597)] (lenOf own_pd1 rfl) rfl rfl (Nat.le_of_ble_eq_true rfl) (Nat.le_of_ble_eq_true rfl) (Nat.le_of_ble_eq_true rfl) (Nat.le_of_ble_eq_true rfl) at_486 (fun v615 T615 L615 X615 hQ615 => ?_)
                          obtain ⟨rfl, N615q, eh615⟩ := hQ615
                          have N615 := Fr.app N597 N615q
                          refine g_iload X615 hx hby at_489 rfl ?_
                          refine g_icN X615 hx hby at_491 (teq (by simp [own_beq h_tA h_tB, own_beq h_cA h_cB, own_beq h_kA h_kB, own_beq h_dA h_dB, own_m1 h_chA, own_m1' h_chA, own_m1 h_chB, own_m1' h_chB, hc430_614] : (if posA = posB ∧ (-1 : Int32) = chB ∧ (nar .byte (tA.toInt8.toInt32)) = (nar .byte (tB.toInt8.toInt32)) ∧ (nar .byte (cA.toInt8.toInt32)) = (nar .byte (cB.toInt8.toInt32)) ∧ colA = colB ∧ (nar .byte (kA.toInt8.toInt32)) = (nar .byte (kB.toInt8.toInt32)) ∧ (nar .byte (dA.toInt8.toInt32)) = (nar .byte (dB.toInt8.toInt32)) then 1 else 0 : Int32) = (0 : Int32))).2 ?_
                          refine g_iconst X615 hx hby (1 : Int32) at_494 rfl ?_
                          refine g_goto X615 hx hby 499 at_495 (by decide) (by decide) ?_
                          refine g_nretW X615 hx hby (t := .boolean) (by simp) Bd.returns Bd.notSynchronized hS597 at_499 eh615 (Nat.le_refl _) (by decide) (by decide) ?_
                          show (Q_law Z y0 y1 y2 y3 sel cz h0 n0) (some (.int (1 : Int32))) _ _
                          exact ⟨rfl, N615⟩
                        · skip
                          refine g_icY X597 hx hby 479 at_430 (feq hc430_614).2 (by decide) (by decide) ?_
                          refine g_iconst X597 hx hby (0 : Int32) at_479 rfl ?_
                          refine g_istore X597 hx hby at_480 (l' := #[.val (.long y0), .second, .val (.long y1), .second, .val (.long y2), .second, .val (.long y3), .second, .val (.int sel), .val (.int posA), .val (.int posB), .val (.int colA), .val (.int colB), .val (.int (own_bit sel (4 : Int32))), .val (.int (own_bit sel (5 : Int32))), .val (.int chA), .val (.int chB), .val (.int tA), .val (.int cA), .val (.int kA), .val (.int dA), .val (.int tB), .val (.int cB), .val (.int kB), .val (.int dB), .val (.ref b22), .val (.ref q597), .val (.int (sel &&& (7 : Int32))), .val (.ref q597), .val (.int (-1 : Int32)), .val (.int chB), .val (.int (0 : Int32))]) rfl ?_
                          refine g_aload X597 hx hby at_482 rfl rfl ?_
                          refine g_aload X597 hx hby at_484 rfl rfl ?_
                          have f688 := (((((((pE35.ext E49).keep K50).keep K53).keep K56).keep K59).keep K62).keep K597)
                          have ne689 : b22 ≠ b49 := (Nat.ne_of_lt (Nat.lt_of_lt_of_le A22.lt (Nat.le_trans (Nat.le_trans (Nat.le_trans (Nat.le_trans (Nat.le_trans K23.1 K26.1) K29.1) K32.1) K35.1) (Nat.le_of_eq g49))))
                          have f690 := (((((((pa35.ext E49).keep K50 nin0).keep K53 nin0).keep K56 nin0).keep K59 nin0).keep K62 (ninS ne689 nin0)).keep K597 nin0)
                          have f691 := (((((((pb35.ext E49).keep K50 nin0).keep K53 nin0).keep K56 nin0).keep K59 nin0).keep K62 (ninS ne689 nin0)).keep K597 nin0)
                          have f692 := (((((((pc35.ext E49).keep K50 nin0).keep K53 nin0).keep K56 nin0).keep K59 nin0).keep K62 (ninS ne689 nin0)).keep K597 nin0)
                          have f693 := (((((((pd35.ext E49).keep K50 nin0).keep K53 nin0).keep K56 nin0).keep K59 nin0).keep K62 (ninS ne689 nin0)).keep K597 nin0)
                          have f694 := (((((((pe35.ext E49).keep K50 nin0).keep K53 nin0).keep K56 nin0).keep K59 nin0).keep K62 (ninS ne689 nin0)).keep K597 nin0)
                          have f695 := (((((((pf35.ext E49).keep K50 nin0).keep K53 nin0).keep K56 nin0).keep K59 nin0).keep K62 (ninS ne689 nin0)).keep K597 nin0)
                          have f696 := (((((((pg35.ext E49).keep K50 nin0).keep K53 nin0).keep K56 nin0).keep K59 nin0).keep K62 (ninS ne689 nin0)).keep K597 nin0)
                          have f697 := ((((((((f44.keep K35).ext E49).keep K50).keep K53).keep K56).keep K59).keep K62).keep K597)
                          have ne698 : s23 ≠ b22 := (Ne.symm (Nat.ne_of_lt (Nat.lt_of_lt_of_le A22.lt ls23)))
                          have ne699 : s23 ≠ b49 := (Nat.ne_of_lt (Nat.lt_of_lt_of_le Es23.lt (Nat.le_trans (Nat.le_trans (Nat.le_trans (Nat.le_trans K26.1 K29.1) K32.1) K35.1) (Nat.le_of_eq g49))))
                          have f700 := (((((((((((Cs23.keep K26 nin0).keep K29 nin0).keep K32 nin0).keep K35 (ninS ne698 nin0)).ext E49).keep K50 nin0).keep K53 nin0).keep K56 nin0).keep K59 nin0).keep K62 (ninS ne699 nin0)).keep K597 nin0)
                          have f701 := (((((((((((Vs23.keep K26 nin0).keep K29 nin0).keep K32 nin0).keep K35 (ninS ne698 nin0)).ext E49).keep K50 nin0).keep K53 nin0).keep K56 nin0).keep K59 nin0).keep K62 (ninS ne699 nin0)).keep K597 nin0)
                          have ne702 : t23 ≠ b22 := (Ne.symm (Nat.ne_of_lt (Nat.lt_of_lt_of_le A22.lt lo23)))
                          have ne703 : t23 ≠ b49 := (Nat.ne_of_lt (Nat.lt_of_lt_of_le Bs23.lt (Nat.le_trans (Nat.le_trans (Nat.le_trans (Nat.le_trans K26.1 K29.1) K32.1) K35.1) (Nat.le_of_eq g49))))
                          have f704 := (((((((((((Bs23.keep K26 nin0).keep K29 nin0).keep K32 nin0).keep K35 (ninS ne702 nin0)).ext E49).keep K50 nin0).keep K53 nin0).keep K56 nin0).keep K59 nin0).keep K62 (ninS ne703 nin0)).keep K597 nin0)
                          have f705 := ((((((((f45.keep K35).ext E49).keep K50).keep K53).keep K56).keep K59).keep K62).keep K597)
                          have ne706 : s26 ≠ b22 := (Ne.symm (Nat.ne_of_lt (Nat.lt_of_lt_of_le A22.lt (Nat.le_trans K23.1 ls26))))
                          have ne707 : s26 ≠ b49 := (Nat.ne_of_lt (Nat.lt_of_lt_of_le Es26.lt (Nat.le_trans (Nat.le_trans (Nat.le_trans K29.1 K32.1) K35.1) (Nat.le_of_eq g49))))
                          have f708 := ((((((((((Cs26.keep K29 nin0).keep K32 nin0).keep K35 (ninS ne706 nin0)).ext E49).keep K50 nin0).keep K53 nin0).keep K56 nin0).keep K59 nin0).keep K62 (ninS ne707 nin0)).keep K597 nin0)
                          have f709 := ((((((((((Vs26.keep K29 nin0).keep K32 nin0).keep K35 (ninS ne706 nin0)).ext E49).keep K50 nin0).keep K53 nin0).keep K56 nin0).keep K59 nin0).keep K62 (ninS ne707 nin0)).keep K597 nin0)
                          have ne710 : t26 ≠ b22 := (Ne.symm (Nat.ne_of_lt (Nat.lt_of_lt_of_le A22.lt (Nat.le_trans K23.1 lo26))))
                          have ne711 : t26 ≠ b49 := (Nat.ne_of_lt (Nat.lt_of_lt_of_le Bs26.lt (Nat.le_trans (Nat.le_trans (Nat.le_trans K29.1 K32.1) K35.1) (Nat.le_of_eq g49))))
                          have f712 := ((((((((((Bs26.keep K29 nin0).keep K32 nin0).keep K35 (ninS ne710 nin0)).ext E49).keep K50 nin0).keep K53 nin0).keep K56 nin0).keep K59 nin0).keep K62 (ninS ne711 nin0)).keep K597 nin0)
                          have f713 := ((((((((f46.keep K35).ext E49).keep K50).keep K53).keep K56).keep K59).keep K62).keep K597)
                          have ne714 : s29 ≠ b22 := (Ne.symm (Nat.ne_of_lt (Nat.lt_of_lt_of_le A22.lt (Nat.le_trans (Nat.le_trans K23.1 K26.1) ls29))))
                          have ne715 : s29 ≠ b49 := (Nat.ne_of_lt (Nat.lt_of_lt_of_le Es29.lt (Nat.le_trans (Nat.le_trans K32.1 K35.1) (Nat.le_of_eq g49))))
                          have f716 := (((((((((Cs29.keep K32 nin0).keep K35 (ninS ne714 nin0)).ext E49).keep K50 nin0).keep K53 nin0).keep K56 nin0).keep K59 nin0).keep K62 (ninS ne715 nin0)).keep K597 nin0)
                          have f717 := (((((((((Vs29.keep K32 nin0).keep K35 (ninS ne714 nin0)).ext E49).keep K50 nin0).keep K53 nin0).keep K56 nin0).keep K59 nin0).keep K62 (ninS ne715 nin0)).keep K597 nin0)
                          have ne718 : t29 ≠ b22 := (Ne.symm (Nat.ne_of_lt (Nat.lt_of_lt_of_le A22.lt (Nat.le_trans (Nat.le_trans K23.1 K26.1) lo29))))
                          have ne719 : t29 ≠ b49 := (Nat.ne_of_lt (Nat.lt_of_lt_of_le Bs29.lt (Nat.le_trans (Nat.le_trans K32.1 K35.1) (Nat.le_of_eq g49))))
                          have f720 := (((((((((Bs29.keep K32 nin0).keep K35 (ninS ne718 nin0)).ext E49).keep K50 nin0).keep K53 nin0).keep K56 nin0).keep K59 nin0).keep K62 (ninS ne719 nin0)).keep K597 nin0)
                          have f721 := ((((((((Es32.keep K35).ext E49).keep K50).keep K53).keep K56).keep K59).keep K62).keep K597)
                          have ne722 : s32 ≠ b22 := (Ne.symm (Nat.ne_of_lt (Nat.lt_of_lt_of_le A22.lt (Nat.le_trans (Nat.le_trans (Nat.le_trans K23.1 K26.1) K29.1) ls32))))
                          have ne723 : s32 ≠ b49 := (Nat.ne_of_lt (Nat.lt_of_lt_of_le Es32.lt (Nat.le_trans K35.1 (Nat.le_of_eq g49))))
                          have f724 := ((((((((Cs32.keep K35 (ninS ne722 nin0)).ext E49).keep K50 nin0).keep K53 nin0).keep K56 nin0).keep K59 nin0).keep K62 (ninS ne723 nin0)).keep K597 nin0)
                          have f725 := ((((((((Vs32.keep K35 (ninS ne722 nin0)).ext E49).keep K50 nin0).keep K53 nin0).keep K56 nin0).keep K59 nin0).keep K62 (ninS ne723 nin0)).keep K597 nin0)
                          have ne726 : t32 ≠ b22 := (Ne.symm (Nat.ne_of_lt (Nat.lt_of_lt_of_le A22.lt (Nat.le_trans (Nat.le_trans (Nat.le_trans K23.1 K26.1) K29.1) lo32))))
                          have ne727 : t32 ≠ b49 := (Nat.ne_of_lt (Nat.lt_of_lt_of_le Bs32.lt (Nat.le_trans K35.1 (Nat.le_of_eq g49))))
                          have f728 := ((((((((Bs32.keep K35 (ninS ne726 nin0)).ext E49).keep K50 nin0).keep K53 nin0).keep K56 nin0).keep K59 nin0).keep K62 (ninS ne727 nin0)).keep K597 nin0)
                          have f729 := (f598.keep K597)
                          have ne730 : s50 ≠ b49 := (Ne.symm (Nat.ne_of_lt (Nat.lt_of_lt_of_le A49.lt ls50)))
                          have f731 := (((((Cs50.keep K53 nin0).keep K56 nin0).keep K59 nin0).keep K62 (ninS ne730 nin0)).keep K597 nin0)
                          have f732 := (((((Vs50.keep K53 nin0).keep K56 nin0).keep K59 nin0).keep K62 (ninS ne730 nin0)).keep K597 nin0)
                          have ne733 : t50 ≠ b49 := (Ne.symm (Nat.ne_of_lt (Nat.lt_of_lt_of_le A49.lt lo50)))
                          have f734 := (((((Bs50.keep K53 nin0).keep K56 nin0).keep K59 nin0).keep K62 (ninS ne733 nin0)).keep K597 nin0)
                          have f735 := (f599.keep K597)
                          have ne736 : s53 ≠ b49 := (Ne.symm (Nat.ne_of_lt (Nat.lt_of_lt_of_le A49.lt (Nat.le_trans K50.1 ls53))))
                          have f737 := ((((Cs53.keep K56 nin0).keep K59 nin0).keep K62 (ninS ne736 nin0)).keep K597 nin0)
                          have f738 := ((((Vs53.keep K56 nin0).keep K59 nin0).keep K62 (ninS ne736 nin0)).keep K597 nin0)
                          have ne739 : t53 ≠ b49 := (Ne.symm (Nat.ne_of_lt (Nat.lt_of_lt_of_le A49.lt (Nat.le_trans K50.1 lo53))))
                          have f740 := ((((Bs53.keep K56 nin0).keep K59 nin0).keep K62 (ninS ne739 nin0)).keep K597 nin0)
                          have f741 := (f600.keep K597)
                          have ne742 : s56 ≠ b49 := (Ne.symm (Nat.ne_of_lt (Nat.lt_of_lt_of_le A49.lt (Nat.le_trans (Nat.le_trans K50.1 K53.1) ls56))))
                          have f743 := (((Cs56.keep K59 nin0).keep K62 (ninS ne742 nin0)).keep K597 nin0)
                          have f744 := (((Vs56.keep K59 nin0).keep K62 (ninS ne742 nin0)).keep K597 nin0)
                          have ne745 : t56 ≠ b49 := (Ne.symm (Nat.ne_of_lt (Nat.lt_of_lt_of_le A49.lt (Nat.le_trans (Nat.le_trans K50.1 K53.1) lo56))))
                          have f746 := (((Bs56.keep K59 nin0).keep K62 (ninS ne745 nin0)).keep K597 nin0)
                          have f747 := (f601.keep K597)
                          have ne748 : s59 ≠ b49 := (Ne.symm (Nat.ne_of_lt (Nat.lt_of_lt_of_le A49.lt (Nat.le_trans (Nat.le_trans (Nat.le_trans K50.1 K53.1) K56.1) ls59))))
                          have f749 := ((Cs59.keep K62 (ninS ne748 nin0)).keep K597 nin0)
                          have f750 := ((Vs59.keep K62 (ninS ne748 nin0)).keep K597 nin0)
                          have ne751 : t59 ≠ b49 := (Ne.symm (Nat.ne_of_lt (Nat.lt_of_lt_of_le A49.lt (Nat.le_trans (Nat.le_trans (Nat.le_trans K50.1 K53.1) K56.1) lo59))))
                          have f752 := ((Bs59.keep K62 (ninS ne751 nin0)).keep K597 nin0)
                          have ne753 : s23 ≠ s50 := (Nat.ne_of_lt (Nat.lt_of_lt_of_le Es23.lt (Nat.le_trans (Nat.le_trans (Nat.le_trans (Nat.le_trans (Nat.le_trans K26.1 K29.1) K32.1) K35.1) E49.1) ls50)))
                          have ne754 : s26 ≠ s53 := (Nat.ne_of_lt (Nat.lt_of_lt_of_le Es26.lt (Nat.le_trans (Nat.le_trans (Nat.le_trans (Nat.le_trans (Nat.le_trans K29.1 K32.1) K35.1) E49.1) K50.1) ls53)))
                          have ne755 : s29 ≠ s56 := (Nat.ne_of_lt (Nat.lt_of_lt_of_le Es29.lt (Nat.le_trans (Nat.le_trans (Nat.le_trans (Nat.le_trans (Nat.le_trans K32.1 K35.1) E49.1) K50.1) K53.1) ls56)))
                          have ne756 : s32 ≠ s59 := (Nat.ne_of_lt (Nat.lt_of_lt_of_le Es32.lt (Nat.le_trans (Nat.le_trans (Nat.le_trans (Nat.le_trans (Nat.le_trans K35.1 E49.1) K50.1) K53.1) K56.1) ls59)))
                          have f757 := (((f60.keep K59 all0).keep K62 (allS g_b49 all0)).keep K597 all0)
                          have z758 := (Nat.le_trans z602 K597.1)
                          refine g_virtual X597 hx hby hZ597 ho597 (rm_peqp l Z a0 hw [] b22 q597 posA (-1 : Int32) s23 s26 colA s29 s32 t23 kb23 (nar .byte (tA.toInt8.toInt32)) t26 kb26 (nar .byte (cA.toInt8.toInt32)) t29 kb29 (nar .byte (kA.toInt8.toInt32)) t32 kb32 (nar .byte (dA.toInt8.toInt32)) posB chB s50 s53 colB s56 s59 t50 kb50 (nar .byte (tB.toInt8.toInt32)) t53 kb53 (nar .byte (cB.toInt8.toInt32)) t56 kb56 (nar .byte (kB.toInt8.toInt32)) t59 kb59 (nar .byte (dB.toInt8.toInt32)) cz T597.heap n0 z758 O2 P5 f757 ⟨f688, f690, f691, f692, f693, f694, f695, f696⟩ ⟨pE597, pa597, pb597, pc597, pd597, pe597, pf597, pg597⟩ f697 f700 f701 f704 f705 f708 f709 f712 f713 f716 f717 f720 f721 f724 f725 f728 f729 f731 f732 f734 f735 f737 f738 f740 f741 f743 f744 f746 f747 f749 f750 f752 ne753 ne754 ne755 ne756) w74_ w75_ (notFace_of_selects (args := #[]) (mvT hZ597 w77_)) w77_ w76_ w15_ w78_ (by decide) rfl f688 (by rw [hml]; rfl) [(.ref q597)] (lenOf own_pd1 rfl) rfl rfl (Nat.le_of_ble_eq_true rfl) (Nat.le_of_ble_eq_true rfl) (Nat.le_of_ble_eq_true rfl) (Nat.le_of_ble_eq_true rfl) at_486 (fun v687 T687 L687 X687 hQ687 => ?_)
                          obtain ⟨rfl, N687q, eh687⟩ := hQ687
                          have N687 := Fr.app N597 N687q
                          refine g_iload X687 hx hby at_489 rfl ?_
                          refine g_icN X687 hx hby at_491 (teq (by simp [own_beq h_tA h_tB, own_beq h_cA h_cB, own_beq h_kA h_kB, own_beq h_dA h_dB, own_m1 h_chA, own_m1' h_chA, own_m1 h_chB, own_m1' h_chB, hc430_614] : (if posA = posB ∧ (-1 : Int32) = chB ∧ (nar .byte (tA.toInt8.toInt32)) = (nar .byte (tB.toInt8.toInt32)) ∧ (nar .byte (cA.toInt8.toInt32)) = (nar .byte (cB.toInt8.toInt32)) ∧ colA = colB ∧ (nar .byte (kA.toInt8.toInt32)) = (nar .byte (kB.toInt8.toInt32)) ∧ (nar .byte (dA.toInt8.toInt32)) = (nar .byte (dB.toInt8.toInt32)) then 1 else 0 : Int32) = (0 : Int32))).2 ?_
                          refine g_iconst X687 hx hby (1 : Int32) at_494 rfl ?_
                          refine g_goto X687 hx hby 499 at_495 (by decide) (by decide) ?_
                          refine g_nretW X687 hx hby (t := .boolean) (by simp) Bd.returns Bd.notSynchronized hS597 at_499 eh687 (Nat.le_refl _) (by decide) (by decide) ?_
                          show (Q_law Z y0 y1 y2 y3 sel cz h0 n0) (some (.int (1 : Int32))) _ _
                          exact ⟨rfl, N687⟩
                · skip
                  refine g_ifN X35 hx hby at_293 (feq hc293_48).1 ?_
                  refine g_aload X35 hx hby at_296 rfl rfl ?_
                  refine g_iload X35 hx hby at_298 rfl ?_
                  refine g_iload X35 hx hby at_300 rfl ?_
                  have f760 := (f44.keep K35)
                  have f761 := (f45.keep K35)
                  have f762 := (f46.keep K35)
                  have f763 := (Es32.keep K35)
                  have z764 := (Nat.le_trans z47 K35.1)
                  refine g_virtualW X35 hx hby hZ35 ho35 (PV := fun vm => Z.Warmed39 vm) (rm_ofchild l Z a0 hw [] b22 posA chA posA (-1 : Int32) s23 s26 colA s29 s32 T35.heap n0 z764 ⟨pE35, pa35, pb35, pc35, pd35, pe35, pf35, pg35⟩ f760 f761 f762 f763 h_posA h_chA h_colA) (fun _ q => State.Warmed39.trans hZ35 q.wide) hS35 (Nat.le_refl _) w89_ w90_ (notFace_of_selects (args := #[]) (mvT hZ35 w92_)) w92_ w91_ w15_ w93_ (by decide) rfl pE35 (by rw [hml]; rfl) [(.int posA), (.int chA)] (lenOf own_pd12 rfl) rfl rfl (Nat.le_of_ble_eq_true rfl) (Nat.le_of_ble_eq_true rfl) (Nat.le_of_ble_eq_true rfl) (Nat.le_of_ble_eq_true rfl) at_302 (fun v759 T759 L759 X759 hS759 hZ759 ho759 hQ759 => ?_)
                  obtain ⟨N759q, K759, q759, rfl, lq759, pE759, pa759, pb759, pc759, pd759, pe759, pf759, pg759⟩ := hQ759
                  have N759 := Fr.app N35 N759q
                  refine g_astore X759 hx hby at_305 rfl (l' := #[.val (.long y0), .second, .val (.long y1), .second, .val (.long y2), .second, .val (.long y3), .second, .val (.int sel), .val (.int posA), .val (.int posB), .val (.int colA), .val (.int colB), .val (.int (own_bit sel (4 : Int32))), .val (.int (own_bit sel (5 : Int32))), .val (.int chA), .val (.int chB), .val (.int tA), .val (.int cA), .val (.int kA), .val (.int dA), .val (.int tB), .val (.int cB), .val (.int kB), .val (.int dB), .val (.ref q759), .unset, .unset, .unset, .unset, .unset, .unset]) rfl ?_
                  refine g_at 307 rfl rfl rfl ?_
                  refine g_new X759 hx hby hZ759 ho759 w13_ w14_ w15_ rfl (by decide) (by decide) at_307 (fun T765 h765 b765 g765 X765 e765 E765 A765 D765 => ?_)
                  have F_position_b765 : Fld Z h765 b765 "com/example/refloom/refloom/model/Problem" "position" "I" (.int (0 : Int32)) := D765 (Or.inr w50_) (ty := .int) (by decide)
                  have F_childPosition_b765 : Fld Z h765 b765 "com/example/refloom/refloom/model/Problem" "childPosition" "I" (.int (0 : Int32)) := D765 (Or.inr w52_) (ty := .int) (by decide)
                  have F_table_b765 : Fld Z h765 b765 "com/example/refloom/refloom/model/Problem" "table" "Ljava/lang/String;" .null := D765 (Or.inr w62_) (ty := (.object "java/lang/String")) (by decide)
                  have F_column_b765 : Fld Z h765 b765 "com/example/refloom/refloom/model/Problem" "column" "Ljava/lang/String;" .null := D765 (Or.inr w65_) (ty := (.object "java/lang/String")) (by decide)
                  have F_columnPosition_b765 : Fld Z h765 b765 "com/example/refloom/refloom/model/Problem" "columnPosition" "I" (.int (0 : Int32)) := D765 (Or.inr w67_) (ty := .int) (by decide)
                  have F_kind_b765 : Fld Z h765 b765 "com/example/refloom/refloom/model/Problem" "kind" "Ljava/lang/String;" .null := D765 (Or.inr w70_) (ty := (.object "java/lang/String")) (by decide)
                  have F_detail_b765 : Fld Z h765 b765 "com/example/refloom/refloom/model/Problem" "detail" "Ljava/lang/String;" .null := D765 (Or.inr w73_) (ty := (.object "java/lang/String")) (by decide)
                  refine g_dup X765 hx hby at_310 rfl ?_
                  refine g_iload X765 hx hby at_311 rfl ?_
                  refine g_iload X765 hx hby at_313 rfl ?_
                  have f767 := ((((f33.keep K32 all0).keep K35 (allS g_b22 all0)).keep K759 all0).ext E765)
                  have z768 := (Nat.le_trans z764 (Nat.le_trans K759.1 E765.1))
                  refine g_static X765 hx hby hZ759 ho759 (rm_valueof l Z a0 hw [] tB cz h765 n0 z768 O2 P5 f767 (own_c255 h_tB)) w16_ w17_ w18_ w19_ (by decide) e765 (by rw [hml]; rfl) [(.int tB)] (lenOf own_pd10 rfl) rfl rfl (Nat.le_of_ble_eq_true rfl) (Nat.le_of_ble_eq_true rfl) (Nat.le_of_ble_eq_true rfl) (Nat.le_of_ble_eq_true rfl) at_315 (fun v766 T766 L766 X766 hQ766 => ?_)
                  obtain ⟨N766q, K766, s766, t766, kb766, rfl, ls766, lo766, Es766, Cs766, Vs766, Bs766⟩ := hQ766
                  have N766 := Fr.app N759 N766q
                  refine g_iload X766 hx hby at_318 rfl ?_
                  have f770 := (f767.keep K766 all0)
                  have z771 := (Nat.le_trans z768 K766.1)
                  refine g_static X766 hx hby hZ759 ho759 (rm_valueof l Z a0 hw [] cB cz T766.heap n0 z771 O2 P5 f770 (own_c255 h_cB)) w16_ w17_ w18_ w19_ (by decide) rfl (by rw [hml]; rfl) [(.int cB)] (lenOf own_pd10 rfl) rfl rfl (Nat.le_of_ble_eq_true rfl) (Nat.le_of_ble_eq_true rfl) (Nat.le_of_ble_eq_true rfl) (Nat.le_of_ble_eq_true rfl) at_320 (fun v769 T769 L769 X769 hQ769 => ?_)
                  obtain ⟨N769q, K769, s769, t769, kb769, rfl, ls769, lo769, Es769, Cs769, Vs769, Bs769⟩ := hQ769
                  have N769 := Fr.app N766 N769q
                  refine g_iload X769 hx hby at_323 rfl ?_
                  refine g_iload X769 hx hby at_325 rfl ?_
                  have f773 := (f770.keep K769 all0)
                  have z774 := (Nat.le_trans z771 K769.1)
                  refine g_static X769 hx hby hZ759 ho759 (rm_valueof l Z a0 hw [] kB cz T769.heap n0 z774 O2 P5 f773 (own_c255 h_kB)) w16_ w17_ w18_ w19_ (by decide) rfl (by rw [hml]; rfl) [(.int kB)] (lenOf own_pd10 rfl) rfl rfl (Nat.le_of_ble_eq_true rfl) (Nat.le_of_ble_eq_true rfl) (Nat.le_of_ble_eq_true rfl) (Nat.le_of_ble_eq_true rfl) at_327 (fun v772 T772 L772 X772 hQ772 => ?_)
                  obtain ⟨N772q, K772, s772, t772, kb772, rfl, ls772, lo772, Es772, Cs772, Vs772, Bs772⟩ := hQ772
                  have N772 := Fr.app N769 N772q
                  refine g_iload X772 hx hby at_330 rfl ?_
                  refine g_at 332 rfl rfl rfl ?_
                  have f776 := (f773.keep K772 all0)
                  have z777 := (Nat.le_trans z774 K772.1)
                  refine g_static X772 hx hby hZ759 ho759 (rm_valueof l Z a0 hw [] dB cz T772.heap n0 z777 O2 P5 f776 (own_c255 h_dB)) w16_ w17_ w18_ w19_ (by decide) rfl (by rw [hml]; rfl) [(.int dB)] (lenOf own_pd10 rfl) rfl rfl (Nat.le_of_ble_eq_true rfl) (Nat.le_of_ble_eq_true rfl) (Nat.le_of_ble_eq_true rfl) (Nat.le_of_ble_eq_true rfl) at_332 (fun v775 T775 L775 X775 hQ775 => ?_)
                  obtain ⟨N775q, K775, s775, t775, kb775, rfl, ls775, lo775, Es775, Cs775, Vs775, Bs775⟩ := hQ775
                  have N775 := Fr.app N772 N775q
                  have f779 := ((((A765.keep K766).keep K769).keep K772).keep K775)
                  have f780 := ((((F_position_b765.keep K766 nin0).keep K769 nin0).keep K772 nin0).keep K775 nin0)
                  have f781 := ((((F_childPosition_b765.keep K766 nin0).keep K769 nin0).keep K772 nin0).keep K775 nin0)
                  have f782 := ((((F_table_b765.keep K766 nin0).keep K769 nin0).keep K772 nin0).keep K775 nin0)
                  have f783 := ((((F_column_b765.keep K766 nin0).keep K769 nin0).keep K772 nin0).keep K775 nin0)
                  have f784 := ((((F_columnPosition_b765.keep K766 nin0).keep K769 nin0).keep K772 nin0).keep K775 nin0)
                  have f785 := ((((F_kind_b765.keep K766 nin0).keep K769 nin0).keep K772 nin0).keep K775 nin0)
                  have f786 := ((((F_detail_b765.keep K766 nin0).keep K769 nin0).keep K772 nin0).keep K775 nin0)
                  have g_b765 : n0 ≤ b765 := Nat.le_trans (Nat.le_trans z764 K759.1) (Nat.le_of_eq g765)
                  have f787 := (((Es766.keep K769).keep K772).keep K775)
                  have f788 := ((Es769.keep K772).keep K775)
                  have f789 := (Es772.keep K775)
                  have z790 := (Nat.le_trans z777 K775.1)
                  refine g_specialW X775 hx hby hZ759 ho759 (PV := fun vm => Z.Warmed39 vm) (rm_pini7 l Z a0 hw [] b765 posB s766 s769 colB s772 s775 T775.heap n0 z790 f779 f780 f781 f782 f783 f784 f785 f786 g_b765 f787 f788 f789 Es775 h_posB h_colB) (fun _ q => State.Warmed39.trans hZ759 q.wide) hS759 (Nat.le_trans (Nat.le_refl _) (Nat.le_trans (Nat.le_trans (Nat.le_trans (Nat.le_trans E765.1 K766.1) K769.1) K772.1) K775.1)) rfl rfl w42_ w43_ w15_ w44_ (by decide) rfl (by rw [hml]; rfl) [(.int posB), (.ref s766), (.ref s769), (.int colB), (.ref s772), (.ref s775)] (lenOf own_pd11 rfl) rfl rfl (Nat.le_of_ble_eq_true rfl) (Nat.le_of_ble_eq_true rfl) (Nat.le_of_ble_eq_true rfl) (Nat.le_of_ble_eq_true rfl) at_335 (fun v778 T778 L778 X778 hS778 hZ778 ho778 hQ778 => ?_)
                  obtain ⟨rfl, N778q, K778, pE778, pa778, pb778, pc778, pd778, pe778, pf778, pg778⟩ := hQ778
                  have N778 := Fr.app N775 N778q
                  refine g_astore X778 hx hby at_338 rfl (l' := #[.val (.long y0), .second, .val (.long y1), .second, .val (.long y2), .second, .val (.long y3), .second, .val (.int sel), .val (.int posA), .val (.int posB), .val (.int colA), .val (.int colB), .val (.int (own_bit sel (4 : Int32))), .val (.int (own_bit sel (5 : Int32))), .val (.int chA), .val (.int chB), .val (.int tA), .val (.int cA), .val (.int kA), .val (.int dA), .val (.int tB), .val (.int cB), .val (.int kB), .val (.int dB), .val (.ref q759), .val (.ref b765), .unset, .unset, .unset, .unset, .unset]) rfl ?_
                  refine g_iload X778 hx hby at_340 rfl ?_
                  by_cases hc342_791 : (own_bit sel (5 : Int32)) = (0 : Int32)
                  · skip
                    refine g_ifY X778 hx hby 356 at_342 (teq hc342_791).1 (by decide) (by decide) ?_
                    refine g_iload X778 hx hby at_356 rfl ?_
                    refine g_bipush X778 hx hby (7 : Int32) at_358 rfl ?_
                    refine g_iand X778 hx hby at_360 ?_
                    refine g_istore X778 hx hby at_361 (l' := #[.val (.long y0), .second, .val (.long y1), .second, .val (.long y2), .second, .val (.long y3), .second, .val (.int sel), .val (.int posA), .val (.int posB), .val (.int colA), .val (.int colB), .val (.int (own_bit sel (4 : Int32))), .val (.int (own_bit sel (5 : Int32))), .val (.int chA), .val (.int chB), .val (.int tA), .val (.int cA), .val (.int kA), .val (.int dA), .val (.int tB), .val (.int cB), .val (.int kB), .val (.int dB), .val (.ref q759), .val (.ref b765), .val (.int (sel &&& (7 : Int32))), .unset, .unset, .unset, .unset]) rfl ?_
                    refine g_iload X778 hx hby at_363 rfl ?_
                    refine g_bipush X778 hx hby (7 : Int32) at_365 rfl ?_
                    by_cases hc367_792 : (sel &&& (7 : Int32)) = (7 : Int32)
                    · skip
                      refine g_icN X778 hx hby at_367 (teq hc367_792).2 ?_
                      refine g_aconst_null X778 hx hby at_370 ?_
                      refine g_goto X778 hx hby 391 at_371 (by decide) (by decide) ?_
                      refine g_astore X778 hx hby at_391 rfl (l' := #[.val (.long y0), .second, .val (.long y1), .second, .val (.long y2), .second, .val (.long y3), .second, .val (.int sel), .val (.int posA), .val (.int posB), .val (.int colA), .val (.int colB), .val (.int (own_bit sel (4 : Int32))), .val (.int (own_bit sel (5 : Int32))), .val (.int chA), .val (.int chB), .val (.int tA), .val (.int cA), .val (.int kA), .val (.int dA), .val (.int tB), .val (.int cB), .val (.int kB), .val (.int dB), .val (.ref q759), .val (.ref b765), .val (.int (sel &&& (7 : Int32))), .val .null, .unset, .unset, .unset]) rfl ?_
                      refine g_iload X778 hx hby at_393 rfl ?_
                      refine g_ifN X778 hx hby at_395 (feq (hc293_48 : ¬ ((own_bit sel (4 : Int32)) = (0 : Int32)))).1 ?_
                      refine g_iload X778 hx hby at_398 rfl ?_
                      refine g_goto X778 hx hby 404 at_400 (by decide) (by decide) ?_
                      refine g_istore X778 hx hby at_404 (l' := #[.val (.long y0), .second, .val (.long y1), .second, .val (.long y2), .second, .val (.long y3), .second, .val (.int sel), .val (.int posA), .val (.int posB), .val (.int colA), .val (.int colB), .val (.int (own_bit sel (4 : Int32))), .val (.int (own_bit sel (5 : Int32))), .val (.int chA), .val (.int chB), .val (.int tA), .val (.int cA), .val (.int kA), .val (.int dA), .val (.int tB), .val (.int cB), .val (.int kB), .val (.int dB), .val (.ref q759), .val (.ref b765), .val (.int (sel &&& (7 : Int32))), .val .null, .val (.int chA), .unset, .unset]) rfl ?_
                      refine g_iload X778 hx hby at_406 rfl ?_
                      refine g_ifY X778 hx hby 416 at_408 (teq (hc342_791 : (own_bit sel (5 : Int32)) = (0 : Int32))).1 (by decide) (by decide) ?_
                      refine g_iconst X778 hx hby (-1 : Int32) at_416 rfl ?_
                      refine g_istore X778 hx hby at_417 (l' := #[.val (.long y0), .second, .val (.long y1), .second, .val (.long y2), .second, .val (.long y3), .second, .val (.int sel), .val (.int posA), .val (.int posB), .val (.int colA), .val (.int colB), .val (.int (own_bit sel (4 : Int32))), .val (.int (own_bit sel (5 : Int32))), .val (.int chA), .val (.int chB), .val (.int tA), .val (.int cA), .val (.int kA), .val (.int dA), .val (.int tB), .val (.int cB), .val (.int kB), .val (.int dB), .val (.ref q759), .val (.ref b765), .val (.int (sel &&& (7 : Int32))), .val .null, .val (.int chA), .val (.int (-1 : Int32)), .unset]) rfl ?_
                      refine g_iload X778 hx hby at_419 rfl ?_
                      refine g_bipush X778 hx hby (6 : Int32) at_421 rfl ?_
                      refine g_icY X778 hx hby 479 at_423 (flt (by rw [hc367_792]; decide : ¬ ((sel &&& (7 : Int32)) < (6 : Int32)))).2.1 (by decide) (by decide) ?_
                      refine g_iconst X778 hx hby (0 : Int32) at_479 rfl ?_
                      refine g_istore X778 hx hby at_480 (l' := #[.val (.long y0), .second, .val (.long y1), .second, .val (.long y2), .second, .val (.long y3), .second, .val (.int sel), .val (.int posA), .val (.int posB), .val (.int colA), .val (.int colB), .val (.int (own_bit sel (4 : Int32))), .val (.int (own_bit sel (5 : Int32))), .val (.int chA), .val (.int chB), .val (.int tA), .val (.int cA), .val (.int kA), .val (.int dA), .val (.int tB), .val (.int cB), .val (.int kB), .val (.int dB), .val (.ref q759), .val (.ref b765), .val (.int (sel &&& (7 : Int32))), .val .null, .val (.int chA), .val (.int (-1 : Int32)), .val (.int (0 : Int32))]) rfl ?_
                      refine g_aload X778 hx hby at_482 rfl rfl ?_
                      refine g_aload X778 hx hby at_484 rfl rfl ?_
                      have z794 := (Nat.le_trans z790 K778.1)
                      have f795 := ((((((pE759.ext E765).keep K766).keep K769).keep K772).keep K775).keep K778)
                      refine g_virtual X778 hx hby hZ778 ho778 (rm_peqn l Z a0 hw [] q759 T778.heap n0 z794 ) w74_ w75_ (notFace_of_selects (args := #[]) (mvT hZ778 w77_)) w77_ w76_ w15_ w78_ (by decide) rfl f795 (by rw [hml]; rfl) [.null] (lenOf own_pd1 rfl) rfl rfl (Nat.le_of_ble_eq_true rfl) (Nat.le_of_ble_eq_true rfl) (Nat.le_of_ble_eq_true rfl) (Nat.le_of_ble_eq_true rfl) at_486 (fun v793 T793 L793 X793 hQ793 => ?_)
                      obtain ⟨rfl, N793q, eh793⟩ := hQ793
                      have N793 := Fr.app N778 N793q
                      refine g_iload X793 hx hby at_489 rfl ?_
                      refine g_icN X793 hx hby at_491 (teq (by decide : (0 : Int32) = (0 : Int32))).2 ?_
                      refine g_iconst X793 hx hby (1 : Int32) at_494 rfl ?_
                      refine g_goto X793 hx hby 499 at_495 (by decide) (by decide) ?_
                      refine g_nretW X793 hx hby (t := .boolean) (by simp) Bd.returns Bd.notSynchronized hS778 at_499 eh793 (Nat.le_refl _) (by decide) (by decide) ?_
                      show (Q_law Z y0 y1 y2 y3 sel cz h0 n0) (some (.int (1 : Int32))) _ _
                      exact ⟨rfl, N793⟩
                    · skip
                      refine g_icY X778 hx hby 374 at_367 (feq hc367_792).2 (by decide) (by decide) ?_
                      refine g_iload X778 hx hby at_374 rfl ?_
                      refine g_bipush X778 hx hby (6 : Int32) at_376 rfl ?_
                      by_cases hc378_796 : (sel &&& (7 : Int32)) = (6 : Int32)
                      · skip
                        refine g_icN X778 hx hby at_378 (teq hc378_796).2 ?_
                        refine g_iload X778 hx hby at_381 rfl ?_
                        have f798 := ((f776.keep K775 all0).keep K778 (allS g_b765 all0))
                        have z799 := (Nat.le_trans z790 K778.1)
                        refine g_static X778 hx hby hZ778 ho778 (rm_valueof l Z a0 hw [] tA cz T778.heap n0 z799 O2 P5 f798 (own_c255 h_tA)) w16_ w17_ w18_ w19_ (by decide) rfl (by rw [hml]; rfl) [(.int tA)] (lenOf own_pd10 rfl) rfl rfl (Nat.le_of_ble_eq_true rfl) (Nat.le_of_ble_eq_true rfl) (Nat.le_of_ble_eq_true rfl) (Nat.le_of_ble_eq_true rfl) at_383 (fun v797 T797 L797 X797 hQ797 => ?_)
                        obtain ⟨N797q, K797, s797, t797, kb797, rfl, ls797, lo797, Es797, Cs797, Vs797, Bs797⟩ := hQ797
                        have N797 := Fr.app N778 N797q
                        refine g_goto X797 hx hby 391 at_386 (by decide) (by decide) ?_
                        refine g_astore X797 hx hby at_391 rfl (l' := #[.val (.long y0), .second, .val (.long y1), .second, .val (.long y2), .second, .val (.long y3), .second, .val (.int sel), .val (.int posA), .val (.int posB), .val (.int colA), .val (.int colB), .val (.int (own_bit sel (4 : Int32))), .val (.int (own_bit sel (5 : Int32))), .val (.int chA), .val (.int chB), .val (.int tA), .val (.int cA), .val (.int kA), .val (.int dA), .val (.int tB), .val (.int cB), .val (.int kB), .val (.int dB), .val (.ref q759), .val (.ref b765), .val (.int (sel &&& (7 : Int32))), .val (.ref s797), .unset, .unset, .unset]) rfl ?_
                        refine g_iload X797 hx hby at_393 rfl ?_
                        refine g_ifN X797 hx hby at_395 (feq (hc293_48 : ¬ ((own_bit sel (4 : Int32)) = (0 : Int32)))).1 ?_
                        refine g_iload X797 hx hby at_398 rfl ?_
                        refine g_goto X797 hx hby 404 at_400 (by decide) (by decide) ?_
                        refine g_istore X797 hx hby at_404 (l' := #[.val (.long y0), .second, .val (.long y1), .second, .val (.long y2), .second, .val (.long y3), .second, .val (.int sel), .val (.int posA), .val (.int posB), .val (.int colA), .val (.int colB), .val (.int (own_bit sel (4 : Int32))), .val (.int (own_bit sel (5 : Int32))), .val (.int chA), .val (.int chB), .val (.int tA), .val (.int cA), .val (.int kA), .val (.int dA), .val (.int tB), .val (.int cB), .val (.int kB), .val (.int dB), .val (.ref q759), .val (.ref b765), .val (.int (sel &&& (7 : Int32))), .val (.ref s797), .val (.int chA), .unset, .unset]) rfl ?_
                        refine g_iload X797 hx hby at_406 rfl ?_
                        refine g_ifY X797 hx hby 416 at_408 (teq (hc342_791 : (own_bit sel (5 : Int32)) = (0 : Int32))).1 (by decide) (by decide) ?_
                        refine g_iconst X797 hx hby (-1 : Int32) at_416 rfl ?_
                        refine g_istore X797 hx hby at_417 (l' := #[.val (.long y0), .second, .val (.long y1), .second, .val (.long y2), .second, .val (.long y3), .second, .val (.int sel), .val (.int posA), .val (.int posB), .val (.int colA), .val (.int colB), .val (.int (own_bit sel (4 : Int32))), .val (.int (own_bit sel (5 : Int32))), .val (.int chA), .val (.int chB), .val (.int tA), .val (.int cA), .val (.int kA), .val (.int dA), .val (.int tB), .val (.int cB), .val (.int kB), .val (.int dB), .val (.ref q759), .val (.ref b765), .val (.int (sel &&& (7 : Int32))), .val (.ref s797), .val (.int chA), .val (.int (-1 : Int32)), .unset]) rfl ?_
                        refine g_iload X797 hx hby at_419 rfl ?_
                        refine g_bipush X797 hx hby (6 : Int32) at_421 rfl ?_
                        refine g_icY X797 hx hby 479 at_423 (flt (by rw [hc378_796]; decide : ¬ ((sel &&& (7 : Int32)) < (6 : Int32)))).2.1 (by decide) (by decide) ?_
                        refine g_iconst X797 hx hby (0 : Int32) at_479 rfl ?_
                        refine g_istore X797 hx hby at_480 (l' := #[.val (.long y0), .second, .val (.long y1), .second, .val (.long y2), .second, .val (.long y3), .second, .val (.int sel), .val (.int posA), .val (.int posB), .val (.int colA), .val (.int colB), .val (.int (own_bit sel (4 : Int32))), .val (.int (own_bit sel (5 : Int32))), .val (.int chA), .val (.int chB), .val (.int tA), .val (.int cA), .val (.int kA), .val (.int dA), .val (.int tB), .val (.int cB), .val (.int kB), .val (.int dB), .val (.ref q759), .val (.ref b765), .val (.int (sel &&& (7 : Int32))), .val (.ref s797), .val (.int chA), .val (.int (-1 : Int32)), .val (.int (0 : Int32))]) rfl ?_
                        refine g_aload X797 hx hby at_482 rfl rfl ?_
                        refine g_aload X797 hx hby at_484 rfl rfl ?_
                        have z801 := (Nat.le_trans z799 K797.1)
                        have f802 := (((((((pE759.ext E765).keep K766).keep K769).keep K772).keep K775).keep K778).keep K797)
                        refine g_virtual X797 hx hby hZ778 ho778 (rm_peqs l Z a0 hw [] q759 s797 T797.heap n0 z801 Es797) w74_ w75_ (notFace_of_selects (args := #[]) (mvT hZ778 w77_)) w77_ w76_ w15_ w78_ (by decide) rfl f802 (by rw [hml]; rfl) [(.ref s797)] (lenOf own_pd1 rfl) rfl rfl (Nat.le_of_ble_eq_true rfl) (Nat.le_of_ble_eq_true rfl) (Nat.le_of_ble_eq_true rfl) (Nat.le_of_ble_eq_true rfl) at_486 (fun v800 T800 L800 X800 hQ800 => ?_)
                        obtain ⟨rfl, N800q, eh800⟩ := hQ800
                        have N800 := Fr.app N797 N800q
                        refine g_iload X800 hx hby at_489 rfl ?_
                        refine g_icN X800 hx hby at_491 (teq (by decide : (0 : Int32) = (0 : Int32))).2 ?_
                        refine g_iconst X800 hx hby (1 : Int32) at_494 rfl ?_
                        refine g_goto X800 hx hby 499 at_495 (by decide) (by decide) ?_
                        refine g_nretW X800 hx hby (t := .boolean) (by simp) Bd.returns Bd.notSynchronized hS778 at_499 eh800 (Nat.le_trans (Nat.le_refl _) K797.1) (by decide) (by decide) ?_
                        show (Q_law Z y0 y1 y2 y3 sel cz h0 n0) (some (.int (1 : Int32))) _ _
                        exact ⟨rfl, N800⟩
                      · skip
                        refine g_icY X778 hx hby 389 at_378 (feq hc378_796).2 (by decide) (by decide) ?_
                        refine g_aload X778 hx hby at_389 rfl rfl ?_
                        refine g_astore X778 hx hby at_391 rfl (l' := #[.val (.long y0), .second, .val (.long y1), .second, .val (.long y2), .second, .val (.long y3), .second, .val (.int sel), .val (.int posA), .val (.int posB), .val (.int colA), .val (.int colB), .val (.int (own_bit sel (4 : Int32))), .val (.int (own_bit sel (5 : Int32))), .val (.int chA), .val (.int chB), .val (.int tA), .val (.int cA), .val (.int kA), .val (.int dA), .val (.int tB), .val (.int cB), .val (.int kB), .val (.int dB), .val (.ref q759), .val (.ref b765), .val (.int (sel &&& (7 : Int32))), .val (.ref b765), .unset, .unset, .unset]) rfl ?_
                        refine g_iload X778 hx hby at_393 rfl ?_
                        refine g_ifN X778 hx hby at_395 (feq (hc293_48 : ¬ ((own_bit sel (4 : Int32)) = (0 : Int32)))).1 ?_
                        refine g_iload X778 hx hby at_398 rfl ?_
                        refine g_goto X778 hx hby 404 at_400 (by decide) (by decide) ?_
                        refine g_istore X778 hx hby at_404 (l' := #[.val (.long y0), .second, .val (.long y1), .second, .val (.long y2), .second, .val (.long y3), .second, .val (.int sel), .val (.int posA), .val (.int posB), .val (.int colA), .val (.int colB), .val (.int (own_bit sel (4 : Int32))), .val (.int (own_bit sel (5 : Int32))), .val (.int chA), .val (.int chB), .val (.int tA), .val (.int cA), .val (.int kA), .val (.int dA), .val (.int tB), .val (.int cB), .val (.int kB), .val (.int dB), .val (.ref q759), .val (.ref b765), .val (.int (sel &&& (7 : Int32))), .val (.ref b765), .val (.int chA), .unset, .unset]) rfl ?_
                        refine g_iload X778 hx hby at_406 rfl ?_
                        refine g_ifY X778 hx hby 416 at_408 (teq (hc342_791 : (own_bit sel (5 : Int32)) = (0 : Int32))).1 (by decide) (by decide) ?_
                        refine g_iconst X778 hx hby (-1 : Int32) at_416 rfl ?_
                        refine g_istore X778 hx hby at_417 (l' := #[.val (.long y0), .second, .val (.long y1), .second, .val (.long y2), .second, .val (.long y3), .second, .val (.int sel), .val (.int posA), .val (.int posB), .val (.int colA), .val (.int colB), .val (.int (own_bit sel (4 : Int32))), .val (.int (own_bit sel (5 : Int32))), .val (.int chA), .val (.int chB), .val (.int tA), .val (.int cA), .val (.int kA), .val (.int dA), .val (.int tB), .val (.int cB), .val (.int kB), .val (.int dB), .val (.ref q759), .val (.ref b765), .val (.int (sel &&& (7 : Int32))), .val (.ref b765), .val (.int chA), .val (.int (-1 : Int32)), .unset]) rfl ?_
                        refine g_iload X778 hx hby at_419 rfl ?_
                        refine g_bipush X778 hx hby (6 : Int32) at_421 rfl ?_
                        refine g_icN X778 hx hby at_423 (tlt (own_which hc367_792 hc378_796 : (sel &&& (7 : Int32)) < (6 : Int32))).2.1 ?_
                        refine g_iload X778 hx hby at_426 rfl ?_
                        refine g_iload X778 hx hby at_428 rfl ?_
                        by_cases hc430_803 : posA = posB
                        · skip
                          refine g_icN X778 hx hby at_430 (teq hc430_803).2 ?_
                          refine g_iload X778 hx hby at_433 rfl ?_
                          refine g_iload X778 hx hby at_435 rfl ?_
                          refine g_icY X778 hx hby 479 at_437 (feq (own_m1 h_chA : ¬ (chA = (-1 : Int32)))).2 (by decide) (by decide) ?_
                          refine g_iconst X778 hx hby (0 : Int32) at_479 rfl ?_
                          refine g_istore X778 hx hby at_480 (l' := #[.val (.long y0), .second, .val (.long y1), .second, .val (.long y2), .second, .val (.long y3), .second, .val (.int sel), .val (.int posA), .val (.int posB), .val (.int colA), .val (.int colB), .val (.int (own_bit sel (4 : Int32))), .val (.int (own_bit sel (5 : Int32))), .val (.int chA), .val (.int chB), .val (.int tA), .val (.int cA), .val (.int kA), .val (.int dA), .val (.int tB), .val (.int cB), .val (.int kB), .val (.int dB), .val (.ref q759), .val (.ref b765), .val (.int (sel &&& (7 : Int32))), .val (.ref b765), .val (.int chA), .val (.int (-1 : Int32)), .val (.int (0 : Int32))]) rfl ?_
                          refine g_aload X778 hx hby at_482 rfl rfl ?_
                          refine g_aload X778 hx hby at_484 rfl rfl ?_
                          have f805 := ((((((pE759.ext E765).keep K766).keep K769).keep K772).keep K775).keep K778)
                          have ne806 : q759 ≠ b765 := (Nat.ne_of_lt (Nat.lt_of_lt_of_le pE759.lt (Nat.le_of_eq g765)))
                          have f807 := ((((((pa759.ext E765).keep K766 nin0).keep K769 nin0).keep K772 nin0).keep K775 nin0).keep K778 (ninS ne806 nin0))
                          have f808 := ((((((pb759.ext E765).keep K766 nin0).keep K769 nin0).keep K772 nin0).keep K775 nin0).keep K778 (ninS ne806 nin0))
                          have f809 := ((((((pc759.ext E765).keep K766 nin0).keep K769 nin0).keep K772 nin0).keep K775 nin0).keep K778 (ninS ne806 nin0))
                          have f810 := ((((((pd759.ext E765).keep K766 nin0).keep K769 nin0).keep K772 nin0).keep K775 nin0).keep K778 (ninS ne806 nin0))
                          have f811 := ((((((pe759.ext E765).keep K766 nin0).keep K769 nin0).keep K772 nin0).keep K775 nin0).keep K778 (ninS ne806 nin0))
                          have f812 := ((((((pf759.ext E765).keep K766 nin0).keep K769 nin0).keep K772 nin0).keep K775 nin0).keep K778 (ninS ne806 nin0))
                          have f813 := ((((((pg759.ext E765).keep K766 nin0).keep K769 nin0).keep K772 nin0).keep K775 nin0).keep K778 (ninS ne806 nin0))
                          have f814 := (((((((f760.keep K759).ext E765).keep K766).keep K769).keep K772).keep K775).keep K778)
                          have ne815 : s23 ≠ b22 := (Ne.symm (Nat.ne_of_lt (Nat.lt_of_lt_of_le A22.lt ls23)))
                          have ne816 : s23 ≠ b765 := (Nat.ne_of_lt (Nat.lt_of_lt_of_le Es23.lt (Nat.le_trans (Nat.le_trans (Nat.le_trans (Nat.le_trans (Nat.le_trans K26.1 K29.1) K32.1) K35.1) K759.1) (Nat.le_of_eq g765))))
                          have f817 := (((((((((((Cs23.keep K26 nin0).keep K29 nin0).keep K32 nin0).keep K35 (ninS ne815 nin0)).keep K759 nin0).ext E765).keep K766 nin0).keep K769 nin0).keep K772 nin0).keep K775 nin0).keep K778 (ninS ne816 nin0))
                          have f818 := (((((((((((Vs23.keep K26 nin0).keep K29 nin0).keep K32 nin0).keep K35 (ninS ne815 nin0)).keep K759 nin0).ext E765).keep K766 nin0).keep K769 nin0).keep K772 nin0).keep K775 nin0).keep K778 (ninS ne816 nin0))
                          have ne819 : t23 ≠ b22 := (Ne.symm (Nat.ne_of_lt (Nat.lt_of_lt_of_le A22.lt lo23)))
                          have ne820 : t23 ≠ b765 := (Nat.ne_of_lt (Nat.lt_of_lt_of_le Bs23.lt (Nat.le_trans (Nat.le_trans (Nat.le_trans (Nat.le_trans (Nat.le_trans K26.1 K29.1) K32.1) K35.1) K759.1) (Nat.le_of_eq g765))))
                          have f821 := (((((((((((Bs23.keep K26 nin0).keep K29 nin0).keep K32 nin0).keep K35 (ninS ne819 nin0)).keep K759 nin0).ext E765).keep K766 nin0).keep K769 nin0).keep K772 nin0).keep K775 nin0).keep K778 (ninS ne820 nin0))
                          have f822 := (((((((f761.keep K759).ext E765).keep K766).keep K769).keep K772).keep K775).keep K778)
                          have ne823 : s26 ≠ b22 := (Ne.symm (Nat.ne_of_lt (Nat.lt_of_lt_of_le A22.lt (Nat.le_trans K23.1 ls26))))
                          have ne824 : s26 ≠ b765 := (Nat.ne_of_lt (Nat.lt_of_lt_of_le Es26.lt (Nat.le_trans (Nat.le_trans (Nat.le_trans (Nat.le_trans K29.1 K32.1) K35.1) K759.1) (Nat.le_of_eq g765))))
                          have f825 := ((((((((((Cs26.keep K29 nin0).keep K32 nin0).keep K35 (ninS ne823 nin0)).keep K759 nin0).ext E765).keep K766 nin0).keep K769 nin0).keep K772 nin0).keep K775 nin0).keep K778 (ninS ne824 nin0))
                          have f826 := ((((((((((Vs26.keep K29 nin0).keep K32 nin0).keep K35 (ninS ne823 nin0)).keep K759 nin0).ext E765).keep K766 nin0).keep K769 nin0).keep K772 nin0).keep K775 nin0).keep K778 (ninS ne824 nin0))
                          have ne827 : t26 ≠ b22 := (Ne.symm (Nat.ne_of_lt (Nat.lt_of_lt_of_le A22.lt (Nat.le_trans K23.1 lo26))))
                          have ne828 : t26 ≠ b765 := (Nat.ne_of_lt (Nat.lt_of_lt_of_le Bs26.lt (Nat.le_trans (Nat.le_trans (Nat.le_trans (Nat.le_trans K29.1 K32.1) K35.1) K759.1) (Nat.le_of_eq g765))))
                          have f829 := ((((((((((Bs26.keep K29 nin0).keep K32 nin0).keep K35 (ninS ne827 nin0)).keep K759 nin0).ext E765).keep K766 nin0).keep K769 nin0).keep K772 nin0).keep K775 nin0).keep K778 (ninS ne828 nin0))
                          have f830 := (((((((f762.keep K759).ext E765).keep K766).keep K769).keep K772).keep K775).keep K778)
                          have ne831 : s29 ≠ b22 := (Ne.symm (Nat.ne_of_lt (Nat.lt_of_lt_of_le A22.lt (Nat.le_trans (Nat.le_trans K23.1 K26.1) ls29))))
                          have ne832 : s29 ≠ b765 := (Nat.ne_of_lt (Nat.lt_of_lt_of_le Es29.lt (Nat.le_trans (Nat.le_trans (Nat.le_trans K32.1 K35.1) K759.1) (Nat.le_of_eq g765))))
                          have f833 := (((((((((Cs29.keep K32 nin0).keep K35 (ninS ne831 nin0)).keep K759 nin0).ext E765).keep K766 nin0).keep K769 nin0).keep K772 nin0).keep K775 nin0).keep K778 (ninS ne832 nin0))
                          have f834 := (((((((((Vs29.keep K32 nin0).keep K35 (ninS ne831 nin0)).keep K759 nin0).ext E765).keep K766 nin0).keep K769 nin0).keep K772 nin0).keep K775 nin0).keep K778 (ninS ne832 nin0))
                          have ne835 : t29 ≠ b22 := (Ne.symm (Nat.ne_of_lt (Nat.lt_of_lt_of_le A22.lt (Nat.le_trans (Nat.le_trans K23.1 K26.1) lo29))))
                          have ne836 : t29 ≠ b765 := (Nat.ne_of_lt (Nat.lt_of_lt_of_le Bs29.lt (Nat.le_trans (Nat.le_trans (Nat.le_trans K32.1 K35.1) K759.1) (Nat.le_of_eq g765))))
                          have f837 := (((((((((Bs29.keep K32 nin0).keep K35 (ninS ne835 nin0)).keep K759 nin0).ext E765).keep K766 nin0).keep K769 nin0).keep K772 nin0).keep K775 nin0).keep K778 (ninS ne836 nin0))
                          have f838 := (((((((f763.keep K759).ext E765).keep K766).keep K769).keep K772).keep K775).keep K778)
                          have ne839 : s32 ≠ b22 := (Ne.symm (Nat.ne_of_lt (Nat.lt_of_lt_of_le A22.lt (Nat.le_trans (Nat.le_trans (Nat.le_trans K23.1 K26.1) K29.1) ls32))))
                          have ne840 : s32 ≠ b765 := (Nat.ne_of_lt (Nat.lt_of_lt_of_le Es32.lt (Nat.le_trans (Nat.le_trans K35.1 K759.1) (Nat.le_of_eq g765))))
                          have f841 := ((((((((Cs32.keep K35 (ninS ne839 nin0)).keep K759 nin0).ext E765).keep K766 nin0).keep K769 nin0).keep K772 nin0).keep K775 nin0).keep K778 (ninS ne840 nin0))
                          have f842 := ((((((((Vs32.keep K35 (ninS ne839 nin0)).keep K759 nin0).ext E765).keep K766 nin0).keep K769 nin0).keep K772 nin0).keep K775 nin0).keep K778 (ninS ne840 nin0))
                          have ne843 : t32 ≠ b22 := (Ne.symm (Nat.ne_of_lt (Nat.lt_of_lt_of_le A22.lt (Nat.le_trans (Nat.le_trans (Nat.le_trans K23.1 K26.1) K29.1) lo32))))
                          have ne844 : t32 ≠ b765 := (Nat.ne_of_lt (Nat.lt_of_lt_of_le Bs32.lt (Nat.le_trans (Nat.le_trans K35.1 K759.1) (Nat.le_of_eq g765))))
                          have f845 := ((((((((Bs32.keep K35 (ninS ne843 nin0)).keep K759 nin0).ext E765).keep K766 nin0).keep K769 nin0).keep K772 nin0).keep K775 nin0).keep K778 (ninS ne844 nin0))
                          have f846 := (f787.keep K778)
                          have ne847 : s766 ≠ b765 := (Ne.symm (Nat.ne_of_lt (Nat.lt_of_lt_of_le A765.lt ls766)))
                          have f848 := ((((Cs766.keep K769 nin0).keep K772 nin0).keep K775 nin0).keep K778 (ninS ne847 nin0))
                          have f849 := ((((Vs766.keep K769 nin0).keep K772 nin0).keep K775 nin0).keep K778 (ninS ne847 nin0))
                          have ne850 : t766 ≠ b765 := (Ne.symm (Nat.ne_of_lt (Nat.lt_of_lt_of_le A765.lt lo766)))
                          have f851 := ((((Bs766.keep K769 nin0).keep K772 nin0).keep K775 nin0).keep K778 (ninS ne850 nin0))
                          have f852 := (f788.keep K778)
                          have ne853 : s769 ≠ b765 := (Ne.symm (Nat.ne_of_lt (Nat.lt_of_lt_of_le A765.lt (Nat.le_trans K766.1 ls769))))
                          have f854 := (((Cs769.keep K772 nin0).keep K775 nin0).keep K778 (ninS ne853 nin0))
                          have f855 := (((Vs769.keep K772 nin0).keep K775 nin0).keep K778 (ninS ne853 nin0))
                          have ne856 : t769 ≠ b765 := (Ne.symm (Nat.ne_of_lt (Nat.lt_of_lt_of_le A765.lt (Nat.le_trans K766.1 lo769))))
                          have f857 := (((Bs769.keep K772 nin0).keep K775 nin0).keep K778 (ninS ne856 nin0))
                          have f858 := (f789.keep K778)
                          have ne859 : s772 ≠ b765 := (Ne.symm (Nat.ne_of_lt (Nat.lt_of_lt_of_le A765.lt (Nat.le_trans (Nat.le_trans K766.1 K769.1) ls772))))
                          have f860 := ((Cs772.keep K775 nin0).keep K778 (ninS ne859 nin0))
                          have f861 := ((Vs772.keep K775 nin0).keep K778 (ninS ne859 nin0))
                          have ne862 : t772 ≠ b765 := (Ne.symm (Nat.ne_of_lt (Nat.lt_of_lt_of_le A765.lt (Nat.le_trans (Nat.le_trans K766.1 K769.1) lo772))))
                          have f863 := ((Bs772.keep K775 nin0).keep K778 (ninS ne862 nin0))
                          have f864 := (Es775.keep K778)
                          have ne865 : s775 ≠ b765 := (Ne.symm (Nat.ne_of_lt (Nat.lt_of_lt_of_le A765.lt (Nat.le_trans (Nat.le_trans (Nat.le_trans K766.1 K769.1) K772.1) ls775))))
                          have f866 := (Cs775.keep K778 (ninS ne865 nin0))
                          have f867 := (Vs775.keep K778 (ninS ne865 nin0))
                          have ne868 : t775 ≠ b765 := (Ne.symm (Nat.ne_of_lt (Nat.lt_of_lt_of_le A765.lt (Nat.le_trans (Nat.le_trans (Nat.le_trans K766.1 K769.1) K772.1) lo775))))
                          have f869 := (Bs775.keep K778 (ninS ne868 nin0))
                          have ne870 : s23 ≠ s766 := (Nat.ne_of_lt (Nat.lt_of_lt_of_le Es23.lt (Nat.le_trans (Nat.le_trans (Nat.le_trans (Nat.le_trans (Nat.le_trans (Nat.le_trans K26.1 K29.1) K32.1) K35.1) K759.1) E765.1) ls766)))
                          have ne871 : s26 ≠ s769 := (Nat.ne_of_lt (Nat.lt_of_lt_of_le Es26.lt (Nat.le_trans (Nat.le_trans (Nat.le_trans (Nat.le_trans (Nat.le_trans (Nat.le_trans K29.1 K32.1) K35.1) K759.1) E765.1) K766.1) ls769)))
                          have ne872 : s29 ≠ s772 := (Nat.ne_of_lt (Nat.lt_of_lt_of_le Es29.lt (Nat.le_trans (Nat.le_trans (Nat.le_trans (Nat.le_trans (Nat.le_trans (Nat.le_trans K32.1 K35.1) K759.1) E765.1) K766.1) K769.1) ls772)))
                          have ne873 : s32 ≠ s775 := (Nat.ne_of_lt (Nat.lt_of_lt_of_le Es32.lt (Nat.le_trans (Nat.le_trans (Nat.le_trans (Nat.le_trans (Nat.le_trans (Nat.le_trans K35.1 K759.1) E765.1) K766.1) K769.1) K772.1) ls775)))
                          have f874 := ((f776.keep K775 all0).keep K778 (allS g_b765 all0))
                          have z875 := (Nat.le_trans z790 K778.1)
                          refine g_virtual X778 hx hby hZ778 ho778 (rm_peqp l Z a0 hw [] q759 b765 posA chA s23 s26 colA s29 s32 t23 kb23 (nar .byte (tA.toInt8.toInt32)) t26 kb26 (nar .byte (cA.toInt8.toInt32)) t29 kb29 (nar .byte (kA.toInt8.toInt32)) t32 kb32 (nar .byte (dA.toInt8.toInt32)) posB (-1 : Int32) s766 s769 colB s772 s775 t766 kb766 (nar .byte (tB.toInt8.toInt32)) t769 kb769 (nar .byte (cB.toInt8.toInt32)) t772 kb772 (nar .byte (kB.toInt8.toInt32)) t775 kb775 (nar .byte (dB.toInt8.toInt32)) cz T778.heap n0 z875 O2 P5 f874 ⟨f805, f807, f808, f809, f810, f811, f812, f813⟩ ⟨pE778, pa778, pb778, pc778, pd778, pe778, pf778, pg778⟩ f814 f817 f818 f821 f822 f825 f826 f829 f830 f833 f834 f837 f838 f841 f842 f845 f846 f848 f849 f851 f852 f854 f855 f857 f858 f860 f861 f863 f864 f866 f867 f869 ne870 ne871 ne872 ne873) w74_ w75_ (notFace_of_selects (args := #[]) (mvT hZ778 w77_)) w77_ w76_ w15_ w78_ (by decide) rfl f805 (by rw [hml]; rfl) [(.ref b765)] (lenOf own_pd1 rfl) rfl rfl (Nat.le_of_ble_eq_true rfl) (Nat.le_of_ble_eq_true rfl) (Nat.le_of_ble_eq_true rfl) (Nat.le_of_ble_eq_true rfl) at_486 (fun v804 T804 L804 X804 hQ804 => ?_)
                          obtain ⟨rfl, N804q, eh804⟩ := hQ804
                          have N804 := Fr.app N778 N804q
                          refine g_iload X804 hx hby at_489 rfl ?_
                          refine g_icN X804 hx hby at_491 (teq (by simp [own_beq h_tA h_tB, own_beq h_cA h_cB, own_beq h_kA h_kB, own_beq h_dA h_dB, own_m1 h_chA, own_m1' h_chA, own_m1 h_chB, own_m1' h_chB, hc430_803] : (if posA = posB ∧ chA = (-1 : Int32) ∧ (nar .byte (tA.toInt8.toInt32)) = (nar .byte (tB.toInt8.toInt32)) ∧ (nar .byte (cA.toInt8.toInt32)) = (nar .byte (cB.toInt8.toInt32)) ∧ colA = colB ∧ (nar .byte (kA.toInt8.toInt32)) = (nar .byte (kB.toInt8.toInt32)) ∧ (nar .byte (dA.toInt8.toInt32)) = (nar .byte (dB.toInt8.toInt32)) then 1 else 0 : Int32) = (0 : Int32))).2 ?_
                          refine g_iconst X804 hx hby (1 : Int32) at_494 rfl ?_
                          refine g_goto X804 hx hby 499 at_495 (by decide) (by decide) ?_
                          refine g_nretW X804 hx hby (t := .boolean) (by simp) Bd.returns Bd.notSynchronized hS778 at_499 eh804 (Nat.le_refl _) (by decide) (by decide) ?_
                          show (Q_law Z y0 y1 y2 y3 sel cz h0 n0) (some (.int (1 : Int32))) _ _
                          exact ⟨rfl, N804⟩
                        · skip
                          refine g_icY X778 hx hby 479 at_430 (feq hc430_803).2 (by decide) (by decide) ?_
                          refine g_iconst X778 hx hby (0 : Int32) at_479 rfl ?_
                          refine g_istore X778 hx hby at_480 (l' := #[.val (.long y0), .second, .val (.long y1), .second, .val (.long y2), .second, .val (.long y3), .second, .val (.int sel), .val (.int posA), .val (.int posB), .val (.int colA), .val (.int colB), .val (.int (own_bit sel (4 : Int32))), .val (.int (own_bit sel (5 : Int32))), .val (.int chA), .val (.int chB), .val (.int tA), .val (.int cA), .val (.int kA), .val (.int dA), .val (.int tB), .val (.int cB), .val (.int kB), .val (.int dB), .val (.ref q759), .val (.ref b765), .val (.int (sel &&& (7 : Int32))), .val (.ref b765), .val (.int chA), .val (.int (-1 : Int32)), .val (.int (0 : Int32))]) rfl ?_
                          refine g_aload X778 hx hby at_482 rfl rfl ?_
                          refine g_aload X778 hx hby at_484 rfl rfl ?_
                          have f877 := ((((((pE759.ext E765).keep K766).keep K769).keep K772).keep K775).keep K778)
                          have ne878 : q759 ≠ b765 := (Nat.ne_of_lt (Nat.lt_of_lt_of_le pE759.lt (Nat.le_of_eq g765)))
                          have f879 := ((((((pa759.ext E765).keep K766 nin0).keep K769 nin0).keep K772 nin0).keep K775 nin0).keep K778 (ninS ne878 nin0))
                          have f880 := ((((((pb759.ext E765).keep K766 nin0).keep K769 nin0).keep K772 nin0).keep K775 nin0).keep K778 (ninS ne878 nin0))
                          have f881 := ((((((pc759.ext E765).keep K766 nin0).keep K769 nin0).keep K772 nin0).keep K775 nin0).keep K778 (ninS ne878 nin0))
                          have f882 := ((((((pd759.ext E765).keep K766 nin0).keep K769 nin0).keep K772 nin0).keep K775 nin0).keep K778 (ninS ne878 nin0))
                          have f883 := ((((((pe759.ext E765).keep K766 nin0).keep K769 nin0).keep K772 nin0).keep K775 nin0).keep K778 (ninS ne878 nin0))
                          have f884 := ((((((pf759.ext E765).keep K766 nin0).keep K769 nin0).keep K772 nin0).keep K775 nin0).keep K778 (ninS ne878 nin0))
                          have f885 := ((((((pg759.ext E765).keep K766 nin0).keep K769 nin0).keep K772 nin0).keep K775 nin0).keep K778 (ninS ne878 nin0))
                          have f886 := (((((((f760.keep K759).ext E765).keep K766).keep K769).keep K772).keep K775).keep K778)
                          have ne887 : s23 ≠ b22 := (Ne.symm (Nat.ne_of_lt (Nat.lt_of_lt_of_le A22.lt ls23)))
                          have ne888 : s23 ≠ b765 := (Nat.ne_of_lt (Nat.lt_of_lt_of_le Es23.lt (Nat.le_trans (Nat.le_trans (Nat.le_trans (Nat.le_trans (Nat.le_trans K26.1 K29.1) K32.1) K35.1) K759.1) (Nat.le_of_eq g765))))
                          have f889 := (((((((((((Cs23.keep K26 nin0).keep K29 nin0).keep K32 nin0).keep K35 (ninS ne887 nin0)).keep K759 nin0).ext E765).keep K766 nin0).keep K769 nin0).keep K772 nin0).keep K775 nin0).keep K778 (ninS ne888 nin0))
                          have f890 := (((((((((((Vs23.keep K26 nin0).keep K29 nin0).keep K32 nin0).keep K35 (ninS ne887 nin0)).keep K759 nin0).ext E765).keep K766 nin0).keep K769 nin0).keep K772 nin0).keep K775 nin0).keep K778 (ninS ne888 nin0))
                          have ne891 : t23 ≠ b22 := (Ne.symm (Nat.ne_of_lt (Nat.lt_of_lt_of_le A22.lt lo23)))
                          have ne892 : t23 ≠ b765 := (Nat.ne_of_lt (Nat.lt_of_lt_of_le Bs23.lt (Nat.le_trans (Nat.le_trans (Nat.le_trans (Nat.le_trans (Nat.le_trans K26.1 K29.1) K32.1) K35.1) K759.1) (Nat.le_of_eq g765))))
                          have f893 := (((((((((((Bs23.keep K26 nin0).keep K29 nin0).keep K32 nin0).keep K35 (ninS ne891 nin0)).keep K759 nin0).ext E765).keep K766 nin0).keep K769 nin0).keep K772 nin0).keep K775 nin0).keep K778 (ninS ne892 nin0))
                          have f894 := (((((((f761.keep K759).ext E765).keep K766).keep K769).keep K772).keep K775).keep K778)
                          have ne895 : s26 ≠ b22 := (Ne.symm (Nat.ne_of_lt (Nat.lt_of_lt_of_le A22.lt (Nat.le_trans K23.1 ls26))))
                          have ne896 : s26 ≠ b765 := (Nat.ne_of_lt (Nat.lt_of_lt_of_le Es26.lt (Nat.le_trans (Nat.le_trans (Nat.le_trans (Nat.le_trans K29.1 K32.1) K35.1) K759.1) (Nat.le_of_eq g765))))
                          have f897 := ((((((((((Cs26.keep K29 nin0).keep K32 nin0).keep K35 (ninS ne895 nin0)).keep K759 nin0).ext E765).keep K766 nin0).keep K769 nin0).keep K772 nin0).keep K775 nin0).keep K778 (ninS ne896 nin0))
                          have f898 := ((((((((((Vs26.keep K29 nin0).keep K32 nin0).keep K35 (ninS ne895 nin0)).keep K759 nin0).ext E765).keep K766 nin0).keep K769 nin0).keep K772 nin0).keep K775 nin0).keep K778 (ninS ne896 nin0))
                          have ne899 : t26 ≠ b22 := (Ne.symm (Nat.ne_of_lt (Nat.lt_of_lt_of_le A22.lt (Nat.le_trans K23.1 lo26))))
                          have ne900 : t26 ≠ b765 := (Nat.ne_of_lt (Nat.lt_of_lt_of_le Bs26.lt (Nat.le_trans (Nat.le_trans (Nat.le_trans (Nat.le_trans K29.1 K32.1) K35.1) K759.1) (Nat.le_of_eq g765))))
                          have f901 := ((((((((((Bs26.keep K29 nin0).keep K32 nin0).keep K35 (ninS ne899 nin0)).keep K759 nin0).ext E765).keep K766 nin0).keep K769 nin0).keep K772 nin0).keep K775 nin0).keep K778 (ninS ne900 nin0))
                          have f902 := (((((((f762.keep K759).ext E765).keep K766).keep K769).keep K772).keep K775).keep K778)
                          have ne903 : s29 ≠ b22 := (Ne.symm (Nat.ne_of_lt (Nat.lt_of_lt_of_le A22.lt (Nat.le_trans (Nat.le_trans K23.1 K26.1) ls29))))
                          have ne904 : s29 ≠ b765 := (Nat.ne_of_lt (Nat.lt_of_lt_of_le Es29.lt (Nat.le_trans (Nat.le_trans (Nat.le_trans K32.1 K35.1) K759.1) (Nat.le_of_eq g765))))
                          have f905 := (((((((((Cs29.keep K32 nin0).keep K35 (ninS ne903 nin0)).keep K759 nin0).ext E765).keep K766 nin0).keep K769 nin0).keep K772 nin0).keep K775 nin0).keep K778 (ninS ne904 nin0))
                          have f906 := (((((((((Vs29.keep K32 nin0).keep K35 (ninS ne903 nin0)).keep K759 nin0).ext E765).keep K766 nin0).keep K769 nin0).keep K772 nin0).keep K775 nin0).keep K778 (ninS ne904 nin0))
                          have ne907 : t29 ≠ b22 := (Ne.symm (Nat.ne_of_lt (Nat.lt_of_lt_of_le A22.lt (Nat.le_trans (Nat.le_trans K23.1 K26.1) lo29))))
                          have ne908 : t29 ≠ b765 := (Nat.ne_of_lt (Nat.lt_of_lt_of_le Bs29.lt (Nat.le_trans (Nat.le_trans (Nat.le_trans K32.1 K35.1) K759.1) (Nat.le_of_eq g765))))
                          have f909 := (((((((((Bs29.keep K32 nin0).keep K35 (ninS ne907 nin0)).keep K759 nin0).ext E765).keep K766 nin0).keep K769 nin0).keep K772 nin0).keep K775 nin0).keep K778 (ninS ne908 nin0))
                          have f910 := (((((((f763.keep K759).ext E765).keep K766).keep K769).keep K772).keep K775).keep K778)
                          have ne911 : s32 ≠ b22 := (Ne.symm (Nat.ne_of_lt (Nat.lt_of_lt_of_le A22.lt (Nat.le_trans (Nat.le_trans (Nat.le_trans K23.1 K26.1) K29.1) ls32))))
                          have ne912 : s32 ≠ b765 := (Nat.ne_of_lt (Nat.lt_of_lt_of_le Es32.lt (Nat.le_trans (Nat.le_trans K35.1 K759.1) (Nat.le_of_eq g765))))
                          have f913 := ((((((((Cs32.keep K35 (ninS ne911 nin0)).keep K759 nin0).ext E765).keep K766 nin0).keep K769 nin0).keep K772 nin0).keep K775 nin0).keep K778 (ninS ne912 nin0))
                          have f914 := ((((((((Vs32.keep K35 (ninS ne911 nin0)).keep K759 nin0).ext E765).keep K766 nin0).keep K769 nin0).keep K772 nin0).keep K775 nin0).keep K778 (ninS ne912 nin0))
                          have ne915 : t32 ≠ b22 := (Ne.symm (Nat.ne_of_lt (Nat.lt_of_lt_of_le A22.lt (Nat.le_trans (Nat.le_trans (Nat.le_trans K23.1 K26.1) K29.1) lo32))))
                          have ne916 : t32 ≠ b765 := (Nat.ne_of_lt (Nat.lt_of_lt_of_le Bs32.lt (Nat.le_trans (Nat.le_trans K35.1 K759.1) (Nat.le_of_eq g765))))
                          have f917 := ((((((((Bs32.keep K35 (ninS ne915 nin0)).keep K759 nin0).ext E765).keep K766 nin0).keep K769 nin0).keep K772 nin0).keep K775 nin0).keep K778 (ninS ne916 nin0))
                          have f918 := (f787.keep K778)
                          have ne919 : s766 ≠ b765 := (Ne.symm (Nat.ne_of_lt (Nat.lt_of_lt_of_le A765.lt ls766)))
                          have f920 := ((((Cs766.keep K769 nin0).keep K772 nin0).keep K775 nin0).keep K778 (ninS ne919 nin0))
                          have f921 := ((((Vs766.keep K769 nin0).keep K772 nin0).keep K775 nin0).keep K778 (ninS ne919 nin0))
                          have ne922 : t766 ≠ b765 := (Ne.symm (Nat.ne_of_lt (Nat.lt_of_lt_of_le A765.lt lo766)))
                          have f923 := ((((Bs766.keep K769 nin0).keep K772 nin0).keep K775 nin0).keep K778 (ninS ne922 nin0))
                          have f924 := (f788.keep K778)
                          have ne925 : s769 ≠ b765 := (Ne.symm (Nat.ne_of_lt (Nat.lt_of_lt_of_le A765.lt (Nat.le_trans K766.1 ls769))))
                          have f926 := (((Cs769.keep K772 nin0).keep K775 nin0).keep K778 (ninS ne925 nin0))
                          have f927 := (((Vs769.keep K772 nin0).keep K775 nin0).keep K778 (ninS ne925 nin0))
                          have ne928 : t769 ≠ b765 := (Ne.symm (Nat.ne_of_lt (Nat.lt_of_lt_of_le A765.lt (Nat.le_trans K766.1 lo769))))
                          have f929 := (((Bs769.keep K772 nin0).keep K775 nin0).keep K778 (ninS ne928 nin0))
                          have f930 := (f789.keep K778)
                          have ne931 : s772 ≠ b765 := (Ne.symm (Nat.ne_of_lt (Nat.lt_of_lt_of_le A765.lt (Nat.le_trans (Nat.le_trans K766.1 K769.1) ls772))))
                          have f932 := ((Cs772.keep K775 nin0).keep K778 (ninS ne931 nin0))
                          have f933 := ((Vs772.keep K775 nin0).keep K778 (ninS ne931 nin0))
                          have ne934 : t772 ≠ b765 := (Ne.symm (Nat.ne_of_lt (Nat.lt_of_lt_of_le A765.lt (Nat.le_trans (Nat.le_trans K766.1 K769.1) lo772))))
                          have f935 := ((Bs772.keep K775 nin0).keep K778 (ninS ne934 nin0))
                          have f936 := (Es775.keep K778)
                          have ne937 : s775 ≠ b765 := (Ne.symm (Nat.ne_of_lt (Nat.lt_of_lt_of_le A765.lt (Nat.le_trans (Nat.le_trans (Nat.le_trans K766.1 K769.1) K772.1) ls775))))
                          have f938 := (Cs775.keep K778 (ninS ne937 nin0))
                          have f939 := (Vs775.keep K778 (ninS ne937 nin0))
                          have ne940 : t775 ≠ b765 := (Ne.symm (Nat.ne_of_lt (Nat.lt_of_lt_of_le A765.lt (Nat.le_trans (Nat.le_trans (Nat.le_trans K766.1 K769.1) K772.1) lo775))))
                          have f941 := (Bs775.keep K778 (ninS ne940 nin0))
                          have ne942 : s23 ≠ s766 := (Nat.ne_of_lt (Nat.lt_of_lt_of_le Es23.lt (Nat.le_trans (Nat.le_trans (Nat.le_trans (Nat.le_trans (Nat.le_trans (Nat.le_trans K26.1 K29.1) K32.1) K35.1) K759.1) E765.1) ls766)))
                          have ne943 : s26 ≠ s769 := (Nat.ne_of_lt (Nat.lt_of_lt_of_le Es26.lt (Nat.le_trans (Nat.le_trans (Nat.le_trans (Nat.le_trans (Nat.le_trans (Nat.le_trans K29.1 K32.1) K35.1) K759.1) E765.1) K766.1) ls769)))
                          have ne944 : s29 ≠ s772 := (Nat.ne_of_lt (Nat.lt_of_lt_of_le Es29.lt (Nat.le_trans (Nat.le_trans (Nat.le_trans (Nat.le_trans (Nat.le_trans (Nat.le_trans K32.1 K35.1) K759.1) E765.1) K766.1) K769.1) ls772)))
                          have ne945 : s32 ≠ s775 := (Nat.ne_of_lt (Nat.lt_of_lt_of_le Es32.lt (Nat.le_trans (Nat.le_trans (Nat.le_trans (Nat.le_trans (Nat.le_trans (Nat.le_trans K35.1 K759.1) E765.1) K766.1) K769.1) K772.1) ls775)))
                          have f946 := ((f776.keep K775 all0).keep K778 (allS g_b765 all0))
                          have z947 := (Nat.le_trans z790 K778.1)
                          refine g_virtual X778 hx hby hZ778 ho778 (rm_peqp l Z a0 hw [] q759 b765 posA chA s23 s26 colA s29 s32 t23 kb23 (nar .byte (tA.toInt8.toInt32)) t26 kb26 (nar .byte (cA.toInt8.toInt32)) t29 kb29 (nar .byte (kA.toInt8.toInt32)) t32 kb32 (nar .byte (dA.toInt8.toInt32)) posB (-1 : Int32) s766 s769 colB s772 s775 t766 kb766 (nar .byte (tB.toInt8.toInt32)) t769 kb769 (nar .byte (cB.toInt8.toInt32)) t772 kb772 (nar .byte (kB.toInt8.toInt32)) t775 kb775 (nar .byte (dB.toInt8.toInt32)) cz T778.heap n0 z947 O2 P5 f946 ⟨f877, f879, f880, f881, f882, f883, f884, f885⟩ ⟨pE778, pa778, pb778, pc778, pd778, pe778, pf778, pg778⟩ f886 f889 f890 f893 f894 f897 f898 f901 f902 f905 f906 f909 f910 f913 f914 f917 f918 f920 f921 f923 f924 f926 f927 f929 f930 f932 f933 f935 f936 f938 f939 f941 ne942 ne943 ne944 ne945) w74_ w75_ (notFace_of_selects (args := #[]) (mvT hZ778 w77_)) w77_ w76_ w15_ w78_ (by decide) rfl f877 (by rw [hml]; rfl) [(.ref b765)] (lenOf own_pd1 rfl) rfl rfl (Nat.le_of_ble_eq_true rfl) (Nat.le_of_ble_eq_true rfl) (Nat.le_of_ble_eq_true rfl) (Nat.le_of_ble_eq_true rfl) at_486 (fun v876 T876 L876 X876 hQ876 => ?_)
                          obtain ⟨rfl, N876q, eh876⟩ := hQ876
                          have N876 := Fr.app N778 N876q
                          refine g_iload X876 hx hby at_489 rfl ?_
                          refine g_icN X876 hx hby at_491 (teq (by simp [own_beq h_tA h_tB, own_beq h_cA h_cB, own_beq h_kA h_kB, own_beq h_dA h_dB, own_m1 h_chA, own_m1' h_chA, own_m1 h_chB, own_m1' h_chB, hc430_803] : (if posA = posB ∧ chA = (-1 : Int32) ∧ (nar .byte (tA.toInt8.toInt32)) = (nar .byte (tB.toInt8.toInt32)) ∧ (nar .byte (cA.toInt8.toInt32)) = (nar .byte (cB.toInt8.toInt32)) ∧ colA = colB ∧ (nar .byte (kA.toInt8.toInt32)) = (nar .byte (kB.toInt8.toInt32)) ∧ (nar .byte (dA.toInt8.toInt32)) = (nar .byte (dB.toInt8.toInt32)) then 1 else 0 : Int32) = (0 : Int32))).2 ?_
                          refine g_iconst X876 hx hby (1 : Int32) at_494 rfl ?_
                          refine g_goto X876 hx hby 499 at_495 (by decide) (by decide) ?_
                          refine g_nretW X876 hx hby (t := .boolean) (by simp) Bd.returns Bd.notSynchronized hS778 at_499 eh876 (Nat.le_refl _) (by decide) (by decide) ?_
                          show (Q_law Z y0 y1 y2 y3 sel cz h0 n0) (some (.int (1 : Int32))) _ _
                          exact ⟨rfl, N876⟩
                  · skip
                    refine g_ifN X778 hx hby at_342 (feq hc342_791).1 ?_
                    refine g_aload X778 hx hby at_345 rfl rfl ?_
                    refine g_iload X778 hx hby at_347 rfl ?_
                    refine g_iload X778 hx hby at_349 rfl ?_
                    have f949 := (f787.keep K778)
                    have f950 := (f788.keep K778)
                    have f951 := (f789.keep K778)
                    have f952 := (Es775.keep K778)
                    have z953 := (Nat.le_trans z790 K778.1)
                    refine g_virtualW X778 hx hby hZ778 ho778 (PV := fun vm => Z.Warmed39 vm) (rm_ofchild l Z a0 hw [] b765 posB chB posB (-1 : Int32) s766 s769 colB s772 s775 T778.heap n0 z953 ⟨pE778, pa778, pb778, pc778, pd778, pe778, pf778, pg778⟩ f949 f950 f951 f952 h_posB h_chB h_colB) (fun _ q => State.Warmed39.trans hZ778 q.wide) hS778 (Nat.le_refl _) w89_ w90_ (notFace_of_selects (args := #[]) (mvT hZ778 w92_)) w92_ w91_ w15_ w93_ (by decide) rfl pE778 (by rw [hml]; rfl) [(.int posB), (.int chB)] (lenOf own_pd12 rfl) rfl rfl (Nat.le_of_ble_eq_true rfl) (Nat.le_of_ble_eq_true rfl) (Nat.le_of_ble_eq_true rfl) (Nat.le_of_ble_eq_true rfl) at_351 (fun v948 T948 L948 X948 hS948 hZ948 ho948 hQ948 => ?_)
                    obtain ⟨N948q, K948, q948, rfl, lq948, pE948, pa948, pb948, pc948, pd948, pe948, pf948, pg948⟩ := hQ948
                    have N948 := Fr.app N778 N948q
                    refine g_astore X948 hx hby at_354 rfl (l' := #[.val (.long y0), .second, .val (.long y1), .second, .val (.long y2), .second, .val (.long y3), .second, .val (.int sel), .val (.int posA), .val (.int posB), .val (.int colA), .val (.int colB), .val (.int (own_bit sel (4 : Int32))), .val (.int (own_bit sel (5 : Int32))), .val (.int chA), .val (.int chB), .val (.int tA), .val (.int cA), .val (.int kA), .val (.int dA), .val (.int tB), .val (.int cB), .val (.int kB), .val (.int dB), .val (.ref q759), .val (.ref q948), .unset, .unset, .unset, .unset, .unset]) rfl ?_
                    refine g_iload X948 hx hby at_356 rfl ?_
                    refine g_at 358 rfl rfl rfl ?_
                    refine g_bipush X948 hx hby (7 : Int32) at_358 rfl ?_
                    refine g_iand X948 hx hby at_360 ?_
                    refine g_istore X948 hx hby at_361 (l' := #[.val (.long y0), .second, .val (.long y1), .second, .val (.long y2), .second, .val (.long y3), .second, .val (.int sel), .val (.int posA), .val (.int posB), .val (.int colA), .val (.int colB), .val (.int (own_bit sel (4 : Int32))), .val (.int (own_bit sel (5 : Int32))), .val (.int chA), .val (.int chB), .val (.int tA), .val (.int cA), .val (.int kA), .val (.int dA), .val (.int tB), .val (.int cB), .val (.int kB), .val (.int dB), .val (.ref q759), .val (.ref q948), .val (.int (sel &&& (7 : Int32))), .unset, .unset, .unset, .unset]) rfl ?_
                    refine g_iload X948 hx hby at_363 rfl ?_
                    refine g_bipush X948 hx hby (7 : Int32) at_365 rfl ?_
                    by_cases hc367_954 : (sel &&& (7 : Int32)) = (7 : Int32)
                    · skip
                      refine g_icN X948 hx hby at_367 (teq hc367_954).2 ?_
                      refine g_aconst_null X948 hx hby at_370 ?_
                      refine g_goto X948 hx hby 391 at_371 (by decide) (by decide) ?_
                      refine g_astore X948 hx hby at_391 rfl (l' := #[.val (.long y0), .second, .val (.long y1), .second, .val (.long y2), .second, .val (.long y3), .second, .val (.int sel), .val (.int posA), .val (.int posB), .val (.int colA), .val (.int colB), .val (.int (own_bit sel (4 : Int32))), .val (.int (own_bit sel (5 : Int32))), .val (.int chA), .val (.int chB), .val (.int tA), .val (.int cA), .val (.int kA), .val (.int dA), .val (.int tB), .val (.int cB), .val (.int kB), .val (.int dB), .val (.ref q759), .val (.ref q948), .val (.int (sel &&& (7 : Int32))), .val .null, .unset, .unset, .unset]) rfl ?_
                      refine g_iload X948 hx hby at_393 rfl ?_
                      refine g_ifN X948 hx hby at_395 (feq (hc293_48 : ¬ ((own_bit sel (4 : Int32)) = (0 : Int32)))).1 ?_
                      refine g_iload X948 hx hby at_398 rfl ?_
                      refine g_goto X948 hx hby 404 at_400 (by decide) (by decide) ?_
                      refine g_istore X948 hx hby at_404 (l' := #[.val (.long y0), .second, .val (.long y1), .second, .val (.long y2), .second, .val (.long y3), .second, .val (.int sel), .val (.int posA), .val (.int posB), .val (.int colA), .val (.int colB), .val (.int (own_bit sel (4 : Int32))), .val (.int (own_bit sel (5 : Int32))), .val (.int chA), .val (.int chB), .val (.int tA), .val (.int cA), .val (.int kA), .val (.int dA), .val (.int tB), .val (.int cB), .val (.int kB), .val (.int dB), .val (.ref q759), .val (.ref q948), .val (.int (sel &&& (7 : Int32))), .val .null, .val (.int chA), .unset, .unset]) rfl ?_
                      refine g_iload X948 hx hby at_406 rfl ?_
                      refine g_ifN X948 hx hby at_408 (feq (hc342_791 : ¬ ((own_bit sel (5 : Int32)) = (0 : Int32)))).1 ?_
                      refine g_iload X948 hx hby at_411 rfl ?_
                      refine g_goto X948 hx hby 417 at_413 (by decide) (by decide) ?_
                      refine g_istore X948 hx hby at_417 (l' := #[.val (.long y0), .second, .val (.long y1), .second, .val (.long y2), .second, .val (.long y3), .second, .val (.int sel), .val (.int posA), .val (.int posB), .val (.int colA), .val (.int colB), .val (.int (own_bit sel (4 : Int32))), .val (.int (own_bit sel (5 : Int32))), .val (.int chA), .val (.int chB), .val (.int tA), .val (.int cA), .val (.int kA), .val (.int dA), .val (.int tB), .val (.int cB), .val (.int kB), .val (.int dB), .val (.ref q759), .val (.ref q948), .val (.int (sel &&& (7 : Int32))), .val .null, .val (.int chA), .val (.int chB), .unset]) rfl ?_
                      refine g_iload X948 hx hby at_419 rfl ?_
                      refine g_bipush X948 hx hby (6 : Int32) at_421 rfl ?_
                      refine g_icY X948 hx hby 479 at_423 (flt (by rw [hc367_954]; decide : ¬ ((sel &&& (7 : Int32)) < (6 : Int32)))).2.1 (by decide) (by decide) ?_
                      refine g_iconst X948 hx hby (0 : Int32) at_479 rfl ?_
                      refine g_istore X948 hx hby at_480 (l' := #[.val (.long y0), .second, .val (.long y1), .second, .val (.long y2), .second, .val (.long y3), .second, .val (.int sel), .val (.int posA), .val (.int posB), .val (.int colA), .val (.int colB), .val (.int (own_bit sel (4 : Int32))), .val (.int (own_bit sel (5 : Int32))), .val (.int chA), .val (.int chB), .val (.int tA), .val (.int cA), .val (.int kA), .val (.int dA), .val (.int tB), .val (.int cB), .val (.int kB), .val (.int dB), .val (.ref q759), .val (.ref q948), .val (.int (sel &&& (7 : Int32))), .val .null, .val (.int chA), .val (.int chB), .val (.int (0 : Int32))]) rfl ?_
                      refine g_aload X948 hx hby at_482 rfl rfl ?_
                      refine g_aload X948 hx hby at_484 rfl rfl ?_
                      have z956 := (Nat.le_trans z953 K948.1)
                      have f957 := (((((((pE759.ext E765).keep K766).keep K769).keep K772).keep K775).keep K778).keep K948)
                      refine g_virtual X948 hx hby hZ948 ho948 (rm_peqn l Z a0 hw [] q759 T948.heap n0 z956 ) w74_ w75_ (notFace_of_selects (args := #[]) (mvT hZ948 w77_)) w77_ w76_ w15_ w78_ (by decide) rfl f957 (by rw [hml]; rfl) [.null] (lenOf own_pd1 rfl) rfl rfl (Nat.le_of_ble_eq_true rfl) (Nat.le_of_ble_eq_true rfl) (Nat.le_of_ble_eq_true rfl) (Nat.le_of_ble_eq_true rfl) at_486 (fun v955 T955 L955 X955 hQ955 => ?_)
                      obtain ⟨rfl, N955q, eh955⟩ := hQ955
                      have N955 := Fr.app N948 N955q
                      refine g_iload X955 hx hby at_489 rfl ?_
                      refine g_icN X955 hx hby at_491 (teq (by decide : (0 : Int32) = (0 : Int32))).2 ?_
                      refine g_iconst X955 hx hby (1 : Int32) at_494 rfl ?_
                      refine g_goto X955 hx hby 499 at_495 (by decide) (by decide) ?_
                      refine g_nretW X955 hx hby (t := .boolean) (by simp) Bd.returns Bd.notSynchronized hS948 at_499 eh955 (Nat.le_refl _) (by decide) (by decide) ?_
                      show (Q_law Z y0 y1 y2 y3 sel cz h0 n0) (some (.int (1 : Int32))) _ _
                      exact ⟨rfl, N955⟩
                    · skip
                      refine g_icY X948 hx hby 374 at_367 (feq hc367_954).2 (by decide) (by decide) ?_
                      refine g_iload X948 hx hby at_374 rfl ?_
                      refine g_bipush X948 hx hby (6 : Int32) at_376 rfl ?_
                      by_cases hc378_958 : (sel &&& (7 : Int32)) = (6 : Int32)
                      · skip
                        refine g_icN X948 hx hby at_378 (teq hc378_958).2 ?_
                        refine g_iload X948 hx hby at_381 rfl ?_
                        have f960 := (((f776.keep K775 all0).keep K778 (allS g_b765 all0)).keep K948 all0)
                        have z961 := (Nat.le_trans z953 K948.1)
                        refine g_static X948 hx hby hZ948 ho948 (rm_valueof l Z a0 hw [] tA cz T948.heap n0 z961 O2 P5 f960 (own_c255 h_tA)) w16_ w17_ w18_ w19_ (by decide) rfl (by rw [hml]; rfl) [(.int tA)] (lenOf own_pd10 rfl) rfl rfl (Nat.le_of_ble_eq_true rfl) (Nat.le_of_ble_eq_true rfl) (Nat.le_of_ble_eq_true rfl) (Nat.le_of_ble_eq_true rfl) at_383 (fun v959 T959 L959 X959 hQ959 => ?_)
                        obtain ⟨N959q, K959, s959, t959, kb959, rfl, ls959, lo959, Es959, Cs959, Vs959, Bs959⟩ := hQ959
                        have N959 := Fr.app N948 N959q
                        refine g_goto X959 hx hby 391 at_386 (by decide) (by decide) ?_
                        refine g_astore X959 hx hby at_391 rfl (l' := #[.val (.long y0), .second, .val (.long y1), .second, .val (.long y2), .second, .val (.long y3), .second, .val (.int sel), .val (.int posA), .val (.int posB), .val (.int colA), .val (.int colB), .val (.int (own_bit sel (4 : Int32))), .val (.int (own_bit sel (5 : Int32))), .val (.int chA), .val (.int chB), .val (.int tA), .val (.int cA), .val (.int kA), .val (.int dA), .val (.int tB), .val (.int cB), .val (.int kB), .val (.int dB), .val (.ref q759), .val (.ref q948), .val (.int (sel &&& (7 : Int32))), .val (.ref s959), .unset, .unset, .unset]) rfl ?_
                        refine g_iload X959 hx hby at_393 rfl ?_
                        refine g_ifN X959 hx hby at_395 (feq (hc293_48 : ¬ ((own_bit sel (4 : Int32)) = (0 : Int32)))).1 ?_
                        refine g_iload X959 hx hby at_398 rfl ?_
                        refine g_goto X959 hx hby 404 at_400 (by decide) (by decide) ?_
                        refine g_istore X959 hx hby at_404 (l' := #[.val (.long y0), .second, .val (.long y1), .second, .val (.long y2), .second, .val (.long y3), .second, .val (.int sel), .val (.int posA), .val (.int posB), .val (.int colA), .val (.int colB), .val (.int (own_bit sel (4 : Int32))), .val (.int (own_bit sel (5 : Int32))), .val (.int chA), .val (.int chB), .val (.int tA), .val (.int cA), .val (.int kA), .val (.int dA), .val (.int tB), .val (.int cB), .val (.int kB), .val (.int dB), .val (.ref q759), .val (.ref q948), .val (.int (sel &&& (7 : Int32))), .val (.ref s959), .val (.int chA), .unset, .unset]) rfl ?_
                        refine g_iload X959 hx hby at_406 rfl ?_
                        refine g_ifN X959 hx hby at_408 (feq (hc342_791 : ¬ ((own_bit sel (5 : Int32)) = (0 : Int32)))).1 ?_
                        refine g_iload X959 hx hby at_411 rfl ?_
                        refine g_goto X959 hx hby 417 at_413 (by decide) (by decide) ?_
                        refine g_istore X959 hx hby at_417 (l' := #[.val (.long y0), .second, .val (.long y1), .second, .val (.long y2), .second, .val (.long y3), .second, .val (.int sel), .val (.int posA), .val (.int posB), .val (.int colA), .val (.int colB), .val (.int (own_bit sel (4 : Int32))), .val (.int (own_bit sel (5 : Int32))), .val (.int chA), .val (.int chB), .val (.int tA), .val (.int cA), .val (.int kA), .val (.int dA), .val (.int tB), .val (.int cB), .val (.int kB), .val (.int dB), .val (.ref q759), .val (.ref q948), .val (.int (sel &&& (7 : Int32))), .val (.ref s959), .val (.int chA), .val (.int chB), .unset]) rfl ?_
                        refine g_iload X959 hx hby at_419 rfl ?_
                        refine g_bipush X959 hx hby (6 : Int32) at_421 rfl ?_
                        refine g_icY X959 hx hby 479 at_423 (flt (by rw [hc378_958]; decide : ¬ ((sel &&& (7 : Int32)) < (6 : Int32)))).2.1 (by decide) (by decide) ?_
                        refine g_iconst X959 hx hby (0 : Int32) at_479 rfl ?_
                        refine g_istore X959 hx hby at_480 (l' := #[.val (.long y0), .second, .val (.long y1), .second, .val (.long y2), .second, .val (.long y3), .second, .val (.int sel), .val (.int posA), .val (.int posB), .val (.int colA), .val (.int colB), .val (.int (own_bit sel (4 : Int32))), .val (.int (own_bit sel (5 : Int32))), .val (.int chA), .val (.int chB), .val (.int tA), .val (.int cA), .val (.int kA), .val (.int dA), .val (.int tB), .val (.int cB), .val (.int kB), .val (.int dB), .val (.ref q759), .val (.ref q948), .val (.int (sel &&& (7 : Int32))), .val (.ref s959), .val (.int chA), .val (.int chB), .val (.int (0 : Int32))]) rfl ?_
                        refine g_aload X959 hx hby at_482 rfl rfl ?_
                        refine g_aload X959 hx hby at_484 rfl rfl ?_
                        have z963 := (Nat.le_trans z961 K959.1)
                        have f964 := ((((((((pE759.ext E765).keep K766).keep K769).keep K772).keep K775).keep K778).keep K948).keep K959)
                        refine g_virtual X959 hx hby hZ948 ho948 (rm_peqs l Z a0 hw [] q759 s959 T959.heap n0 z963 Es959) w74_ w75_ (notFace_of_selects (args := #[]) (mvT hZ948 w77_)) w77_ w76_ w15_ w78_ (by decide) rfl f964 (by rw [hml]; rfl) [(.ref s959)] (lenOf own_pd1 rfl) rfl rfl (Nat.le_of_ble_eq_true rfl) (Nat.le_of_ble_eq_true rfl) (Nat.le_of_ble_eq_true rfl) (Nat.le_of_ble_eq_true rfl) at_486 (fun v962 T962 L962 X962 hQ962 => ?_)
                        obtain ⟨rfl, N962q, eh962⟩ := hQ962
                        have N962 := Fr.app N959 N962q
                        refine g_iload X962 hx hby at_489 rfl ?_
                        refine g_icN X962 hx hby at_491 (teq (by decide : (0 : Int32) = (0 : Int32))).2 ?_
                        refine g_iconst X962 hx hby (1 : Int32) at_494 rfl ?_
                        refine g_goto X962 hx hby 499 at_495 (by decide) (by decide) ?_
                        refine g_nretW X962 hx hby (t := .boolean) (by simp) Bd.returns Bd.notSynchronized hS948 at_499 eh962 (Nat.le_trans (Nat.le_refl _) K959.1) (by decide) (by decide) ?_
                        show (Q_law Z y0 y1 y2 y3 sel cz h0 n0) (some (.int (1 : Int32))) _ _
                        exact ⟨rfl, N962⟩
                      · skip
                        refine g_icY X948 hx hby 389 at_378 (feq hc378_958).2 (by decide) (by decide) ?_
                        refine g_aload X948 hx hby at_389 rfl rfl ?_
                        refine g_astore X948 hx hby at_391 rfl (l' := #[.val (.long y0), .second, .val (.long y1), .second, .val (.long y2), .second, .val (.long y3), .second, .val (.int sel), .val (.int posA), .val (.int posB), .val (.int colA), .val (.int colB), .val (.int (own_bit sel (4 : Int32))), .val (.int (own_bit sel (5 : Int32))), .val (.int chA), .val (.int chB), .val (.int tA), .val (.int cA), .val (.int kA), .val (.int dA), .val (.int tB), .val (.int cB), .val (.int kB), .val (.int dB), .val (.ref q759), .val (.ref q948), .val (.int (sel &&& (7 : Int32))), .val (.ref q948), .unset, .unset, .unset]) rfl ?_
                        refine g_iload X948 hx hby at_393 rfl ?_
                        refine g_ifN X948 hx hby at_395 (feq (hc293_48 : ¬ ((own_bit sel (4 : Int32)) = (0 : Int32)))).1 ?_
                        refine g_iload X948 hx hby at_398 rfl ?_
                        refine g_goto X948 hx hby 404 at_400 (by decide) (by decide) ?_
                        refine g_istore X948 hx hby at_404 (l' := #[.val (.long y0), .second, .val (.long y1), .second, .val (.long y2), .second, .val (.long y3), .second, .val (.int sel), .val (.int posA), .val (.int posB), .val (.int colA), .val (.int colB), .val (.int (own_bit sel (4 : Int32))), .val (.int (own_bit sel (5 : Int32))), .val (.int chA), .val (.int chB), .val (.int tA), .val (.int cA), .val (.int kA), .val (.int dA), .val (.int tB), .val (.int cB), .val (.int kB), .val (.int dB), .val (.ref q759), .val (.ref q948), .val (.int (sel &&& (7 : Int32))), .val (.ref q948), .val (.int chA), .unset, .unset]) rfl ?_
                        refine g_iload X948 hx hby at_406 rfl ?_
                        refine g_ifN X948 hx hby at_408 (feq (hc342_791 : ¬ ((own_bit sel (5 : Int32)) = (0 : Int32)))).1 ?_
                        refine g_iload X948 hx hby at_411 rfl ?_
                        refine g_goto X948 hx hby 417 at_413 (by decide) (by decide) ?_
                        refine g_istore X948 hx hby at_417 (l' := #[.val (.long y0), .second, .val (.long y1), .second, .val (.long y2), .second, .val (.long y3), .second, .val (.int sel), .val (.int posA), .val (.int posB), .val (.int colA), .val (.int colB), .val (.int (own_bit sel (4 : Int32))), .val (.int (own_bit sel (5 : Int32))), .val (.int chA), .val (.int chB), .val (.int tA), .val (.int cA), .val (.int kA), .val (.int dA), .val (.int tB), .val (.int cB), .val (.int kB), .val (.int dB), .val (.ref q759), .val (.ref q948), .val (.int (sel &&& (7 : Int32))), .val (.ref q948), .val (.int chA), .val (.int chB), .unset]) rfl ?_
                        refine g_iload X948 hx hby at_419 rfl ?_
                        refine g_bipush X948 hx hby (6 : Int32) at_421 rfl ?_
                        refine g_icN X948 hx hby at_423 (tlt (own_which hc367_954 hc378_958 : (sel &&& (7 : Int32)) < (6 : Int32))).2.1 ?_
                        refine g_iload X948 hx hby at_426 rfl ?_
                        refine g_iload X948 hx hby at_428 rfl ?_
                        by_cases hc430_965 : posA = posB
                        · skip
                          refine g_icN X948 hx hby at_430 (teq hc430_965).2 ?_
                          refine g_iload X948 hx hby at_433 rfl ?_
                          refine g_iload X948 hx hby at_435 rfl ?_
                          by_cases hc437_966 : chA = chB
                          · skip
                            refine g_icN X948 hx hby at_437 (teq hc437_966).2 ?_
                            refine g_iload X948 hx hby at_440 rfl ?_
                            refine g_iload X948 hx hby at_442 rfl ?_
                            by_cases hc444_967 : tA = tB
                            · skip
                              refine g_icN X948 hx hby at_444 (teq hc444_967).2 ?_
                              refine g_iload X948 hx hby at_447 rfl ?_
                              refine g_iload X948 hx hby at_449 rfl ?_
                              by_cases hc451_968 : cA = cB
                              · skip
                                refine g_icN X948 hx hby at_451 (teq hc451_968).2 ?_
                                refine g_iload X948 hx hby at_454 rfl ?_
                                refine g_iload X948 hx hby at_456 rfl ?_
                                by_cases hc458_969 : colA = colB
                                · skip
                                  refine g_icN X948 hx hby at_458 (teq hc458_969).2 ?_
                                  refine g_iload X948 hx hby at_461 rfl ?_
                                  refine g_iload X948 hx hby at_463 rfl ?_
                                  by_cases hc465_970 : kA = kB
                                  · skip
                                    refine g_icN X948 hx hby at_465 (teq hc465_970).2 ?_
                                    refine g_iload X948 hx hby at_468 rfl ?_
                                    refine g_iload X948 hx hby at_470 rfl ?_
                                    by_cases hc472_971 : dA = dB
                                    · skip
                                      refine g_icN X948 hx hby at_472 (teq hc472_971).2 ?_
                                      refine g_at 475 rfl rfl rfl ?_
                                      refine g_iconst X948 hx hby (1 : Int32) at_475 rfl ?_
                                      refine g_goto X948 hx hby 480 at_476 (by decide) (by decide) ?_
                                      refine g_istore X948 hx hby at_480 (l' := #[.val (.long y0), .second, .val (.long y1), .second, .val (.long y2), .second, .val (.long y3), .second, .val (.int sel), .val (.int posA), .val (.int posB), .val (.int colA), .val (.int colB), .val (.int (own_bit sel (4 : Int32))), .val (.int (own_bit sel (5 : Int32))), .val (.int chA), .val (.int chB), .val (.int tA), .val (.int cA), .val (.int kA), .val (.int dA), .val (.int tB), .val (.int cB), .val (.int kB), .val (.int dB), .val (.ref q759), .val (.ref q948), .val (.int (sel &&& (7 : Int32))), .val (.ref q948), .val (.int chA), .val (.int chB), .val (.int (1 : Int32))]) rfl ?_
                                      refine g_aload X948 hx hby at_482 rfl rfl ?_
                                      refine g_aload X948 hx hby at_484 rfl rfl ?_
                                      have f973 := (((((((pE759.ext E765).keep K766).keep K769).keep K772).keep K775).keep K778).keep K948)
                                      have ne974 : q759 ≠ b765 := (Nat.ne_of_lt (Nat.lt_of_lt_of_le pE759.lt (Nat.le_of_eq g765)))
                                      have f975 := (((((((pa759.ext E765).keep K766 nin0).keep K769 nin0).keep K772 nin0).keep K775 nin0).keep K778 (ninS ne974 nin0)).keep K948 nin0)
                                      have f976 := (((((((pb759.ext E765).keep K766 nin0).keep K769 nin0).keep K772 nin0).keep K775 nin0).keep K778 (ninS ne974 nin0)).keep K948 nin0)
                                      have f977 := (((((((pc759.ext E765).keep K766 nin0).keep K769 nin0).keep K772 nin0).keep K775 nin0).keep K778 (ninS ne974 nin0)).keep K948 nin0)
                                      have f978 := (((((((pd759.ext E765).keep K766 nin0).keep K769 nin0).keep K772 nin0).keep K775 nin0).keep K778 (ninS ne974 nin0)).keep K948 nin0)
                                      have f979 := (((((((pe759.ext E765).keep K766 nin0).keep K769 nin0).keep K772 nin0).keep K775 nin0).keep K778 (ninS ne974 nin0)).keep K948 nin0)
                                      have f980 := (((((((pf759.ext E765).keep K766 nin0).keep K769 nin0).keep K772 nin0).keep K775 nin0).keep K778 (ninS ne974 nin0)).keep K948 nin0)
                                      have f981 := (((((((pg759.ext E765).keep K766 nin0).keep K769 nin0).keep K772 nin0).keep K775 nin0).keep K778 (ninS ne974 nin0)).keep K948 nin0)
                                      have f982 := ((((((((f760.keep K759).ext E765).keep K766).keep K769).keep K772).keep K775).keep K778).keep K948)
                                      have ne983 : s23 ≠ b22 := (Ne.symm (Nat.ne_of_lt (Nat.lt_of_lt_of_le A22.lt ls23)))
                                      have ne984 : s23 ≠ b765 := (Nat.ne_of_lt (Nat.lt_of_lt_of_le Es23.lt (Nat.le_trans (Nat.le_trans (Nat.le_trans (Nat.le_trans (Nat.le_trans K26.1 K29.1) K32.1) K35.1) K759.1) (Nat.le_of_eq g765))))
                                      have f985 := ((((((((((((Cs23.keep K26 nin0).keep K29 nin0).keep K32 nin0).keep K35 (ninS ne983 nin0)).keep K759 nin0).ext E765).keep K766 nin0).keep K769 nin0).keep K772 nin0).keep K775 nin0).keep K778 (ninS ne984 nin0)).keep K948 nin0)
                                      have f986 := ((((((((((((Vs23.keep K26 nin0).keep K29 nin0).keep K32 nin0).keep K35 (ninS ne983 nin0)).keep K759 nin0).ext E765).keep K766 nin0).keep K769 nin0).keep K772 nin0).keep K775 nin0).keep K778 (ninS ne984 nin0)).keep K948 nin0)
                                      have ne987 : t23 ≠ b22 := (Ne.symm (Nat.ne_of_lt (Nat.lt_of_lt_of_le A22.lt lo23)))
                                      have ne988 : t23 ≠ b765 := (Nat.ne_of_lt (Nat.lt_of_lt_of_le Bs23.lt (Nat.le_trans (Nat.le_trans (Nat.le_trans (Nat.le_trans (Nat.le_trans K26.1 K29.1) K32.1) K35.1) K759.1) (Nat.le_of_eq g765))))
                                      have f989 := ((((((((((((Bs23.keep K26 nin0).keep K29 nin0).keep K32 nin0).keep K35 (ninS ne987 nin0)).keep K759 nin0).ext E765).keep K766 nin0).keep K769 nin0).keep K772 nin0).keep K775 nin0).keep K778 (ninS ne988 nin0)).keep K948 nin0)
                                      have f990 := ((((((((f761.keep K759).ext E765).keep K766).keep K769).keep K772).keep K775).keep K778).keep K948)
                                      have ne991 : s26 ≠ b22 := (Ne.symm (Nat.ne_of_lt (Nat.lt_of_lt_of_le A22.lt (Nat.le_trans K23.1 ls26))))
                                      have ne992 : s26 ≠ b765 := (Nat.ne_of_lt (Nat.lt_of_lt_of_le Es26.lt (Nat.le_trans (Nat.le_trans (Nat.le_trans (Nat.le_trans K29.1 K32.1) K35.1) K759.1) (Nat.le_of_eq g765))))
                                      have f993 := (((((((((((Cs26.keep K29 nin0).keep K32 nin0).keep K35 (ninS ne991 nin0)).keep K759 nin0).ext E765).keep K766 nin0).keep K769 nin0).keep K772 nin0).keep K775 nin0).keep K778 (ninS ne992 nin0)).keep K948 nin0)
                                      have f994 := (((((((((((Vs26.keep K29 nin0).keep K32 nin0).keep K35 (ninS ne991 nin0)).keep K759 nin0).ext E765).keep K766 nin0).keep K769 nin0).keep K772 nin0).keep K775 nin0).keep K778 (ninS ne992 nin0)).keep K948 nin0)
                                      have ne995 : t26 ≠ b22 := (Ne.symm (Nat.ne_of_lt (Nat.lt_of_lt_of_le A22.lt (Nat.le_trans K23.1 lo26))))
                                      have ne996 : t26 ≠ b765 := (Nat.ne_of_lt (Nat.lt_of_lt_of_le Bs26.lt (Nat.le_trans (Nat.le_trans (Nat.le_trans (Nat.le_trans K29.1 K32.1) K35.1) K759.1) (Nat.le_of_eq g765))))
                                      have f997 := (((((((((((Bs26.keep K29 nin0).keep K32 nin0).keep K35 (ninS ne995 nin0)).keep K759 nin0).ext E765).keep K766 nin0).keep K769 nin0).keep K772 nin0).keep K775 nin0).keep K778 (ninS ne996 nin0)).keep K948 nin0)
                                      have f998 := ((((((((f762.keep K759).ext E765).keep K766).keep K769).keep K772).keep K775).keep K778).keep K948)
                                      have ne999 : s29 ≠ b22 := (Ne.symm (Nat.ne_of_lt (Nat.lt_of_lt_of_le A22.lt (Nat.le_trans (Nat.le_trans K23.1 K26.1) ls29))))
                                      have ne1000 : s29 ≠ b765 := (Nat.ne_of_lt (Nat.lt_of_lt_of_le Es29.lt (Nat.le_trans (Nat.le_trans (Nat.le_trans K32.1 K35.1) K759.1) (Nat.le_of_eq g765))))
                                      have f1001 := ((((((((((Cs29.keep K32 nin0).keep K35 (ninS ne999 nin0)).keep K759 nin0).ext E765).keep K766 nin0).keep K769 nin0).keep K772 nin0).keep K775 nin0).keep K778 (ninS ne1000 nin0)).keep K948 nin0)
                                      have f1002 := ((((((((((Vs29.keep K32 nin0).keep K35 (ninS ne999 nin0)).keep K759 nin0).ext E765).keep K766 nin0).keep K769 nin0).keep K772 nin0).keep K775 nin0).keep K778 (ninS ne1000 nin0)).keep K948 nin0)
                                      have ne1003 : t29 ≠ b22 := (Ne.symm (Nat.ne_of_lt (Nat.lt_of_lt_of_le A22.lt (Nat.le_trans (Nat.le_trans K23.1 K26.1) lo29))))
                                      have ne1004 : t29 ≠ b765 := (Nat.ne_of_lt (Nat.lt_of_lt_of_le Bs29.lt (Nat.le_trans (Nat.le_trans (Nat.le_trans K32.1 K35.1) K759.1) (Nat.le_of_eq g765))))
                                      have f1005 := ((((((((((Bs29.keep K32 nin0).keep K35 (ninS ne1003 nin0)).keep K759 nin0).ext E765).keep K766 nin0).keep K769 nin0).keep K772 nin0).keep K775 nin0).keep K778 (ninS ne1004 nin0)).keep K948 nin0)
                                      have f1006 := ((((((((f763.keep K759).ext E765).keep K766).keep K769).keep K772).keep K775).keep K778).keep K948)
                                      have ne1007 : s32 ≠ b22 := (Ne.symm (Nat.ne_of_lt (Nat.lt_of_lt_of_le A22.lt (Nat.le_trans (Nat.le_trans (Nat.le_trans K23.1 K26.1) K29.1) ls32))))
                                      have ne1008 : s32 ≠ b765 := (Nat.ne_of_lt (Nat.lt_of_lt_of_le Es32.lt (Nat.le_trans (Nat.le_trans K35.1 K759.1) (Nat.le_of_eq g765))))
                                      have f1009 := (((((((((Cs32.keep K35 (ninS ne1007 nin0)).keep K759 nin0).ext E765).keep K766 nin0).keep K769 nin0).keep K772 nin0).keep K775 nin0).keep K778 (ninS ne1008 nin0)).keep K948 nin0)
                                      have f1010 := (((((((((Vs32.keep K35 (ninS ne1007 nin0)).keep K759 nin0).ext E765).keep K766 nin0).keep K769 nin0).keep K772 nin0).keep K775 nin0).keep K778 (ninS ne1008 nin0)).keep K948 nin0)
                                      have ne1011 : t32 ≠ b22 := (Ne.symm (Nat.ne_of_lt (Nat.lt_of_lt_of_le A22.lt (Nat.le_trans (Nat.le_trans (Nat.le_trans K23.1 K26.1) K29.1) lo32))))
                                      have ne1012 : t32 ≠ b765 := (Nat.ne_of_lt (Nat.lt_of_lt_of_le Bs32.lt (Nat.le_trans (Nat.le_trans K35.1 K759.1) (Nat.le_of_eq g765))))
                                      have f1013 := (((((((((Bs32.keep K35 (ninS ne1011 nin0)).keep K759 nin0).ext E765).keep K766 nin0).keep K769 nin0).keep K772 nin0).keep K775 nin0).keep K778 (ninS ne1012 nin0)).keep K948 nin0)
                                      have f1014 := (f949.keep K948)
                                      have ne1015 : s766 ≠ b765 := (Ne.symm (Nat.ne_of_lt (Nat.lt_of_lt_of_le A765.lt ls766)))
                                      have f1016 := (((((Cs766.keep K769 nin0).keep K772 nin0).keep K775 nin0).keep K778 (ninS ne1015 nin0)).keep K948 nin0)
                                      have f1017 := (((((Vs766.keep K769 nin0).keep K772 nin0).keep K775 nin0).keep K778 (ninS ne1015 nin0)).keep K948 nin0)
                                      have ne1018 : t766 ≠ b765 := (Ne.symm (Nat.ne_of_lt (Nat.lt_of_lt_of_le A765.lt lo766)))
                                      have f1019 := (((((Bs766.keep K769 nin0).keep K772 nin0).keep K775 nin0).keep K778 (ninS ne1018 nin0)).keep K948 nin0)
                                      have f1020 := (f950.keep K948)
                                      have ne1021 : s769 ≠ b765 := (Ne.symm (Nat.ne_of_lt (Nat.lt_of_lt_of_le A765.lt (Nat.le_trans K766.1 ls769))))
                                      have f1022 := ((((Cs769.keep K772 nin0).keep K775 nin0).keep K778 (ninS ne1021 nin0)).keep K948 nin0)
                                      have f1023 := ((((Vs769.keep K772 nin0).keep K775 nin0).keep K778 (ninS ne1021 nin0)).keep K948 nin0)
                                      have ne1024 : t769 ≠ b765 := (Ne.symm (Nat.ne_of_lt (Nat.lt_of_lt_of_le A765.lt (Nat.le_trans K766.1 lo769))))
                                      have f1025 := ((((Bs769.keep K772 nin0).keep K775 nin0).keep K778 (ninS ne1024 nin0)).keep K948 nin0)
                                      have f1026 := (f951.keep K948)
                                      have ne1027 : s772 ≠ b765 := (Ne.symm (Nat.ne_of_lt (Nat.lt_of_lt_of_le A765.lt (Nat.le_trans (Nat.le_trans K766.1 K769.1) ls772))))
                                      have f1028 := (((Cs772.keep K775 nin0).keep K778 (ninS ne1027 nin0)).keep K948 nin0)
                                      have f1029 := (((Vs772.keep K775 nin0).keep K778 (ninS ne1027 nin0)).keep K948 nin0)
                                      have ne1030 : t772 ≠ b765 := (Ne.symm (Nat.ne_of_lt (Nat.lt_of_lt_of_le A765.lt (Nat.le_trans (Nat.le_trans K766.1 K769.1) lo772))))
                                      have f1031 := (((Bs772.keep K775 nin0).keep K778 (ninS ne1030 nin0)).keep K948 nin0)
                                      have f1032 := (f952.keep K948)
                                      have ne1033 : s775 ≠ b765 := (Ne.symm (Nat.ne_of_lt (Nat.lt_of_lt_of_le A765.lt (Nat.le_trans (Nat.le_trans (Nat.le_trans K766.1 K769.1) K772.1) ls775))))
                                      have f1034 := ((Cs775.keep K778 (ninS ne1033 nin0)).keep K948 nin0)
                                      have f1035 := ((Vs775.keep K778 (ninS ne1033 nin0)).keep K948 nin0)
                                      have ne1036 : t775 ≠ b765 := (Ne.symm (Nat.ne_of_lt (Nat.lt_of_lt_of_le A765.lt (Nat.le_trans (Nat.le_trans (Nat.le_trans K766.1 K769.1) K772.1) lo775))))
                                      have f1037 := ((Bs775.keep K778 (ninS ne1036 nin0)).keep K948 nin0)
                                      have ne1038 : s23 ≠ s766 := (Nat.ne_of_lt (Nat.lt_of_lt_of_le Es23.lt (Nat.le_trans (Nat.le_trans (Nat.le_trans (Nat.le_trans (Nat.le_trans (Nat.le_trans K26.1 K29.1) K32.1) K35.1) K759.1) E765.1) ls766)))
                                      have ne1039 : s26 ≠ s769 := (Nat.ne_of_lt (Nat.lt_of_lt_of_le Es26.lt (Nat.le_trans (Nat.le_trans (Nat.le_trans (Nat.le_trans (Nat.le_trans (Nat.le_trans K29.1 K32.1) K35.1) K759.1) E765.1) K766.1) ls769)))
                                      have ne1040 : s29 ≠ s772 := (Nat.ne_of_lt (Nat.lt_of_lt_of_le Es29.lt (Nat.le_trans (Nat.le_trans (Nat.le_trans (Nat.le_trans (Nat.le_trans (Nat.le_trans K32.1 K35.1) K759.1) E765.1) K766.1) K769.1) ls772)))
                                      have ne1041 : s32 ≠ s775 := (Nat.ne_of_lt (Nat.lt_of_lt_of_le Es32.lt (Nat.le_trans (Nat.le_trans (Nat.le_trans (Nat.le_trans (Nat.le_trans (Nat.le_trans K35.1 K759.1) E765.1) K766.1) K769.1) K772.1) ls775)))
                                      have f1042 := (((f776.keep K775 all0).keep K778 (allS g_b765 all0)).keep K948 all0)
                                      have z1043 := (Nat.le_trans z953 K948.1)
                                      refine g_virtual X948 hx hby hZ948 ho948 (rm_peqp l Z a0 hw [] q759 q948 posA chA s23 s26 colA s29 s32 t23 kb23 (nar .byte (tA.toInt8.toInt32)) t26 kb26 (nar .byte (cA.toInt8.toInt32)) t29 kb29 (nar .byte (kA.toInt8.toInt32)) t32 kb32 (nar .byte (dA.toInt8.toInt32)) posB chB s766 s769 colB s772 s775 t766 kb766 (nar .byte (tB.toInt8.toInt32)) t769 kb769 (nar .byte (cB.toInt8.toInt32)) t772 kb772 (nar .byte (kB.toInt8.toInt32)) t775 kb775 (nar .byte (dB.toInt8.toInt32)) cz T948.heap n0 z1043 O2 P5 f1042 ⟨f973, f975, f976, f977, f978, f979, f980, f981⟩ ⟨pE948, pa948, pb948, pc948, pd948, pe948, pf948, pg948⟩ f982 f985 f986 f989 f990 f993 f994 f997 f998 f1001 f1002 f1005 f1006 f1009 f1010 f1013 f1014 f1016 f1017 f1019 f1020 f1022 f1023 f1025 f1026 f1028 f1029 f1031 f1032 f1034 f1035 f1037 ne1038 ne1039 ne1040 ne1041) w74_ w75_ (notFace_of_selects (args := #[]) (mvT hZ948 w77_)) w77_ w76_ w15_ w78_ (by decide) rfl f973 (by rw [hml]; rfl) [(.ref q948)] (lenOf own_pd1 rfl) rfl rfl (Nat.le_of_ble_eq_true rfl) (Nat.le_of_ble_eq_true rfl) (Nat.le_of_ble_eq_true rfl) (Nat.le_of_ble_eq_true rfl) at_486 (fun v972 T972 L972 X972 hQ972 => ?_)
                                      obtain ⟨rfl, N972q, eh972⟩ := hQ972
                                      have N972 := Fr.app N948 N972q
                                      refine g_iload X972 hx hby at_489 rfl ?_
                                      refine g_icN X972 hx hby at_491 (teq (by simp [own_beq h_tA h_tB, own_beq h_cA h_cB, own_beq h_kA h_kB, own_beq h_dA h_dB, own_m1 h_chA, own_m1' h_chA, own_m1 h_chB, own_m1' h_chB, hc430_965, hc437_966, hc444_967, hc451_968, hc458_969, hc465_970, hc472_971] : (if posA = posB ∧ chA = chB ∧ (nar .byte (tA.toInt8.toInt32)) = (nar .byte (tB.toInt8.toInt32)) ∧ (nar .byte (cA.toInt8.toInt32)) = (nar .byte (cB.toInt8.toInt32)) ∧ colA = colB ∧ (nar .byte (kA.toInt8.toInt32)) = (nar .byte (kB.toInt8.toInt32)) ∧ (nar .byte (dA.toInt8.toInt32)) = (nar .byte (dB.toInt8.toInt32)) then 1 else 0 : Int32) = (1 : Int32))).2 ?_
                                      refine g_iconst X972 hx hby (1 : Int32) at_494 rfl ?_
                                      refine g_goto X972 hx hby 499 at_495 (by decide) (by decide) ?_
                                      refine g_nretW X972 hx hby (t := .boolean) (by simp) Bd.returns Bd.notSynchronized hS948 at_499 eh972 (Nat.le_refl _) (by decide) (by decide) ?_
                                      show (Q_law Z y0 y1 y2 y3 sel cz h0 n0) (some (.int (1 : Int32))) _ _
                                      exact ⟨rfl, N972⟩
                                    · skip
                                      refine g_icY X948 hx hby 479 at_472 (feq hc472_971).2 (by decide) (by decide) ?_
                                      refine g_iconst X948 hx hby (0 : Int32) at_479 rfl ?_
                                      refine g_istore X948 hx hby at_480 (l' := #[.val (.long y0), .second, .val (.long y1), .second, .val (.long y2), .second, .val (.long y3), .second, .val (.int sel), .val (.int posA), .val (.int posB), .val (.int colA), .val (.int colB), .val (.int (own_bit sel (4 : Int32))), .val (.int (own_bit sel (5 : Int32))), .val (.int chA), .val (.int chB), .val (.int tA), .val (.int cA), .val (.int kA), .val (.int dA), .val (.int tB), .val (.int cB), .val (.int kB), .val (.int dB), .val (.ref q759), .val (.ref q948), .val (.int (sel &&& (7 : Int32))), .val (.ref q948), .val (.int chA), .val (.int chB), .val (.int (0 : Int32))]) rfl ?_
                                      refine g_aload X948 hx hby at_482 rfl rfl ?_
                                      refine g_aload X948 hx hby at_484 rfl rfl ?_
                                      have f1045 := (((((((pE759.ext E765).keep K766).keep K769).keep K772).keep K775).keep K778).keep K948)
                                      have ne1046 : q759 ≠ b765 := (Nat.ne_of_lt (Nat.lt_of_lt_of_le pE759.lt (Nat.le_of_eq g765)))
                                      have f1047 := (((((((pa759.ext E765).keep K766 nin0).keep K769 nin0).keep K772 nin0).keep K775 nin0).keep K778 (ninS ne1046 nin0)).keep K948 nin0)
                                      have f1048 := (((((((pb759.ext E765).keep K766 nin0).keep K769 nin0).keep K772 nin0).keep K775 nin0).keep K778 (ninS ne1046 nin0)).keep K948 nin0)
                                      have f1049 := (((((((pc759.ext E765).keep K766 nin0).keep K769 nin0).keep K772 nin0).keep K775 nin0).keep K778 (ninS ne1046 nin0)).keep K948 nin0)
                                      have f1050 := (((((((pd759.ext E765).keep K766 nin0).keep K769 nin0).keep K772 nin0).keep K775 nin0).keep K778 (ninS ne1046 nin0)).keep K948 nin0)
                                      have f1051 := (((((((pe759.ext E765).keep K766 nin0).keep K769 nin0).keep K772 nin0).keep K775 nin0).keep K778 (ninS ne1046 nin0)).keep K948 nin0)
                                      have f1052 := (((((((pf759.ext E765).keep K766 nin0).keep K769 nin0).keep K772 nin0).keep K775 nin0).keep K778 (ninS ne1046 nin0)).keep K948 nin0)
                                      have f1053 := (((((((pg759.ext E765).keep K766 nin0).keep K769 nin0).keep K772 nin0).keep K775 nin0).keep K778 (ninS ne1046 nin0)).keep K948 nin0)
                                      have f1054 := ((((((((f760.keep K759).ext E765).keep K766).keep K769).keep K772).keep K775).keep K778).keep K948)
                                      have ne1055 : s23 ≠ b22 := (Ne.symm (Nat.ne_of_lt (Nat.lt_of_lt_of_le A22.lt ls23)))
                                      have ne1056 : s23 ≠ b765 := (Nat.ne_of_lt (Nat.lt_of_lt_of_le Es23.lt (Nat.le_trans (Nat.le_trans (Nat.le_trans (Nat.le_trans (Nat.le_trans K26.1 K29.1) K32.1) K35.1) K759.1) (Nat.le_of_eq g765))))
                                      have f1057 := ((((((((((((Cs23.keep K26 nin0).keep K29 nin0).keep K32 nin0).keep K35 (ninS ne1055 nin0)).keep K759 nin0).ext E765).keep K766 nin0).keep K769 nin0).keep K772 nin0).keep K775 nin0).keep K778 (ninS ne1056 nin0)).keep K948 nin0)
                                      have f1058 := ((((((((((((Vs23.keep K26 nin0).keep K29 nin0).keep K32 nin0).keep K35 (ninS ne1055 nin0)).keep K759 nin0).ext E765).keep K766 nin0).keep K769 nin0).keep K772 nin0).keep K775 nin0).keep K778 (ninS ne1056 nin0)).keep K948 nin0)
                                      have ne1059 : t23 ≠ b22 := (Ne.symm (Nat.ne_of_lt (Nat.lt_of_lt_of_le A22.lt lo23)))
                                      have ne1060 : t23 ≠ b765 := (Nat.ne_of_lt (Nat.lt_of_lt_of_le Bs23.lt (Nat.le_trans (Nat.le_trans (Nat.le_trans (Nat.le_trans (Nat.le_trans K26.1 K29.1) K32.1) K35.1) K759.1) (Nat.le_of_eq g765))))
                                      have f1061 := ((((((((((((Bs23.keep K26 nin0).keep K29 nin0).keep K32 nin0).keep K35 (ninS ne1059 nin0)).keep K759 nin0).ext E765).keep K766 nin0).keep K769 nin0).keep K772 nin0).keep K775 nin0).keep K778 (ninS ne1060 nin0)).keep K948 nin0)
                                      have f1062 := ((((((((f761.keep K759).ext E765).keep K766).keep K769).keep K772).keep K775).keep K778).keep K948)
                                      have ne1063 : s26 ≠ b22 := (Ne.symm (Nat.ne_of_lt (Nat.lt_of_lt_of_le A22.lt (Nat.le_trans K23.1 ls26))))
                                      have ne1064 : s26 ≠ b765 := (Nat.ne_of_lt (Nat.lt_of_lt_of_le Es26.lt (Nat.le_trans (Nat.le_trans (Nat.le_trans (Nat.le_trans K29.1 K32.1) K35.1) K759.1) (Nat.le_of_eq g765))))
                                      have f1065 := (((((((((((Cs26.keep K29 nin0).keep K32 nin0).keep K35 (ninS ne1063 nin0)).keep K759 nin0).ext E765).keep K766 nin0).keep K769 nin0).keep K772 nin0).keep K775 nin0).keep K778 (ninS ne1064 nin0)).keep K948 nin0)
                                      have f1066 := (((((((((((Vs26.keep K29 nin0).keep K32 nin0).keep K35 (ninS ne1063 nin0)).keep K759 nin0).ext E765).keep K766 nin0).keep K769 nin0).keep K772 nin0).keep K775 nin0).keep K778 (ninS ne1064 nin0)).keep K948 nin0)
                                      have ne1067 : t26 ≠ b22 := (Ne.symm (Nat.ne_of_lt (Nat.lt_of_lt_of_le A22.lt (Nat.le_trans K23.1 lo26))))
                                      have ne1068 : t26 ≠ b765 := (Nat.ne_of_lt (Nat.lt_of_lt_of_le Bs26.lt (Nat.le_trans (Nat.le_trans (Nat.le_trans (Nat.le_trans K29.1 K32.1) K35.1) K759.1) (Nat.le_of_eq g765))))
                                      have f1069 := (((((((((((Bs26.keep K29 nin0).keep K32 nin0).keep K35 (ninS ne1067 nin0)).keep K759 nin0).ext E765).keep K766 nin0).keep K769 nin0).keep K772 nin0).keep K775 nin0).keep K778 (ninS ne1068 nin0)).keep K948 nin0)
                                      have f1070 := ((((((((f762.keep K759).ext E765).keep K766).keep K769).keep K772).keep K775).keep K778).keep K948)
                                      have ne1071 : s29 ≠ b22 := (Ne.symm (Nat.ne_of_lt (Nat.lt_of_lt_of_le A22.lt (Nat.le_trans (Nat.le_trans K23.1 K26.1) ls29))))
                                      have ne1072 : s29 ≠ b765 := (Nat.ne_of_lt (Nat.lt_of_lt_of_le Es29.lt (Nat.le_trans (Nat.le_trans (Nat.le_trans K32.1 K35.1) K759.1) (Nat.le_of_eq g765))))
                                      have f1073 := ((((((((((Cs29.keep K32 nin0).keep K35 (ninS ne1071 nin0)).keep K759 nin0).ext E765).keep K766 nin0).keep K769 nin0).keep K772 nin0).keep K775 nin0).keep K778 (ninS ne1072 nin0)).keep K948 nin0)
                                      have f1074 := ((((((((((Vs29.keep K32 nin0).keep K35 (ninS ne1071 nin0)).keep K759 nin0).ext E765).keep K766 nin0).keep K769 nin0).keep K772 nin0).keep K775 nin0).keep K778 (ninS ne1072 nin0)).keep K948 nin0)
                                      have ne1075 : t29 ≠ b22 := (Ne.symm (Nat.ne_of_lt (Nat.lt_of_lt_of_le A22.lt (Nat.le_trans (Nat.le_trans K23.1 K26.1) lo29))))
                                      have ne1076 : t29 ≠ b765 := (Nat.ne_of_lt (Nat.lt_of_lt_of_le Bs29.lt (Nat.le_trans (Nat.le_trans (Nat.le_trans K32.1 K35.1) K759.1) (Nat.le_of_eq g765))))
                                      have f1077 := ((((((((((Bs29.keep K32 nin0).keep K35 (ninS ne1075 nin0)).keep K759 nin0).ext E765).keep K766 nin0).keep K769 nin0).keep K772 nin0).keep K775 nin0).keep K778 (ninS ne1076 nin0)).keep K948 nin0)
                                      have f1078 := ((((((((f763.keep K759).ext E765).keep K766).keep K769).keep K772).keep K775).keep K778).keep K948)
                                      have ne1079 : s32 ≠ b22 := (Ne.symm (Nat.ne_of_lt (Nat.lt_of_lt_of_le A22.lt (Nat.le_trans (Nat.le_trans (Nat.le_trans K23.1 K26.1) K29.1) ls32))))
                                      have ne1080 : s32 ≠ b765 := (Nat.ne_of_lt (Nat.lt_of_lt_of_le Es32.lt (Nat.le_trans (Nat.le_trans K35.1 K759.1) (Nat.le_of_eq g765))))
                                      have f1081 := (((((((((Cs32.keep K35 (ninS ne1079 nin0)).keep K759 nin0).ext E765).keep K766 nin0).keep K769 nin0).keep K772 nin0).keep K775 nin0).keep K778 (ninS ne1080 nin0)).keep K948 nin0)
                                      have f1082 := (((((((((Vs32.keep K35 (ninS ne1079 nin0)).keep K759 nin0).ext E765).keep K766 nin0).keep K769 nin0).keep K772 nin0).keep K775 nin0).keep K778 (ninS ne1080 nin0)).keep K948 nin0)
                                      have ne1083 : t32 ≠ b22 := (Ne.symm (Nat.ne_of_lt (Nat.lt_of_lt_of_le A22.lt (Nat.le_trans (Nat.le_trans (Nat.le_trans K23.1 K26.1) K29.1) lo32))))
                                      have ne1084 : t32 ≠ b765 := (Nat.ne_of_lt (Nat.lt_of_lt_of_le Bs32.lt (Nat.le_trans (Nat.le_trans K35.1 K759.1) (Nat.le_of_eq g765))))
                                      have f1085 := (((((((((Bs32.keep K35 (ninS ne1083 nin0)).keep K759 nin0).ext E765).keep K766 nin0).keep K769 nin0).keep K772 nin0).keep K775 nin0).keep K778 (ninS ne1084 nin0)).keep K948 nin0)
                                      have f1086 := (f949.keep K948)
                                      have ne1087 : s766 ≠ b765 := (Ne.symm (Nat.ne_of_lt (Nat.lt_of_lt_of_le A765.lt ls766)))
                                      have f1088 := (((((Cs766.keep K769 nin0).keep K772 nin0).keep K775 nin0).keep K778 (ninS ne1087 nin0)).keep K948 nin0)
                                      have f1089 := (((((Vs766.keep K769 nin0).keep K772 nin0).keep K775 nin0).keep K778 (ninS ne1087 nin0)).keep K948 nin0)
                                      have ne1090 : t766 ≠ b765 := (Ne.symm (Nat.ne_of_lt (Nat.lt_of_lt_of_le A765.lt lo766)))
                                      have f1091 := (((((Bs766.keep K769 nin0).keep K772 nin0).keep K775 nin0).keep K778 (ninS ne1090 nin0)).keep K948 nin0)
                                      have f1092 := (f950.keep K948)
                                      have ne1093 : s769 ≠ b765 := (Ne.symm (Nat.ne_of_lt (Nat.lt_of_lt_of_le A765.lt (Nat.le_trans K766.1 ls769))))
                                      have f1094 := ((((Cs769.keep K772 nin0).keep K775 nin0).keep K778 (ninS ne1093 nin0)).keep K948 nin0)
                                      have f1095 := ((((Vs769.keep K772 nin0).keep K775 nin0).keep K778 (ninS ne1093 nin0)).keep K948 nin0)
                                      have ne1096 : t769 ≠ b765 := (Ne.symm (Nat.ne_of_lt (Nat.lt_of_lt_of_le A765.lt (Nat.le_trans K766.1 lo769))))
                                      have f1097 := ((((Bs769.keep K772 nin0).keep K775 nin0).keep K778 (ninS ne1096 nin0)).keep K948 nin0)
                                      have f1098 := (f951.keep K948)
                                      have ne1099 : s772 ≠ b765 := (Ne.symm (Nat.ne_of_lt (Nat.lt_of_lt_of_le A765.lt (Nat.le_trans (Nat.le_trans K766.1 K769.1) ls772))))
                                      have f1100 := (((Cs772.keep K775 nin0).keep K778 (ninS ne1099 nin0)).keep K948 nin0)
                                      have f1101 := (((Vs772.keep K775 nin0).keep K778 (ninS ne1099 nin0)).keep K948 nin0)
                                      have ne1102 : t772 ≠ b765 := (Ne.symm (Nat.ne_of_lt (Nat.lt_of_lt_of_le A765.lt (Nat.le_trans (Nat.le_trans K766.1 K769.1) lo772))))
                                      have f1103 := (((Bs772.keep K775 nin0).keep K778 (ninS ne1102 nin0)).keep K948 nin0)
                                      have f1104 := (f952.keep K948)
                                      have ne1105 : s775 ≠ b765 := (Ne.symm (Nat.ne_of_lt (Nat.lt_of_lt_of_le A765.lt (Nat.le_trans (Nat.le_trans (Nat.le_trans K766.1 K769.1) K772.1) ls775))))
                                      have f1106 := ((Cs775.keep K778 (ninS ne1105 nin0)).keep K948 nin0)
                                      have f1107 := ((Vs775.keep K778 (ninS ne1105 nin0)).keep K948 nin0)
                                      have ne1108 : t775 ≠ b765 := (Ne.symm (Nat.ne_of_lt (Nat.lt_of_lt_of_le A765.lt (Nat.le_trans (Nat.le_trans (Nat.le_trans K766.1 K769.1) K772.1) lo775))))
                                      have f1109 := ((Bs775.keep K778 (ninS ne1108 nin0)).keep K948 nin0)
                                      have ne1110 : s23 ≠ s766 := (Nat.ne_of_lt (Nat.lt_of_lt_of_le Es23.lt (Nat.le_trans (Nat.le_trans (Nat.le_trans (Nat.le_trans (Nat.le_trans (Nat.le_trans K26.1 K29.1) K32.1) K35.1) K759.1) E765.1) ls766)))
                                      have ne1111 : s26 ≠ s769 := (Nat.ne_of_lt (Nat.lt_of_lt_of_le Es26.lt (Nat.le_trans (Nat.le_trans (Nat.le_trans (Nat.le_trans (Nat.le_trans (Nat.le_trans K29.1 K32.1) K35.1) K759.1) E765.1) K766.1) ls769)))
                                      have ne1112 : s29 ≠ s772 := (Nat.ne_of_lt (Nat.lt_of_lt_of_le Es29.lt (Nat.le_trans (Nat.le_trans (Nat.le_trans (Nat.le_trans (Nat.le_trans (Nat.le_trans K32.1 K35.1) K759.1) E765.1) K766.1) K769.1) ls772)))
                                      have ne1113 : s32 ≠ s775 := (Nat.ne_of_lt (Nat.lt_of_lt_of_le Es32.lt (Nat.le_trans (Nat.le_trans (Nat.le_trans (Nat.le_trans (Nat.le_trans (Nat.le_trans K35.1 K759.1) E765.1) K766.1) K769.1) K772.1) ls775)))
                                      have f1114 := (((f776.keep K775 all0).keep K778 (allS g_b765 all0)).keep K948 all0)
                                      have z1115 := (Nat.le_trans z953 K948.1)
                                      refine g_virtual X948 hx hby hZ948 ho948 (rm_peqp l Z a0 hw [] q759 q948 posA chA s23 s26 colA s29 s32 t23 kb23 (nar .byte (tA.toInt8.toInt32)) t26 kb26 (nar .byte (cA.toInt8.toInt32)) t29 kb29 (nar .byte (kA.toInt8.toInt32)) t32 kb32 (nar .byte (dA.toInt8.toInt32)) posB chB s766 s769 colB s772 s775 t766 kb766 (nar .byte (tB.toInt8.toInt32)) t769 kb769 (nar .byte (cB.toInt8.toInt32)) t772 kb772 (nar .byte (kB.toInt8.toInt32)) t775 kb775 (nar .byte (dB.toInt8.toInt32)) cz T948.heap n0 z1115 O2 P5 f1114 ⟨f1045, f1047, f1048, f1049, f1050, f1051, f1052, f1053⟩ ⟨pE948, pa948, pb948, pc948, pd948, pe948, pf948, pg948⟩ f1054 f1057 f1058 f1061 f1062 f1065 f1066 f1069 f1070 f1073 f1074 f1077 f1078 f1081 f1082 f1085 f1086 f1088 f1089 f1091 f1092 f1094 f1095 f1097 f1098 f1100 f1101 f1103 f1104 f1106 f1107 f1109 ne1110 ne1111 ne1112 ne1113) w74_ w75_ (notFace_of_selects (args := #[]) (mvT hZ948 w77_)) w77_ w76_ w15_ w78_ (by decide) rfl f1045 (by rw [hml]; rfl) [(.ref q948)] (lenOf own_pd1 rfl) rfl rfl (Nat.le_of_ble_eq_true rfl) (Nat.le_of_ble_eq_true rfl) (Nat.le_of_ble_eq_true rfl) (Nat.le_of_ble_eq_true rfl) at_486 (fun v1044 T1044 L1044 X1044 hQ1044 => ?_)
                                      obtain ⟨rfl, N1044q, eh1044⟩ := hQ1044
                                      have N1044 := Fr.app N948 N1044q
                                      refine g_iload X1044 hx hby at_489 rfl ?_
                                      refine g_icN X1044 hx hby at_491 (teq (by simp [own_beq h_tA h_tB, own_beq h_cA h_cB, own_beq h_kA h_kB, own_beq h_dA h_dB, own_m1 h_chA, own_m1' h_chA, own_m1 h_chB, own_m1' h_chB, hc430_965, hc437_966, hc444_967, hc451_968, hc458_969, hc465_970, hc472_971] : (if posA = posB ∧ chA = chB ∧ (nar .byte (tA.toInt8.toInt32)) = (nar .byte (tB.toInt8.toInt32)) ∧ (nar .byte (cA.toInt8.toInt32)) = (nar .byte (cB.toInt8.toInt32)) ∧ colA = colB ∧ (nar .byte (kA.toInt8.toInt32)) = (nar .byte (kB.toInt8.toInt32)) ∧ (nar .byte (dA.toInt8.toInt32)) = (nar .byte (dB.toInt8.toInt32)) then 1 else 0 : Int32) = (0 : Int32))).2 ?_
                                      refine g_iconst X1044 hx hby (1 : Int32) at_494 rfl ?_
                                      refine g_goto X1044 hx hby 499 at_495 (by decide) (by decide) ?_
                                      refine g_nretW X1044 hx hby (t := .boolean) (by simp) Bd.returns Bd.notSynchronized hS948 at_499 eh1044 (Nat.le_refl _) (by decide) (by decide) ?_
                                      show (Q_law Z y0 y1 y2 y3 sel cz h0 n0) (some (.int (1 : Int32))) _ _
                                      exact ⟨rfl, N1044⟩
                                  · skip
                                    refine g_icY X948 hx hby 479 at_465 (feq hc465_970).2 (by decide) (by decide) ?_
                                    refine g_iconst X948 hx hby (0 : Int32) at_479 rfl ?_
                                    refine g_istore X948 hx hby at_480 (l' := #[.val (.long y0), .second, .val (.long y1), .second, .val (.long y2), .second, .val (.long y3), .second, .val (.int sel), .val (.int posA), .val (.int posB), .val (.int colA), .val (.int colB), .val (.int (own_bit sel (4 : Int32))), .val (.int (own_bit sel (5 : Int32))), .val (.int chA), .val (.int chB), .val (.int tA), .val (.int cA), .val (.int kA), .val (.int dA), .val (.int tB), .val (.int cB), .val (.int kB), .val (.int dB), .val (.ref q759), .val (.ref q948), .val (.int (sel &&& (7 : Int32))), .val (.ref q948), .val (.int chA), .val (.int chB), .val (.int (0 : Int32))]) rfl ?_
                                    refine g_aload X948 hx hby at_482 rfl rfl ?_
                                    refine g_aload X948 hx hby at_484 rfl rfl ?_
                                    have f1117 := (((((((pE759.ext E765).keep K766).keep K769).keep K772).keep K775).keep K778).keep K948)
                                    have ne1118 : q759 ≠ b765 := (Nat.ne_of_lt (Nat.lt_of_lt_of_le pE759.lt (Nat.le_of_eq g765)))
                                    have f1119 := (((((((pa759.ext E765).keep K766 nin0).keep K769 nin0).keep K772 nin0).keep K775 nin0).keep K778 (ninS ne1118 nin0)).keep K948 nin0)
                                    have f1120 := (((((((pb759.ext E765).keep K766 nin0).keep K769 nin0).keep K772 nin0).keep K775 nin0).keep K778 (ninS ne1118 nin0)).keep K948 nin0)
                                    have f1121 := (((((((pc759.ext E765).keep K766 nin0).keep K769 nin0).keep K772 nin0).keep K775 nin0).keep K778 (ninS ne1118 nin0)).keep K948 nin0)
                                    have f1122 := (((((((pd759.ext E765).keep K766 nin0).keep K769 nin0).keep K772 nin0).keep K775 nin0).keep K778 (ninS ne1118 nin0)).keep K948 nin0)
                                    have f1123 := (((((((pe759.ext E765).keep K766 nin0).keep K769 nin0).keep K772 nin0).keep K775 nin0).keep K778 (ninS ne1118 nin0)).keep K948 nin0)
                                    have f1124 := (((((((pf759.ext E765).keep K766 nin0).keep K769 nin0).keep K772 nin0).keep K775 nin0).keep K778 (ninS ne1118 nin0)).keep K948 nin0)
                                    have f1125 := (((((((pg759.ext E765).keep K766 nin0).keep K769 nin0).keep K772 nin0).keep K775 nin0).keep K778 (ninS ne1118 nin0)).keep K948 nin0)
                                    have f1126 := ((((((((f760.keep K759).ext E765).keep K766).keep K769).keep K772).keep K775).keep K778).keep K948)
                                    have ne1127 : s23 ≠ b22 := (Ne.symm (Nat.ne_of_lt (Nat.lt_of_lt_of_le A22.lt ls23)))
                                    have ne1128 : s23 ≠ b765 := (Nat.ne_of_lt (Nat.lt_of_lt_of_le Es23.lt (Nat.le_trans (Nat.le_trans (Nat.le_trans (Nat.le_trans (Nat.le_trans K26.1 K29.1) K32.1) K35.1) K759.1) (Nat.le_of_eq g765))))
                                    have f1129 := ((((((((((((Cs23.keep K26 nin0).keep K29 nin0).keep K32 nin0).keep K35 (ninS ne1127 nin0)).keep K759 nin0).ext E765).keep K766 nin0).keep K769 nin0).keep K772 nin0).keep K775 nin0).keep K778 (ninS ne1128 nin0)).keep K948 nin0)
                                    have f1130 := ((((((((((((Vs23.keep K26 nin0).keep K29 nin0).keep K32 nin0).keep K35 (ninS ne1127 nin0)).keep K759 nin0).ext E765).keep K766 nin0).keep K769 nin0).keep K772 nin0).keep K775 nin0).keep K778 (ninS ne1128 nin0)).keep K948 nin0)
                                    have ne1131 : t23 ≠ b22 := (Ne.symm (Nat.ne_of_lt (Nat.lt_of_lt_of_le A22.lt lo23)))
                                    have ne1132 : t23 ≠ b765 := (Nat.ne_of_lt (Nat.lt_of_lt_of_le Bs23.lt (Nat.le_trans (Nat.le_trans (Nat.le_trans (Nat.le_trans (Nat.le_trans K26.1 K29.1) K32.1) K35.1) K759.1) (Nat.le_of_eq g765))))
                                    have f1133 := ((((((((((((Bs23.keep K26 nin0).keep K29 nin0).keep K32 nin0).keep K35 (ninS ne1131 nin0)).keep K759 nin0).ext E765).keep K766 nin0).keep K769 nin0).keep K772 nin0).keep K775 nin0).keep K778 (ninS ne1132 nin0)).keep K948 nin0)
                                    have f1134 := ((((((((f761.keep K759).ext E765).keep K766).keep K769).keep K772).keep K775).keep K778).keep K948)
                                    have ne1135 : s26 ≠ b22 := (Ne.symm (Nat.ne_of_lt (Nat.lt_of_lt_of_le A22.lt (Nat.le_trans K23.1 ls26))))
                                    have ne1136 : s26 ≠ b765 := (Nat.ne_of_lt (Nat.lt_of_lt_of_le Es26.lt (Nat.le_trans (Nat.le_trans (Nat.le_trans (Nat.le_trans K29.1 K32.1) K35.1) K759.1) (Nat.le_of_eq g765))))
                                    have f1137 := (((((((((((Cs26.keep K29 nin0).keep K32 nin0).keep K35 (ninS ne1135 nin0)).keep K759 nin0).ext E765).keep K766 nin0).keep K769 nin0).keep K772 nin0).keep K775 nin0).keep K778 (ninS ne1136 nin0)).keep K948 nin0)
                                    have f1138 := (((((((((((Vs26.keep K29 nin0).keep K32 nin0).keep K35 (ninS ne1135 nin0)).keep K759 nin0).ext E765).keep K766 nin0).keep K769 nin0).keep K772 nin0).keep K775 nin0).keep K778 (ninS ne1136 nin0)).keep K948 nin0)
                                    have ne1139 : t26 ≠ b22 := (Ne.symm (Nat.ne_of_lt (Nat.lt_of_lt_of_le A22.lt (Nat.le_trans K23.1 lo26))))
                                    have ne1140 : t26 ≠ b765 := (Nat.ne_of_lt (Nat.lt_of_lt_of_le Bs26.lt (Nat.le_trans (Nat.le_trans (Nat.le_trans (Nat.le_trans K29.1 K32.1) K35.1) K759.1) (Nat.le_of_eq g765))))
                                    have f1141 := (((((((((((Bs26.keep K29 nin0).keep K32 nin0).keep K35 (ninS ne1139 nin0)).keep K759 nin0).ext E765).keep K766 nin0).keep K769 nin0).keep K772 nin0).keep K775 nin0).keep K778 (ninS ne1140 nin0)).keep K948 nin0)
                                    have f1142 := ((((((((f762.keep K759).ext E765).keep K766).keep K769).keep K772).keep K775).keep K778).keep K948)
                                    have ne1143 : s29 ≠ b22 := (Ne.symm (Nat.ne_of_lt (Nat.lt_of_lt_of_le A22.lt (Nat.le_trans (Nat.le_trans K23.1 K26.1) ls29))))
                                    have ne1144 : s29 ≠ b765 := (Nat.ne_of_lt (Nat.lt_of_lt_of_le Es29.lt (Nat.le_trans (Nat.le_trans (Nat.le_trans K32.1 K35.1) K759.1) (Nat.le_of_eq g765))))
                                    have f1145 := ((((((((((Cs29.keep K32 nin0).keep K35 (ninS ne1143 nin0)).keep K759 nin0).ext E765).keep K766 nin0).keep K769 nin0).keep K772 nin0).keep K775 nin0).keep K778 (ninS ne1144 nin0)).keep K948 nin0)
                                    have f1146 := ((((((((((Vs29.keep K32 nin0).keep K35 (ninS ne1143 nin0)).keep K759 nin0).ext E765).keep K766 nin0).keep K769 nin0).keep K772 nin0).keep K775 nin0).keep K778 (ninS ne1144 nin0)).keep K948 nin0)
                                    have ne1147 : t29 ≠ b22 := (Ne.symm (Nat.ne_of_lt (Nat.lt_of_lt_of_le A22.lt (Nat.le_trans (Nat.le_trans K23.1 K26.1) lo29))))
                                    have ne1148 : t29 ≠ b765 := (Nat.ne_of_lt (Nat.lt_of_lt_of_le Bs29.lt (Nat.le_trans (Nat.le_trans (Nat.le_trans K32.1 K35.1) K759.1) (Nat.le_of_eq g765))))
                                    have f1149 := ((((((((((Bs29.keep K32 nin0).keep K35 (ninS ne1147 nin0)).keep K759 nin0).ext E765).keep K766 nin0).keep K769 nin0).keep K772 nin0).keep K775 nin0).keep K778 (ninS ne1148 nin0)).keep K948 nin0)
                                    have f1150 := ((((((((f763.keep K759).ext E765).keep K766).keep K769).keep K772).keep K775).keep K778).keep K948)
                                    have ne1151 : s32 ≠ b22 := (Ne.symm (Nat.ne_of_lt (Nat.lt_of_lt_of_le A22.lt (Nat.le_trans (Nat.le_trans (Nat.le_trans K23.1 K26.1) K29.1) ls32))))
                                    have ne1152 : s32 ≠ b765 := (Nat.ne_of_lt (Nat.lt_of_lt_of_le Es32.lt (Nat.le_trans (Nat.le_trans K35.1 K759.1) (Nat.le_of_eq g765))))
                                    have f1153 := (((((((((Cs32.keep K35 (ninS ne1151 nin0)).keep K759 nin0).ext E765).keep K766 nin0).keep K769 nin0).keep K772 nin0).keep K775 nin0).keep K778 (ninS ne1152 nin0)).keep K948 nin0)
                                    have f1154 := (((((((((Vs32.keep K35 (ninS ne1151 nin0)).keep K759 nin0).ext E765).keep K766 nin0).keep K769 nin0).keep K772 nin0).keep K775 nin0).keep K778 (ninS ne1152 nin0)).keep K948 nin0)
                                    have ne1155 : t32 ≠ b22 := (Ne.symm (Nat.ne_of_lt (Nat.lt_of_lt_of_le A22.lt (Nat.le_trans (Nat.le_trans (Nat.le_trans K23.1 K26.1) K29.1) lo32))))
                                    have ne1156 : t32 ≠ b765 := (Nat.ne_of_lt (Nat.lt_of_lt_of_le Bs32.lt (Nat.le_trans (Nat.le_trans K35.1 K759.1) (Nat.le_of_eq g765))))
                                    have f1157 := (((((((((Bs32.keep K35 (ninS ne1155 nin0)).keep K759 nin0).ext E765).keep K766 nin0).keep K769 nin0).keep K772 nin0).keep K775 nin0).keep K778 (ninS ne1156 nin0)).keep K948 nin0)
                                    have f1158 := (f949.keep K948)
                                    have ne1159 : s766 ≠ b765 := (Ne.symm (Nat.ne_of_lt (Nat.lt_of_lt_of_le A765.lt ls766)))
                                    have f1160 := (((((Cs766.keep K769 nin0).keep K772 nin0).keep K775 nin0).keep K778 (ninS ne1159 nin0)).keep K948 nin0)
                                    have f1161 := (((((Vs766.keep K769 nin0).keep K772 nin0).keep K775 nin0).keep K778 (ninS ne1159 nin0)).keep K948 nin0)
                                    have ne1162 : t766 ≠ b765 := (Ne.symm (Nat.ne_of_lt (Nat.lt_of_lt_of_le A765.lt lo766)))
                                    have f1163 := (((((Bs766.keep K769 nin0).keep K772 nin0).keep K775 nin0).keep K778 (ninS ne1162 nin0)).keep K948 nin0)
                                    have f1164 := (f950.keep K948)
                                    have ne1165 : s769 ≠ b765 := (Ne.symm (Nat.ne_of_lt (Nat.lt_of_lt_of_le A765.lt (Nat.le_trans K766.1 ls769))))
                                    have f1166 := ((((Cs769.keep K772 nin0).keep K775 nin0).keep K778 (ninS ne1165 nin0)).keep K948 nin0)
                                    have f1167 := ((((Vs769.keep K772 nin0).keep K775 nin0).keep K778 (ninS ne1165 nin0)).keep K948 nin0)
                                    have ne1168 : t769 ≠ b765 := (Ne.symm (Nat.ne_of_lt (Nat.lt_of_lt_of_le A765.lt (Nat.le_trans K766.1 lo769))))
                                    have f1169 := ((((Bs769.keep K772 nin0).keep K775 nin0).keep K778 (ninS ne1168 nin0)).keep K948 nin0)
                                    have f1170 := (f951.keep K948)
                                    have ne1171 : s772 ≠ b765 := (Ne.symm (Nat.ne_of_lt (Nat.lt_of_lt_of_le A765.lt (Nat.le_trans (Nat.le_trans K766.1 K769.1) ls772))))
                                    have f1172 := (((Cs772.keep K775 nin0).keep K778 (ninS ne1171 nin0)).keep K948 nin0)
                                    have f1173 := (((Vs772.keep K775 nin0).keep K778 (ninS ne1171 nin0)).keep K948 nin0)
                                    have ne1174 : t772 ≠ b765 := (Ne.symm (Nat.ne_of_lt (Nat.lt_of_lt_of_le A765.lt (Nat.le_trans (Nat.le_trans K766.1 K769.1) lo772))))
                                    have f1175 := (((Bs772.keep K775 nin0).keep K778 (ninS ne1174 nin0)).keep K948 nin0)
                                    have f1176 := (f952.keep K948)
                                    have ne1177 : s775 ≠ b765 := (Ne.symm (Nat.ne_of_lt (Nat.lt_of_lt_of_le A765.lt (Nat.le_trans (Nat.le_trans (Nat.le_trans K766.1 K769.1) K772.1) ls775))))
                                    have f1178 := ((Cs775.keep K778 (ninS ne1177 nin0)).keep K948 nin0)
                                    have f1179 := ((Vs775.keep K778 (ninS ne1177 nin0)).keep K948 nin0)
                                    have ne1180 : t775 ≠ b765 := (Ne.symm (Nat.ne_of_lt (Nat.lt_of_lt_of_le A765.lt (Nat.le_trans (Nat.le_trans (Nat.le_trans K766.1 K769.1) K772.1) lo775))))
                                    have f1181 := ((Bs775.keep K778 (ninS ne1180 nin0)).keep K948 nin0)
                                    have ne1182 : s23 ≠ s766 := (Nat.ne_of_lt (Nat.lt_of_lt_of_le Es23.lt (Nat.le_trans (Nat.le_trans (Nat.le_trans (Nat.le_trans (Nat.le_trans (Nat.le_trans K26.1 K29.1) K32.1) K35.1) K759.1) E765.1) ls766)))
                                    have ne1183 : s26 ≠ s769 := (Nat.ne_of_lt (Nat.lt_of_lt_of_le Es26.lt (Nat.le_trans (Nat.le_trans (Nat.le_trans (Nat.le_trans (Nat.le_trans (Nat.le_trans K29.1 K32.1) K35.1) K759.1) E765.1) K766.1) ls769)))
                                    have ne1184 : s29 ≠ s772 := (Nat.ne_of_lt (Nat.lt_of_lt_of_le Es29.lt (Nat.le_trans (Nat.le_trans (Nat.le_trans (Nat.le_trans (Nat.le_trans (Nat.le_trans K32.1 K35.1) K759.1) E765.1) K766.1) K769.1) ls772)))
                                    have ne1185 : s32 ≠ s775 := (Nat.ne_of_lt (Nat.lt_of_lt_of_le Es32.lt (Nat.le_trans (Nat.le_trans (Nat.le_trans (Nat.le_trans (Nat.le_trans (Nat.le_trans K35.1 K759.1) E765.1) K766.1) K769.1) K772.1) ls775)))
                                    have f1186 := (((f776.keep K775 all0).keep K778 (allS g_b765 all0)).keep K948 all0)
                                    have z1187 := (Nat.le_trans z953 K948.1)
                                    refine g_virtual X948 hx hby hZ948 ho948 (rm_peqp l Z a0 hw [] q759 q948 posA chA s23 s26 colA s29 s32 t23 kb23 (nar .byte (tA.toInt8.toInt32)) t26 kb26 (nar .byte (cA.toInt8.toInt32)) t29 kb29 (nar .byte (kA.toInt8.toInt32)) t32 kb32 (nar .byte (dA.toInt8.toInt32)) posB chB s766 s769 colB s772 s775 t766 kb766 (nar .byte (tB.toInt8.toInt32)) t769 kb769 (nar .byte (cB.toInt8.toInt32)) t772 kb772 (nar .byte (kB.toInt8.toInt32)) t775 kb775 (nar .byte (dB.toInt8.toInt32)) cz T948.heap n0 z1187 O2 P5 f1186 ⟨f1117, f1119, f1120, f1121, f1122, f1123, f1124, f1125⟩ ⟨pE948, pa948, pb948, pc948, pd948, pe948, pf948, pg948⟩ f1126 f1129 f1130 f1133 f1134 f1137 f1138 f1141 f1142 f1145 f1146 f1149 f1150 f1153 f1154 f1157 f1158 f1160 f1161 f1163 f1164 f1166 f1167 f1169 f1170 f1172 f1173 f1175 f1176 f1178 f1179 f1181 ne1182 ne1183 ne1184 ne1185) w74_ w75_ (notFace_of_selects (args := #[]) (mvT hZ948 w77_)) w77_ w76_ w15_ w78_ (by decide) rfl f1117 (by rw [hml]; rfl) [(.ref q948)] (lenOf own_pd1 rfl) rfl rfl (Nat.le_of_ble_eq_true rfl) (Nat.le_of_ble_eq_true rfl) (Nat.le_of_ble_eq_true rfl) (Nat.le_of_ble_eq_true rfl) at_486 (fun v1116 T1116 L1116 X1116 hQ1116 => ?_)
                                    obtain ⟨rfl, N1116q, eh1116⟩ := hQ1116
                                    have N1116 := Fr.app N948 N1116q
                                    refine g_iload X1116 hx hby at_489 rfl ?_
                                    refine g_icN X1116 hx hby at_491 (teq (by simp [own_beq h_tA h_tB, own_beq h_cA h_cB, own_beq h_kA h_kB, own_beq h_dA h_dB, own_m1 h_chA, own_m1' h_chA, own_m1 h_chB, own_m1' h_chB, hc430_965, hc437_966, hc444_967, hc451_968, hc458_969, hc465_970] : (if posA = posB ∧ chA = chB ∧ (nar .byte (tA.toInt8.toInt32)) = (nar .byte (tB.toInt8.toInt32)) ∧ (nar .byte (cA.toInt8.toInt32)) = (nar .byte (cB.toInt8.toInt32)) ∧ colA = colB ∧ (nar .byte (kA.toInt8.toInt32)) = (nar .byte (kB.toInt8.toInt32)) ∧ (nar .byte (dA.toInt8.toInt32)) = (nar .byte (dB.toInt8.toInt32)) then 1 else 0 : Int32) = (0 : Int32))).2 ?_
                                    refine g_iconst X1116 hx hby (1 : Int32) at_494 rfl ?_
                                    refine g_goto X1116 hx hby 499 at_495 (by decide) (by decide) ?_
                                    refine g_nretW X1116 hx hby (t := .boolean) (by simp) Bd.returns Bd.notSynchronized hS948 at_499 eh1116 (Nat.le_refl _) (by decide) (by decide) ?_
                                    show (Q_law Z y0 y1 y2 y3 sel cz h0 n0) (some (.int (1 : Int32))) _ _
                                    exact ⟨rfl, N1116⟩
                                · skip
                                  refine g_icY X948 hx hby 479 at_458 (feq hc458_969).2 (by decide) (by decide) ?_
                                  refine g_iconst X948 hx hby (0 : Int32) at_479 rfl ?_
                                  refine g_istore X948 hx hby at_480 (l' := #[.val (.long y0), .second, .val (.long y1), .second, .val (.long y2), .second, .val (.long y3), .second, .val (.int sel), .val (.int posA), .val (.int posB), .val (.int colA), .val (.int colB), .val (.int (own_bit sel (4 : Int32))), .val (.int (own_bit sel (5 : Int32))), .val (.int chA), .val (.int chB), .val (.int tA), .val (.int cA), .val (.int kA), .val (.int dA), .val (.int tB), .val (.int cB), .val (.int kB), .val (.int dB), .val (.ref q759), .val (.ref q948), .val (.int (sel &&& (7 : Int32))), .val (.ref q948), .val (.int chA), .val (.int chB), .val (.int (0 : Int32))]) rfl ?_
                                  refine g_aload X948 hx hby at_482 rfl rfl ?_
                                  refine g_aload X948 hx hby at_484 rfl rfl ?_
                                  have f1189 := (((((((pE759.ext E765).keep K766).keep K769).keep K772).keep K775).keep K778).keep K948)
                                  have ne1190 : q759 ≠ b765 := (Nat.ne_of_lt (Nat.lt_of_lt_of_le pE759.lt (Nat.le_of_eq g765)))
                                  have f1191 := (((((((pa759.ext E765).keep K766 nin0).keep K769 nin0).keep K772 nin0).keep K775 nin0).keep K778 (ninS ne1190 nin0)).keep K948 nin0)
                                  have f1192 := (((((((pb759.ext E765).keep K766 nin0).keep K769 nin0).keep K772 nin0).keep K775 nin0).keep K778 (ninS ne1190 nin0)).keep K948 nin0)
                                  have f1193 := (((((((pc759.ext E765).keep K766 nin0).keep K769 nin0).keep K772 nin0).keep K775 nin0).keep K778 (ninS ne1190 nin0)).keep K948 nin0)
                                  have f1194 := (((((((pd759.ext E765).keep K766 nin0).keep K769 nin0).keep K772 nin0).keep K775 nin0).keep K778 (ninS ne1190 nin0)).keep K948 nin0)
                                  have f1195 := (((((((pe759.ext E765).keep K766 nin0).keep K769 nin0).keep K772 nin0).keep K775 nin0).keep K778 (ninS ne1190 nin0)).keep K948 nin0)
                                  have f1196 := (((((((pf759.ext E765).keep K766 nin0).keep K769 nin0).keep K772 nin0).keep K775 nin0).keep K778 (ninS ne1190 nin0)).keep K948 nin0)
                                  have f1197 := (((((((pg759.ext E765).keep K766 nin0).keep K769 nin0).keep K772 nin0).keep K775 nin0).keep K778 (ninS ne1190 nin0)).keep K948 nin0)
                                  have f1198 := ((((((((f760.keep K759).ext E765).keep K766).keep K769).keep K772).keep K775).keep K778).keep K948)
                                  have ne1199 : s23 ≠ b22 := (Ne.symm (Nat.ne_of_lt (Nat.lt_of_lt_of_le A22.lt ls23)))
                                  have ne1200 : s23 ≠ b765 := (Nat.ne_of_lt (Nat.lt_of_lt_of_le Es23.lt (Nat.le_trans (Nat.le_trans (Nat.le_trans (Nat.le_trans (Nat.le_trans K26.1 K29.1) K32.1) K35.1) K759.1) (Nat.le_of_eq g765))))
                                  have f1201 := ((((((((((((Cs23.keep K26 nin0).keep K29 nin0).keep K32 nin0).keep K35 (ninS ne1199 nin0)).keep K759 nin0).ext E765).keep K766 nin0).keep K769 nin0).keep K772 nin0).keep K775 nin0).keep K778 (ninS ne1200 nin0)).keep K948 nin0)
                                  have f1202 := ((((((((((((Vs23.keep K26 nin0).keep K29 nin0).keep K32 nin0).keep K35 (ninS ne1199 nin0)).keep K759 nin0).ext E765).keep K766 nin0).keep K769 nin0).keep K772 nin0).keep K775 nin0).keep K778 (ninS ne1200 nin0)).keep K948 nin0)
                                  have ne1203 : t23 ≠ b22 := (Ne.symm (Nat.ne_of_lt (Nat.lt_of_lt_of_le A22.lt lo23)))
                                  have ne1204 : t23 ≠ b765 := (Nat.ne_of_lt (Nat.lt_of_lt_of_le Bs23.lt (Nat.le_trans (Nat.le_trans (Nat.le_trans (Nat.le_trans (Nat.le_trans K26.1 K29.1) K32.1) K35.1) K759.1) (Nat.le_of_eq g765))))
                                  have f1205 := ((((((((((((Bs23.keep K26 nin0).keep K29 nin0).keep K32 nin0).keep K35 (ninS ne1203 nin0)).keep K759 nin0).ext E765).keep K766 nin0).keep K769 nin0).keep K772 nin0).keep K775 nin0).keep K778 (ninS ne1204 nin0)).keep K948 nin0)
                                  have f1206 := ((((((((f761.keep K759).ext E765).keep K766).keep K769).keep K772).keep K775).keep K778).keep K948)
                                  have ne1207 : s26 ≠ b22 := (Ne.symm (Nat.ne_of_lt (Nat.lt_of_lt_of_le A22.lt (Nat.le_trans K23.1 ls26))))
                                  have ne1208 : s26 ≠ b765 := (Nat.ne_of_lt (Nat.lt_of_lt_of_le Es26.lt (Nat.le_trans (Nat.le_trans (Nat.le_trans (Nat.le_trans K29.1 K32.1) K35.1) K759.1) (Nat.le_of_eq g765))))
                                  have f1209 := (((((((((((Cs26.keep K29 nin0).keep K32 nin0).keep K35 (ninS ne1207 nin0)).keep K759 nin0).ext E765).keep K766 nin0).keep K769 nin0).keep K772 nin0).keep K775 nin0).keep K778 (ninS ne1208 nin0)).keep K948 nin0)
                                  have f1210 := (((((((((((Vs26.keep K29 nin0).keep K32 nin0).keep K35 (ninS ne1207 nin0)).keep K759 nin0).ext E765).keep K766 nin0).keep K769 nin0).keep K772 nin0).keep K775 nin0).keep K778 (ninS ne1208 nin0)).keep K948 nin0)
                                  have ne1211 : t26 ≠ b22 := (Ne.symm (Nat.ne_of_lt (Nat.lt_of_lt_of_le A22.lt (Nat.le_trans K23.1 lo26))))
                                  have ne1212 : t26 ≠ b765 := (Nat.ne_of_lt (Nat.lt_of_lt_of_le Bs26.lt (Nat.le_trans (Nat.le_trans (Nat.le_trans (Nat.le_trans K29.1 K32.1) K35.1) K759.1) (Nat.le_of_eq g765))))
                                  have f1213 := (((((((((((Bs26.keep K29 nin0).keep K32 nin0).keep K35 (ninS ne1211 nin0)).keep K759 nin0).ext E765).keep K766 nin0).keep K769 nin0).keep K772 nin0).keep K775 nin0).keep K778 (ninS ne1212 nin0)).keep K948 nin0)
                                  have f1214 := ((((((((f762.keep K759).ext E765).keep K766).keep K769).keep K772).keep K775).keep K778).keep K948)
                                  have ne1215 : s29 ≠ b22 := (Ne.symm (Nat.ne_of_lt (Nat.lt_of_lt_of_le A22.lt (Nat.le_trans (Nat.le_trans K23.1 K26.1) ls29))))
                                  have ne1216 : s29 ≠ b765 := (Nat.ne_of_lt (Nat.lt_of_lt_of_le Es29.lt (Nat.le_trans (Nat.le_trans (Nat.le_trans K32.1 K35.1) K759.1) (Nat.le_of_eq g765))))
                                  have f1217 := ((((((((((Cs29.keep K32 nin0).keep K35 (ninS ne1215 nin0)).keep K759 nin0).ext E765).keep K766 nin0).keep K769 nin0).keep K772 nin0).keep K775 nin0).keep K778 (ninS ne1216 nin0)).keep K948 nin0)
                                  have f1218 := ((((((((((Vs29.keep K32 nin0).keep K35 (ninS ne1215 nin0)).keep K759 nin0).ext E765).keep K766 nin0).keep K769 nin0).keep K772 nin0).keep K775 nin0).keep K778 (ninS ne1216 nin0)).keep K948 nin0)
                                  have ne1219 : t29 ≠ b22 := (Ne.symm (Nat.ne_of_lt (Nat.lt_of_lt_of_le A22.lt (Nat.le_trans (Nat.le_trans K23.1 K26.1) lo29))))
                                  have ne1220 : t29 ≠ b765 := (Nat.ne_of_lt (Nat.lt_of_lt_of_le Bs29.lt (Nat.le_trans (Nat.le_trans (Nat.le_trans K32.1 K35.1) K759.1) (Nat.le_of_eq g765))))
                                  have f1221 := ((((((((((Bs29.keep K32 nin0).keep K35 (ninS ne1219 nin0)).keep K759 nin0).ext E765).keep K766 nin0).keep K769 nin0).keep K772 nin0).keep K775 nin0).keep K778 (ninS ne1220 nin0)).keep K948 nin0)
                                  have f1222 := ((((((((f763.keep K759).ext E765).keep K766).keep K769).keep K772).keep K775).keep K778).keep K948)
                                  have ne1223 : s32 ≠ b22 := (Ne.symm (Nat.ne_of_lt (Nat.lt_of_lt_of_le A22.lt (Nat.le_trans (Nat.le_trans (Nat.le_trans K23.1 K26.1) K29.1) ls32))))
                                  have ne1224 : s32 ≠ b765 := (Nat.ne_of_lt (Nat.lt_of_lt_of_le Es32.lt (Nat.le_trans (Nat.le_trans K35.1 K759.1) (Nat.le_of_eq g765))))
                                  have f1225 := (((((((((Cs32.keep K35 (ninS ne1223 nin0)).keep K759 nin0).ext E765).keep K766 nin0).keep K769 nin0).keep K772 nin0).keep K775 nin0).keep K778 (ninS ne1224 nin0)).keep K948 nin0)
                                  have f1226 := (((((((((Vs32.keep K35 (ninS ne1223 nin0)).keep K759 nin0).ext E765).keep K766 nin0).keep K769 nin0).keep K772 nin0).keep K775 nin0).keep K778 (ninS ne1224 nin0)).keep K948 nin0)
                                  have ne1227 : t32 ≠ b22 := (Ne.symm (Nat.ne_of_lt (Nat.lt_of_lt_of_le A22.lt (Nat.le_trans (Nat.le_trans (Nat.le_trans K23.1 K26.1) K29.1) lo32))))
                                  have ne1228 : t32 ≠ b765 := (Nat.ne_of_lt (Nat.lt_of_lt_of_le Bs32.lt (Nat.le_trans (Nat.le_trans K35.1 K759.1) (Nat.le_of_eq g765))))
                                  have f1229 := (((((((((Bs32.keep K35 (ninS ne1227 nin0)).keep K759 nin0).ext E765).keep K766 nin0).keep K769 nin0).keep K772 nin0).keep K775 nin0).keep K778 (ninS ne1228 nin0)).keep K948 nin0)
                                  have f1230 := (f949.keep K948)
                                  have ne1231 : s766 ≠ b765 := (Ne.symm (Nat.ne_of_lt (Nat.lt_of_lt_of_le A765.lt ls766)))
                                  have f1232 := (((((Cs766.keep K769 nin0).keep K772 nin0).keep K775 nin0).keep K778 (ninS ne1231 nin0)).keep K948 nin0)
                                  have f1233 := (((((Vs766.keep K769 nin0).keep K772 nin0).keep K775 nin0).keep K778 (ninS ne1231 nin0)).keep K948 nin0)
                                  have ne1234 : t766 ≠ b765 := (Ne.symm (Nat.ne_of_lt (Nat.lt_of_lt_of_le A765.lt lo766)))
                                  have f1235 := (((((Bs766.keep K769 nin0).keep K772 nin0).keep K775 nin0).keep K778 (ninS ne1234 nin0)).keep K948 nin0)
                                  have f1236 := (f950.keep K948)
                                  have ne1237 : s769 ≠ b765 := (Ne.symm (Nat.ne_of_lt (Nat.lt_of_lt_of_le A765.lt (Nat.le_trans K766.1 ls769))))
                                  have f1238 := ((((Cs769.keep K772 nin0).keep K775 nin0).keep K778 (ninS ne1237 nin0)).keep K948 nin0)
                                  have f1239 := ((((Vs769.keep K772 nin0).keep K775 nin0).keep K778 (ninS ne1237 nin0)).keep K948 nin0)
                                  have ne1240 : t769 ≠ b765 := (Ne.symm (Nat.ne_of_lt (Nat.lt_of_lt_of_le A765.lt (Nat.le_trans K766.1 lo769))))
                                  have f1241 := ((((Bs769.keep K772 nin0).keep K775 nin0).keep K778 (ninS ne1240 nin0)).keep K948 nin0)
                                  have f1242 := (f951.keep K948)
                                  have ne1243 : s772 ≠ b765 := (Ne.symm (Nat.ne_of_lt (Nat.lt_of_lt_of_le A765.lt (Nat.le_trans (Nat.le_trans K766.1 K769.1) ls772))))
                                  have f1244 := (((Cs772.keep K775 nin0).keep K778 (ninS ne1243 nin0)).keep K948 nin0)
                                  have f1245 := (((Vs772.keep K775 nin0).keep K778 (ninS ne1243 nin0)).keep K948 nin0)
                                  have ne1246 : t772 ≠ b765 := (Ne.symm (Nat.ne_of_lt (Nat.lt_of_lt_of_le A765.lt (Nat.le_trans (Nat.le_trans K766.1 K769.1) lo772))))
                                  have f1247 := (((Bs772.keep K775 nin0).keep K778 (ninS ne1246 nin0)).keep K948 nin0)
                                  have f1248 := (f952.keep K948)
                                  have ne1249 : s775 ≠ b765 := (Ne.symm (Nat.ne_of_lt (Nat.lt_of_lt_of_le A765.lt (Nat.le_trans (Nat.le_trans (Nat.le_trans K766.1 K769.1) K772.1) ls775))))
                                  have f1250 := ((Cs775.keep K778 (ninS ne1249 nin0)).keep K948 nin0)
                                  have f1251 := ((Vs775.keep K778 (ninS ne1249 nin0)).keep K948 nin0)
                                  have ne1252 : t775 ≠ b765 := (Ne.symm (Nat.ne_of_lt (Nat.lt_of_lt_of_le A765.lt (Nat.le_trans (Nat.le_trans (Nat.le_trans K766.1 K769.1) K772.1) lo775))))
                                  have f1253 := ((Bs775.keep K778 (ninS ne1252 nin0)).keep K948 nin0)
                                  have ne1254 : s23 ≠ s766 := (Nat.ne_of_lt (Nat.lt_of_lt_of_le Es23.lt (Nat.le_trans (Nat.le_trans (Nat.le_trans (Nat.le_trans (Nat.le_trans (Nat.le_trans K26.1 K29.1) K32.1) K35.1) K759.1) E765.1) ls766)))
                                  have ne1255 : s26 ≠ s769 := (Nat.ne_of_lt (Nat.lt_of_lt_of_le Es26.lt (Nat.le_trans (Nat.le_trans (Nat.le_trans (Nat.le_trans (Nat.le_trans (Nat.le_trans K29.1 K32.1) K35.1) K759.1) E765.1) K766.1) ls769)))
                                  have ne1256 : s29 ≠ s772 := (Nat.ne_of_lt (Nat.lt_of_lt_of_le Es29.lt (Nat.le_trans (Nat.le_trans (Nat.le_trans (Nat.le_trans (Nat.le_trans (Nat.le_trans K32.1 K35.1) K759.1) E765.1) K766.1) K769.1) ls772)))
                                  have ne1257 : s32 ≠ s775 := (Nat.ne_of_lt (Nat.lt_of_lt_of_le Es32.lt (Nat.le_trans (Nat.le_trans (Nat.le_trans (Nat.le_trans (Nat.le_trans (Nat.le_trans K35.1 K759.1) E765.1) K766.1) K769.1) K772.1) ls775)))
                                  have f1258 := (((f776.keep K775 all0).keep K778 (allS g_b765 all0)).keep K948 all0)
                                  have z1259 := (Nat.le_trans z953 K948.1)
                                  refine g_virtual X948 hx hby hZ948 ho948 (rm_peqp l Z a0 hw [] q759 q948 posA chA s23 s26 colA s29 s32 t23 kb23 (nar .byte (tA.toInt8.toInt32)) t26 kb26 (nar .byte (cA.toInt8.toInt32)) t29 kb29 (nar .byte (kA.toInt8.toInt32)) t32 kb32 (nar .byte (dA.toInt8.toInt32)) posB chB s766 s769 colB s772 s775 t766 kb766 (nar .byte (tB.toInt8.toInt32)) t769 kb769 (nar .byte (cB.toInt8.toInt32)) t772 kb772 (nar .byte (kB.toInt8.toInt32)) t775 kb775 (nar .byte (dB.toInt8.toInt32)) cz T948.heap n0 z1259 O2 P5 f1258 ⟨f1189, f1191, f1192, f1193, f1194, f1195, f1196, f1197⟩ ⟨pE948, pa948, pb948, pc948, pd948, pe948, pf948, pg948⟩ f1198 f1201 f1202 f1205 f1206 f1209 f1210 f1213 f1214 f1217 f1218 f1221 f1222 f1225 f1226 f1229 f1230 f1232 f1233 f1235 f1236 f1238 f1239 f1241 f1242 f1244 f1245 f1247 f1248 f1250 f1251 f1253 ne1254 ne1255 ne1256 ne1257) w74_ w75_ (notFace_of_selects (args := #[]) (mvT hZ948 w77_)) w77_ w76_ w15_ w78_ (by decide) rfl f1189 (by rw [hml]; rfl) [(.ref q948)] (lenOf own_pd1 rfl) rfl rfl (Nat.le_of_ble_eq_true rfl) (Nat.le_of_ble_eq_true rfl) (Nat.le_of_ble_eq_true rfl) (Nat.le_of_ble_eq_true rfl) at_486 (fun v1188 T1188 L1188 X1188 hQ1188 => ?_)
                                  obtain ⟨rfl, N1188q, eh1188⟩ := hQ1188
                                  have N1188 := Fr.app N948 N1188q
                                  refine g_iload X1188 hx hby at_489 rfl ?_
                                  refine g_icN X1188 hx hby at_491 (teq (by simp [own_beq h_tA h_tB, own_beq h_cA h_cB, own_beq h_kA h_kB, own_beq h_dA h_dB, own_m1 h_chA, own_m1' h_chA, own_m1 h_chB, own_m1' h_chB, hc430_965, hc437_966, hc444_967, hc451_968, hc458_969] : (if posA = posB ∧ chA = chB ∧ (nar .byte (tA.toInt8.toInt32)) = (nar .byte (tB.toInt8.toInt32)) ∧ (nar .byte (cA.toInt8.toInt32)) = (nar .byte (cB.toInt8.toInt32)) ∧ colA = colB ∧ (nar .byte (kA.toInt8.toInt32)) = (nar .byte (kB.toInt8.toInt32)) ∧ (nar .byte (dA.toInt8.toInt32)) = (nar .byte (dB.toInt8.toInt32)) then 1 else 0 : Int32) = (0 : Int32))).2 ?_
                                  refine g_iconst X1188 hx hby (1 : Int32) at_494 rfl ?_
                                  refine g_goto X1188 hx hby 499 at_495 (by decide) (by decide) ?_
                                  refine g_nretW X1188 hx hby (t := .boolean) (by simp) Bd.returns Bd.notSynchronized hS948 at_499 eh1188 (Nat.le_refl _) (by decide) (by decide) ?_
                                  show (Q_law Z y0 y1 y2 y3 sel cz h0 n0) (some (.int (1 : Int32))) _ _
                                  exact ⟨rfl, N1188⟩
                              · skip
                                refine g_icY X948 hx hby 479 at_451 (feq hc451_968).2 (by decide) (by decide) ?_
                                refine g_iconst X948 hx hby (0 : Int32) at_479 rfl ?_
                                refine g_istore X948 hx hby at_480 (l' := #[.val (.long y0), .second, .val (.long y1), .second, .val (.long y2), .second, .val (.long y3), .second, .val (.int sel), .val (.int posA), .val (.int posB), .val (.int colA), .val (.int colB), .val (.int (own_bit sel (4 : Int32))), .val (.int (own_bit sel (5 : Int32))), .val (.int chA), .val (.int chB), .val (.int tA), .val (.int cA), .val (.int kA), .val (.int dA), .val (.int tB), .val (.int cB), .val (.int kB), .val (.int dB), .val (.ref q759), .val (.ref q948), .val (.int (sel &&& (7 : Int32))), .val (.ref q948), .val (.int chA), .val (.int chB), .val (.int (0 : Int32))]) rfl ?_
                                refine g_aload X948 hx hby at_482 rfl rfl ?_
                                refine g_aload X948 hx hby at_484 rfl rfl ?_
                                have f1261 := (((((((pE759.ext E765).keep K766).keep K769).keep K772).keep K775).keep K778).keep K948)
                                have ne1262 : q759 ≠ b765 := (Nat.ne_of_lt (Nat.lt_of_lt_of_le pE759.lt (Nat.le_of_eq g765)))
                                have f1263 := (((((((pa759.ext E765).keep K766 nin0).keep K769 nin0).keep K772 nin0).keep K775 nin0).keep K778 (ninS ne1262 nin0)).keep K948 nin0)
                                have f1264 := (((((((pb759.ext E765).keep K766 nin0).keep K769 nin0).keep K772 nin0).keep K775 nin0).keep K778 (ninS ne1262 nin0)).keep K948 nin0)
                                have f1265 := (((((((pc759.ext E765).keep K766 nin0).keep K769 nin0).keep K772 nin0).keep K775 nin0).keep K778 (ninS ne1262 nin0)).keep K948 nin0)
                                have f1266 := (((((((pd759.ext E765).keep K766 nin0).keep K769 nin0).keep K772 nin0).keep K775 nin0).keep K778 (ninS ne1262 nin0)).keep K948 nin0)
                                have f1267 := (((((((pe759.ext E765).keep K766 nin0).keep K769 nin0).keep K772 nin0).keep K775 nin0).keep K778 (ninS ne1262 nin0)).keep K948 nin0)
                                have f1268 := (((((((pf759.ext E765).keep K766 nin0).keep K769 nin0).keep K772 nin0).keep K775 nin0).keep K778 (ninS ne1262 nin0)).keep K948 nin0)
                                have f1269 := (((((((pg759.ext E765).keep K766 nin0).keep K769 nin0).keep K772 nin0).keep K775 nin0).keep K778 (ninS ne1262 nin0)).keep K948 nin0)
                                have f1270 := ((((((((f760.keep K759).ext E765).keep K766).keep K769).keep K772).keep K775).keep K778).keep K948)
                                have ne1271 : s23 ≠ b22 := (Ne.symm (Nat.ne_of_lt (Nat.lt_of_lt_of_le A22.lt ls23)))
                                have ne1272 : s23 ≠ b765 := (Nat.ne_of_lt (Nat.lt_of_lt_of_le Es23.lt (Nat.le_trans (Nat.le_trans (Nat.le_trans (Nat.le_trans (Nat.le_trans K26.1 K29.1) K32.1) K35.1) K759.1) (Nat.le_of_eq g765))))
                                have f1273 := ((((((((((((Cs23.keep K26 nin0).keep K29 nin0).keep K32 nin0).keep K35 (ninS ne1271 nin0)).keep K759 nin0).ext E765).keep K766 nin0).keep K769 nin0).keep K772 nin0).keep K775 nin0).keep K778 (ninS ne1272 nin0)).keep K948 nin0)
                                have f1274 := ((((((((((((Vs23.keep K26 nin0).keep K29 nin0).keep K32 nin0).keep K35 (ninS ne1271 nin0)).keep K759 nin0).ext E765).keep K766 nin0).keep K769 nin0).keep K772 nin0).keep K775 nin0).keep K778 (ninS ne1272 nin0)).keep K948 nin0)
                                have ne1275 : t23 ≠ b22 := (Ne.symm (Nat.ne_of_lt (Nat.lt_of_lt_of_le A22.lt lo23)))
                                have ne1276 : t23 ≠ b765 := (Nat.ne_of_lt (Nat.lt_of_lt_of_le Bs23.lt (Nat.le_trans (Nat.le_trans (Nat.le_trans (Nat.le_trans (Nat.le_trans K26.1 K29.1) K32.1) K35.1) K759.1) (Nat.le_of_eq g765))))
                                have f1277 := ((((((((((((Bs23.keep K26 nin0).keep K29 nin0).keep K32 nin0).keep K35 (ninS ne1275 nin0)).keep K759 nin0).ext E765).keep K766 nin0).keep K769 nin0).keep K772 nin0).keep K775 nin0).keep K778 (ninS ne1276 nin0)).keep K948 nin0)
                                have f1278 := ((((((((f761.keep K759).ext E765).keep K766).keep K769).keep K772).keep K775).keep K778).keep K948)
                                have ne1279 : s26 ≠ b22 := (Ne.symm (Nat.ne_of_lt (Nat.lt_of_lt_of_le A22.lt (Nat.le_trans K23.1 ls26))))
                                have ne1280 : s26 ≠ b765 := (Nat.ne_of_lt (Nat.lt_of_lt_of_le Es26.lt (Nat.le_trans (Nat.le_trans (Nat.le_trans (Nat.le_trans K29.1 K32.1) K35.1) K759.1) (Nat.le_of_eq g765))))
                                have f1281 := (((((((((((Cs26.keep K29 nin0).keep K32 nin0).keep K35 (ninS ne1279 nin0)).keep K759 nin0).ext E765).keep K766 nin0).keep K769 nin0).keep K772 nin0).keep K775 nin0).keep K778 (ninS ne1280 nin0)).keep K948 nin0)
                                have f1282 := (((((((((((Vs26.keep K29 nin0).keep K32 nin0).keep K35 (ninS ne1279 nin0)).keep K759 nin0).ext E765).keep K766 nin0).keep K769 nin0).keep K772 nin0).keep K775 nin0).keep K778 (ninS ne1280 nin0)).keep K948 nin0)
                                have ne1283 : t26 ≠ b22 := (Ne.symm (Nat.ne_of_lt (Nat.lt_of_lt_of_le A22.lt (Nat.le_trans K23.1 lo26))))
                                have ne1284 : t26 ≠ b765 := (Nat.ne_of_lt (Nat.lt_of_lt_of_le Bs26.lt (Nat.le_trans (Nat.le_trans (Nat.le_trans (Nat.le_trans K29.1 K32.1) K35.1) K759.1) (Nat.le_of_eq g765))))
                                have f1285 := (((((((((((Bs26.keep K29 nin0).keep K32 nin0).keep K35 (ninS ne1283 nin0)).keep K759 nin0).ext E765).keep K766 nin0).keep K769 nin0).keep K772 nin0).keep K775 nin0).keep K778 (ninS ne1284 nin0)).keep K948 nin0)
                                have f1286 := ((((((((f762.keep K759).ext E765).keep K766).keep K769).keep K772).keep K775).keep K778).keep K948)
                                have ne1287 : s29 ≠ b22 := (Ne.symm (Nat.ne_of_lt (Nat.lt_of_lt_of_le A22.lt (Nat.le_trans (Nat.le_trans K23.1 K26.1) ls29))))
                                have ne1288 : s29 ≠ b765 := (Nat.ne_of_lt (Nat.lt_of_lt_of_le Es29.lt (Nat.le_trans (Nat.le_trans (Nat.le_trans K32.1 K35.1) K759.1) (Nat.le_of_eq g765))))
                                have f1289 := ((((((((((Cs29.keep K32 nin0).keep K35 (ninS ne1287 nin0)).keep K759 nin0).ext E765).keep K766 nin0).keep K769 nin0).keep K772 nin0).keep K775 nin0).keep K778 (ninS ne1288 nin0)).keep K948 nin0)
                                have f1290 := ((((((((((Vs29.keep K32 nin0).keep K35 (ninS ne1287 nin0)).keep K759 nin0).ext E765).keep K766 nin0).keep K769 nin0).keep K772 nin0).keep K775 nin0).keep K778 (ninS ne1288 nin0)).keep K948 nin0)
                                have ne1291 : t29 ≠ b22 := (Ne.symm (Nat.ne_of_lt (Nat.lt_of_lt_of_le A22.lt (Nat.le_trans (Nat.le_trans K23.1 K26.1) lo29))))
                                have ne1292 : t29 ≠ b765 := (Nat.ne_of_lt (Nat.lt_of_lt_of_le Bs29.lt (Nat.le_trans (Nat.le_trans (Nat.le_trans K32.1 K35.1) K759.1) (Nat.le_of_eq g765))))
                                have f1293 := ((((((((((Bs29.keep K32 nin0).keep K35 (ninS ne1291 nin0)).keep K759 nin0).ext E765).keep K766 nin0).keep K769 nin0).keep K772 nin0).keep K775 nin0).keep K778 (ninS ne1292 nin0)).keep K948 nin0)
                                have f1294 := ((((((((f763.keep K759).ext E765).keep K766).keep K769).keep K772).keep K775).keep K778).keep K948)
                                have ne1295 : s32 ≠ b22 := (Ne.symm (Nat.ne_of_lt (Nat.lt_of_lt_of_le A22.lt (Nat.le_trans (Nat.le_trans (Nat.le_trans K23.1 K26.1) K29.1) ls32))))
                                have ne1296 : s32 ≠ b765 := (Nat.ne_of_lt (Nat.lt_of_lt_of_le Es32.lt (Nat.le_trans (Nat.le_trans K35.1 K759.1) (Nat.le_of_eq g765))))
                                have f1297 := (((((((((Cs32.keep K35 (ninS ne1295 nin0)).keep K759 nin0).ext E765).keep K766 nin0).keep K769 nin0).keep K772 nin0).keep K775 nin0).keep K778 (ninS ne1296 nin0)).keep K948 nin0)
                                have f1298 := (((((((((Vs32.keep K35 (ninS ne1295 nin0)).keep K759 nin0).ext E765).keep K766 nin0).keep K769 nin0).keep K772 nin0).keep K775 nin0).keep K778 (ninS ne1296 nin0)).keep K948 nin0)
                                have ne1299 : t32 ≠ b22 := (Ne.symm (Nat.ne_of_lt (Nat.lt_of_lt_of_le A22.lt (Nat.le_trans (Nat.le_trans (Nat.le_trans K23.1 K26.1) K29.1) lo32))))
                                have ne1300 : t32 ≠ b765 := (Nat.ne_of_lt (Nat.lt_of_lt_of_le Bs32.lt (Nat.le_trans (Nat.le_trans K35.1 K759.1) (Nat.le_of_eq g765))))
                                have f1301 := (((((((((Bs32.keep K35 (ninS ne1299 nin0)).keep K759 nin0).ext E765).keep K766 nin0).keep K769 nin0).keep K772 nin0).keep K775 nin0).keep K778 (ninS ne1300 nin0)).keep K948 nin0)
                                have f1302 := (f949.keep K948)
                                have ne1303 : s766 ≠ b765 := (Ne.symm (Nat.ne_of_lt (Nat.lt_of_lt_of_le A765.lt ls766)))
                                have f1304 := (((((Cs766.keep K769 nin0).keep K772 nin0).keep K775 nin0).keep K778 (ninS ne1303 nin0)).keep K948 nin0)
                                have f1305 := (((((Vs766.keep K769 nin0).keep K772 nin0).keep K775 nin0).keep K778 (ninS ne1303 nin0)).keep K948 nin0)
                                have ne1306 : t766 ≠ b765 := (Ne.symm (Nat.ne_of_lt (Nat.lt_of_lt_of_le A765.lt lo766)))
                                have f1307 := (((((Bs766.keep K769 nin0).keep K772 nin0).keep K775 nin0).keep K778 (ninS ne1306 nin0)).keep K948 nin0)
                                have f1308 := (f950.keep K948)
                                have ne1309 : s769 ≠ b765 := (Ne.symm (Nat.ne_of_lt (Nat.lt_of_lt_of_le A765.lt (Nat.le_trans K766.1 ls769))))
                                have f1310 := ((((Cs769.keep K772 nin0).keep K775 nin0).keep K778 (ninS ne1309 nin0)).keep K948 nin0)
                                have f1311 := ((((Vs769.keep K772 nin0).keep K775 nin0).keep K778 (ninS ne1309 nin0)).keep K948 nin0)
                                have ne1312 : t769 ≠ b765 := (Ne.symm (Nat.ne_of_lt (Nat.lt_of_lt_of_le A765.lt (Nat.le_trans K766.1 lo769))))
                                have f1313 := ((((Bs769.keep K772 nin0).keep K775 nin0).keep K778 (ninS ne1312 nin0)).keep K948 nin0)
                                have f1314 := (f951.keep K948)
                                have ne1315 : s772 ≠ b765 := (Ne.symm (Nat.ne_of_lt (Nat.lt_of_lt_of_le A765.lt (Nat.le_trans (Nat.le_trans K766.1 K769.1) ls772))))
                                have f1316 := (((Cs772.keep K775 nin0).keep K778 (ninS ne1315 nin0)).keep K948 nin0)
                                have f1317 := (((Vs772.keep K775 nin0).keep K778 (ninS ne1315 nin0)).keep K948 nin0)
                                have ne1318 : t772 ≠ b765 := (Ne.symm (Nat.ne_of_lt (Nat.lt_of_lt_of_le A765.lt (Nat.le_trans (Nat.le_trans K766.1 K769.1) lo772))))
                                have f1319 := (((Bs772.keep K775 nin0).keep K778 (ninS ne1318 nin0)).keep K948 nin0)
                                have f1320 := (f952.keep K948)
                                have ne1321 : s775 ≠ b765 := (Ne.symm (Nat.ne_of_lt (Nat.lt_of_lt_of_le A765.lt (Nat.le_trans (Nat.le_trans (Nat.le_trans K766.1 K769.1) K772.1) ls775))))
                                have f1322 := ((Cs775.keep K778 (ninS ne1321 nin0)).keep K948 nin0)
                                have f1323 := ((Vs775.keep K778 (ninS ne1321 nin0)).keep K948 nin0)
                                have ne1324 : t775 ≠ b765 := (Ne.symm (Nat.ne_of_lt (Nat.lt_of_lt_of_le A765.lt (Nat.le_trans (Nat.le_trans (Nat.le_trans K766.1 K769.1) K772.1) lo775))))
                                have f1325 := ((Bs775.keep K778 (ninS ne1324 nin0)).keep K948 nin0)
                                have ne1326 : s23 ≠ s766 := (Nat.ne_of_lt (Nat.lt_of_lt_of_le Es23.lt (Nat.le_trans (Nat.le_trans (Nat.le_trans (Nat.le_trans (Nat.le_trans (Nat.le_trans K26.1 K29.1) K32.1) K35.1) K759.1) E765.1) ls766)))
                                have ne1327 : s26 ≠ s769 := (Nat.ne_of_lt (Nat.lt_of_lt_of_le Es26.lt (Nat.le_trans (Nat.le_trans (Nat.le_trans (Nat.le_trans (Nat.le_trans (Nat.le_trans K29.1 K32.1) K35.1) K759.1) E765.1) K766.1) ls769)))
                                have ne1328 : s29 ≠ s772 := (Nat.ne_of_lt (Nat.lt_of_lt_of_le Es29.lt (Nat.le_trans (Nat.le_trans (Nat.le_trans (Nat.le_trans (Nat.le_trans (Nat.le_trans K32.1 K35.1) K759.1) E765.1) K766.1) K769.1) ls772)))
                                have ne1329 : s32 ≠ s775 := (Nat.ne_of_lt (Nat.lt_of_lt_of_le Es32.lt (Nat.le_trans (Nat.le_trans (Nat.le_trans (Nat.le_trans (Nat.le_trans (Nat.le_trans K35.1 K759.1) E765.1) K766.1) K769.1) K772.1) ls775)))
                                have f1330 := (((f776.keep K775 all0).keep K778 (allS g_b765 all0)).keep K948 all0)
                                have z1331 := (Nat.le_trans z953 K948.1)
                                refine g_virtual X948 hx hby hZ948 ho948 (rm_peqp l Z a0 hw [] q759 q948 posA chA s23 s26 colA s29 s32 t23 kb23 (nar .byte (tA.toInt8.toInt32)) t26 kb26 (nar .byte (cA.toInt8.toInt32)) t29 kb29 (nar .byte (kA.toInt8.toInt32)) t32 kb32 (nar .byte (dA.toInt8.toInt32)) posB chB s766 s769 colB s772 s775 t766 kb766 (nar .byte (tB.toInt8.toInt32)) t769 kb769 (nar .byte (cB.toInt8.toInt32)) t772 kb772 (nar .byte (kB.toInt8.toInt32)) t775 kb775 (nar .byte (dB.toInt8.toInt32)) cz T948.heap n0 z1331 O2 P5 f1330 ⟨f1261, f1263, f1264, f1265, f1266, f1267, f1268, f1269⟩ ⟨pE948, pa948, pb948, pc948, pd948, pe948, pf948, pg948⟩ f1270 f1273 f1274 f1277 f1278 f1281 f1282 f1285 f1286 f1289 f1290 f1293 f1294 f1297 f1298 f1301 f1302 f1304 f1305 f1307 f1308 f1310 f1311 f1313 f1314 f1316 f1317 f1319 f1320 f1322 f1323 f1325 ne1326 ne1327 ne1328 ne1329) w74_ w75_ (notFace_of_selects (args := #[]) (mvT hZ948 w77_)) w77_ w76_ w15_ w78_ (by decide) rfl f1261 (by rw [hml]; rfl) [(.ref q948)] (lenOf own_pd1 rfl) rfl rfl (Nat.le_of_ble_eq_true rfl) (Nat.le_of_ble_eq_true rfl) (Nat.le_of_ble_eq_true rfl) (Nat.le_of_ble_eq_true rfl) at_486 (fun v1260 T1260 L1260 X1260 hQ1260 => ?_)
                                obtain ⟨rfl, N1260q, eh1260⟩ := hQ1260
                                have N1260 := Fr.app N948 N1260q
                                refine g_iload X1260 hx hby at_489 rfl ?_
                                refine g_icN X1260 hx hby at_491 (teq (by simp [own_beq h_tA h_tB, own_beq h_cA h_cB, own_beq h_kA h_kB, own_beq h_dA h_dB, own_m1 h_chA, own_m1' h_chA, own_m1 h_chB, own_m1' h_chB, hc430_965, hc437_966, hc444_967, hc451_968] : (if posA = posB ∧ chA = chB ∧ (nar .byte (tA.toInt8.toInt32)) = (nar .byte (tB.toInt8.toInt32)) ∧ (nar .byte (cA.toInt8.toInt32)) = (nar .byte (cB.toInt8.toInt32)) ∧ colA = colB ∧ (nar .byte (kA.toInt8.toInt32)) = (nar .byte (kB.toInt8.toInt32)) ∧ (nar .byte (dA.toInt8.toInt32)) = (nar .byte (dB.toInt8.toInt32)) then 1 else 0 : Int32) = (0 : Int32))).2 ?_
                                refine g_iconst X1260 hx hby (1 : Int32) at_494 rfl ?_
                                refine g_goto X1260 hx hby 499 at_495 (by decide) (by decide) ?_
                                refine g_nretW X1260 hx hby (t := .boolean) (by simp) Bd.returns Bd.notSynchronized hS948 at_499 eh1260 (Nat.le_refl _) (by decide) (by decide) ?_
                                show (Q_law Z y0 y1 y2 y3 sel cz h0 n0) (some (.int (1 : Int32))) _ _
                                exact ⟨rfl, N1260⟩
                            · skip
                              refine g_icY X948 hx hby 479 at_444 (feq hc444_967).2 (by decide) (by decide) ?_
                              refine g_iconst X948 hx hby (0 : Int32) at_479 rfl ?_
                              refine g_istore X948 hx hby at_480 (l' := #[.val (.long y0), .second, .val (.long y1), .second, .val (.long y2), .second, .val (.long y3), .second, .val (.int sel), .val (.int posA), .val (.int posB), .val (.int colA), .val (.int colB), .val (.int (own_bit sel (4 : Int32))), .val (.int (own_bit sel (5 : Int32))), .val (.int chA), .val (.int chB), .val (.int tA), .val (.int cA), .val (.int kA), .val (.int dA), .val (.int tB), .val (.int cB), .val (.int kB), .val (.int dB), .val (.ref q759), .val (.ref q948), .val (.int (sel &&& (7 : Int32))), .val (.ref q948), .val (.int chA), .val (.int chB), .val (.int (0 : Int32))]) rfl ?_
                              refine g_aload X948 hx hby at_482 rfl rfl ?_
                              refine g_aload X948 hx hby at_484 rfl rfl ?_
                              have f1333 := (((((((pE759.ext E765).keep K766).keep K769).keep K772).keep K775).keep K778).keep K948)
                              have ne1334 : q759 ≠ b765 := (Nat.ne_of_lt (Nat.lt_of_lt_of_le pE759.lt (Nat.le_of_eq g765)))
                              have f1335 := (((((((pa759.ext E765).keep K766 nin0).keep K769 nin0).keep K772 nin0).keep K775 nin0).keep K778 (ninS ne1334 nin0)).keep K948 nin0)
                              have f1336 := (((((((pb759.ext E765).keep K766 nin0).keep K769 nin0).keep K772 nin0).keep K775 nin0).keep K778 (ninS ne1334 nin0)).keep K948 nin0)
                              have f1337 := (((((((pc759.ext E765).keep K766 nin0).keep K769 nin0).keep K772 nin0).keep K775 nin0).keep K778 (ninS ne1334 nin0)).keep K948 nin0)
                              have f1338 := (((((((pd759.ext E765).keep K766 nin0).keep K769 nin0).keep K772 nin0).keep K775 nin0).keep K778 (ninS ne1334 nin0)).keep K948 nin0)
                              have f1339 := (((((((pe759.ext E765).keep K766 nin0).keep K769 nin0).keep K772 nin0).keep K775 nin0).keep K778 (ninS ne1334 nin0)).keep K948 nin0)
                              have f1340 := (((((((pf759.ext E765).keep K766 nin0).keep K769 nin0).keep K772 nin0).keep K775 nin0).keep K778 (ninS ne1334 nin0)).keep K948 nin0)
                              have f1341 := (((((((pg759.ext E765).keep K766 nin0).keep K769 nin0).keep K772 nin0).keep K775 nin0).keep K778 (ninS ne1334 nin0)).keep K948 nin0)
                              have f1342 := ((((((((f760.keep K759).ext E765).keep K766).keep K769).keep K772).keep K775).keep K778).keep K948)
                              have ne1343 : s23 ≠ b22 := (Ne.symm (Nat.ne_of_lt (Nat.lt_of_lt_of_le A22.lt ls23)))
                              have ne1344 : s23 ≠ b765 := (Nat.ne_of_lt (Nat.lt_of_lt_of_le Es23.lt (Nat.le_trans (Nat.le_trans (Nat.le_trans (Nat.le_trans (Nat.le_trans K26.1 K29.1) K32.1) K35.1) K759.1) (Nat.le_of_eq g765))))
                              have f1345 := ((((((((((((Cs23.keep K26 nin0).keep K29 nin0).keep K32 nin0).keep K35 (ninS ne1343 nin0)).keep K759 nin0).ext E765).keep K766 nin0).keep K769 nin0).keep K772 nin0).keep K775 nin0).keep K778 (ninS ne1344 nin0)).keep K948 nin0)
                              have f1346 := ((((((((((((Vs23.keep K26 nin0).keep K29 nin0).keep K32 nin0).keep K35 (ninS ne1343 nin0)).keep K759 nin0).ext E765).keep K766 nin0).keep K769 nin0).keep K772 nin0).keep K775 nin0).keep K778 (ninS ne1344 nin0)).keep K948 nin0)
                              have ne1347 : t23 ≠ b22 := (Ne.symm (Nat.ne_of_lt (Nat.lt_of_lt_of_le A22.lt lo23)))
                              have ne1348 : t23 ≠ b765 := (Nat.ne_of_lt (Nat.lt_of_lt_of_le Bs23.lt (Nat.le_trans (Nat.le_trans (Nat.le_trans (Nat.le_trans (Nat.le_trans K26.1 K29.1) K32.1) K35.1) K759.1) (Nat.le_of_eq g765))))
                              have f1349 := ((((((((((((Bs23.keep K26 nin0).keep K29 nin0).keep K32 nin0).keep K35 (ninS ne1347 nin0)).keep K759 nin0).ext E765).keep K766 nin0).keep K769 nin0).keep K772 nin0).keep K775 nin0).keep K778 (ninS ne1348 nin0)).keep K948 nin0)
                              have f1350 := ((((((((f761.keep K759).ext E765).keep K766).keep K769).keep K772).keep K775).keep K778).keep K948)
                              have ne1351 : s26 ≠ b22 := (Ne.symm (Nat.ne_of_lt (Nat.lt_of_lt_of_le A22.lt (Nat.le_trans K23.1 ls26))))
                              have ne1352 : s26 ≠ b765 := (Nat.ne_of_lt (Nat.lt_of_lt_of_le Es26.lt (Nat.le_trans (Nat.le_trans (Nat.le_trans (Nat.le_trans K29.1 K32.1) K35.1) K759.1) (Nat.le_of_eq g765))))
                              have f1353 := (((((((((((Cs26.keep K29 nin0).keep K32 nin0).keep K35 (ninS ne1351 nin0)).keep K759 nin0).ext E765).keep K766 nin0).keep K769 nin0).keep K772 nin0).keep K775 nin0).keep K778 (ninS ne1352 nin0)).keep K948 nin0)
                              have f1354 := (((((((((((Vs26.keep K29 nin0).keep K32 nin0).keep K35 (ninS ne1351 nin0)).keep K759 nin0).ext E765).keep K766 nin0).keep K769 nin0).keep K772 nin0).keep K775 nin0).keep K778 (ninS ne1352 nin0)).keep K948 nin0)
                              have ne1355 : t26 ≠ b22 := (Ne.symm (Nat.ne_of_lt (Nat.lt_of_lt_of_le A22.lt (Nat.le_trans K23.1 lo26))))
                              have ne1356 : t26 ≠ b765 := (Nat.ne_of_lt (Nat.lt_of_lt_of_le Bs26.lt (Nat.le_trans (Nat.le_trans (Nat.le_trans (Nat.le_trans K29.1 K32.1) K35.1) K759.1) (Nat.le_of_eq g765))))
                              have f1357 := (((((((((((Bs26.keep K29 nin0).keep K32 nin0).keep K35 (ninS ne1355 nin0)).keep K759 nin0).ext E765).keep K766 nin0).keep K769 nin0).keep K772 nin0).keep K775 nin0).keep K778 (ninS ne1356 nin0)).keep K948 nin0)
                              have f1358 := ((((((((f762.keep K759).ext E765).keep K766).keep K769).keep K772).keep K775).keep K778).keep K948)
                              have ne1359 : s29 ≠ b22 := (Ne.symm (Nat.ne_of_lt (Nat.lt_of_lt_of_le A22.lt (Nat.le_trans (Nat.le_trans K23.1 K26.1) ls29))))
                              have ne1360 : s29 ≠ b765 := (Nat.ne_of_lt (Nat.lt_of_lt_of_le Es29.lt (Nat.le_trans (Nat.le_trans (Nat.le_trans K32.1 K35.1) K759.1) (Nat.le_of_eq g765))))
                              have f1361 := ((((((((((Cs29.keep K32 nin0).keep K35 (ninS ne1359 nin0)).keep K759 nin0).ext E765).keep K766 nin0).keep K769 nin0).keep K772 nin0).keep K775 nin0).keep K778 (ninS ne1360 nin0)).keep K948 nin0)
                              have f1362 := ((((((((((Vs29.keep K32 nin0).keep K35 (ninS ne1359 nin0)).keep K759 nin0).ext E765).keep K766 nin0).keep K769 nin0).keep K772 nin0).keep K775 nin0).keep K778 (ninS ne1360 nin0)).keep K948 nin0)
                              have ne1363 : t29 ≠ b22 := (Ne.symm (Nat.ne_of_lt (Nat.lt_of_lt_of_le A22.lt (Nat.le_trans (Nat.le_trans K23.1 K26.1) lo29))))
                              have ne1364 : t29 ≠ b765 := (Nat.ne_of_lt (Nat.lt_of_lt_of_le Bs29.lt (Nat.le_trans (Nat.le_trans (Nat.le_trans K32.1 K35.1) K759.1) (Nat.le_of_eq g765))))
                              have f1365 := ((((((((((Bs29.keep K32 nin0).keep K35 (ninS ne1363 nin0)).keep K759 nin0).ext E765).keep K766 nin0).keep K769 nin0).keep K772 nin0).keep K775 nin0).keep K778 (ninS ne1364 nin0)).keep K948 nin0)
                              have f1366 := ((((((((f763.keep K759).ext E765).keep K766).keep K769).keep K772).keep K775).keep K778).keep K948)
                              have ne1367 : s32 ≠ b22 := (Ne.symm (Nat.ne_of_lt (Nat.lt_of_lt_of_le A22.lt (Nat.le_trans (Nat.le_trans (Nat.le_trans K23.1 K26.1) K29.1) ls32))))
                              have ne1368 : s32 ≠ b765 := (Nat.ne_of_lt (Nat.lt_of_lt_of_le Es32.lt (Nat.le_trans (Nat.le_trans K35.1 K759.1) (Nat.le_of_eq g765))))
                              have f1369 := (((((((((Cs32.keep K35 (ninS ne1367 nin0)).keep K759 nin0).ext E765).keep K766 nin0).keep K769 nin0).keep K772 nin0).keep K775 nin0).keep K778 (ninS ne1368 nin0)).keep K948 nin0)
                              have f1370 := (((((((((Vs32.keep K35 (ninS ne1367 nin0)).keep K759 nin0).ext E765).keep K766 nin0).keep K769 nin0).keep K772 nin0).keep K775 nin0).keep K778 (ninS ne1368 nin0)).keep K948 nin0)
                              have ne1371 : t32 ≠ b22 := (Ne.symm (Nat.ne_of_lt (Nat.lt_of_lt_of_le A22.lt (Nat.le_trans (Nat.le_trans (Nat.le_trans K23.1 K26.1) K29.1) lo32))))
                              have ne1372 : t32 ≠ b765 := (Nat.ne_of_lt (Nat.lt_of_lt_of_le Bs32.lt (Nat.le_trans (Nat.le_trans K35.1 K759.1) (Nat.le_of_eq g765))))
                              have f1373 := (((((((((Bs32.keep K35 (ninS ne1371 nin0)).keep K759 nin0).ext E765).keep K766 nin0).keep K769 nin0).keep K772 nin0).keep K775 nin0).keep K778 (ninS ne1372 nin0)).keep K948 nin0)
                              have f1374 := (f949.keep K948)
                              have ne1375 : s766 ≠ b765 := (Ne.symm (Nat.ne_of_lt (Nat.lt_of_lt_of_le A765.lt ls766)))
                              have f1376 := (((((Cs766.keep K769 nin0).keep K772 nin0).keep K775 nin0).keep K778 (ninS ne1375 nin0)).keep K948 nin0)
                              have f1377 := (((((Vs766.keep K769 nin0).keep K772 nin0).keep K775 nin0).keep K778 (ninS ne1375 nin0)).keep K948 nin0)
                              have ne1378 : t766 ≠ b765 := (Ne.symm (Nat.ne_of_lt (Nat.lt_of_lt_of_le A765.lt lo766)))
                              have f1379 := (((((Bs766.keep K769 nin0).keep K772 nin0).keep K775 nin0).keep K778 (ninS ne1378 nin0)).keep K948 nin0)
                              have f1380 := (f950.keep K948)
                              have ne1381 : s769 ≠ b765 := (Ne.symm (Nat.ne_of_lt (Nat.lt_of_lt_of_le A765.lt (Nat.le_trans K766.1 ls769))))
                              have f1382 := ((((Cs769.keep K772 nin0).keep K775 nin0).keep K778 (ninS ne1381 nin0)).keep K948 nin0)
                              have f1383 := ((((Vs769.keep K772 nin0).keep K775 nin0).keep K778 (ninS ne1381 nin0)).keep K948 nin0)
                              have ne1384 : t769 ≠ b765 := (Ne.symm (Nat.ne_of_lt (Nat.lt_of_lt_of_le A765.lt (Nat.le_trans K766.1 lo769))))
                              have f1385 := ((((Bs769.keep K772 nin0).keep K775 nin0).keep K778 (ninS ne1384 nin0)).keep K948 nin0)
                              have f1386 := (f951.keep K948)
                              have ne1387 : s772 ≠ b765 := (Ne.symm (Nat.ne_of_lt (Nat.lt_of_lt_of_le A765.lt (Nat.le_trans (Nat.le_trans K766.1 K769.1) ls772))))
                              have f1388 := (((Cs772.keep K775 nin0).keep K778 (ninS ne1387 nin0)).keep K948 nin0)
                              have f1389 := (((Vs772.keep K775 nin0).keep K778 (ninS ne1387 nin0)).keep K948 nin0)
                              have ne1390 : t772 ≠ b765 := (Ne.symm (Nat.ne_of_lt (Nat.lt_of_lt_of_le A765.lt (Nat.le_trans (Nat.le_trans K766.1 K769.1) lo772))))
                              have f1391 := (((Bs772.keep K775 nin0).keep K778 (ninS ne1390 nin0)).keep K948 nin0)
                              have f1392 := (f952.keep K948)
                              have ne1393 : s775 ≠ b765 := (Ne.symm (Nat.ne_of_lt (Nat.lt_of_lt_of_le A765.lt (Nat.le_trans (Nat.le_trans (Nat.le_trans K766.1 K769.1) K772.1) ls775))))
                              have f1394 := ((Cs775.keep K778 (ninS ne1393 nin0)).keep K948 nin0)
                              have f1395 := ((Vs775.keep K778 (ninS ne1393 nin0)).keep K948 nin0)
                              have ne1396 : t775 ≠ b765 := (Ne.symm (Nat.ne_of_lt (Nat.lt_of_lt_of_le A765.lt (Nat.le_trans (Nat.le_trans (Nat.le_trans K766.1 K769.1) K772.1) lo775))))
                              have f1397 := ((Bs775.keep K778 (ninS ne1396 nin0)).keep K948 nin0)
                              have ne1398 : s23 ≠ s766 := (Nat.ne_of_lt (Nat.lt_of_lt_of_le Es23.lt (Nat.le_trans (Nat.le_trans (Nat.le_trans (Nat.le_trans (Nat.le_trans (Nat.le_trans K26.1 K29.1) K32.1) K35.1) K759.1) E765.1) ls766)))
                              have ne1399 : s26 ≠ s769 := (Nat.ne_of_lt (Nat.lt_of_lt_of_le Es26.lt (Nat.le_trans (Nat.le_trans (Nat.le_trans (Nat.le_trans (Nat.le_trans (Nat.le_trans K29.1 K32.1) K35.1) K759.1) E765.1) K766.1) ls769)))
                              have ne1400 : s29 ≠ s772 := (Nat.ne_of_lt (Nat.lt_of_lt_of_le Es29.lt (Nat.le_trans (Nat.le_trans (Nat.le_trans (Nat.le_trans (Nat.le_trans (Nat.le_trans K32.1 K35.1) K759.1) E765.1) K766.1) K769.1) ls772)))
                              have ne1401 : s32 ≠ s775 := (Nat.ne_of_lt (Nat.lt_of_lt_of_le Es32.lt (Nat.le_trans (Nat.le_trans (Nat.le_trans (Nat.le_trans (Nat.le_trans (Nat.le_trans K35.1 K759.1) E765.1) K766.1) K769.1) K772.1) ls775)))
                              have f1402 := (((f776.keep K775 all0).keep K778 (allS g_b765 all0)).keep K948 all0)
                              have z1403 := (Nat.le_trans z953 K948.1)
                              refine g_virtual X948 hx hby hZ948 ho948 (rm_peqp l Z a0 hw [] q759 q948 posA chA s23 s26 colA s29 s32 t23 kb23 (nar .byte (tA.toInt8.toInt32)) t26 kb26 (nar .byte (cA.toInt8.toInt32)) t29 kb29 (nar .byte (kA.toInt8.toInt32)) t32 kb32 (nar .byte (dA.toInt8.toInt32)) posB chB s766 s769 colB s772 s775 t766 kb766 (nar .byte (tB.toInt8.toInt32)) t769 kb769 (nar .byte (cB.toInt8.toInt32)) t772 kb772 (nar .byte (kB.toInt8.toInt32)) t775 kb775 (nar .byte (dB.toInt8.toInt32)) cz T948.heap n0 z1403 O2 P5 f1402 ⟨f1333, f1335, f1336, f1337, f1338, f1339, f1340, f1341⟩ ⟨pE948, pa948, pb948, pc948, pd948, pe948, pf948, pg948⟩ f1342 f1345 f1346 f1349 f1350 f1353 f1354 f1357 f1358 f1361 f1362 f1365 f1366 f1369 f1370 f1373 f1374 f1376 f1377 f1379 f1380 f1382 f1383 f1385 f1386 f1388 f1389 f1391 f1392 f1394 f1395 f1397 ne1398 ne1399 ne1400 ne1401) w74_ w75_ (notFace_of_selects (args := #[]) (mvT hZ948 w77_)) w77_ w76_ w15_ w78_ (by decide) rfl f1333 (by rw [hml]; rfl) [(.ref q948)] (lenOf own_pd1 rfl) rfl rfl (Nat.le_of_ble_eq_true rfl) (Nat.le_of_ble_eq_true rfl) (Nat.le_of_ble_eq_true rfl) (Nat.le_of_ble_eq_true rfl) at_486 (fun v1332 T1332 L1332 X1332 hQ1332 => ?_)
                              obtain ⟨rfl, N1332q, eh1332⟩ := hQ1332
                              have N1332 := Fr.app N948 N1332q
                              refine g_iload X1332 hx hby at_489 rfl ?_
                              refine g_icN X1332 hx hby at_491 (teq (by simp [own_beq h_tA h_tB, own_beq h_cA h_cB, own_beq h_kA h_kB, own_beq h_dA h_dB, own_m1 h_chA, own_m1' h_chA, own_m1 h_chB, own_m1' h_chB, hc430_965, hc437_966, hc444_967] : (if posA = posB ∧ chA = chB ∧ (nar .byte (tA.toInt8.toInt32)) = (nar .byte (tB.toInt8.toInt32)) ∧ (nar .byte (cA.toInt8.toInt32)) = (nar .byte (cB.toInt8.toInt32)) ∧ colA = colB ∧ (nar .byte (kA.toInt8.toInt32)) = (nar .byte (kB.toInt8.toInt32)) ∧ (nar .byte (dA.toInt8.toInt32)) = (nar .byte (dB.toInt8.toInt32)) then 1 else 0 : Int32) = (0 : Int32))).2 ?_
                              refine g_iconst X1332 hx hby (1 : Int32) at_494 rfl ?_
                              refine g_goto X1332 hx hby 499 at_495 (by decide) (by decide) ?_
                              refine g_nretW X1332 hx hby (t := .boolean) (by simp) Bd.returns Bd.notSynchronized hS948 at_499 eh1332 (Nat.le_refl _) (by decide) (by decide) ?_
                              show (Q_law Z y0 y1 y2 y3 sel cz h0 n0) (some (.int (1 : Int32))) _ _
                              exact ⟨rfl, N1332⟩
                          · skip
                            refine g_icY X948 hx hby 479 at_437 (feq hc437_966).2 (by decide) (by decide) ?_
                            refine g_iconst X948 hx hby (0 : Int32) at_479 rfl ?_
                            refine g_istore X948 hx hby at_480 (l' := #[.val (.long y0), .second, .val (.long y1), .second, .val (.long y2), .second, .val (.long y3), .second, .val (.int sel), .val (.int posA), .val (.int posB), .val (.int colA), .val (.int colB), .val (.int (own_bit sel (4 : Int32))), .val (.int (own_bit sel (5 : Int32))), .val (.int chA), .val (.int chB), .val (.int tA), .val (.int cA), .val (.int kA), .val (.int dA), .val (.int tB), .val (.int cB), .val (.int kB), .val (.int dB), .val (.ref q759), .val (.ref q948), .val (.int (sel &&& (7 : Int32))), .val (.ref q948), .val (.int chA), .val (.int chB), .val (.int (0 : Int32))]) rfl ?_
                            refine g_aload X948 hx hby at_482 rfl rfl ?_
                            refine g_aload X948 hx hby at_484 rfl rfl ?_
                            have f1405 := (((((((pE759.ext E765).keep K766).keep K769).keep K772).keep K775).keep K778).keep K948)
                            have ne1406 : q759 ≠ b765 := (Nat.ne_of_lt (Nat.lt_of_lt_of_le pE759.lt (Nat.le_of_eq g765)))
                            have f1407 := (((((((pa759.ext E765).keep K766 nin0).keep K769 nin0).keep K772 nin0).keep K775 nin0).keep K778 (ninS ne1406 nin0)).keep K948 nin0)
                            have f1408 := (((((((pb759.ext E765).keep K766 nin0).keep K769 nin0).keep K772 nin0).keep K775 nin0).keep K778 (ninS ne1406 nin0)).keep K948 nin0)
                            have f1409 := (((((((pc759.ext E765).keep K766 nin0).keep K769 nin0).keep K772 nin0).keep K775 nin0).keep K778 (ninS ne1406 nin0)).keep K948 nin0)
                            have f1410 := (((((((pd759.ext E765).keep K766 nin0).keep K769 nin0).keep K772 nin0).keep K775 nin0).keep K778 (ninS ne1406 nin0)).keep K948 nin0)
                            have f1411 := (((((((pe759.ext E765).keep K766 nin0).keep K769 nin0).keep K772 nin0).keep K775 nin0).keep K778 (ninS ne1406 nin0)).keep K948 nin0)
                            have f1412 := (((((((pf759.ext E765).keep K766 nin0).keep K769 nin0).keep K772 nin0).keep K775 nin0).keep K778 (ninS ne1406 nin0)).keep K948 nin0)
                            have f1413 := (((((((pg759.ext E765).keep K766 nin0).keep K769 nin0).keep K772 nin0).keep K775 nin0).keep K778 (ninS ne1406 nin0)).keep K948 nin0)
                            have f1414 := ((((((((f760.keep K759).ext E765).keep K766).keep K769).keep K772).keep K775).keep K778).keep K948)
                            have ne1415 : s23 ≠ b22 := (Ne.symm (Nat.ne_of_lt (Nat.lt_of_lt_of_le A22.lt ls23)))
                            have ne1416 : s23 ≠ b765 := (Nat.ne_of_lt (Nat.lt_of_lt_of_le Es23.lt (Nat.le_trans (Nat.le_trans (Nat.le_trans (Nat.le_trans (Nat.le_trans K26.1 K29.1) K32.1) K35.1) K759.1) (Nat.le_of_eq g765))))
                            have f1417 := ((((((((((((Cs23.keep K26 nin0).keep K29 nin0).keep K32 nin0).keep K35 (ninS ne1415 nin0)).keep K759 nin0).ext E765).keep K766 nin0).keep K769 nin0).keep K772 nin0).keep K775 nin0).keep K778 (ninS ne1416 nin0)).keep K948 nin0)
                            have f1418 := ((((((((((((Vs23.keep K26 nin0).keep K29 nin0).keep K32 nin0).keep K35 (ninS ne1415 nin0)).keep K759 nin0).ext E765).keep K766 nin0).keep K769 nin0).keep K772 nin0).keep K775 nin0).keep K778 (ninS ne1416 nin0)).keep K948 nin0)
                            have ne1419 : t23 ≠ b22 := (Ne.symm (Nat.ne_of_lt (Nat.lt_of_lt_of_le A22.lt lo23)))
                            have ne1420 : t23 ≠ b765 := (Nat.ne_of_lt (Nat.lt_of_lt_of_le Bs23.lt (Nat.le_trans (Nat.le_trans (Nat.le_trans (Nat.le_trans (Nat.le_trans K26.1 K29.1) K32.1) K35.1) K759.1) (Nat.le_of_eq g765))))
                            have f1421 := ((((((((((((Bs23.keep K26 nin0).keep K29 nin0).keep K32 nin0).keep K35 (ninS ne1419 nin0)).keep K759 nin0).ext E765).keep K766 nin0).keep K769 nin0).keep K772 nin0).keep K775 nin0).keep K778 (ninS ne1420 nin0)).keep K948 nin0)
                            have f1422 := ((((((((f761.keep K759).ext E765).keep K766).keep K769).keep K772).keep K775).keep K778).keep K948)
                            have ne1423 : s26 ≠ b22 := (Ne.symm (Nat.ne_of_lt (Nat.lt_of_lt_of_le A22.lt (Nat.le_trans K23.1 ls26))))
                            have ne1424 : s26 ≠ b765 := (Nat.ne_of_lt (Nat.lt_of_lt_of_le Es26.lt (Nat.le_trans (Nat.le_trans (Nat.le_trans (Nat.le_trans K29.1 K32.1) K35.1) K759.1) (Nat.le_of_eq g765))))
                            have f1425 := (((((((((((Cs26.keep K29 nin0).keep K32 nin0).keep K35 (ninS ne1423 nin0)).keep K759 nin0).ext E765).keep K766 nin0).keep K769 nin0).keep K772 nin0).keep K775 nin0).keep K778 (ninS ne1424 nin0)).keep K948 nin0)
                            have f1426 := (((((((((((Vs26.keep K29 nin0).keep K32 nin0).keep K35 (ninS ne1423 nin0)).keep K759 nin0).ext E765).keep K766 nin0).keep K769 nin0).keep K772 nin0).keep K775 nin0).keep K778 (ninS ne1424 nin0)).keep K948 nin0)
                            have ne1427 : t26 ≠ b22 := (Ne.symm (Nat.ne_of_lt (Nat.lt_of_lt_of_le A22.lt (Nat.le_trans K23.1 lo26))))
                            have ne1428 : t26 ≠ b765 := (Nat.ne_of_lt (Nat.lt_of_lt_of_le Bs26.lt (Nat.le_trans (Nat.le_trans (Nat.le_trans (Nat.le_trans K29.1 K32.1) K35.1) K759.1) (Nat.le_of_eq g765))))
                            have f1429 := (((((((((((Bs26.keep K29 nin0).keep K32 nin0).keep K35 (ninS ne1427 nin0)).keep K759 nin0).ext E765).keep K766 nin0).keep K769 nin0).keep K772 nin0).keep K775 nin0).keep K778 (ninS ne1428 nin0)).keep K948 nin0)
                            have f1430 := ((((((((f762.keep K759).ext E765).keep K766).keep K769).keep K772).keep K775).keep K778).keep K948)
                            have ne1431 : s29 ≠ b22 := (Ne.symm (Nat.ne_of_lt (Nat.lt_of_lt_of_le A22.lt (Nat.le_trans (Nat.le_trans K23.1 K26.1) ls29))))
                            have ne1432 : s29 ≠ b765 := (Nat.ne_of_lt (Nat.lt_of_lt_of_le Es29.lt (Nat.le_trans (Nat.le_trans (Nat.le_trans K32.1 K35.1) K759.1) (Nat.le_of_eq g765))))
                            have f1433 := ((((((((((Cs29.keep K32 nin0).keep K35 (ninS ne1431 nin0)).keep K759 nin0).ext E765).keep K766 nin0).keep K769 nin0).keep K772 nin0).keep K775 nin0).keep K778 (ninS ne1432 nin0)).keep K948 nin0)
                            have f1434 := ((((((((((Vs29.keep K32 nin0).keep K35 (ninS ne1431 nin0)).keep K759 nin0).ext E765).keep K766 nin0).keep K769 nin0).keep K772 nin0).keep K775 nin0).keep K778 (ninS ne1432 nin0)).keep K948 nin0)
                            have ne1435 : t29 ≠ b22 := (Ne.symm (Nat.ne_of_lt (Nat.lt_of_lt_of_le A22.lt (Nat.le_trans (Nat.le_trans K23.1 K26.1) lo29))))
                            have ne1436 : t29 ≠ b765 := (Nat.ne_of_lt (Nat.lt_of_lt_of_le Bs29.lt (Nat.le_trans (Nat.le_trans (Nat.le_trans K32.1 K35.1) K759.1) (Nat.le_of_eq g765))))
                            have f1437 := ((((((((((Bs29.keep K32 nin0).keep K35 (ninS ne1435 nin0)).keep K759 nin0).ext E765).keep K766 nin0).keep K769 nin0).keep K772 nin0).keep K775 nin0).keep K778 (ninS ne1436 nin0)).keep K948 nin0)
                            have f1438 := ((((((((f763.keep K759).ext E765).keep K766).keep K769).keep K772).keep K775).keep K778).keep K948)
                            have ne1439 : s32 ≠ b22 := (Ne.symm (Nat.ne_of_lt (Nat.lt_of_lt_of_le A22.lt (Nat.le_trans (Nat.le_trans (Nat.le_trans K23.1 K26.1) K29.1) ls32))))
                            have ne1440 : s32 ≠ b765 := (Nat.ne_of_lt (Nat.lt_of_lt_of_le Es32.lt (Nat.le_trans (Nat.le_trans K35.1 K759.1) (Nat.le_of_eq g765))))
                            have f1441 := (((((((((Cs32.keep K35 (ninS ne1439 nin0)).keep K759 nin0).ext E765).keep K766 nin0).keep K769 nin0).keep K772 nin0).keep K775 nin0).keep K778 (ninS ne1440 nin0)).keep K948 nin0)
                            have f1442 := (((((((((Vs32.keep K35 (ninS ne1439 nin0)).keep K759 nin0).ext E765).keep K766 nin0).keep K769 nin0).keep K772 nin0).keep K775 nin0).keep K778 (ninS ne1440 nin0)).keep K948 nin0)
                            have ne1443 : t32 ≠ b22 := (Ne.symm (Nat.ne_of_lt (Nat.lt_of_lt_of_le A22.lt (Nat.le_trans (Nat.le_trans (Nat.le_trans K23.1 K26.1) K29.1) lo32))))
                            have ne1444 : t32 ≠ b765 := (Nat.ne_of_lt (Nat.lt_of_lt_of_le Bs32.lt (Nat.le_trans (Nat.le_trans K35.1 K759.1) (Nat.le_of_eq g765))))
                            have f1445 := (((((((((Bs32.keep K35 (ninS ne1443 nin0)).keep K759 nin0).ext E765).keep K766 nin0).keep K769 nin0).keep K772 nin0).keep K775 nin0).keep K778 (ninS ne1444 nin0)).keep K948 nin0)
                            have f1446 := (f949.keep K948)
                            have ne1447 : s766 ≠ b765 := (Ne.symm (Nat.ne_of_lt (Nat.lt_of_lt_of_le A765.lt ls766)))
                            have f1448 := (((((Cs766.keep K769 nin0).keep K772 nin0).keep K775 nin0).keep K778 (ninS ne1447 nin0)).keep K948 nin0)
                            have f1449 := (((((Vs766.keep K769 nin0).keep K772 nin0).keep K775 nin0).keep K778 (ninS ne1447 nin0)).keep K948 nin0)
                            have ne1450 : t766 ≠ b765 := (Ne.symm (Nat.ne_of_lt (Nat.lt_of_lt_of_le A765.lt lo766)))
                            have f1451 := (((((Bs766.keep K769 nin0).keep K772 nin0).keep K775 nin0).keep K778 (ninS ne1450 nin0)).keep K948 nin0)
                            have f1452 := (f950.keep K948)
                            have ne1453 : s769 ≠ b765 := (Ne.symm (Nat.ne_of_lt (Nat.lt_of_lt_of_le A765.lt (Nat.le_trans K766.1 ls769))))
                            have f1454 := ((((Cs769.keep K772 nin0).keep K775 nin0).keep K778 (ninS ne1453 nin0)).keep K948 nin0)
                            have f1455 := ((((Vs769.keep K772 nin0).keep K775 nin0).keep K778 (ninS ne1453 nin0)).keep K948 nin0)
                            have ne1456 : t769 ≠ b765 := (Ne.symm (Nat.ne_of_lt (Nat.lt_of_lt_of_le A765.lt (Nat.le_trans K766.1 lo769))))
                            have f1457 := ((((Bs769.keep K772 nin0).keep K775 nin0).keep K778 (ninS ne1456 nin0)).keep K948 nin0)
                            have f1458 := (f951.keep K948)
                            have ne1459 : s772 ≠ b765 := (Ne.symm (Nat.ne_of_lt (Nat.lt_of_lt_of_le A765.lt (Nat.le_trans (Nat.le_trans K766.1 K769.1) ls772))))
                            have f1460 := (((Cs772.keep K775 nin0).keep K778 (ninS ne1459 nin0)).keep K948 nin0)
                            have f1461 := (((Vs772.keep K775 nin0).keep K778 (ninS ne1459 nin0)).keep K948 nin0)
                            have ne1462 : t772 ≠ b765 := (Ne.symm (Nat.ne_of_lt (Nat.lt_of_lt_of_le A765.lt (Nat.le_trans (Nat.le_trans K766.1 K769.1) lo772))))
                            have f1463 := (((Bs772.keep K775 nin0).keep K778 (ninS ne1462 nin0)).keep K948 nin0)
                            have f1464 := (f952.keep K948)
                            have ne1465 : s775 ≠ b765 := (Ne.symm (Nat.ne_of_lt (Nat.lt_of_lt_of_le A765.lt (Nat.le_trans (Nat.le_trans (Nat.le_trans K766.1 K769.1) K772.1) ls775))))
                            have f1466 := ((Cs775.keep K778 (ninS ne1465 nin0)).keep K948 nin0)
                            have f1467 := ((Vs775.keep K778 (ninS ne1465 nin0)).keep K948 nin0)
                            have ne1468 : t775 ≠ b765 := (Ne.symm (Nat.ne_of_lt (Nat.lt_of_lt_of_le A765.lt (Nat.le_trans (Nat.le_trans (Nat.le_trans K766.1 K769.1) K772.1) lo775))))
                            have f1469 := ((Bs775.keep K778 (ninS ne1468 nin0)).keep K948 nin0)
                            have ne1470 : s23 ≠ s766 := (Nat.ne_of_lt (Nat.lt_of_lt_of_le Es23.lt (Nat.le_trans (Nat.le_trans (Nat.le_trans (Nat.le_trans (Nat.le_trans (Nat.le_trans K26.1 K29.1) K32.1) K35.1) K759.1) E765.1) ls766)))
                            have ne1471 : s26 ≠ s769 := (Nat.ne_of_lt (Nat.lt_of_lt_of_le Es26.lt (Nat.le_trans (Nat.le_trans (Nat.le_trans (Nat.le_trans (Nat.le_trans (Nat.le_trans K29.1 K32.1) K35.1) K759.1) E765.1) K766.1) ls769)))
                            have ne1472 : s29 ≠ s772 := (Nat.ne_of_lt (Nat.lt_of_lt_of_le Es29.lt (Nat.le_trans (Nat.le_trans (Nat.le_trans (Nat.le_trans (Nat.le_trans (Nat.le_trans K32.1 K35.1) K759.1) E765.1) K766.1) K769.1) ls772)))
                            have ne1473 : s32 ≠ s775 := (Nat.ne_of_lt (Nat.lt_of_lt_of_le Es32.lt (Nat.le_trans (Nat.le_trans (Nat.le_trans (Nat.le_trans (Nat.le_trans (Nat.le_trans K35.1 K759.1) E765.1) K766.1) K769.1) K772.1) ls775)))
                            have f1474 := (((f776.keep K775 all0).keep K778 (allS g_b765 all0)).keep K948 all0)
                            have z1475 := (Nat.le_trans z953 K948.1)
                            refine g_virtual X948 hx hby hZ948 ho948 (rm_peqp l Z a0 hw [] q759 q948 posA chA s23 s26 colA s29 s32 t23 kb23 (nar .byte (tA.toInt8.toInt32)) t26 kb26 (nar .byte (cA.toInt8.toInt32)) t29 kb29 (nar .byte (kA.toInt8.toInt32)) t32 kb32 (nar .byte (dA.toInt8.toInt32)) posB chB s766 s769 colB s772 s775 t766 kb766 (nar .byte (tB.toInt8.toInt32)) t769 kb769 (nar .byte (cB.toInt8.toInt32)) t772 kb772 (nar .byte (kB.toInt8.toInt32)) t775 kb775 (nar .byte (dB.toInt8.toInt32)) cz T948.heap n0 z1475 O2 P5 f1474 ⟨f1405, f1407, f1408, f1409, f1410, f1411, f1412, f1413⟩ ⟨pE948, pa948, pb948, pc948, pd948, pe948, pf948, pg948⟩ f1414 f1417 f1418 f1421 f1422 f1425 f1426 f1429 f1430 f1433 f1434 f1437 f1438 f1441 f1442 f1445 f1446 f1448 f1449 f1451 f1452 f1454 f1455 f1457 f1458 f1460 f1461 f1463 f1464 f1466 f1467 f1469 ne1470 ne1471 ne1472 ne1473) w74_ w75_ (notFace_of_selects (args := #[]) (mvT hZ948 w77_)) w77_ w76_ w15_ w78_ (by decide) rfl f1405 (by rw [hml]; rfl) [(.ref q948)] (lenOf own_pd1 rfl) rfl rfl (Nat.le_of_ble_eq_true rfl) (Nat.le_of_ble_eq_true rfl) (Nat.le_of_ble_eq_true rfl) (Nat.le_of_ble_eq_true rfl) at_486 (fun v1404 T1404 L1404 X1404 hQ1404 => ?_)
                            obtain ⟨rfl, N1404q, eh1404⟩ := hQ1404
                            have N1404 := Fr.app N948 N1404q
                            refine g_iload X1404 hx hby at_489 rfl ?_
                            refine g_icN X1404 hx hby at_491 (teq (by simp [own_beq h_tA h_tB, own_beq h_cA h_cB, own_beq h_kA h_kB, own_beq h_dA h_dB, own_m1 h_chA, own_m1' h_chA, own_m1 h_chB, own_m1' h_chB, hc430_965, hc437_966] : (if posA = posB ∧ chA = chB ∧ (nar .byte (tA.toInt8.toInt32)) = (nar .byte (tB.toInt8.toInt32)) ∧ (nar .byte (cA.toInt8.toInt32)) = (nar .byte (cB.toInt8.toInt32)) ∧ colA = colB ∧ (nar .byte (kA.toInt8.toInt32)) = (nar .byte (kB.toInt8.toInt32)) ∧ (nar .byte (dA.toInt8.toInt32)) = (nar .byte (dB.toInt8.toInt32)) then 1 else 0 : Int32) = (0 : Int32))).2 ?_
                            refine g_iconst X1404 hx hby (1 : Int32) at_494 rfl ?_
                            refine g_goto X1404 hx hby 499 at_495 (by decide) (by decide) ?_
                            refine g_nretW X1404 hx hby (t := .boolean) (by simp) Bd.returns Bd.notSynchronized hS948 at_499 eh1404 (Nat.le_refl _) (by decide) (by decide) ?_
                            show (Q_law Z y0 y1 y2 y3 sel cz h0 n0) (some (.int (1 : Int32))) _ _
                            exact ⟨rfl, N1404⟩
                        · skip
                          refine g_icY X948 hx hby 479 at_430 (feq hc430_965).2 (by decide) (by decide) ?_
                          refine g_iconst X948 hx hby (0 : Int32) at_479 rfl ?_
                          refine g_istore X948 hx hby at_480 (l' := #[.val (.long y0), .second, .val (.long y1), .second, .val (.long y2), .second, .val (.long y3), .second, .val (.int sel), .val (.int posA), .val (.int posB), .val (.int colA), .val (.int colB), .val (.int (own_bit sel (4 : Int32))), .val (.int (own_bit sel (5 : Int32))), .val (.int chA), .val (.int chB), .val (.int tA), .val (.int cA), .val (.int kA), .val (.int dA), .val (.int tB), .val (.int cB), .val (.int kB), .val (.int dB), .val (.ref q759), .val (.ref q948), .val (.int (sel &&& (7 : Int32))), .val (.ref q948), .val (.int chA), .val (.int chB), .val (.int (0 : Int32))]) rfl ?_
                          refine g_aload X948 hx hby at_482 rfl rfl ?_
                          refine g_aload X948 hx hby at_484 rfl rfl ?_
                          have f1477 := (((((((pE759.ext E765).keep K766).keep K769).keep K772).keep K775).keep K778).keep K948)
                          have ne1478 : q759 ≠ b765 := (Nat.ne_of_lt (Nat.lt_of_lt_of_le pE759.lt (Nat.le_of_eq g765)))
                          have f1479 := (((((((pa759.ext E765).keep K766 nin0).keep K769 nin0).keep K772 nin0).keep K775 nin0).keep K778 (ninS ne1478 nin0)).keep K948 nin0)
                          have f1480 := (((((((pb759.ext E765).keep K766 nin0).keep K769 nin0).keep K772 nin0).keep K775 nin0).keep K778 (ninS ne1478 nin0)).keep K948 nin0)
                          have f1481 := (((((((pc759.ext E765).keep K766 nin0).keep K769 nin0).keep K772 nin0).keep K775 nin0).keep K778 (ninS ne1478 nin0)).keep K948 nin0)
                          have f1482 := (((((((pd759.ext E765).keep K766 nin0).keep K769 nin0).keep K772 nin0).keep K775 nin0).keep K778 (ninS ne1478 nin0)).keep K948 nin0)
                          have f1483 := (((((((pe759.ext E765).keep K766 nin0).keep K769 nin0).keep K772 nin0).keep K775 nin0).keep K778 (ninS ne1478 nin0)).keep K948 nin0)
                          have f1484 := (((((((pf759.ext E765).keep K766 nin0).keep K769 nin0).keep K772 nin0).keep K775 nin0).keep K778 (ninS ne1478 nin0)).keep K948 nin0)
                          have f1485 := (((((((pg759.ext E765).keep K766 nin0).keep K769 nin0).keep K772 nin0).keep K775 nin0).keep K778 (ninS ne1478 nin0)).keep K948 nin0)
                          have f1486 := ((((((((f760.keep K759).ext E765).keep K766).keep K769).keep K772).keep K775).keep K778).keep K948)
                          have ne1487 : s23 ≠ b22 := (Ne.symm (Nat.ne_of_lt (Nat.lt_of_lt_of_le A22.lt ls23)))
                          have ne1488 : s23 ≠ b765 := (Nat.ne_of_lt (Nat.lt_of_lt_of_le Es23.lt (Nat.le_trans (Nat.le_trans (Nat.le_trans (Nat.le_trans (Nat.le_trans K26.1 K29.1) K32.1) K35.1) K759.1) (Nat.le_of_eq g765))))
                          have f1489 := ((((((((((((Cs23.keep K26 nin0).keep K29 nin0).keep K32 nin0).keep K35 (ninS ne1487 nin0)).keep K759 nin0).ext E765).keep K766 nin0).keep K769 nin0).keep K772 nin0).keep K775 nin0).keep K778 (ninS ne1488 nin0)).keep K948 nin0)
                          have f1490 := ((((((((((((Vs23.keep K26 nin0).keep K29 nin0).keep K32 nin0).keep K35 (ninS ne1487 nin0)).keep K759 nin0).ext E765).keep K766 nin0).keep K769 nin0).keep K772 nin0).keep K775 nin0).keep K778 (ninS ne1488 nin0)).keep K948 nin0)
                          have ne1491 : t23 ≠ b22 := (Ne.symm (Nat.ne_of_lt (Nat.lt_of_lt_of_le A22.lt lo23)))
                          have ne1492 : t23 ≠ b765 := (Nat.ne_of_lt (Nat.lt_of_lt_of_le Bs23.lt (Nat.le_trans (Nat.le_trans (Nat.le_trans (Nat.le_trans (Nat.le_trans K26.1 K29.1) K32.1) K35.1) K759.1) (Nat.le_of_eq g765))))
                          have f1493 := ((((((((((((Bs23.keep K26 nin0).keep K29 nin0).keep K32 nin0).keep K35 (ninS ne1491 nin0)).keep K759 nin0).ext E765).keep K766 nin0).keep K769 nin0).keep K772 nin0).keep K775 nin0).keep K778 (ninS ne1492 nin0)).keep K948 nin0)
                          have f1494 := ((((((((f761.keep K759).ext E765).keep K766).keep K769).keep K772).keep K775).keep K778).keep K948)
                          have ne1495 : s26 ≠ b22 := (Ne.symm (Nat.ne_of_lt (Nat.lt_of_lt_of_le A22.lt (Nat.le_trans K23.1 ls26))))
                          have ne1496 : s26 ≠ b765 := (Nat.ne_of_lt (Nat.lt_of_lt_of_le Es26.lt (Nat.le_trans (Nat.le_trans (Nat.le_trans (Nat.le_trans K29.1 K32.1) K35.1) K759.1) (Nat.le_of_eq g765))))
                          have f1497 := (((((((((((Cs26.keep K29 nin0).keep K32 nin0).keep K35 (ninS ne1495 nin0)).keep K759 nin0).ext E765).keep K766 nin0).keep K769 nin0).keep K772 nin0).keep K775 nin0).keep K778 (ninS ne1496 nin0)).keep K948 nin0)
                          have f1498 := (((((((((((Vs26.keep K29 nin0).keep K32 nin0).keep K35 (ninS ne1495 nin0)).keep K759 nin0).ext E765).keep K766 nin0).keep K769 nin0).keep K772 nin0).keep K775 nin0).keep K778 (ninS ne1496 nin0)).keep K948 nin0)
                          have ne1499 : t26 ≠ b22 := (Ne.symm (Nat.ne_of_lt (Nat.lt_of_lt_of_le A22.lt (Nat.le_trans K23.1 lo26))))
                          have ne1500 : t26 ≠ b765 := (Nat.ne_of_lt (Nat.lt_of_lt_of_le Bs26.lt (Nat.le_trans (Nat.le_trans (Nat.le_trans (Nat.le_trans K29.1 K32.1) K35.1) K759.1) (Nat.le_of_eq g765))))
                          have f1501 := (((((((((((Bs26.keep K29 nin0).keep K32 nin0).keep K35 (ninS ne1499 nin0)).keep K759 nin0).ext E765).keep K766 nin0).keep K769 nin0).keep K772 nin0).keep K775 nin0).keep K778 (ninS ne1500 nin0)).keep K948 nin0)
                          have f1502 := ((((((((f762.keep K759).ext E765).keep K766).keep K769).keep K772).keep K775).keep K778).keep K948)
                          have ne1503 : s29 ≠ b22 := (Ne.symm (Nat.ne_of_lt (Nat.lt_of_lt_of_le A22.lt (Nat.le_trans (Nat.le_trans K23.1 K26.1) ls29))))
                          have ne1504 : s29 ≠ b765 := (Nat.ne_of_lt (Nat.lt_of_lt_of_le Es29.lt (Nat.le_trans (Nat.le_trans (Nat.le_trans K32.1 K35.1) K759.1) (Nat.le_of_eq g765))))
                          have f1505 := ((((((((((Cs29.keep K32 nin0).keep K35 (ninS ne1503 nin0)).keep K759 nin0).ext E765).keep K766 nin0).keep K769 nin0).keep K772 nin0).keep K775 nin0).keep K778 (ninS ne1504 nin0)).keep K948 nin0)
                          have f1506 := ((((((((((Vs29.keep K32 nin0).keep K35 (ninS ne1503 nin0)).keep K759 nin0).ext E765).keep K766 nin0).keep K769 nin0).keep K772 nin0).keep K775 nin0).keep K778 (ninS ne1504 nin0)).keep K948 nin0)
                          have ne1507 : t29 ≠ b22 := (Ne.symm (Nat.ne_of_lt (Nat.lt_of_lt_of_le A22.lt (Nat.le_trans (Nat.le_trans K23.1 K26.1) lo29))))
                          have ne1508 : t29 ≠ b765 := (Nat.ne_of_lt (Nat.lt_of_lt_of_le Bs29.lt (Nat.le_trans (Nat.le_trans (Nat.le_trans K32.1 K35.1) K759.1) (Nat.le_of_eq g765))))
                          have f1509 := ((((((((((Bs29.keep K32 nin0).keep K35 (ninS ne1507 nin0)).keep K759 nin0).ext E765).keep K766 nin0).keep K769 nin0).keep K772 nin0).keep K775 nin0).keep K778 (ninS ne1508 nin0)).keep K948 nin0)
                          have f1510 := ((((((((f763.keep K759).ext E765).keep K766).keep K769).keep K772).keep K775).keep K778).keep K948)
                          have ne1511 : s32 ≠ b22 := (Ne.symm (Nat.ne_of_lt (Nat.lt_of_lt_of_le A22.lt (Nat.le_trans (Nat.le_trans (Nat.le_trans K23.1 K26.1) K29.1) ls32))))
                          have ne1512 : s32 ≠ b765 := (Nat.ne_of_lt (Nat.lt_of_lt_of_le Es32.lt (Nat.le_trans (Nat.le_trans K35.1 K759.1) (Nat.le_of_eq g765))))
                          have f1513 := (((((((((Cs32.keep K35 (ninS ne1511 nin0)).keep K759 nin0).ext E765).keep K766 nin0).keep K769 nin0).keep K772 nin0).keep K775 nin0).keep K778 (ninS ne1512 nin0)).keep K948 nin0)
                          have f1514 := (((((((((Vs32.keep K35 (ninS ne1511 nin0)).keep K759 nin0).ext E765).keep K766 nin0).keep K769 nin0).keep K772 nin0).keep K775 nin0).keep K778 (ninS ne1512 nin0)).keep K948 nin0)
                          have ne1515 : t32 ≠ b22 := (Ne.symm (Nat.ne_of_lt (Nat.lt_of_lt_of_le A22.lt (Nat.le_trans (Nat.le_trans (Nat.le_trans K23.1 K26.1) K29.1) lo32))))
                          have ne1516 : t32 ≠ b765 := (Nat.ne_of_lt (Nat.lt_of_lt_of_le Bs32.lt (Nat.le_trans (Nat.le_trans K35.1 K759.1) (Nat.le_of_eq g765))))
                          have f1517 := (((((((((Bs32.keep K35 (ninS ne1515 nin0)).keep K759 nin0).ext E765).keep K766 nin0).keep K769 nin0).keep K772 nin0).keep K775 nin0).keep K778 (ninS ne1516 nin0)).keep K948 nin0)
                          have f1518 := (f949.keep K948)
                          have ne1519 : s766 ≠ b765 := (Ne.symm (Nat.ne_of_lt (Nat.lt_of_lt_of_le A765.lt ls766)))
                          have f1520 := (((((Cs766.keep K769 nin0).keep K772 nin0).keep K775 nin0).keep K778 (ninS ne1519 nin0)).keep K948 nin0)
                          have f1521 := (((((Vs766.keep K769 nin0).keep K772 nin0).keep K775 nin0).keep K778 (ninS ne1519 nin0)).keep K948 nin0)
                          have ne1522 : t766 ≠ b765 := (Ne.symm (Nat.ne_of_lt (Nat.lt_of_lt_of_le A765.lt lo766)))
                          have f1523 := (((((Bs766.keep K769 nin0).keep K772 nin0).keep K775 nin0).keep K778 (ninS ne1522 nin0)).keep K948 nin0)
                          have f1524 := (f950.keep K948)
                          have ne1525 : s769 ≠ b765 := (Ne.symm (Nat.ne_of_lt (Nat.lt_of_lt_of_le A765.lt (Nat.le_trans K766.1 ls769))))
                          have f1526 := ((((Cs769.keep K772 nin0).keep K775 nin0).keep K778 (ninS ne1525 nin0)).keep K948 nin0)
                          have f1527 := ((((Vs769.keep K772 nin0).keep K775 nin0).keep K778 (ninS ne1525 nin0)).keep K948 nin0)
                          have ne1528 : t769 ≠ b765 := (Ne.symm (Nat.ne_of_lt (Nat.lt_of_lt_of_le A765.lt (Nat.le_trans K766.1 lo769))))
                          have f1529 := ((((Bs769.keep K772 nin0).keep K775 nin0).keep K778 (ninS ne1528 nin0)).keep K948 nin0)
                          have f1530 := (f951.keep K948)
                          have ne1531 : s772 ≠ b765 := (Ne.symm (Nat.ne_of_lt (Nat.lt_of_lt_of_le A765.lt (Nat.le_trans (Nat.le_trans K766.1 K769.1) ls772))))
                          have f1532 := (((Cs772.keep K775 nin0).keep K778 (ninS ne1531 nin0)).keep K948 nin0)
                          have f1533 := (((Vs772.keep K775 nin0).keep K778 (ninS ne1531 nin0)).keep K948 nin0)
                          have ne1534 : t772 ≠ b765 := (Ne.symm (Nat.ne_of_lt (Nat.lt_of_lt_of_le A765.lt (Nat.le_trans (Nat.le_trans K766.1 K769.1) lo772))))
                          have f1535 := (((Bs772.keep K775 nin0).keep K778 (ninS ne1534 nin0)).keep K948 nin0)
                          have f1536 := (f952.keep K948)
                          have ne1537 : s775 ≠ b765 := (Ne.symm (Nat.ne_of_lt (Nat.lt_of_lt_of_le A765.lt (Nat.le_trans (Nat.le_trans (Nat.le_trans K766.1 K769.1) K772.1) ls775))))
                          have f1538 := ((Cs775.keep K778 (ninS ne1537 nin0)).keep K948 nin0)
                          have f1539 := ((Vs775.keep K778 (ninS ne1537 nin0)).keep K948 nin0)
                          have ne1540 : t775 ≠ b765 := (Ne.symm (Nat.ne_of_lt (Nat.lt_of_lt_of_le A765.lt (Nat.le_trans (Nat.le_trans (Nat.le_trans K766.1 K769.1) K772.1) lo775))))
                          have f1541 := ((Bs775.keep K778 (ninS ne1540 nin0)).keep K948 nin0)
                          have ne1542 : s23 ≠ s766 := (Nat.ne_of_lt (Nat.lt_of_lt_of_le Es23.lt (Nat.le_trans (Nat.le_trans (Nat.le_trans (Nat.le_trans (Nat.le_trans (Nat.le_trans K26.1 K29.1) K32.1) K35.1) K759.1) E765.1) ls766)))
                          have ne1543 : s26 ≠ s769 := (Nat.ne_of_lt (Nat.lt_of_lt_of_le Es26.lt (Nat.le_trans (Nat.le_trans (Nat.le_trans (Nat.le_trans (Nat.le_trans (Nat.le_trans K29.1 K32.1) K35.1) K759.1) E765.1) K766.1) ls769)))
                          have ne1544 : s29 ≠ s772 := (Nat.ne_of_lt (Nat.lt_of_lt_of_le Es29.lt (Nat.le_trans (Nat.le_trans (Nat.le_trans (Nat.le_trans (Nat.le_trans (Nat.le_trans K32.1 K35.1) K759.1) E765.1) K766.1) K769.1) ls772)))
                          have ne1545 : s32 ≠ s775 := (Nat.ne_of_lt (Nat.lt_of_lt_of_le Es32.lt (Nat.le_trans (Nat.le_trans (Nat.le_trans (Nat.le_trans (Nat.le_trans (Nat.le_trans K35.1 K759.1) E765.1) K766.1) K769.1) K772.1) ls775)))
                          have f1546 := (((f776.keep K775 all0).keep K778 (allS g_b765 all0)).keep K948 all0)
                          have z1547 := (Nat.le_trans z953 K948.1)
                          refine g_virtual X948 hx hby hZ948 ho948 (rm_peqp l Z a0 hw [] q759 q948 posA chA s23 s26 colA s29 s32 t23 kb23 (nar .byte (tA.toInt8.toInt32)) t26 kb26 (nar .byte (cA.toInt8.toInt32)) t29 kb29 (nar .byte (kA.toInt8.toInt32)) t32 kb32 (nar .byte (dA.toInt8.toInt32)) posB chB s766 s769 colB s772 s775 t766 kb766 (nar .byte (tB.toInt8.toInt32)) t769 kb769 (nar .byte (cB.toInt8.toInt32)) t772 kb772 (nar .byte (kB.toInt8.toInt32)) t775 kb775 (nar .byte (dB.toInt8.toInt32)) cz T948.heap n0 z1547 O2 P5 f1546 ⟨f1477, f1479, f1480, f1481, f1482, f1483, f1484, f1485⟩ ⟨pE948, pa948, pb948, pc948, pd948, pe948, pf948, pg948⟩ f1486 f1489 f1490 f1493 f1494 f1497 f1498 f1501 f1502 f1505 f1506 f1509 f1510 f1513 f1514 f1517 f1518 f1520 f1521 f1523 f1524 f1526 f1527 f1529 f1530 f1532 f1533 f1535 f1536 f1538 f1539 f1541 ne1542 ne1543 ne1544 ne1545) w74_ w75_ (notFace_of_selects (args := #[]) (mvT hZ948 w77_)) w77_ w76_ w15_ w78_ (by decide) rfl f1477 (by rw [hml]; rfl) [(.ref q948)] (lenOf own_pd1 rfl) rfl rfl (Nat.le_of_ble_eq_true rfl) (Nat.le_of_ble_eq_true rfl) (Nat.le_of_ble_eq_true rfl) (Nat.le_of_ble_eq_true rfl) at_486 (fun v1476 T1476 L1476 X1476 hQ1476 => ?_)
                          obtain ⟨rfl, N1476q, eh1476⟩ := hQ1476
                          have N1476 := Fr.app N948 N1476q
                          refine g_iload X1476 hx hby at_489 rfl ?_
                          refine g_icN X1476 hx hby at_491 (teq (by simp [own_beq h_tA h_tB, own_beq h_cA h_cB, own_beq h_kA h_kB, own_beq h_dA h_dB, own_m1 h_chA, own_m1' h_chA, own_m1 h_chB, own_m1' h_chB, hc430_965] : (if posA = posB ∧ chA = chB ∧ (nar .byte (tA.toInt8.toInt32)) = (nar .byte (tB.toInt8.toInt32)) ∧ (nar .byte (cA.toInt8.toInt32)) = (nar .byte (cB.toInt8.toInt32)) ∧ colA = colB ∧ (nar .byte (kA.toInt8.toInt32)) = (nar .byte (kB.toInt8.toInt32)) ∧ (nar .byte (dA.toInt8.toInt32)) = (nar .byte (dB.toInt8.toInt32)) then 1 else 0 : Int32) = (0 : Int32))).2 ?_
                          refine g_iconst X1476 hx hby (1 : Int32) at_494 rfl ?_
                          refine g_goto X1476 hx hby 499 at_495 (by decide) (by decide) ?_
                          refine g_nretW X1476 hx hby (t := .boolean) (by simp) Bd.returns Bd.notSynchronized hS948 at_499 eh1476 (Nat.le_refl _) (by decide) (by decide) ?_
                          show (Q_law Z y0 y1 y2 y3 sel cz h0 n0) (some (.int (1 : Int32))) _ _
                          exact ⟨rfl, N1476⟩
              by_cases hc241_1548 : (own_bit sel (11 : Int32)) = (0 : Int32)
              · skip
                refine g_ifY X20 hx hby 249 at_241 (teq hc241_1548).1 (by decide) (by decide) ?_
                refine g_lload X20 hx hby at_249 rfl ?_
                refine g_bipush X20 hx hby (56 : Int32) at_251 rfl ?_
                refine g_static X20 hx hby hZ hown (rm_chh l Z a0 hw [] y2 (56 : Int32) h0 n0 Z0 ) w9_ w10_ w3_ w11_ (by decide) eh20 (by rw [hml]; rfl) [(.long y2), (.int (56 : Int32))] (lenOf own_pd9 rfl) rfl rfl (Nat.le_of_ble_eq_true rfl) (Nat.le_of_ble_eq_true rfl) (Nat.le_of_ble_eq_true rfl) (Nat.le_of_ble_eq_true rfl) at_253 (fun v1549 T1549 L1549 X1549 hQ1549 => ?_)
                obtain ⟨rfl, N1549q, eh1549⟩ := hQ1549
                have N1549 := Fr.app N20 N1549q
                exact J21 _ _ _ X1549 eh1549 N1549 (own_chr _ _)
              · skip
                refine g_ifN X20 hx hby at_241 (feq hc241_1548).1 ?_
                refine g_iload X20 hx hby at_244 rfl ?_
                refine g_goto X20 hx hby 256 at_246 (by decide) (by decide) ?_
                exact J21 _ _ _ X20 eh20 N20 (h_dA)
            by_cases hc217_1550 : (own_bit sel (10 : Int32)) = (0 : Int32)
            · skip
              refine g_ifY X18 hx hby 225 at_217 (teq hc217_1550).1 (by decide) (by decide) ?_
              refine g_lload X18 hx hby at_225 rfl ?_
              refine g_bipush X18 hx hby (48 : Int32) at_227 rfl ?_
              refine g_static X18 hx hby hZ hown (rm_chh l Z a0 hw [] y2 (48 : Int32) h0 n0 Z0 ) w9_ w10_ w3_ w11_ (by decide) eh18 (by rw [hml]; rfl) [(.long y2), (.int (48 : Int32))] (lenOf own_pd9 rfl) rfl rfl (Nat.le_of_ble_eq_true rfl) (Nat.le_of_ble_eq_true rfl) (Nat.le_of_ble_eq_true rfl) (Nat.le_of_ble_eq_true rfl) at_229 (fun v1551 T1551 L1551 X1551 hQ1551 => ?_)
              obtain ⟨rfl, N1551q, eh1551⟩ := hQ1551
              have N1551 := Fr.app N18 N1551q
              exact J19 _ _ _ X1551 eh1551 N1551 (own_chr _ _)
            · skip
              refine g_ifN X18 hx hby at_217 (feq hc217_1550).1 ?_
              refine g_iload X18 hx hby at_220 rfl ?_
              refine g_goto X18 hx hby 232 at_222 (by decide) (by decide) ?_
              exact J19 _ _ _ X18 eh18 N18 (h_kA)
          by_cases hc193_1552 : (own_bit sel (9 : Int32)) = (0 : Int32)
          · skip
            refine g_ifY X16 hx hby 201 at_193 (teq hc193_1552).1 (by decide) (by decide) ?_
            refine g_lload X16 hx hby at_201 rfl ?_
            refine g_bipush X16 hx hby (40 : Int32) at_203 rfl ?_
            refine g_static X16 hx hby hZ hown (rm_chh l Z a0 hw [] y2 (40 : Int32) h0 n0 Z0 ) w9_ w10_ w3_ w11_ (by decide) eh16 (by rw [hml]; rfl) [(.long y2), (.int (40 : Int32))] (lenOf own_pd9 rfl) rfl rfl (Nat.le_of_ble_eq_true rfl) (Nat.le_of_ble_eq_true rfl) (Nat.le_of_ble_eq_true rfl) (Nat.le_of_ble_eq_true rfl) at_205 (fun v1553 T1553 L1553 X1553 hQ1553 => ?_)
            obtain ⟨rfl, N1553q, eh1553⟩ := hQ1553
            have N1553 := Fr.app N16 N1553q
            exact J17 _ _ _ X1553 eh1553 N1553 (own_chr _ _)
          · skip
            refine g_ifN X16 hx hby at_193 (feq hc193_1552).1 ?_
            refine g_iload X16 hx hby at_196 rfl ?_
            refine g_goto X16 hx hby 208 at_198 (by decide) (by decide) ?_
            exact J17 _ _ _ X16 eh16 N16 (h_cA)
        by_cases hc169_1554 : (own_bit sel (8 : Int32)) = (0 : Int32)
        · skip
          refine g_ifY X14 hx hby 177 at_169 (teq hc169_1554).1 (by decide) (by decide) ?_
          refine g_lload X14 hx hby at_177 rfl ?_
          refine g_bipush X14 hx hby (32 : Int32) at_179 rfl ?_
          refine g_static X14 hx hby hZ hown (rm_chh l Z a0 hw [] y2 (32 : Int32) h0 n0 Z0 ) w9_ w10_ w3_ w11_ (by decide) eh14 (by rw [hml]; rfl) [(.long y2), (.int (32 : Int32))] (lenOf own_pd9 rfl) rfl rfl (Nat.le_of_ble_eq_true rfl) (Nat.le_of_ble_eq_true rfl) (Nat.le_of_ble_eq_true rfl) (Nat.le_of_ble_eq_true rfl) at_181 (fun v1555 T1555 L1555 X1555 hQ1555 => ?_)
          obtain ⟨rfl, N1555q, eh1555⟩ := hQ1555
          have N1555 := Fr.app N14 N1555q
          exact J15 _ _ _ X1555 eh1555 N1555 (own_chr _ _)
        · skip
          refine g_ifN X14 hx hby at_169 (feq hc169_1554).1 ?_
          refine g_iload X14 hx hby at_172 rfl ?_
          refine g_goto X14 hx hby 184 at_174 (by decide) (by decide) ?_
          exact J15 _ _ _ X14 eh14 N14 (h_tA)
      by_cases hc107_1556 : (own_bit sel (6 : Int32)) = (0 : Int32)
      · skip
        refine g_ifY X8 hx hby 115 at_107 (teq hc107_1556).1 (by decide) (by decide) ?_
        refine g_lload X8 hx hby at_115 rfl ?_
        refine g_bipush X8 hx hby (32 : Int32) at_117 rfl ?_
        refine g_lushr X8 hx hby at_119 ?_
        refine g_ldc2J X8 hx hby hZ hown w0_ at_120 ?_
        refine g_land X8 hx hby at_123 ?_
        refine g_l2i X8 hx hby at_124 ?_
        exact J9 _ _ _ X8 eh8 N8 (own_l31 _)
      · skip
        refine g_ifN X8 hx hby at_107 (feq hc107_1556).1 ?_
        refine g_iload X8 hx hby at_110 rfl ?_
        refine g_goto X8 hx hby 125 at_112 (by decide) (by decide) ?_
        exact J9 _ _ _ X8 eh8 N8 (h_chA)
    by_cases hc52_1557 : (own_bit sel (7 : Int32)) = (0 : Int32)
    · skip
      refine g_ifY X4 hx hby 60 at_52 (teq hc52_1557).1 (by decide) (by decide) ?_
      refine g_iconst X4 hx hby (1 : Int32) at_60 rfl ?_
      refine g_lloadN X4 hx hby at_61 rfl ?_
      refine g_bipush X4 hx hby (32 : Int32) at_62 rfl ?_
      refine g_lushr X4 hx hby at_64 ?_
      refine g_ldc2J X4 hx hby hZ hown w0_ at_65 ?_
      refine g_land X4 hx hby at_68 ?_
      refine g_l2i X4 hx hby at_69 ?_
      refine g_static X4 hx hby hZ hown (rm_mmax l Z a0 hw [] (1 : Int32) ((((y1.toUInt64 >>> ((32 : Int32) &&& 0x3f).toInt64.toUInt64).toInt64) &&& (2147483647 : Int64)).toInt32) h0 n0 Z0 ) w5_ w6_ w7_ w8_ (by decide) eh4 (by rw [hml]; rfl) [(.int (1 : Int32)), (.int ((((y1.toUInt64 >>> ((32 : Int32) &&& 0x3f).toInt64.toUInt64).toInt64) &&& (2147483647 : Int64)).toInt32))] (lenOf own_pd8 rfl) rfl rfl (Nat.le_of_ble_eq_true rfl) (Nat.le_of_ble_eq_true rfl) (Nat.le_of_ble_eq_true rfl) (Nat.le_of_ble_eq_true rfl) at_70 (fun v1558 T1558 L1558 X1558 hQ1558 => ?_)
      obtain ⟨rfl, N1558q, eh1558⟩ := hQ1558
      have N1558 := Fr.app N4 N1558q
      exact J5 _ _ _ X1558 eh1558 N1558 (own_max1 _)
    · skip
      refine g_ifN X4 hx hby at_52 (feq hc52_1557).1 ?_
      refine g_iload X4 hx hby at_55 rfl ?_
      refine g_goto X4 hx hby 73 at_57 (by decide) (by decide) ?_
      exact J5 _ _ _ X4 eh4 N4 (h_colA)
  by_cases hc14_1559 : (own_bit sel (3 : Int32)) = (0 : Int32)
  · skip
    refine g_ifY X1 hx hby 22 at_14 (teq hc14_1559).1 (by decide) (by decide) ?_
    refine g_lloadN X1 hx hby at_22 rfl ?_
    refine g_bipush X1 hx hby (32 : Int32) at_23 rfl ?_
    refine g_lushr X1 hx hby at_25 ?_
    refine g_ldc2J X1 hx hby hZ hown w0_ at_26 ?_
    refine g_land X1 hx hby at_29 ?_
    refine g_l2i X1 hx hby at_30 ?_
    exact J2 _ _ _ X1 eh1 N1 (own_l31 _)
  · skip
    refine g_ifN X1 hx hby at_14 (feq hc14_1559).1 ?_
    refine g_iload X1 hx hby at_17 rfl ?_
    refine g_goto X1 hx hby 31 at_19 (by decide) (by decide) ?_
    exact J2 _ _ _ X1 eh1 N1 (h_posA)

set_option maxRecDepth 65536 in
set_option maxHeartbeats 40000000 in
theorem comes_1 {Post : Tables → Env → Array Value → State → Outcome → State → Prop} (hpost : ∀ tb e args s v u, (limb_1_1.after args s (.returned v) u = true ∧ limb_1_2.after args s (.returned v) u = true ∧ True) → ReturnedEndW s (.returned v) u (Jvm.fieldLocs frame_1_writes args s ++ Jvm.arrayLocs frame_1_arrays args s ++ Jvm.staticLocs frame_1_statics s) 64 4352 → Post tb e args s (.returned v) u) :
    ArmFor flags0 classFile x code maxLocals ret World_1 tables_1 room_1 Calls_1 rest_1 Pre_1 Post := by
  intro l hfl _ _ p e ha hc hk s m args below hf hA hF happ hP
  obtain ⟨hcalls, hrest, hpre⟩ := hP
  obtain ⟨-, -, -, hnamed, -, -, -, hat⟩ := (Spec.applies_iff hf).mp happ
  obtain ⟨hg, hn⟩ := and_e (Cond.before_iff.mp (show (Jvm.Cond.and given_1 narrow_1).before args s = true from hpre))
  obtain ⟨hcount, hg1⟩ := and_e hg
  obtain ⟨ga0, hg2⟩ := and_e hg1
  obtain ⟨ga1, hg3⟩ := and_e hg2
  obtain ⟨ga2, hg4⟩ := and_e hg3
  obtain ⟨ga3, hg5⟩ := and_e hg4
  have ga4 := hg5
  obtain ⟨w0, w1, w2, w3, w4, rfl⟩ : ∃ w0 w1 w2 w3 w4 : Value, args = #[w0, w1, w2, w3, w4] := by
    have hs : args.size = 5 := by simpa [Cond.value, given_1] using hcount
    obtain ⟨L⟩ := args
    match L, hs with
    | [w0, w1, w2, w3, w4], _ => exact ⟨w0, w1, w2, w3, w4, rfl⟩
  have hw := fun d (hd : d ∈ tables_1) => atoms_spec (ws := Jvm.Cond.code x code maxLocals ret :: tables_1) hat d (List.mem_cons_of_mem _ hd)
  have hfit : Fit s := fun {y c} hc i hi => by
    obtain ⟨ha, rfl⟩ := Array.getElem?_eq_some_iff.mp hc
    have q := List.all_eq_true.mp ((Array.all_eq_true_iff_forall_mem.mp hF) _ (Array.getElem_mem ha)) i (List.mem_range.mpr hi)
    simpa [Array.getElem?_eq_getElem hi] using q
  obtain ⟨hsets, hown0⟩ := atoms_of _ (rest_1_c_eq ▸ (show rest_1_c.before _ s = true from hrest))
  have hr0 := Cond.before_iff.mp hown0
  obtain ⟨i0, ei0⟩ := isL_v ga0
  obtain rfl : w0 = (.long i0) := Option.some.inj ei0
  obtain ⟨i1, ei1⟩ := isL_v ga1
  obtain rfl : w1 = (.long i1) := Option.some.inj ei1
  obtain ⟨i2, ei2⟩ := isL_v ga2
  obtain rfl : w2 = (.long i2) := Option.some.inj ei2
  obtain ⟨i3, ei3⟩ := isL_v ga3
  obtain rfl : w3 = (.long i3) := Option.some.inj ei3
  obtain ⟨i4, ei4⟩ := is_v ga4
  obtain rfl : w4 = (.int i4) := Option.some.inj ei4
  obtain ⟨cz, ecz⟩ := is_v (Cond.before_iff.mp (hsets _ (List.mem_of_getElem? (i := 1) rfl)))
  have O2 := Sta.start ecz (Or.inl (hsets _ (List.mem_of_getElem? (i := 0) rfl)))
  have P5 : ¬ cz = (0 : Int32) := gotF (Cond.eq_ints ecz (Term.int_eval 0)) (not_v (Cond.before_iff.mp (hsets _ (List.mem_of_getElem? (i := 2) rfl))))
  obtain ⟨n, o, h1, h2, h3, _, L, rfl, ⟨rfl, N⟩, hq⟩ := rm_law l s _ hw tables_1 i0 i1 i2 i3 i4 cz s.heap s.heap.size (Nat.le_refl _) O2 P5 (Old.start s) p e ha hc hk s m _ below hf ((Spec.applies_iff_loose hf).mp happ).1 ⟨rfl, State.Warmed39.refl s, rfl⟩ trivial
  refine ⟨n, _, h1, h2, h3, hpost _ _ _ _ _ _ ⟨Cond.after_iff.mpr rfl, Cond.after_iff.mpr (eq_i res_at (Term.int_eval (1)) rfl), trivial⟩ (own_widen hq N (by decide) (by decide))⟩
theorem main_1_1 : Claimed_1_1 := comes_1 fun _ _ _ _ _ _ h hF => ⟨h.1, hF⟩
theorem main_1_2 : Claimed_1_2 := comes_1 fun _ _ _ _ _ _ h hF => ⟨h.2.1, hF⟩

end Jvm.Pilot.@@N@@
namespace Jvm.Pilot.@@N@@
open Jvm Jvm.ClassFile Sem Op Lib Jvm.Free Jvm.Stand Jvm.Pilot.@@N@@.Jvm.D
/-! MADE BY PROGRAM (witnessworld.py) out of the Statement's table words and the real class files: 19 classes; the members and pool entries that the words name. The judged class is class 1, her method 3. -/
namespace start1
open Jvm.ClassFile
def u (s : String) : CpInfo := .utf8 (stringToUtf16 s)
/-- a pool by its gaps: so many unusable entries, then the entry; so many at the end -/
def gap : Nat → List CpInfo → List CpInfo
  | 0, r => r
  | n + 1, r => .unusable :: gap n r
def poolList (es : List (Nat × CpInfo)) (last : Nat) : List CpInfo := es.foldr (fun e r => gap e.1 (e.2 :: r)) (gap last [])
def pool (es : List (Nat × CpInfo)) (last : Nat) : Array CpInfo := ⟨poolList es last⟩
def fileOf (pool : Array CpInfo) (this : Nat) (attrs : Array Attribute := #[]) (ms : Array MethodInfo := #[]) (fl : Nat := 33) (sup : Nat := 0) (ifs : Array Nat := #[]) (fds : Array FieldInfo := #[]) : ClassFile where
  minorVersion := 0
  majorVersion := 65
  constantPool := pool
  accessFlags := fl
  thisClass := this
  superClass := sup
  interfaces := ifs
  fields := fds
  methods := ms
  attributes := attrs
def plain (name : String) (sup : Option ClassId) : Class where
  name := name
  kind := .ordinary
  loader := none
  accessFlags := 33
  super := sup
  interfaces := #[]
  cf := none
  fields := #[]
  methods := #[]
  instanceTypes := #[]
  staticTypes := #[]
  resolved := #[]
  callSites := []
  init := .initialized
  statics := none
  mirror := none

def pool0 : Array CpInfo := pool [(5, u "<init>"), (0, u "()V"), (1, .class_ 10), (1, u "java/lang/Object")] 113

def k0c0 : Code := { maxStack := 0, maxLocals := 1, code := object_method_1_code, exceptionTable := #[], attributes := #[] }
def k0m0 : Method := { name := "<init>", desc := "()V", sig := { parameters := [], returnType := none }, accessFlags := 1, code := some k0c0 }
/-- java/lang/Object -/
def k0 : Class := { plain "java/lang/Object" none with
  accessFlags := 33
  interfaces := #[]
  cf := some (fileOf pool0 8 #[] #[{ accessFlags := 1, nameIndex := 5, descriptorIndex := 6, attributes := #[] }] 33 0 #[] #[])
  fields := #[]
  methods := #[k0m0]
  instanceTypes := #[]
  staticTypes := #[]
  resolved := Array.replicate 124 none
  statics := none }

def pool1 : Array CpInfo := pool [(2, .class_ 4), (1, u "java/lang/Object"), (0, u "<init>"), (0, u "()V"), (0, .long 255), (1, .long 2147483647), (1, .methodref 12 13), (0, .class_ 14), (0, .nameAndType 15 16), (0, u "com/example/refloom/refloom/model/ProblemEqualsPinLaw"), (0, u "bit"), (0, u "(II)Z"), (0, .methodref 18 19), (0, .class_ 20), (0, .nameAndType 21 22), (0, u "java/lang/Math"), (0, u "max"), (0, u "(II)I"), (0, .methodref 12 24), (0, .nameAndType 25 26), (0, u "ch"), (0, u "(JI)C"), (0, .class_ 28), (0, u "com/example/refloom/refloom/model/Problem"), (0, .methodref 30 31), (0, .class_ 32), (0, .nameAndType 33 34), (0, u "java/lang/String"), (0, u "valueOf"), (0, u "(C)Ljava/lang/String;"), (0, .methodref 27 36), (0, .nameAndType 5 37), (0, u "(ILjava/lang/String;Ljava/lang/String;ILjava/lang/String;Ljava/lang/String;)V"), (0, .methodref 27 39), (0, .nameAndType 40 41), (0, u "ofChild"), (0, u "(II)Lcom/example/refloom/refloom/model/Problem;"), (0, .methodref 27 43), (0, .nameAndType 44 45), (0, u "equals"), (0, u "(Ljava/lang/Object;)Z"), (3, u "law"), (0, u "(JJJJI)Z")] 2

def k1m0 : Method := { name := "<init>", desc := "()V", sig := { parameters := [], returnType := none }, accessFlags := 1, code := none }
def k1c1 : Code := { maxStack := 4, maxLocals := 3, code := method_2_code, exceptionTable := #[], attributes := #[] }
def k1m1 : Method := { name := "ch", desc := "(JI)C", sig := { parameters := [.long, .int], returnType := some .char }, accessFlags := 10, code := some k1c1 }
def k1c2 : Code := { maxStack := 2, maxLocals := 2, code := method_3_code, exceptionTable := #[], attributes := #[] }
def k1m2 : Method := { name := "bit", desc := "(II)Z", sig := { parameters := [.int, .int], returnType := some .boolean }, accessFlags := 10, code := some k1c2 }
def k1c3 : Code := { maxStack := 8, maxLocals := 32, code := code, exceptionTable := #[], attributes := #[] }
def k1m3 : Method := { name := "law", desc := "(JJJJI)Z", sig := { parameters := [.long, .long, .long, .long, .int], returnType := some .boolean }, accessFlags := 9, code := some k1c3 }
/-- com/example/refloom/refloom/model/ProblemEqualsPinLaw -/
def k1 : Class := { plain "com/example/refloom/refloom/model/ProblemEqualsPinLaw" (some 0) with
  accessFlags := 49
  interfaces := #[]
  cf := some (fileOf pool1 12 #[] #[{ accessFlags := 1, nameIndex := 5, descriptorIndex := 6, attributes := #[] }, { accessFlags := 10, nameIndex := 25, descriptorIndex := 26, attributes := #[] }, { accessFlags := 10, nameIndex := 15, descriptorIndex := 16, attributes := #[] }, { accessFlags := 9, nameIndex := 49, descriptorIndex := 50, attributes := #[] }] 49 2 #[] #[])
  fields := #[]
  methods := #[k1m0, k1m1, k1m2, k1m3]
  instanceTypes := #[]
  staticTypes := #[]
  resolved := Array.replicate 53 none
  statics := none }

def pool2 : Array CpInfo := pool [(1, .class_ 2), (0, u "java/lang/Math"), (1, .class_ 6), (1, u "java/lang/Object"), (0, u "<init>"), (0, u "()V"), (89, .class_ 100), (1, u "java/lang/Math$RandomNumberGeneratorHolder"), (71, u "negativeZeroFloatBits"), (0, u "J"), (2, u "negativeZeroDoubleBits"), (21, u "max"), (46, u "$assertionsDisabled"), (0, u "Z"), (88, u "(II)I"), (2, u "twoToTheDoubleScaleDown"), (0, u "D"), (4, u "twoToTheDoubleScaleUp"), (9, u "E"), (3, u "PI"), (2, u "TAU"), (2, u "DEGREES_TO_RADIANS"), (0, u "RADIANS_TO_DEGREES")] 94

def k2m0 : Method := { name := "<init>", desc := "()V", sig := { parameters := [], returnType := none }, accessFlags := 2, code := none }
def k2c1 : Code := { maxStack := 2, maxLocals := 2, code := jdk_29_method_65_code, exceptionTable := #[], attributes := #[] }
def k2m1 : Method := { name := "max", desc := "(II)I", sig := { parameters := [.int, .int], returnType := some .int }, accessFlags := 9, code := some k2c1 }
/-- java/lang/Math -/
def k2 : Class := { plain "java/lang/Math" (some 0) with
  accessFlags := 49
  interfaces := #[]
  cf := some (fileOf pool2 1 #[.nestMembers #[98]] #[{ accessFlags := 2, nameIndex := 7, descriptorIndex := 8, attributes := #[] }, { accessFlags := 9, nameIndex := 198, descriptorIndex := 335, attributes := #[] }] 49 4 #[] #[{ accessFlags := 25, nameIndex := 354, descriptorIndex := 339, attributes := #[] }, { accessFlags := 25, nameIndex := 358, descriptorIndex := 339, attributes := #[] }, { accessFlags := 25, nameIndex := 361, descriptorIndex := 339, attributes := #[] }, { accessFlags := 26, nameIndex := 364, descriptorIndex := 339, attributes := #[] }, { accessFlags := 26, nameIndex := 365, descriptorIndex := 339, attributes := #[] }, { accessFlags := 26, nameIndex := 172, descriptorIndex := 173, attributes := #[] }, { accessFlags := 26, nameIndex := 176, descriptorIndex := 173, attributes := #[] }, { accessFlags := 8, nameIndex := 344, descriptorIndex := 339, attributes := #[] }, { accessFlags := 8, nameIndex := 338, descriptorIndex := 339, attributes := #[] }, { accessFlags := 4120, nameIndex := 245, descriptorIndex := 246, attributes := #[] }])
  fields := #[{ name := "E", type := .double, accessFlags := 25, slot := 0, constantValue := 0 }, { name := "PI", type := .double, accessFlags := 25, slot := 1, constantValue := 0 }, { name := "TAU", type := .double, accessFlags := 25, slot := 2, constantValue := 0 }, { name := "DEGREES_TO_RADIANS", type := .double, accessFlags := 26, slot := 3, constantValue := 0 }, { name := "RADIANS_TO_DEGREES", type := .double, accessFlags := 26, slot := 4, constantValue := 0 }, { name := "negativeZeroFloatBits", type := .long, accessFlags := 26, slot := 5, constantValue := 0 }, { name := "negativeZeroDoubleBits", type := .long, accessFlags := 26, slot := 6, constantValue := 0 }, { name := "twoToTheDoubleScaleUp", type := .double, accessFlags := 8, slot := 7, constantValue := 0 }, { name := "twoToTheDoubleScaleDown", type := .double, accessFlags := 8, slot := 8, constantValue := 0 }, { name := "$assertionsDisabled", type := .boolean, accessFlags := 4120, slot := 9, constantValue := 0 }]
  methods := #[k2m0, k2m1]
  instanceTypes := #[]
  staticTypes := #[.double, .double, .double, .double, .double, .long, .long, .double, .double, .boolean]
  resolved := Array.replicate 460 none
  statics := none }

def pool3 : Array CpInfo := pool [(1, .methodref 2 3), (0, .class_ 4), (0, .nameAndType 5 6), (0, u "com/example/refloom/refloom/model/Problem"), (0, u "<init>"), (0, u "(IILjava/lang/String;Ljava/lang/String;ILjava/lang/String;Ljava/lang/String;)V"), (0, .methodref 8 9), (0, .class_ 10), (0, .nameAndType 5 11), (0, u "java/lang/Object"), (0, u "()V"), (10, .fieldref 2 23), (0, .nameAndType 24 25), (0, u "position"), (0, u "I"), (0, .fieldref 2 27), (0, .nameAndType 28 25), (0, u "childPosition"), (0, .string 30), (0, u "table"), (0, .methodref 32 33), (0, .class_ 34), (0, .nameAndType 35 36), (0, u "java/util/Objects"), (0, u "requireNonNull"), (0, u "(Ljava/lang/Object;Ljava/lang/String;)Ljava/lang/Object;"), (0, .class_ 38), (0, u "java/lang/String"), (0, .fieldref 2 40), (0, .nameAndType 30 41), (0, u "Ljava/lang/String;"), (0, .string 43), (0, u "column"), (0, .fieldref 2 45), (0, .nameAndType 43 41), (0, .fieldref 2 47), (0, .nameAndType 48 25), (0, u "columnPosition"), (0, .string 50), (0, u "kind"), (0, .fieldref 2 52), (0, .nameAndType 50 41), (0, .string 54), (0, u "detail"), (0, .fieldref 2 56), (0, .nameAndType 54 41), (20, .methodref 37 78), (0, .nameAndType 79 80), (0, u "equals"), (0, u "(Ljava/lang/Object;)Z"), (40, u "ORDER"), (0, u "Ljava/util/Comparator;"), (0, u "MISSING_REFERENCE"), (3, u "DUPLICATE_KEY"), (2, u "NULL_NOT_ALLOWED"), (2, u "TOO_LONG"), (2, u "TOO_MANY_DECIMALS"), (2, u "OUT_OF_RANGE"), (2, u "NOT_FOUND"), (2, u "NOT_ALLOWED"), (2, u "OUT_OF_SCOPE"), (2, u "CONFLICT"), (4, u "(ILjava/lang/String;Ljava/lang/String;ILjava/lang/String;Ljava/lang/String;)V"), (3, u "ofChild"), (0, u "(II)Lcom/example/refloom/refloom/model/Problem;")] 60

def k3c0 : Code := { maxStack := 8, maxLocals := 7, code := prog_41_method_1_code, exceptionTable := #[], attributes := #[] }
def k3m0 : Method := { name := "<init>", desc := "(ILjava/lang/String;Ljava/lang/String;ILjava/lang/String;Ljava/lang/String;)V", sig := { parameters := [.int, (.object "java/lang/String"), (.object "java/lang/String"), .int, (.object "java/lang/String"), (.object "java/lang/String")], returnType := none }, accessFlags := 1, code := some k3c0 }
def k3c1 : Code := { maxStack := 3, maxLocals := 8, code := prog_41_method_2_code, exceptionTable := #[], attributes := #[] }
def k3m1 : Method := { name := "<init>", desc := "(IILjava/lang/String;Ljava/lang/String;ILjava/lang/String;Ljava/lang/String;)V", sig := { parameters := [.int, .int, (.object "java/lang/String"), (.object "java/lang/String"), .int, (.object "java/lang/String"), (.object "java/lang/String")], returnType := none }, accessFlags := 2, code := some k3c1 }
def k3c2 : Code := { maxStack := 9, maxLocals := 3, code := prog_41_method_3_code, exceptionTable := #[], attributes := #[] }
def k3m2 : Method := { name := "ofChild", desc := "(II)Lcom/example/refloom/refloom/model/Problem;", sig := { parameters := [.int, .int], returnType := some (.object "com/example/refloom/refloom/model/Problem") }, accessFlags := 1, code := some k3c2 }
def k3c3 : Code := { maxStack := 2, maxLocals := 3, code := prog_41_method_12_code, exceptionTable := #[], attributes := #[] }
def k3m3 : Method := { name := "equals", desc := "(Ljava/lang/Object;)Z", sig := { parameters := [(.object "java/lang/Object")], returnType := some .boolean }, accessFlags := 1, code := some k3c3 }
/-- com/example/refloom/refloom/model/Problem -/
def k3 : Class := { plain "com/example/refloom/refloom/model/Problem" (some 0) with
  accessFlags := 49
  interfaces := #[]
  cf := some (fileOf pool3 2 #[] #[{ accessFlags := 1, nameIndex := 5, descriptorIndex := 156, attributes := #[] }, { accessFlags := 2, nameIndex := 5, descriptorIndex := 6, attributes := #[] }, { accessFlags := 1, nameIndex := 160, descriptorIndex := 161, attributes := #[] }, { accessFlags := 1, nameIndex := 79, descriptorIndex := 80, attributes := #[] }] 49 8 #[] #[{ accessFlags := 25, nameIndex := 123, descriptorIndex := 41, attributes := #[] }, { accessFlags := 25, nameIndex := 127, descriptorIndex := 41, attributes := #[] }, { accessFlags := 25, nameIndex := 130, descriptorIndex := 41, attributes := #[] }, { accessFlags := 25, nameIndex := 133, descriptorIndex := 41, attributes := #[] }, { accessFlags := 25, nameIndex := 136, descriptorIndex := 41, attributes := #[] }, { accessFlags := 25, nameIndex := 139, descriptorIndex := 41, attributes := #[] }, { accessFlags := 25, nameIndex := 142, descriptorIndex := 41, attributes := #[] }, { accessFlags := 25, nameIndex := 145, descriptorIndex := 41, attributes := #[] }, { accessFlags := 25, nameIndex := 148, descriptorIndex := 41, attributes := #[] }, { accessFlags := 25, nameIndex := 151, descriptorIndex := 41, attributes := #[] }, { accessFlags := 25, nameIndex := 121, descriptorIndex := 122, attributes := #[] }, { accessFlags := 18, nameIndex := 24, descriptorIndex := 25, attributes := #[] }, { accessFlags := 18, nameIndex := 28, descriptorIndex := 25, attributes := #[] }, { accessFlags := 18, nameIndex := 30, descriptorIndex := 41, attributes := #[] }, { accessFlags := 18, nameIndex := 43, descriptorIndex := 41, attributes := #[] }, { accessFlags := 18, nameIndex := 48, descriptorIndex := 25, attributes := #[] }, { accessFlags := 18, nameIndex := 50, descriptorIndex := 41, attributes := #[] }, { accessFlags := 18, nameIndex := 54, descriptorIndex := 41, attributes := #[] }])
  fields := #[{ name := "MISSING_REFERENCE", type := (.object "java/lang/String"), accessFlags := 25, slot := 0, constantValue := 0 }, { name := "DUPLICATE_KEY", type := (.object "java/lang/String"), accessFlags := 25, slot := 1, constantValue := 0 }, { name := "NULL_NOT_ALLOWED", type := (.object "java/lang/String"), accessFlags := 25, slot := 2, constantValue := 0 }, { name := "TOO_LONG", type := (.object "java/lang/String"), accessFlags := 25, slot := 3, constantValue := 0 }, { name := "TOO_MANY_DECIMALS", type := (.object "java/lang/String"), accessFlags := 25, slot := 4, constantValue := 0 }, { name := "OUT_OF_RANGE", type := (.object "java/lang/String"), accessFlags := 25, slot := 5, constantValue := 0 }, { name := "NOT_FOUND", type := (.object "java/lang/String"), accessFlags := 25, slot := 6, constantValue := 0 }, { name := "NOT_ALLOWED", type := (.object "java/lang/String"), accessFlags := 25, slot := 7, constantValue := 0 }, { name := "OUT_OF_SCOPE", type := (.object "java/lang/String"), accessFlags := 25, slot := 8, constantValue := 0 }, { name := "CONFLICT", type := (.object "java/lang/String"), accessFlags := 25, slot := 9, constantValue := 0 }, { name := "ORDER", type := (.object "java/util/Comparator"), accessFlags := 25, slot := 10, constantValue := 0 }, { name := "position", type := .int, accessFlags := 18, slot := 0, constantValue := 0 }, { name := "childPosition", type := .int, accessFlags := 18, slot := 1, constantValue := 0 }, { name := "table", type := (.object "java/lang/String"), accessFlags := 18, slot := 2, constantValue := 0 }, { name := "column", type := (.object "java/lang/String"), accessFlags := 18, slot := 3, constantValue := 0 }, { name := "columnPosition", type := .int, accessFlags := 18, slot := 4, constantValue := 0 }, { name := "kind", type := (.object "java/lang/String"), accessFlags := 18, slot := 5, constantValue := 0 }, { name := "detail", type := (.object "java/lang/String"), accessFlags := 18, slot := 6, constantValue := 0 }]
  methods := #[k3m0, k3m1, k3m2, k3m3]
  instanceTypes := #[.int, .int, (.object "java/lang/String"), (.object "java/lang/String"), .int, (.object "java/lang/String"), (.object "java/lang/String")]
  staticTypes := #[(.object "java/lang/String"), (.object "java/lang/String"), (.object "java/lang/String"), (.object "java/lang/String"), (.object "java/lang/String"), (.object "java/lang/String"), (.object "java/lang/String"), (.object "java/lang/String"), (.object "java/lang/String"), (.object "java/lang/String"), (.object "java/util/Comparator")]
  resolved := Array.replicate 222 none
  statics := none }

def pool4 : Array CpInfo := pool [(1, .class_ 2), (0, u "java/io/Serializable"), (0, .class_ 4), (0, u "java/lang/Object")] 2

/-- java/io/Serializable -/
def k4 : Class := { plain "java/io/Serializable" (some 0) with
  accessFlags := 1537
  interfaces := #[]
  cf := some (fileOf pool4 1 #[] #[] 1537 3 #[] #[])
  fields := #[]
  methods := #[]
  instanceTypes := #[]
  staticTypes := #[]
  resolved := Array.replicate 7 none
  statics := none }

def pool5 : Array CpInfo := pool [(1, .class_ 2), (0, u "java/lang/Comparable"), (0, .class_ 4), (0, u "java/lang/Object")] 7

/-- java/lang/Comparable -/
def k5 : Class := { plain "java/lang/Comparable" (some 0) with
  accessFlags := 1537
  interfaces := #[]
  cf := some (fileOf pool5 1 #[] #[] 1537 3 #[] #[])
  fields := #[]
  methods := #[]
  instanceTypes := #[]
  staticTypes := #[]
  resolved := Array.replicate 12 none
  statics := none }

def pool6 : Array CpInfo := pool [(2, .class_ 4), (1, u "java/lang/CharSequence"), (42, .class_ 48), (0, u "java/lang/CharSequence$1CodePointIterator"), (10, .class_ 60), (0, u "java/lang/CharSequence$1CharIterator"), (5, .class_ 67), (0, u "java/lang/Object")] 63

/-- java/lang/CharSequence -/
def k6 : Class := { plain "java/lang/CharSequence" (some 0) with
  accessFlags := 1537
  interfaces := #[]
  cf := some (fileOf pool6 2 #[.nestMembers #[47, 59]] #[] 1537 66 #[] #[])
  fields := #[]
  methods := #[]
  instanceTypes := #[]
  staticTypes := #[]
  resolved := Array.replicate 131 none
  statics := none }

def pool7 : Array CpInfo := pool [(1, .class_ 2), (0, u "java/lang/constant/Constable"), (0, .class_ 4), (0, u "java/lang/Object")] 6

/-- java/lang/constant/Constable -/
def k7 : Class := { plain "java/lang/constant/Constable" (some 0) with
  accessFlags := 1537
  interfaces := #[]
  cf := some (fileOf pool7 1 #[] #[] 1537 3 #[] #[])
  fields := #[]
  methods := #[]
  instanceTypes := #[]
  staticTypes := #[]
  resolved := Array.replicate 11 none
  statics := none }

def pool8 : Array CpInfo := pool [(1, .class_ 2), (0, u "java/lang/constant/ConstantDesc"), (0, .class_ 4), (0, u "java/lang/Object")] 32

/-- java/lang/constant/ConstantDesc -/
def k8 : Class := { plain "java/lang/constant/ConstantDesc" (some 0) with
  accessFlags := 1537
  interfaces := #[]
  cf := some (fileOf pool8 1 #[] #[] 1537 3 #[] #[])
  fields := #[]
  methods := #[]
  instanceTypes := #[]
  staticTypes := #[]
  resolved := Array.replicate 37 none
  statics := none }

def pool9 : Array CpInfo := pool [(1, .methodref 2 3), (0, .class_ 4), (0, .nameAndType 5 6), (0, u "java/lang/Object"), (0, u "<init>"), (0, u "()V"), (2, .fieldref 10 11), (0, .class_ 12), (0, .nameAndType 13 14), (0, u "java/lang/String"), (0, u "value"), (0, u "[B"), (0, .fieldref 10 16), (0, .nameAndType 17 18), (0, u "coder"), (0, u "B"), (2, u "hash"), (0, u "I"), (2, u "hashIsZero"), (0, u "Z"), (11, .fieldref 10 39), (0, .nameAndType 40 26), (0, u "COMPACT_STRINGS"), (12, u "toBytes"), (53, .class_ 109), (1, u "java/lang/StringLatin1"), (99, .methodref 10 210), (0, .nameAndType 5 211), (0, u "([BB)V"), (157, u "(C)Z"), (171, .methodref 107 542), (0, .nameAndType 543 544), (0, u "equals"), (0, u "([B[B)Z"), (28, u "(Ljava/lang/Object;)Z"), (1, .class_ 576), (0, u "java/lang/CharSequence"), (22, u "CASE_INSENSITIVE_ORDER"), (0, u "Ljava/util/Comparator;"), (181, u "valueOf"), (0, u "(C)Ljava/lang/String;"), (231, .methodref 107 1016), (0, .nameAndType 1017 369), (0, u "canEncode"), (0, .methodref 107 1019), (0, .nameAndType 53 1020), (0, u "(C)[B"), (80, u "serialPersistentFields"), (0, u "[Ljava/io/ObjectStreamField;"), (0, .class_ 1104), (0, u "java/lang/String$CaseInsensitiveComparator"), (1, .class_ 1107), (0, u "java/io/Serializable"), (0, .class_ 1109), (0, u "java/lang/Comparable"), (0, .class_ 1111), (0, u "java/lang/constant/Constable"), (0, .class_ 1113), (0, u "java/lang/constant/ConstantDesc"), (2, u "serialVersionUID"), (0, u "J"), (3, u "REPL"), (0, u "C"), (2, u "LATIN1"), (1, u "UTF16")] 323

def k9m0 : Method := { name := "<init>", desc := "()V", sig := { parameters := [], returnType := none }, accessFlags := 1, code := none }
def k9c1 : Code := { maxStack := 2, maxLocals := 3, code := jdk_42_method_66_code, exceptionTable := #[], attributes := #[] }
def k9m1 : Method := { name := "equals", desc := "(Ljava/lang/Object;)Z", sig := { parameters := [(.object "java/lang/Object")], returnType := some .boolean }, accessFlags := 1, code := some k9c1 }
def k9c2 : Code := { maxStack := 4, maxLocals := 1, code := jdk_42_method_139_code, exceptionTable := #[], attributes := #[] }
def k9m2 : Method := { name := "valueOf", desc := "(C)Ljava/lang/String;", sig := { parameters := [.char], returnType := some (.object "java/lang/String") }, accessFlags := 9, code := some k9c2 }
def k9c3 : Code := { maxStack := 2, maxLocals := 3, code := jdk_42_method_151_code, exceptionTable := #[], attributes := #[] }
def k9m3 : Method := { name := "<init>", desc := "([BB)V", sig := { parameters := [(.array .byte), .byte], returnType := none }, accessFlags := 0, code := some k9c3 }
/-- java/lang/String -/
def k9 : Class := { plain "java/lang/String" (some 0) with
  accessFlags := 49
  interfaces := #[4, 5, 6, 7, 8]
  cf := some (fileOf pool9 10 #[.nestMembers #[1103]] #[{ accessFlags := 1, nameIndex := 5, descriptorIndex := 6, attributes := #[] }, { accessFlags := 1, nameIndex := 543, descriptorIndex := 573, attributes := #[] }, { accessFlags := 9, nameIndex := 782, descriptorIndex := 783, attributes := #[] }, { accessFlags := 0, nameIndex := 5, descriptorIndex := 211, attributes := #[] }] 49 2 #[1106, 1108, 575, 1110, 1112] #[{ accessFlags := 18, nameIndex := 13, descriptorIndex := 14, attributes := #[] }, { accessFlags := 18, nameIndex := 17, descriptorIndex := 18, attributes := #[] }, { accessFlags := 2, nameIndex := 21, descriptorIndex := 22, attributes := #[] }, { accessFlags := 2, nameIndex := 25, descriptorIndex := 26, attributes := #[] }, { accessFlags := 26, nameIndex := 1116, descriptorIndex := 1117, attributes := #[] }, { accessFlags := 24, nameIndex := 40, descriptorIndex := 26, attributes := #[] }, { accessFlags := 26, nameIndex := 1101, descriptorIndex := 1102, attributes := #[] }, { accessFlags := 26, nameIndex := 1121, descriptorIndex := 1122, attributes := #[] }, { accessFlags := 25, nameIndex := 599, descriptorIndex := 600, attributes := #[] }, { accessFlags := 24, nameIndex := 1125, descriptorIndex := 18, attributes := #[] }, { accessFlags := 24, nameIndex := 1127, descriptorIndex := 18, attributes := #[] }])
  fields := #[{ name := "value", type := (.array .byte), accessFlags := 18, slot := 0, constantValue := 0 }, { name := "coder", type := .byte, accessFlags := 18, slot := 1, constantValue := 0 }, { name := "hash", type := .int, accessFlags := 2, slot := 2, constantValue := 0 }, { name := "hashIsZero", type := .boolean, accessFlags := 2, slot := 3, constantValue := 0 }, { name := "serialVersionUID", type := .long, accessFlags := 26, slot := 0, constantValue := 0 }, { name := "COMPACT_STRINGS", type := .boolean, accessFlags := 24, slot := 1, constantValue := 0 }, { name := "serialPersistentFields", type := (.array (.object "java/io/ObjectStreamField")), accessFlags := 26, slot := 2, constantValue := 0 }, { name := "REPL", type := .char, accessFlags := 26, slot := 3, constantValue := 0 }, { name := "CASE_INSENSITIVE_ORDER", type := (.object "java/util/Comparator"), accessFlags := 25, slot := 4, constantValue := 0 }, { name := "LATIN1", type := .byte, accessFlags := 24, slot := 5, constantValue := 0 }, { name := "UTF16", type := .byte, accessFlags := 24, slot := 6, constantValue := 0 }]
  methods := #[k9m0, k9m1, k9m2, k9m3]
  instanceTypes := #[(.array .byte), .byte, .int, .boolean]
  staticTypes := #[.long, .boolean, (.array (.object "java/io/ObjectStreamField")), .char, (.object "java/util/Comparator"), .byte, .byte]
  resolved := Array.replicate 1451 none
  statics := some 0 }

def pool10 : Array CpInfo := pool [(4, .class_ 6), (1, u "java/lang/Object"), (0, u "<init>"), (0, u "()V"), (5, .class_ 16), (1, u "java/lang/StringLatin1"), (73, u "canEncode"), (14, u "(C)Z"), (15, u "$assertionsDisabled"), (0, u "Z"), (98, .class_ 223), (1, u "java/lang/StringLatin1$LinesSpliterator"), (57, u "equals"), (0, u "([B[B)Z"), (97, u "toBytes"), (1, u "(C)[B"), (7, .class_ 391), (0, u "java/lang/StringLatin1$CharsSpliterator")] 3

def k10m0 : Method := { name := "<init>", desc := "()V", sig := { parameters := [], returnType := none }, accessFlags := 0, code := none }
def k10c1 : Code := { maxStack := 2, maxLocals := 1, code := jdk_43_method_3_code, exceptionTable := #[], attributes := #[] }
def k10m1 : Method := { name := "canEncode", desc := "(C)Z", sig := { parameters := [.char], returnType := some .boolean }, accessFlags := 9, code := some k10c1 }
def k10c2 : Code := { maxStack := 3, maxLocals := 3, code := jdk_43_method_13_code, exceptionTable := #[], attributes := #[] }
def k10m2 : Method := { name := "equals", desc := "([B[B)Z", sig := { parameters := [(.array .byte), (.array .byte)], returnType := some .boolean }, accessFlags := 9, code := some k10c2 }
def k10c3 : Code := { maxStack := 4, maxLocals := 1, code := jdk_43_method_46_code, exceptionTable := #[], attributes := #[] }
def k10m3 : Method := { name := "toBytes", desc := "(C)[B", sig := { parameters := [.char], returnType := some (.array .byte) }, accessFlags := 9, code := some k10c3 }
/-- java/lang/StringLatin1 -/
def k10 : Class := { plain "java/lang/StringLatin1" (some 0) with
  accessFlags := 48
  interfaces := #[]
  cf := some (fileOf pool10 14 #[.nestMembers #[390, 221]] #[{ accessFlags := 0, nameIndex := 7, descriptorIndex := 8, attributes := #[] }, { accessFlags := 9, nameIndex := 90, descriptorIndex := 105, attributes := #[] }, { accessFlags := 9, nameIndex := 281, descriptorIndex := 282, attributes := #[] }, { accessFlags := 9, nameIndex := 380, descriptorIndex := 382, attributes := #[] }] 48 4 #[] #[{ accessFlags := 4120, nameIndex := 121, descriptorIndex := 122, attributes := #[] }])
  fields := #[{ name := "$assertionsDisabled", type := .boolean, accessFlags := 4120, slot := 0, constantValue := 0 }]
  methods := #[k10m0, k10m1, k10m2, k10m3]
  instanceTypes := #[]
  staticTypes := #[.boolean]
  resolved := Array.replicate 395 none
  statics := none }

def pool11 : Array CpInfo := pool [(2, .class_ 4), (1, u "java/lang/Object"), (0, u "<init>"), (0, u "()V"), (35, .class_ 44), (1, u "java/util/Objects"), (0, u "requireNonNull"), (48, u "(Ljava/lang/Object;Ljava/lang/String;)Ljava/lang/Object;")] 89

def k11m0 : Method := { name := "<init>", desc := "()V", sig := { parameters := [], returnType := none }, accessFlags := 2, code := none }
def k11c1 : Code := { maxStack := 3, maxLocals := 2, code := jdk_31_method_11_code, exceptionTable := #[], attributes := #[] }
def k11m1 : Method := { name := "requireNonNull", desc := "(Ljava/lang/Object;Ljava/lang/String;)Ljava/lang/Object;", sig := { parameters := [(.object "java/lang/Object"), (.object "java/lang/String")], returnType := some (.object "java/lang/Object") }, accessFlags := 9, code := some k11c1 }
/-- java/util/Objects -/
def k11 : Class := { plain "java/util/Objects" (some 0) with
  accessFlags := 49
  interfaces := #[]
  cf := some (fileOf pool11 42 #[] #[{ accessFlags := 2, nameIndex := 5, descriptorIndex := 6, attributes := #[] }, { accessFlags := 9, nameIndex := 45, descriptorIndex := 94, attributes := #[] }] 49 2 #[] #[])
  fields := #[]
  methods := #[k11m0, k11m1]
  instanceTypes := #[]
  staticTypes := #[]
  resolved := Array.replicate 184 none
  statics := none }

def pool12 : Array CpInfo := pool [(2, .class_ 4), (1, u "java/lang/Object"), (0, u "<init>"), (0, u "()V"), (17, .class_ 26), (1, u "jdk/internal/util/Preconditions"), (28, .class_ 56), (0, u "jdk/internal/util/Preconditions$4"), (57, .class_ 115), (0, u "jdk/internal/util/Preconditions$1"), (7, u "SIOOBE_FORMATTER"), (0, u "Ljava/util/function/BiFunction;"), (0, .class_ 126), (0, u "jdk/internal/util/Preconditions$2"), (3, u "AIOOBE_FORMATTER"), (0, .class_ 132), (0, u "jdk/internal/util/Preconditions$3"), (3, u "IOOBE_FORMATTER")] 57

def k12m0 : Method := { name := "<init>", desc := "()V", sig := { parameters := [], returnType := none }, accessFlags := 1, code := none }
/-- jdk/internal/util/Preconditions -/
def k12 : Class := { plain "jdk/internal/util/Preconditions" (some 0) with
  accessFlags := 33
  interfaces := #[]
  cf := some (fileOf pool12 24 #[.nestMembers #[55, 131, 125, 114]] #[{ accessFlags := 1, nameIndex := 5, descriptorIndex := 6, attributes := #[] }] 33 2 #[] #[{ accessFlags := 25, nameIndex := 123, descriptorIndex := 124, attributes := #[] }, { accessFlags := 25, nameIndex := 130, descriptorIndex := 124, attributes := #[] }, { accessFlags := 25, nameIndex := 136, descriptorIndex := 124, attributes := #[] }])
  fields := #[{ name := "SIOOBE_FORMATTER", type := (.object "java/util/function/BiFunction"), accessFlags := 25, slot := 0, constantValue := 0 }, { name := "AIOOBE_FORMATTER", type := (.object "java/util/function/BiFunction"), accessFlags := 25, slot := 1, constantValue := 0 }, { name := "IOOBE_FORMATTER", type := (.object "java/util/function/BiFunction"), accessFlags := 25, slot := 2, constantValue := 0 }]
  methods := #[k12m0]
  instanceTypes := #[]
  staticTypes := #[(.object "java/util/function/BiFunction"), (.object "java/util/function/BiFunction"), (.object "java/util/function/BiFunction")]
  resolved := Array.replicate 194 none
  statics := some 1 }

def pool13 : Array CpInfo := pool [(9, u "<init>"), (6, .class_ 18), (1, u "java/lang/Object"), (0, u "()V"), (1, .class_ 23), (1, u "jdk/internal/util/ArraysSupport"), (0, u "LOG2_ARRAY_LONG_INDEX_SCALE"), (0, u "I"), (2, u "U"), (0, u "Ljdk/internal/misc/Unsafe;"), (8, u "BIG_ENDIAN"), (0, u "Z"), (8, u "LOG2_BYTE_BIT_SIZE"), (4, u "LOG2_ARRAY_INT_INDEX_SCALE"), (54, u "JLA"), (0, u "Ljdk/internal/access/JavaLangAccess;"), (11, u "LOG2_ARRAY_BOOLEAN_INDEX_SCALE"), (9, u "LOG2_ARRAY_BYTE_INDEX_SCALE"), (5, u "LOG2_ARRAY_CHAR_INDEX_SCALE"), (5, u "LOG2_ARRAY_SHORT_INDEX_SCALE"), (18, u "LOG2_ARRAY_FLOAT_INDEX_SCALE"), (24, u "LOG2_ARRAY_DOUBLE_INDEX_SCALE"), (89, u "T_BOOLEAN"), (2, u "T_CHAR"), (1, u "T_FLOAT"), (1, u "T_DOUBLE"), (1, u "T_BYTE"), (1, u "T_SHORT"), (1, u "T_INT"), (1, u "T_LONG"), (1, u "SOFT_MAX_ARRAY_LENGTH")] 83

def k13m0 : Method := { name := "<init>", desc := "()V", sig := { parameters := [], returnType := none }, accessFlags := 2, code := none }
/-- jdk/internal/util/ArraysSupport -/
def k13 : Class := { plain "jdk/internal/util/ArraysSupport" (some 0) with
  accessFlags := 33
  interfaces := #[]
  cf := some (fileOf pool13 21 #[] #[{ accessFlags := 2, nameIndex := 9, descriptorIndex := 19, attributes := #[] }] 33 16 #[] #[{ accessFlags := 24, nameIndex := 28, descriptorIndex := 29, attributes := #[] }, { accessFlags := 26, nameIndex := 38, descriptorIndex := 39, attributes := #[] }, { accessFlags := 25, nameIndex := 121, descriptorIndex := 25, attributes := #[] }, { accessFlags := 25, nameIndex := 131, descriptorIndex := 25, attributes := #[] }, { accessFlags := 25, nameIndex := 137, descriptorIndex := 25, attributes := #[] }, { accessFlags := 25, nameIndex := 143, descriptorIndex := 25, attributes := #[] }, { accessFlags := 25, nameIndex := 53, descriptorIndex := 25, attributes := #[] }, { accessFlags := 25, nameIndex := 24, descriptorIndex := 25, attributes := #[] }, { accessFlags := 25, nameIndex := 162, descriptorIndex := 25, attributes := #[] }, { accessFlags := 25, nameIndex := 187, descriptorIndex := 25, attributes := #[] }, { accessFlags := 26, nameIndex := 48, descriptorIndex := 25, attributes := #[] }, { accessFlags := 25, nameIndex := 277, descriptorIndex := 25, attributes := #[] }, { accessFlags := 25, nameIndex := 280, descriptorIndex := 25, attributes := #[] }, { accessFlags := 25, nameIndex := 282, descriptorIndex := 25, attributes := #[] }, { accessFlags := 25, nameIndex := 284, descriptorIndex := 25, attributes := #[] }, { accessFlags := 25, nameIndex := 286, descriptorIndex := 25, attributes := #[] }, { accessFlags := 25, nameIndex := 288, descriptorIndex := 25, attributes := #[] }, { accessFlags := 25, nameIndex := 290, descriptorIndex := 25, attributes := #[] }, { accessFlags := 25, nameIndex := 292, descriptorIndex := 25, attributes := #[] }, { accessFlags := 26, nameIndex := 108, descriptorIndex := 109, attributes := #[] }, { accessFlags := 25, nameIndex := 294, descriptorIndex := 25, attributes := #[] }])
  fields := #[{ name := "U", type := (.object "jdk/internal/misc/Unsafe"), accessFlags := 24, slot := 0, constantValue := 0 }, { name := "BIG_ENDIAN", type := .boolean, accessFlags := 26, slot := 1, constantValue := 0 }, { name := "LOG2_ARRAY_BOOLEAN_INDEX_SCALE", type := .int, accessFlags := 25, slot := 2, constantValue := 0 }, { name := "LOG2_ARRAY_BYTE_INDEX_SCALE", type := .int, accessFlags := 25, slot := 3, constantValue := 0 }, { name := "LOG2_ARRAY_CHAR_INDEX_SCALE", type := .int, accessFlags := 25, slot := 4, constantValue := 0 }, { name := "LOG2_ARRAY_SHORT_INDEX_SCALE", type := .int, accessFlags := 25, slot := 5, constantValue := 0 }, { name := "LOG2_ARRAY_INT_INDEX_SCALE", type := .int, accessFlags := 25, slot := 6, constantValue := 0 }, { name := "LOG2_ARRAY_LONG_INDEX_SCALE", type := .int, accessFlags := 25, slot := 7, constantValue := 0 }, { name := "LOG2_ARRAY_FLOAT_INDEX_SCALE", type := .int, accessFlags := 25, slot := 8, constantValue := 0 }, { name := "LOG2_ARRAY_DOUBLE_INDEX_SCALE", type := .int, accessFlags := 25, slot := 9, constantValue := 0 }, { name := "LOG2_BYTE_BIT_SIZE", type := .int, accessFlags := 26, slot := 10, constantValue := 0 }, { name := "T_BOOLEAN", type := .int, accessFlags := 25, slot := 11, constantValue := 0 }, { name := "T_CHAR", type := .int, accessFlags := 25, slot := 12, constantValue := 0 }, { name := "T_FLOAT", type := .int, accessFlags := 25, slot := 13, constantValue := 0 }, { name := "T_DOUBLE", type := .int, accessFlags := 25, slot := 14, constantValue := 0 }, { name := "T_BYTE", type := .int, accessFlags := 25, slot := 15, constantValue := 0 }, { name := "T_SHORT", type := .int, accessFlags := 25, slot := 16, constantValue := 0 }, { name := "T_INT", type := .int, accessFlags := 25, slot := 17, constantValue := 0 }, { name := "T_LONG", type := .int, accessFlags := 25, slot := 18, constantValue := 0 }, { name := "JLA", type := (.object "jdk/internal/access/JavaLangAccess"), accessFlags := 26, slot := 19, constantValue := 0 }, { name := "SOFT_MAX_ARRAY_LENGTH", type := .int, accessFlags := 25, slot := 20, constantValue := 0 }]
  methods := #[k13m0]
  instanceTypes := #[]
  staticTypes := #[(.object "jdk/internal/misc/Unsafe"), .boolean, .int, .int, .int, .int, .int, .int, .int, .int, .int, .int, .int, .int, .int, .int, .int, .int, .int, (.object "jdk/internal/access/JavaLangAccess"), .int]
  resolved := Array.replicate 378 none
  statics := none }

def pool14 : Array CpInfo := pool [(1, u "java/lang/Cloneable"), (0, .class_ 1), (0, u "java/lang/Object"), (0, .class_ 3)] 3

/-- java/lang/Cloneable -/
def k14 : Class := { plain "java/lang/Cloneable" (some 0) with
  accessFlags := 1537
  interfaces := #[]
  cf := some (fileOf pool14 2 #[] #[] 1537 4 #[] #[])
  fields := #[]
  methods := #[]
  instanceTypes := #[]
  staticTypes := #[]
  resolved := Array.replicate 8 none
  statics := none }

/-- the primitive byte -/
def k15 : Class := { plain "byte" none with kind := .primitive 'B', accessFlags := 0x411 }
/-- [B -/
def k16 : Class := { plain "[B" (some 0) with kind := .array 15 .byte, interfaces := #[14, 4], accessFlags := 1041 }

/-- the primitive int -/
def k17 : Class := { plain "int" none with kind := .primitive 'I', accessFlags := 0x411 }
/-- [I -/
def k18 : Class := { plain "[I" (some 0) with kind := .array 17 .int, interfaces := #[14, 4], accessFlags := 1041 }

def heap : Heap := #[{ cls := 9, slots := #[.long 0, .int 1, .null, .int 0, .null, .int 0, .int 0], vm := .statics 9 },
  { cls := 12, slots := #[.null, .null, .null], vm := .statics 12 }]
def classes : Array Class := #[k0, k1, k2, k3, k4, k5, k6, k7, k8, k9, k10, k11, k12, k13, k14, k15, k16, k17, k18]
def interned : List (Array UInt16 × Addr) := []
def slotsUsed : Nat := 10
def theMethod : MethodId := ⟨1, 3⟩
def args0 : Array Value := #[.long 5, .long 1, .long 3, .long 4, .int 4]
def aboutOver (below : List Frame) : State where
  vm := { classes := classes, interned := interned.toArray }
  heap := heap
  slotsUsed := slotsUsed
  threads := #[{ frames := .invoking theMethod args0 :: below }]
def below0 : List Frame := [.native { method := ⟨0, 0⟩, args := #[] }]
def about1 : State := aboutOver below0
def p0 : Program := .bare "" "" ""
def e0 : Env := launch0.env 0 0 0
theorem w_frames : about1.frames = Frame.invoking theMethod args0 :: below0 := rfl
set_option maxRecDepth 65536 in
theorem w_args : argsFit about1.vm theMethod args0 = true := by decide +kernel
set_option maxRecDepth 65536 in
theorem w_heap : heapFits about1 = true := by decide +kernel
set_option maxRecDepth 65536 in
theorem w_runnable : about1.curStatus? = some .runnable := by decide +kernel
set_option maxRecDepth 65536 in
theorem w_alone : about1.alone = true := by decide +kernel
set_option maxRecDepth 65536 in
theorem w_named : about1.methodNamed? x = some theMethod := by decide +kernel
set_option maxRecDepth 65536 in
theorem w_hears : about1.hears theMethod below0 = true := by decide +kernel
set_option maxRecDepth 65536 in
theorem w_ripe : about1.ripe theMethod args0 below0 = true := by decide +kernel
theorem w_running : about1.status = .running := rfl
set_option maxRecDepth 65536 in
theorem w_room : about1.hasRoom e0.platform room_1 = true :=
  launch0.hasRoom_least _ room_1 (by decide +kernel) (by decide +kernel) (by decide +kernel) (by decide +kernel) (by decide +kernel) (by decide +kernel)
theorem allAtoms_all (ts : List Jvm.Cond) (a : Array Jvm.Value) (st : Jvm.State) : (allAtoms ts).before a st = ts.all (fun c => c.before a st) := by
  induction ts with
  | nil => rfl
  | cons c t ih =>
    show (Jvm.Cond.and c (allAtoms t)).before a st = _
    rw [Jvm.Cond.before_and, ih, List.all_cons]
def words1 : List Jvm.Cond := Jvm.Cond.code x code maxLocals ret :: tables_1
/-- a 'code' word, met by the world's own term for the bytes: nothing is compared byte by byte -/
theorem code_word {y : MethodName} {bytes : ByteArray} {mx : Nat} {rt : Option FieldType} {a : Array Value} {s : State} {m : MethodId} {meth : Method} {c : Code} (h1 : s.methodNamed? y = some m) (h2 : s.vm.method? m = some meth) (h3 : meth.code = some c) (h4 : c.code = bytes)
    (h5 : (c.maxLocals == mx && c.exceptionTable.isEmpty && decide (c.maxStack ≤ mostOperands) && decide (meth.sig.returnType = rt) && !meth.locks && decide (parseMethodDescriptor y.desc = some meth.sig)) = true) : (Jvm.Cond.code y bytes mx rt).before a s = true := by
  simp only [Bool.and_eq_true, beq_iff_eq, Bool.not_eq_true', decide_eq_true_eq] at h5
  obtain ⟨⟨⟨⟨⟨g1, g2⟩, g3⟩, g4⟩, g5⟩, g6⟩ := h5
  simp [Cond.before, Cond.holds, Cond.value, h1, h2, h3, h4, g1, g2, g3, g4, g5, g6]
def isCode : Jvm.Cond → Bool
  | .code _ _ _ _ => true
  | _ => false
theorem all_split {L : List Jvm.Cond} {P : Jvm.Cond → Bool} (h1 : L.all (fun c => isCode c || P c) = true) (h2 : ∀ c ∈ L.filter isCode, P c = true) : L.all P = true := by
  refine List.all_eq_true.mpr fun c hc => ?_
  have h := List.all_eq_true.mp h1 c hc
  rcases Bool.eq_false_or_eq_true (isCode c) with hi | hi
  · exact h2 c (List.mem_filter.mpr ⟨hc, hi⟩)
  · simpa [hi] using h
set_option maxRecDepth 65536 in
theorem w_c0 : (Jvm.Cond.code x code maxLocals ret).before args0 about1 = true := code_word (m := ⟨1, 3⟩) (meth := k1m3) (c := k1c3) (by decide +kernel) rfl rfl rfl (by decide +kernel)
set_option maxRecDepth 65536 in
theorem w_c1 : (Jvm.Cond.code ({ cls := "com/example/refloom/refloom/model/ProblemEqualsPinLaw", name := "bit", desc := "(II)Z" } : Jvm.MethodName) method_3_code (2 : Nat) (Option.some Jvm.ClassFile.FieldType.boolean)).before args0 about1 = true := code_word (m := ⟨1, 2⟩) (meth := k1m2) (c := k1c2) (by decide +kernel) rfl rfl rfl (by decide +kernel)
set_option maxRecDepth 65536 in
theorem w_c2 : (Jvm.Cond.code ({ cls := "java/lang/Math", name := "max", desc := "(II)I" } : Jvm.MethodName) jdk_29_method_65_code (2 : Nat) (Option.some Jvm.ClassFile.FieldType.int)).before args0 about1 = true := code_word (m := ⟨2, 1⟩) (meth := k2m1) (c := k2c1) (by decide +kernel) rfl rfl rfl (by decide +kernel)
set_option maxRecDepth 65536 in
theorem w_c3 : (Jvm.Cond.code ({ cls := "com/example/refloom/refloom/model/ProblemEqualsPinLaw", name := "ch", desc := "(JI)C" } : Jvm.MethodName) method_2_code (3 : Nat) (Option.some Jvm.ClassFile.FieldType.char)).before args0 about1 = true := code_word (m := ⟨1, 1⟩) (meth := k1m1) (c := k1c1) (by decide +kernel) rfl rfl rfl (by decide +kernel)
set_option maxRecDepth 65536 in
theorem w_c4 : (Jvm.Cond.code ({ cls := "java/lang/String", name := "valueOf", desc := "(C)Ljava/lang/String;" } : Jvm.MethodName) jdk_42_method_139_code (1 : Nat) (Option.some (Jvm.ClassFile.FieldType.object "java/lang/String"))).before args0 about1 = true := code_word (m := ⟨9, 2⟩) (meth := k9m2) (c := k9c2) (by decide +kernel) rfl rfl rfl (by decide +kernel)
set_option maxRecDepth 65536 in
theorem w_c5 : (Jvm.Cond.code ({ cls := "java/lang/StringLatin1", name := "canEncode", desc := "(C)Z" } : Jvm.MethodName) jdk_43_method_3_code (1 : Nat) (Option.some Jvm.ClassFile.FieldType.boolean)).before args0 about1 = true := code_word (m := ⟨10, 1⟩) (meth := k10m1) (c := k10c1) (by decide +kernel) rfl rfl rfl (by decide +kernel)
set_option maxRecDepth 65536 in
theorem w_c6 : (Jvm.Cond.code ({ cls := "java/lang/StringLatin1", name := "toBytes", desc := "(C)[B" } : Jvm.MethodName) jdk_43_method_46_code (1 : Nat) (Option.some (Jvm.ClassFile.FieldType.array Jvm.ClassFile.FieldType.byte))).before args0 about1 = true := code_word (m := ⟨10, 3⟩) (meth := k10m3) (c := k10c3) (by decide +kernel) rfl rfl rfl (by decide +kernel)
set_option maxRecDepth 65536 in
theorem w_c7 : (Jvm.Cond.code ({ cls := "java/lang/String", name := "<init>", desc := "([BB)V" } : Jvm.MethodName) jdk_42_method_151_code (3 : Nat) (Option.none : Option Jvm.ClassFile.FieldType)).before args0 about1 = true := code_word (m := ⟨9, 3⟩) (meth := k9m3) (c := k9c3) (by decide +kernel) rfl rfl rfl (by decide +kernel)
set_option maxRecDepth 65536 in
theorem w_c8 : (Jvm.Cond.code ({ cls := "java/lang/Object", name := "<init>", desc := "()V" } : Jvm.MethodName) object_method_1_code (1 : Nat) (Option.none : Option Jvm.ClassFile.FieldType)).before args0 about1 = true := code_word (m := ⟨0, 0⟩) (meth := k0m0) (c := k0c0) (by decide +kernel) rfl rfl rfl (by decide +kernel)
set_option maxRecDepth 65536 in
theorem w_c9 : (Jvm.Cond.code ({ cls := "com/example/refloom/refloom/model/Problem", name := "<init>", desc := "(ILjava/lang/String;Ljava/lang/String;ILjava/lang/String;Ljava/lang/String;)V" } : Jvm.MethodName) prog_41_method_1_code (7 : Nat) (Option.none : Option Jvm.ClassFile.FieldType)).before args0 about1 = true := code_word (m := ⟨3, 0⟩) (meth := k3m0) (c := k3c0) (by decide +kernel) rfl rfl rfl (by decide +kernel)
set_option maxRecDepth 65536 in
theorem w_c10 : (Jvm.Cond.code ({ cls := "com/example/refloom/refloom/model/Problem", name := "<init>", desc := "(IILjava/lang/String;Ljava/lang/String;ILjava/lang/String;Ljava/lang/String;)V" } : Jvm.MethodName) prog_41_method_2_code (8 : Nat) (Option.none : Option Jvm.ClassFile.FieldType)).before args0 about1 = true := code_word (m := ⟨3, 1⟩) (meth := k3m1) (c := k3c1) (by decide +kernel) rfl rfl rfl (by decide +kernel)
set_option maxRecDepth 65536 in
theorem w_c11 : (Jvm.Cond.code ({ cls := "java/util/Objects", name := "requireNonNull", desc := "(Ljava/lang/Object;Ljava/lang/String;)Ljava/lang/Object;" } : Jvm.MethodName) jdk_31_method_11_code (2 : Nat) (Option.some (Jvm.ClassFile.FieldType.object "java/lang/Object"))).before args0 about1 = true := code_word (m := ⟨11, 1⟩) (meth := k11m1) (c := k11c1) (by decide +kernel) rfl rfl rfl (by decide +kernel)
set_option maxRecDepth 65536 in
theorem w_c12 : (Jvm.Cond.code ({ cls := "com/example/refloom/refloom/model/Problem", name := "equals", desc := "(Ljava/lang/Object;)Z" } : Jvm.MethodName) prog_41_method_12_code (3 : Nat) (Option.some Jvm.ClassFile.FieldType.boolean)).before args0 about1 = true := code_word (m := ⟨3, 3⟩) (meth := k3m3) (c := k3c3) (by decide +kernel) rfl rfl rfl (by decide +kernel)
set_option maxRecDepth 65536 in
theorem w_c13 : (Jvm.Cond.code ({ cls := "java/lang/String", name := "equals", desc := "(Ljava/lang/Object;)Z" } : Jvm.MethodName) jdk_42_method_66_code (3 : Nat) (Option.some Jvm.ClassFile.FieldType.boolean)).before args0 about1 = true := code_word (m := ⟨9, 1⟩) (meth := k9m1) (c := k9c1) (by decide +kernel) rfl rfl rfl (by decide +kernel)
set_option maxRecDepth 65536 in
theorem w_c14 : (Jvm.Cond.code ({ cls := "java/lang/StringLatin1", name := "equals", desc := "([B[B)Z" } : Jvm.MethodName) jdk_43_method_13_code (3 : Nat) (Option.some Jvm.ClassFile.FieldType.boolean)).before args0 about1 = true := code_word (m := ⟨10, 2⟩) (meth := k10m2) (c := k10c2) (by decide +kernel) rfl rfl rfl (by decide +kernel)
set_option maxRecDepth 65536 in
theorem w_c15 : (Jvm.Cond.code ({ cls := "com/example/refloom/refloom/model/Problem", name := "ofChild", desc := "(II)Lcom/example/refloom/refloom/model/Problem;" } : Jvm.MethodName) prog_41_method_3_code (3 : Nat) (Option.some (Jvm.ClassFile.FieldType.object "com/example/refloom/refloom/model/Problem"))).before args0 about1 = true := code_word (m := ⟨3, 2⟩) (meth := k3m2) (c := k3c2) (by decide +kernel) rfl rfl rfl (by decide +kernel)
def codes1 : List Jvm.Cond := [Jvm.Cond.code x code maxLocals ret, Jvm.Cond.code ({ cls := "com/example/refloom/refloom/model/ProblemEqualsPinLaw", name := "bit", desc := "(II)Z" } : Jvm.MethodName) method_3_code (2 : Nat) (Option.some Jvm.ClassFile.FieldType.boolean), Jvm.Cond.code ({ cls := "java/lang/Math", name := "max", desc := "(II)I" } : Jvm.MethodName) jdk_29_method_65_code (2 : Nat) (Option.some Jvm.ClassFile.FieldType.int), Jvm.Cond.code ({ cls := "com/example/refloom/refloom/model/ProblemEqualsPinLaw", name := "ch", desc := "(JI)C" } : Jvm.MethodName) method_2_code (3 : Nat) (Option.some Jvm.ClassFile.FieldType.char), Jvm.Cond.code ({ cls := "java/lang/String", name := "valueOf", desc := "(C)Ljava/lang/String;" } : Jvm.MethodName) jdk_42_method_139_code (1 : Nat) (Option.some (Jvm.ClassFile.FieldType.object "java/lang/String")), Jvm.Cond.code ({ cls := "java/lang/StringLatin1", name := "canEncode", desc := "(C)Z" } : Jvm.MethodName) jdk_43_method_3_code (1 : Nat) (Option.some Jvm.ClassFile.FieldType.boolean), Jvm.Cond.code ({ cls := "java/lang/StringLatin1", name := "toBytes", desc := "(C)[B" } : Jvm.MethodName) jdk_43_method_46_code (1 : Nat) (Option.some (Jvm.ClassFile.FieldType.array Jvm.ClassFile.FieldType.byte)), Jvm.Cond.code ({ cls := "java/lang/String", name := "<init>", desc := "([BB)V" } : Jvm.MethodName) jdk_42_method_151_code (3 : Nat) (Option.none : Option Jvm.ClassFile.FieldType), Jvm.Cond.code ({ cls := "java/lang/Object", name := "<init>", desc := "()V" } : Jvm.MethodName) object_method_1_code (1 : Nat) (Option.none : Option Jvm.ClassFile.FieldType), Jvm.Cond.code ({ cls := "com/example/refloom/refloom/model/Problem", name := "<init>", desc := "(ILjava/lang/String;Ljava/lang/String;ILjava/lang/String;Ljava/lang/String;)V" } : Jvm.MethodName) prog_41_method_1_code (7 : Nat) (Option.none : Option Jvm.ClassFile.FieldType), Jvm.Cond.code ({ cls := "com/example/refloom/refloom/model/Problem", name := "<init>", desc := "(IILjava/lang/String;Ljava/lang/String;ILjava/lang/String;Ljava/lang/String;)V" } : Jvm.MethodName) prog_41_method_2_code (8 : Nat) (Option.none : Option Jvm.ClassFile.FieldType), Jvm.Cond.code ({ cls := "java/util/Objects", name := "requireNonNull", desc := "(Ljava/lang/Object;Ljava/lang/String;)Ljava/lang/Object;" } : Jvm.MethodName) jdk_31_method_11_code (2 : Nat) (Option.some (Jvm.ClassFile.FieldType.object "java/lang/Object")), Jvm.Cond.code ({ cls := "com/example/refloom/refloom/model/Problem", name := "equals", desc := "(Ljava/lang/Object;)Z" } : Jvm.MethodName) prog_41_method_12_code (3 : Nat) (Option.some Jvm.ClassFile.FieldType.boolean), Jvm.Cond.code ({ cls := "java/lang/String", name := "equals", desc := "(Ljava/lang/Object;)Z" } : Jvm.MethodName) jdk_42_method_66_code (3 : Nat) (Option.some Jvm.ClassFile.FieldType.boolean), Jvm.Cond.code ({ cls := "java/lang/StringLatin1", name := "equals", desc := "([B[B)Z" } : Jvm.MethodName) jdk_43_method_13_code (3 : Nat) (Option.some Jvm.ClassFile.FieldType.boolean), Jvm.Cond.code ({ cls := "com/example/refloom/refloom/model/Problem", name := "ofChild", desc := "(II)Lcom/example/refloom/refloom/model/Problem;" } : Jvm.MethodName) prog_41_method_3_code (3 : Nat) (Option.some (Jvm.ClassFile.FieldType.object "com/example/refloom/refloom/model/Problem"))]
set_option maxRecDepth 65536 in
theorem codes_eq : words1.filter isCode = codes1 := rfl
theorem w_codes : ∀ c ∈ words1.filter isCode, c.before args0 about1 = true := by
  rw [codes_eq]
  intro c hc
  simp only [codes1, List.mem_cons, List.not_mem_nil, or_false] at hc
  rcases hc with rfl | rfl | rfl | rfl | rfl | rfl | rfl | rfl | rfl | rfl | rfl | rfl | rfl | rfl | rfl | rfl
  · exact w_c0
  · exact w_c1
  · exact w_c2
  · exact w_c3
  · exact w_c4
  · exact w_c5
  · exact w_c6
  · exact w_c7
  · exact w_c8
  · exact w_c9
  · exact w_c10
  · exact w_c11
  · exact w_c12
  · exact w_c13
  · exact w_c14
  · exact w_c15
set_option maxRecDepth 65536 in
theorem w_t1 : (words1.take 24).all (fun c => isCode c || c.before args0 about1) = true := by decide +kernel
set_option maxRecDepth 65536 in
theorem w_t2 : ((words1.drop 24).take 24).all (fun c => isCode c || c.before args0 about1) = true := by decide +kernel
set_option maxRecDepth 65536 in
theorem w_t3 : (((words1.drop 24).drop 24).take 24).all (fun c => isCode c || c.before args0 about1) = true := by decide +kernel
set_option maxRecDepth 65536 in
theorem w_t4 : ((((words1.drop 24).drop 24).drop 24).take 24).all (fun c => isCode c || c.before args0 about1) = true := by decide +kernel
set_option maxRecDepth 65536 in
theorem w_t5 : ((((words1.drop 24).drop 24).drop 24).drop 24).all (fun c => isCode c || c.before args0 about1) = true := by decide +kernel
theorem w_tables : (allAtoms (Jvm.Cond.code x code maxLocals ret :: tables_1)).before args0 about1 = true := by
  rw [allAtoms_all]
  show words1.all (fun c => c.before args0 about1) = true
  refine all_split ?_ w_codes
  rw [← List.take_append_drop 24 words1, List.all_append, w_t1, ← List.take_append_drop 24 (words1.drop 24), List.all_append, w_t2, ← List.take_append_drop 24 ((words1.drop 24).drop 24), List.all_append, w_t3, ← List.take_append_drop 24 (((words1.drop 24).drop 24).drop 24), List.all_append, w_t4, w_t5]
  rfl
set_option maxRecDepth 65536 in
theorem w_rest : rest_1_c.before args0 about1 = true := by decide +kernel
set_option maxRecDepth 65536 in
theorem w_case : (Jvm.Cond.and given_1 narrow_1).before args0 about1 = true := by decide +kernel
theorem w_applies : (headSpec (Jvm.Cond.code x code maxLocals ret :: tables_1) room_1).applies x e0.platform about1 = true :=
  (Spec.applies_iff w_frames).mpr ⟨w_running, w_runnable, w_alone, w_named, w_hears, w_ripe, w_room, w_tables⟩
theorem atStart : AtStart classFile x code maxLocals ret World_1 tables_1 room_1 Calls_1 rest_1 Pre_1 launch0 p0 e0 about1 theMethod args0 below0 :=
  ⟨lists_1, trivial, launch0.admits_env _ _ _, launch0.least_env, fairChoices_fair.cas, fairChoices_fair.clock, w_frames, w_args, w_heap, w_applies, trivial, w_rest, w_case⟩
end start1
theorem witness_1 : WitnessClaimed_1 := ⟨start1.p0, start1.e0, start1.about1, start1.theMethod, start1.args0, start1.below0, start1.atStart⟩
end Jvm.Pilot.@@N@@
